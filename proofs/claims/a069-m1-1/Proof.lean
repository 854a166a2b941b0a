import JvmDerived
import JvmDerived.Pilot.@@N@@Statement
import JvmDerived.Pilot.@@N@@Code
set_option linter.unusedVariables false
set_option linter.unusedSimpArgs false
namespace Jvm.RoadKit
open Sem ClassFile Op Lib Jvm.Stand Jvm.Free Jvm.LawKit
section New
variable {p : Program} {l : Launch} {e : Env} {R : Room} {s : State} {m : MethodId} {args : Array Value} {below : List Frame} {meth : Method} {c : Code} {T : State} {locs : List Loc} {cells slots : Nat}
theorem retI (X : Stand p l e R s m args below meth c T locs cells slots) (hx : p.tables.exec = Jvm.exec) {pc : Nat} {Ls : Array Slot} {z : Int32} {rest : List Value} (hret : meth.sig.returnType = some .int) (hd : decode c.code pc = .ok (.ireturn, 1)) {fs : List Frame}
    (hl : ∀ (f : JFrame) (acts : List Action), f.method = m → f.locked = none → f.entered = [] → (doReturn e (T.setTop f) acts (some (.int z))).1 = T.setFrames fs) : Steps p.tables e below (T.setTop (mkF m pc Ls (.int z :: rest))) (T.setFrames fs) := by
  have hm' : T.vm.method? m = some meth := X.method'
  have hn : narrow .int (.int z) = .int z := rfl
  show Steps p.tables e below (T.setTop { method := m, pc := pc, locals := Ls, stack := _ :: rest, locked := none }) _
  jvm_step X.here [X.here.top, hx, hd, hm', hret, hn]
  first | (intro acts; rw [hl _ acts rfl rfl rfl]) | rw [hl _ _ rfl rfl rfl]
  exact Steps.refl _
theorem retD (X : Stand p l e R s m args below meth c T locs cells slots) (hx : p.tables.exec = Jvm.exec) {pc : Nat} {Ls : Array Slot} {z : UInt64} {rest : List Value} (hret : meth.sig.returnType = some .double) (hd : decode c.code pc = .ok (.dreturn, 1)) {fs : List Frame}
    (hl : ∀ (f : JFrame) (acts : List Action), f.method = m → f.locked = none → f.entered = [] → (doReturn e (T.setTop f) acts (some (.double z))).1 = T.setFrames fs) : Steps p.tables e below (T.setTop (mkF m pc Ls (.double z :: rest))) (T.setFrames fs) := by
  have hm' : T.vm.method? m = some meth := X.method'
  have hn : narrow .double (.double z) = .double z := rfl
  show Steps p.tables e below (T.setTop { method := m, pc := pc, locals := Ls, stack := _ :: rest, locked := none }) _
  jvm_step X.here [X.here.top, hx, hd, hm', hret, hn]
  first | (intro acts; rw [hl _ acts rfl rfl rfl]) | rw [hl _ _ rfl rfl rfl]
  exact Steps.refl _
end New
end Jvm.RoadKit
namespace Jvm.RoadKit
open Sem ClassFile Op Lib Jvm.Stand Jvm.Free Jvm.LawKit
theorem own_lsw {tb : Tables} [Ours tb] {e : Env} {below : List Frame} {T target : State} {m : MethodId} {c : Code} {g : JFrame} (h : At T m c below) (hx : tb.exec = Jvm.exec) (hg : g.method = m) {dflt : Int} {pairs : Array (Int × Int)} {len : Nat} {pc0 pc' : Nat} (hpc : g.pc = pc0) (hd : decode c.code g.pc = .ok (.lookupswitch dflt pairs, len)) {i : Int32} {rest : List Value} (hs : g.stack = .int i :: rest) {o : Int}
    (hoff : lookupswitch.offset pairs.toList dflt i.toInt = o) (hso : (pairs.toList.zip (pairs.toList.drop 1)).all (fun (a, next) => a.1 < next.1) = true) (ho : 0 ≤ (pc0 : Int) + o) (hp : ((pc0 : Int) + o).toNat = pc')
    (hr : Steps tb e below (T.setTop { g with pc := pc', stack := rest }) target) : Steps tb e below (T.setTop g) target := by
  subst hg hpc hp
  jvm_step h [h.top, hx, hd, hs, hoff, ho, lookupswitch.wp_chain]
  exact ⟨by simpa using hso, hr⟩
theorem own_off_no {k d : Int} : ∀ {L : List (Int × Int)}, (∀ q ∈ L, ¬ q.1 = k) → lookupswitch.offset L d k = d
  | [], _ => rfl
  | (a, o) :: r, h => by rw [lookupswitch.offset_cons, if_neg (h (a, o) (List.mem_cons_self ..))]; exact own_off_no fun q hq => h q (List.mem_cons_of_mem _ hq)
theorem own_ne_lit {x k : Int32} (h : ¬ x = k) {z : Int} (hz : k.toInt = z) : ¬ z = x.toInt := fun q => h (Int32.toInt_inj.mp (by rw [← q, hz]))
def own_rem (x y : Int32) : Int32 := x - (x / y) * y
def bi (P : Prop) [Decidable P] : Int32 := if P then 1 else 0
theorem bi_t {P : Prop} [Decidable P] (h : P) : bi P = 1 := if_pos h
theorem bi_f {P : Prop} [Decidable P] (h : ¬ P) : bi P = 0 := if_neg h
theorem bi_nar {P : Prop} [Decidable P] : nar .boolean (bi P) = bi P := by unfold bi; split <;> rfl
theorem bi_0 {P : Prop} [Decidable P] : (bi P = 0) ↔ ¬ P := by unfold bi; split <;> simp_all
theorem bi_inj {P Q : Prop} [Decidable P] [Decidable Q] (h : P ↔ Q) : bi P = bi Q := by unfold bi; simp only [h]
end Jvm.RoadKit
namespace Jvm.RoadKit
open Sem ClassFile Op Lib Jvm.Stand Jvm.Free Jvm.LawKit
section OwnWords
variable {args : Array Value} {s : State} {idx : List Nat} {t i : Term} {aT : Addr} {cl : Cell} {b k A B z : Int32}
theorem own_or {G Y : Cond} (h : (Cond.or G Y).value args s none s idx = some true) (hg : G.value args s none s idx = some false) : Y.value args s none s idx = some true := by
  simpa only [Cond.value, hg] using h
theorem own_el (h : (Cond.eq (.elem t i) (.int b)).value args s none s idx = some true) (ht : t.eval args s none idx s = some (.ref aT)) (hi : i.eval args s none idx s = some (.int k)) (hc : s.heap[aT]? = some cl) : atv cl k = b := by
  obtain ⟨x, y, e1, e2, -, -⟩ := cmp_v (Or.inl h)
  obtain ⟨-, e3⟩ := elem_in e1 ht hi hc
  have e4 : (Term.int b).eval args s none idx s = some (.int b) := rfl
  cases e4.symm.trans e2
  have e5 : x = .int b := by cases x <;> simp [Cond.value, e1, e4] at h; rw [h]
  subst e5
  exact atv_of e3
theorem own_r1 (h : (Cond.all t (.or (.le (.int A) (.index 0)) (.eq (.elem t (.index 0)) (.int b)))).value args s none s [] = some true) (ht : ∀ idx, t.eval args s none idx s = some (.ref aT)) (hc : s.heap[aT]? = some cl) (ha : s.arrayAt? aT = some cl) {n : Nat} (hn : n < cl.slots.size) (h1 : ¬ A ≤ n.toInt32) : atv cl n.toInt32 = b := by
  have q := Cond.all_elim (ht []) ha h n hn
  exact own_el (own_or q (by simp [Cond.value, Term.eval, h1])) (ht _) (by simp [Term.eval]) hc
theorem own_r2 (h : (Cond.all t (.or (.lt (.index 0) (.int A)) (.or (.le (.int B) (.index 0)) (.eq (.elem t (.index 0)) (.int b))))).value args s none s [] = some true) (ht : ∀ idx, t.eval args s none idx s = some (.ref aT)) (hc : s.heap[aT]? = some cl) (ha : s.arrayAt? aT = some cl) {n : Nat} (hn : n < cl.slots.size) (h1 : ¬ n.toInt32 < A) (h2 : ¬ B ≤ n.toInt32) : atv cl n.toInt32 = b := by
  have q := Cond.all_elim (ht []) ha h n hn
  exact own_el (own_or (own_or q (by simp [Cond.value, Term.eval, h1])) (by simp [Cond.value, Term.eval, h2])) (ht _) (by simp [Term.eval]) hc
theorem own_len (h : (Cond.eq (.length t) (.int z)).value args s none s idx = some true) (ht : t.eval args s none idx s = some (.ref aT)) (ha : s.arrayAt? aT = some cl) : cl.slots.size < 2 ^ 31 ∧ cl.slots.size.toInt32 = z := by
  by_cases q : cl.slots.size < 2 ^ 31
  · simp [Cond.value, Term.eval, ht, ha, q] at h; exact ⟨q, h⟩
  · simp [Cond.value, Term.eval, ht, ha, q] at h
theorem own_sta_idx {C n d : String} {v : Value} (h : (Term.static C n d).eval args s none [] s = some v) (idx : List Nat) : (Term.static C n d).eval args s none idx s = some v := by
  simp only [Term.eval] at h ⊢; exact h
end OwnWords
theorem own_toInt_ofNat {n : Nat} (h : n < 2147483648) : (Int32.ofNat n).toInt = n := Int32.toInt_ofNat_small h
theorem own_of_rng {c : Int32} (h0 : ¬ c < 0) : c = Int32.ofNat c.toInt.toNat := by
  have h0' : 0 ≤ c.toInt := by rw [Int32.lt_iff_toInt_lt] at h0; have : (0 : Int32).toInt = 0 := rfl; omega
  have := c.toInt_lt
  apply Int32.toInt_inj.mp
  rw [own_toInt_ofNat (by omega)]; omega
end Jvm.RoadKit
namespace Jvm.RoadKit
open Sem ClassFile Op Lib Jvm.Stand Jvm.Free Jvm.LawKit
theorem own_ord {args : Array Value} {s : State} {t : Term} {a : Addr} {k : Int32} {C n d : String} (h : (Cond.eq (.field t C n d) (.int k)).value args s none s [] = some true) (ht : t.eval args s none [] s = some (.ref a)) : s.fieldOf? a C n d = some (.int k) := by
  obtain ⟨x, y, e1, e2, -, -⟩ := cmp_v (Or.inl h)
  have e4 : (Term.int k).eval args s none [] s = some (.int k) := rfl
  have e5 : x = .int k := by cases x <;> simp [Cond.value, e1, e4] at h; rw [h]
  rw [fld_at ht] at e1
  rw [e1, e5]
theorem own_ord_ne {o : Addr → Option Value} {a b : Addr} {j k : Int32} (h1 : o a = some (.int j)) (h2 : o b = some (.int k)) (hjk : ¬ j = k) : ¬ a = b := fun e => by
  subst e; exact hjk (Value.int.inj (Option.some.inj (h1.symm.trans h2)))
theorem own_and7 (x : Int32) : (x &&& 7).toInt = 0 ∨ (x &&& 7).toInt = 1 ∨ (x &&& 7).toInt = 2 ∨ (x &&& 7).toInt = 3 ∨ (x &&& 7).toInt = 4 ∨ (x &&& 7).toInt = 5 ∨ (x &&& 7).toInt = 6 ∨ (x &&& 7).toInt = 7 := by
  have h := c_mask x 7 3 (by decide) (by decide)
  have : ((2 ^ 3 : Nat) : Int) = 8 := rfl
  omega
theorem own_i32 {x k : Int32} {z : Int} (h : x.toInt = z) (hk : k.toInt = z) : x = k := Int32.toInt_inj.mp (h.trans hk.symm)
end Jvm.RoadKit
namespace Jvm.Pilot.@@N@@
open Jvm Jvm.ClassFile Sem Op Lib Jvm.Free Jvm.Stand Jvm.LawKit Jvm.RoadKit Bundle Jvm.Pilot.@@N@@.Jvm.D
section OwnRefs
variable {p : Program} {l : Launch} {e : Env} {R : Room} {s : State} {m : MethodId} {args : Array Value} {below : List Frame} {meth : Method} {c : Code} {T : State} {locs : List Loc} {cells slots : Nat} {Z : State} {a0 : Array Value} {h : Heap}
theorem own_getR (X : Stand p l e R s m args below meth c T locs cells slots) (hx : p.tables.exec = Jvm.exec) (hZ : Z.Warmed39 s.vm) {own O n d : String} {index : Nat} (hown : s.vm.findClass own = some m.cls) (w : (Cond.fieldRef own index O n d).before a0 Z = true)
    (eT : T.heap = h) {a : Addr} {v : Value} (F : Fld Z h a O n d v) {g : JFrame} (hg : g.method = m) {rest : List Value} (hs : g.stack = .ref a :: rest) (hd : decode c.code g.pc = .ok (.getfield index, 3)) : ∃ T', Stand p l e R s m args below meth c T' locs cells slots ∧ T'.heap = h ∧ ∀ target, Steps p.tables e below (T'.setTop { g with pc := g.pc + 3, stack := v :: rest }) target → Steps p.tables e below (T.setTop g) target := by
  refine ⟨T, X, eT, fun target hrest => ?_⟩
  obtain ⟨cell, cf, k, i, f, h1, h2, h3, h4, -, -, h7⟩ := F
  have hW : Z.Warmed39 T.vm := wtrans (U := T) hZ X.warmed
  have w' : (Cond.fieldRef own index O n d).before a0 (Z.setVm T.vm) = true := Cond.fieldRef_warmed39 hW w
  have hown' : (Z.setVm T.vm).vm.findClass own = some m.cls := by
    show T.vm.findClass own = _
    rw [X.warmed.alike.findClass]; exact hown
  obtain ⟨c', k', i', f', q1, q2⟩ := Cond.fieldRef_spec hown' w'
  obtain ⟨k'', q3, -⟩ := State.fieldFound?_setVm (s := Z) hW.alike h2
  have q4 := Option.some.inj (q3.symm.trans q1)
  simp only [Prod.mk.injEq] at q4
  obtain ⟨r1, -, -, r4⟩ := q4
  have q5 : T.vm.fieldReady m.cls index cf f := by rw [r1, r4]; exact q2
  have hc : T.heap[a]? = some cell := by rw [eT]; exact h1
  subst hg
  jvm_step X.here [hx, hd, getfield.wp_ready (e := e) (s := T) (index := index) (c := cf) (a := a) (field := f) (rest := rest) (cell := cell) (v := v) (f := g) X.here.top q5 h3 hs hc h4 h7]
  exact hrest
theorem own_specialR (X : Stand p l e R s m args below meth c T locs cells slots) (hexec : p.tables.exec = Jvm.exec) (hZ : Z.Warmed39 s.vm) {own : String} {index : Nat} {y : MethodName} (hy1 : y.name = "<init>")
    (hown : s.vm.findClass own = some m.cls) (hlink : (Cond.methodRef own index y).before a0 Z = true) (hinst : (Cond.instanceMethod y).before args s = true)
    {bytes : ByteArray} {maxL : Nat} (hcode : (Cond.code y bytes maxL none).before args s = true)
    (hy : y.cls ≠ "java/lang/invoke/MethodHandle" ∧ y.cls ≠ "java/lang/invoke/VarHandle")
    {W : Nat} {Pre : Pt → Array Value → Prop} {Post : Pt → Array Value → Option Value → Pt → Prop} (hK : Back l R p e below s args y 3 W Pre Post)
    {g : JFrame} (hg : g.method = m) (hsize : g.locals.size = c.maxLocals) {s₀ : State} (hcome : Steps p.tables e below s₀ (T.setTop g)) {a : Addr} {argsL rest : List Value}
    (hlen : ∀ sig, parseMethodDescriptor y.desc = some sig → argsL.length = sig.parameters.length) (hstack : g.stack = argsL.reverse ++ .ref a :: rest) (hW : 2 * g.monitorRoom + (rest.map fun v => v.category).sum ≤ W)
    (hdg : decode c.code g.pc = .ok (.invokespecial index, 3)) (hpre : ∀ vm₁, s.WarmedH vm₁ → Pre ⟨T.setVm vm₁, locs, cells, slots⟩ (.ref a :: argsL).toArray) :
    ∃ (v : Option Value) (vm₁ : Vm) (B : Pt), s.WarmedH vm₁ ∧ Stand p l e R s m args below meth c B.U B.locs B.cells B.slots ∧ Post ⟨T.setVm vm₁, locs, cells, slots⟩ (.ref a :: argsL).toArray v B ∧
      Steps p.tables e below s₀ (B.U.setTop { g with pc := g.pc + 3, stack := v.toList ++ rest }) := by
  obtain ⟨mk, methM, hnamed, hmethM, hstM, habM⟩ := Cond.instanceMethod_spec hinst
  obtain ⟨methM', cM, hmethM', -, -, -, -, -, -, hsigM⟩ := Cond.code_spec hnamed hcode
  cases hmethM.symm.trans hmethM'
  obtain ⟨kO, hkO, hnameO⟩ := className_of_methodNamed hnamed
  obtain ⟨hnameM, hdescM⟩ := name_of_methodNamed hnamed hmethM
  have hZT : Z.Warmed39 T.vm := wtrans (U := T) hZ X.warmed
  have hnZ : Z.methodNamed? y = some mk := by
    have q : (Z.setVm s.vm).methodNamed? y = some mk := hnamed
    rw [State.methodNamed?_setVm hZ.alike] at q; exact q
  have hnT : (Z.setVm T.vm).methodNamed? y = some mk := by rw [State.methodNamed?_setVm hZT.alike]; exact hnZ
  have w' : (Cond.methodRef own index y).before a0 (Z.setVm T.vm) = true := Cond.methodRef_warmed39 hZT hnZ hy hlink
  have hown' : (Z.setVm T.vm).vm.findClass own = some m.cls := by
    show T.vm.findClass own = _
    rw [X.warmed.alike.findClass]; exact hown
  obtain ⟨m', c', hf, hready, hfind, hnr⟩ := Cond.methodRef_named e hown' w'
  have r1 : mk = m' := Option.some.inj ((State.methodFound?_of_named hnT hy).symm.trans hf)
  have r2 : mk.cls = c' := Option.some.inj ((findClass_of_methodNamed hnT).symm.trans hfind)
  have hready' : T.vm.methodReady m.cls index mk := by rw [r1]; exact hready
  have hnr' : namesResolved T.vm m.cls index mk.cls := by rw [r2]; exact hnr
  have hal := X.warmed.alike
  obtain ⟨kT, hkT, heT⟩ := hal.2.2 _ _ hkO
  have hmT : T.vm.method? mk = some methM := by rw [hal.method?]; exact hmethM
  have hfound : lookupSpecial T.vm mk.cls "<init>" methM.desc = .method mk := by
    rw [hal.lookupSpecial, hdescM, ← hy1]; exact lookupSpecial_of_named hnamed hmethM hstM
  have hnmi : methM.name = "<init>" := by rw [hnameM]; exact hy1
  have step : ∀ target, (∀ acts, Steps p.tables e below (doInvoke e (T.setTop { g with stack := rest }) acts mk (.ref a :: argsL).toArray).1 target) → Steps p.tables e below (T.setTop g) target := by
    intro target hrest
    subst hg
    jvm_step X.here [hexec, hdg, invokespecial.wp_init (e := e) (s := T) (k := kT) (meth := methM) (m := mk) (a := a) (args := argsL) (rest := rest) (f := g) X.here.top hnr' hready' hkT hmT hnmi hstM habM hfound (hlen _ hsigM) hstack]
    exact hrest
  have X₁ : Stand p l e R s m args below meth c (T.setVm T.vm) locs cells slots := X
  obtain ⟨v, B, X', hpost, hsteps⟩ := hK m meth c ⟨T.setVm T.vm, locs, cells, slots⟩ { g with stack := rest } (.invokespecial index) mk (.ref a :: argsL).toArray X₁ hg hsize hdg hW (X₁.named hnamed) (hpre T.vm X.warmed)
  exact ⟨v, T.vm, B, X.warmed, X', hpost, (hcome.trans (step _ fun acts => by rw [doInvoke_state]; exact Steps.refl _)).trans hsteps⟩
theorem own_sel {y : MethodName} {n : Nat} (hZ : Z.Warmed39 s.vm) (wi : (Cond.instantiable y.cls n).before a0 Z = true) (wp : (Cond.privateMethod y).before a0 Z = true) (wm : (Cond.instanceMethod y).before a0 Z = true) (hy : y.cls ≠ "java/lang/invoke/MethodHandle" ∧ y.cls ≠ "java/lang/invoke/VarHandle") : (Cond.selects y.cls y y).before args s = true := by
  have wi' : (Cond.instantiable y.cls n).before args s = true := mvT hZ wi
  have wp' : (Cond.privateMethod y).before args s = true := mvP hZ wp
  have wm' : (Cond.instanceMethod y).before args s = true := mvT hZ wm
  obtain ⟨c1, k1, h1, h2, -, h4, -⟩ := Cond.instantiable_spec wi'
  exact selects_self_of_private h1 h2 (Bool.or_eq_false_iff.mp h4).1 (Cond.privateMethod_at wp') wm' hy
end OwnRefs
def own_hm (k m : Int32) : Int32 := (((k * (-1640531527 : Int32)) ^^^ (((k * (-1640531527 : Int32)).toUInt32 >>> ((16 : Int32) &&& 31).toUInt32).toInt32)) &&& m)
def own_g (ks : List Int32) (x : Int32) : Int32 := ks.getD x.toNatClampNeg 0
def own_ln (ks : List Int32) : Int32 := Int32.ofNat ks.length
def own_mk (ks : List Int32) : Int32 := own_ln ks - (1 : Int32)
def own_nx (ks : List Int32) (x : Int32) : Int32 := (x + (1 : Int32)) &&& own_mk ks
def own_pf (ks : List Int32) (k : Int32) : Nat → Int32 → Int32
  | 0, x => x
  | n + 1, x => if own_g ks x < 0 ∨ own_g ks x = k then x else own_pf ks k n (own_nx ks x)
def own_sl (ks : List Int32) (k : Int32) : Int32 := own_pf ks k 3 (own_hm k (own_mk ks))
def own_sz (ks : List Int32) : Int32 := Int32.ofNat (ks.filter (fun x => decide (¬ x < 0))).length
def own_T : List (List Int32) := [[-1, -1, -1, -1], [-1, -1, 1, -1], [-1, 3, -1, -1], [-1, 3, 1, -1], [0, -1, -1, -1], [0, -1, 1, -1], [0, 2, -1, -1], [0, 3, -1, -1], [2, -1, -1, -1], [2, -1, 1, -1], [2, 0, -1, -1], [2, 3, -1, -1], [-1, -1, -1, -1, -1, -1, -1, -1], [-1, -1, -1, -1, -1, -1, 1, -1], [-1, -1, -1, -1, -1, 3, -1, -1], [-1, -1, -1, -1, -1, 3, 1, -1], [-1, -1, -1, -1, 2, -1, -1, -1], [-1, -1, -1, -1, 2, -1, 1, -1], [-1, -1, -1, -1, 2, 3, -1, -1], [-1, -1, -1, -1, 2, 3, 1, -1], [0, -1, -1, -1, -1, -1, -1, -1], [0, -1, -1, -1, -1, -1, 1, -1], [0, -1, -1, -1, -1, 3, -1, -1], [0, -1, -1, -1, -1, 3, 1, -1], [0, -1, -1, -1, 2, -1, -1, -1], [0, -1, -1, -1, 2, -1, 1, -1], [0, -1, -1, -1, 2, 3, -1, -1], [0, -1, -1, -1, 2, 3, 1, -1]]
def own_K : List Int32 := [0, 1, 2, 3]
def own_in (ks : List Int32) (k : Int32) : List Int32 := ks.set (own_sl ks k).toNatClampNeg k
def own_e8 : List Int32 := [-1, -1, -1, -1, -1, -1, -1, -1]
def own_it (u : List Int32) (k : Int32) : List Int32 := if k < 0 then u else own_in u k
def own_ok (u : List Int32) (k : Int32) : Bool := decide (k < 0) || (decide (k ∈ own_K) && (decide (u ∈ own_T) && (decide (¬ own_g u (own_sl u k) = k) && decide (¬ own_ln u < (2 : Int32) * (own_sz u + (1 : Int32))))))
def own_gr : List Int32 → List Int32
  | [k0, k1, k2, k3] => own_it (own_it (own_it (own_it own_e8 k0) k1) k2) k3
  | _ => []
def own_gw : List Int32 → Bool
  | [k0, k1, k2, k3] => own_ok own_e8 k0 && (own_ok (own_it own_e8 k0) k1 && (own_ok (own_it (own_it own_e8 k0) k1) k2 && own_ok (own_it (own_it (own_it own_e8 k0) k1) k2) k3))
  | _ => false
def own_ps (hh ee nn : Int32) : Int32 := if nn < ee then (if ee < hh then 0 else if nn < hh then 1 else 0) else (if ee < hh then (if nn < hh then 1 else 0) else 1)
def own_tk : Nat → List Int32 → Int32 → Int32 → Option (List Int32)
  | 0, _, _, _ => none
  | f + 1, ks, x, y => if own_g ks y < 0 then some ks else if own_ps (own_hm (own_g ks y) (own_mk ks)) x y = 0 then own_tk f ks x (own_nx ks y) else own_tk f ((ks.set x.toNatClampNeg (own_g ks y)).set y.toNatClampNeg (-1)) y (own_nx ks y)
def own_tb (ks : List Int32) (k : Int32) : Bool :=
  match own_tk 9 (ks.set (own_sl ks k).toNatClampNeg (-1)) (own_sl ks k) (own_nx ks (own_sl ks k)) with
  | some u => decide (u ∈ own_T) && (decide (u.length = ks.length) && (decide (own_sz ks - (1 : Int32) = own_sz u) && (decide (k ∉ u) && (decide (∀ x ∈ ks, x = k ∨ x ∈ u) && decide (∀ x ∈ u, x < 0 ∨ x ∈ ks)))))
  | none => false
set_option maxRecDepth 65536 in
theorem own_D0 : ∀ ks ∈ own_T, ks.length = 4 ∨ ks.length = 8 := by decide +kernel
set_option maxRecDepth 65536 in
theorem own_D1 : ∀ ks ∈ own_T, ∀ k ∈ own_K, (own_g ks (own_sl ks k) < 0 ∨ own_g ks (own_sl ks k) = k) ∧ (¬ own_sl ks k < 0 ∧ own_sl ks k < own_ln ks) ∧ (own_g ks (own_sl ks k) = k ∨ k ∉ ks) ∧ (¬ own_hm k (own_mk ks) < 0 ∧ own_hm k (own_mk ks) < own_ln ks) := by decide +kernel
set_option maxRecDepth 65536 in
theorem own_D2 : ∀ ks ∈ own_T, ∀ k ∈ own_K, ¬ own_g ks (own_sl ks k) = k → (own_sz ks + (1 : Int32) = own_sz (own_in ks k) ∧ (∀ x ∈ ks, x ∈ own_in ks k)) ∧ (¬ own_ln ks < (2 : Int32) * (own_sz ks + (1 : Int32)) → own_in ks k ∈ own_T) ∧ (own_ln ks < (2 : Int32) * (own_sz ks + (1 : Int32)) → (own_in ks k).length = 4 ∧ own_gw (own_in ks k) = true ∧ own_gr (own_in ks k) ∈ own_T ∧ (∀ x ∈ own_in ks k, x ∈ own_gr (own_in ks k)) ∧ ∀ x ∈ own_gr (own_in ks k), x < 0 ∨ x ∈ own_in ks k) := by decide +kernel
set_option maxRecDepth 65536 in
theorem own_D3 : ∀ ks ∈ own_T, ∀ k ∈ own_K, own_g ks (own_sl ks k) = k → own_tb ks k = true := by decide +kernel
set_option maxRecDepth 65536 in
theorem own_D4 : ∀ ks ∈ own_T, ∀ i ∈ List.range 8, ∀ j ∈ List.range 8, i < ks.length → j < ks.length → ¬ i = j → ks.getD j 0 = ks.getD i 0 → ks.getD i 0 < 0 := by decide +kernel
set_option maxRecDepth 65536 in
theorem own_D5 : ∀ ks ∈ own_T, ∀ x ∈ ks, x < 0 ∨ x ∈ own_K := by decide +kernel
theorem own_D6 : ([-1, -1, -1, -1] : List Int32) ∈ own_T := by decide +kernel
theorem own_e8T : own_e8 ∈ own_T := by decide +kernel
theorem own_tb_spec {ks : List Int32} {k : Int32} (h : own_tb ks k = true) : ∃ u, own_tk 9 (ks.set (own_sl ks k).toNatClampNeg (-1)) (own_sl ks k) (own_nx ks (own_sl ks k)) = some u ∧ u ∈ own_T ∧ u.length = ks.length ∧ own_sz ks - (1 : Int32) = own_sz u ∧ k ∉ u ∧ (∀ x ∈ ks, x = k ∨ x ∈ u) ∧ ∀ x ∈ u, x < 0 ∨ x ∈ ks := by
  unfold own_tb at h
  cases q : own_tk 9 (ks.set (own_sl ks k).toNatClampNeg (-1)) (own_sl ks k) (own_nx ks (own_sl ks k)) with
  | none => rw [q] at h; simp at h
  | some u =>
    rw [q] at h
    simp only [Bool.and_eq_true, decide_eq_true_eq] at h
    exact ⟨u, rfl, h⟩
theorem own_ok_spec {u : List Int32} {k : Int32} (h : own_ok u k = true) (hn : ¬ k < 0) : k ∈ own_K ∧ u ∈ own_T ∧ ¬ own_g u (own_sl u k) = k ∧ ¬ own_ln u < (2 : Int32) * (own_sz u + (1 : Int32)) := by
  unfold own_ok at h
  rw [decide_eq_false hn, Bool.false_or] at h
  simp only [Bool.and_eq_true, decide_eq_true_eq] at h
  exact h
theorem own_ln_set (ks : List Int32) (i : Nat) (v : Int32) : own_ln (ks.set i v) = own_ln ks := by unfold own_ln; rw [List.length_set]
theorem own_mk_set (ks : List Int32) (i : Nat) (v : Int32) : own_mk (ks.set i v) = own_mk ks := by unfold own_mk; rw [own_ln_set]
theorem own_gd (ks : List Int32) (x : Int32) : (ks.map Value.int).getD x.toNatClampNeg (.int 0) = .int (own_g ks x) := by
  unfold own_g
  simp only [List.getD_eq_getElem?_getD, List.getElem?_map]
  cases ks[x.toNatClampNeg]? <;> rfl
theorem own_gs {ks : List Int32} {i j : Nat} {v : Int32} (hi : i < ks.length) : (ks.set i v).getD j 0 = if i = j then v else ks.getD j 0 := by
  simp only [List.getD_eq_getElem?_getD, List.getElem?_set]
  by_cases q : i = j
  · subst q; simp [hi]
  · simp [q]
theorem own_lnI {ks : List Int32} (h4 : ks.length = 4 ∨ ks.length = 8) : (own_ln ks).toInt = ks.length := own_toInt_ofNat (by omega)
theorem own_rg {ks : List Int32} {x : Int32} (h4 : ks.length = 4 ∨ ks.length = 8) (h : ¬ x < 0 ∧ x < own_ln ks) : x.toNatClampNeg < ks.length := by
  obtain ⟨h0, h1⟩ := h
  have e1 := own_lnI h4
  rw [Int32.lt_iff_toInt_lt] at h0 h1
  have e0 : (0 : Int32).toInt = 0 := rfl
  simp only [Int32.toNatClampNeg]; omega
theorem own_rgm {ks : List Int32} {x : Int32} (h4 : ks.length = 4 ∨ ks.length = 8) (h : ¬ x < 0 ∧ x < own_ln ks) : x.toNatClampNeg < (ks.map Value.int).length := by rw [List.length_map]; exact own_rg h4 h
theorem own_nr {ks : List Int32} (h4 : ks.length = 4 ∨ ks.length = 8) (x : Int32) : ¬ own_nx ks x < 0 ∧ own_nx ks x < own_ln ks := by
  have e0 : (0 : Int32).toInt = 0 := rfl
  have e1 := own_lnI h4
  rcases h4 with h | h
  · have q : own_nx ks x = (x + (1 : Int32)) &&& (3 : Int32) := by unfold own_nx own_mk own_ln; rw [h]; rfl
    have w := c_mask (x + (1 : Int32)) 3 2 (by decide) (by decide)
    have v : ((2 ^ 2 : Nat) : Int) = 4 := rfl
    rw [q, Int32.lt_iff_toInt_lt, Int32.lt_iff_toInt_lt]; omega
  · have q : own_nx ks x = (x + (1 : Int32)) &&& (7 : Int32) := by unfold own_nx own_mk own_ln; rw [h]; rfl
    have w := c_mask (x + (1 : Int32)) 7 3 (by decide) (by decide)
    have v : ((2 ^ 3 : Nat) : Int) = 8 := rfl
    rw [q, Int32.lt_iff_toInt_lt, Int32.lt_iff_toInt_lt]; omega
theorem own_pf_s {ks : List Int32} {k x : Int32} (n : Nat) (h : own_g ks x < 0 ∨ own_g ks x = k) : own_pf ks k n x = x := by
  cases n with
  | zero => rfl
  | succ n => unfold own_pf; rw [if_pos h]
theorem own_pf_g {ks : List Int32} {k x : Int32} (n : Nat) (h1 : ¬ own_g ks x < 0) (h2 : ¬ own_g ks x = k) : own_pf ks k (n + 1) x = own_pf ks k n (own_nx ks x) := by
  have h : ¬ (own_g ks x < 0 ∨ own_g ks x = k) := fun z => z.elim h1 h2
  show (if own_g ks x < 0 ∨ own_g ks x = k then x else own_pf ks k n (own_nx ks x)) = _
  rw [if_neg h]
def own_C (F : Int32 → Int32) (ks cs : List Int32) : Prop := ∀ i, i < ks.length → ¬ ks.getD i 0 < 0 → cs.getD i 0 = F (ks.getD i 0)
def own_Ct (F : Int32 → Int32) (ks cs : List Int32) : Prop := ks ∈ own_T ∧ own_C F ks cs ∧ (∀ k, k ∉ ks → F k = 0) ∧ (∀ k ∈ ks, ¬ k < 0 → 0 < F k)
def own_up (F : Int32 → Int32) (k v : Int32) : Int32 → Int32 := fun x => if x = k then v else F x
theorem own_up_s (F : Int32 → Int32) (k v : Int32) : own_up F k v k = v := if_pos rfl
theorem own_up_n {F : Int32 → Int32} {k v x : Int32} (h : ¬ x = k) : own_up F k v x = F x := if_neg h
theorem own_mem {ks : List Int32} {i : Nat} (hi : i < ks.length) : ks.getD i 0 ∈ ks := by
  rw [List.getD_eq_getElem?_getD, List.getElem?_eq_getElem hi]; exact List.getElem_mem hi
theorem own_gmem {ks : List Int32} {k x : Int32} (h4 : ks.length = 4 ∨ ks.length = 8) (h : ¬ x < 0 ∧ x < own_ln ks) (q : own_g ks x = k) : k ∈ ks := by
  rw [← q]; exact own_mem (own_rg h4 h)
section OwnC
variable {F : Int32 → Int32} {ks cs : List Int32} {i : Nat} {k v : Int32}
theorem own_C_set (C : own_C F ks cs) (hl : cs.length = ks.length) (hi : i < ks.length) (h : v = F k) : own_C F (ks.set i k) (cs.set i v) := by
  intro j hj hn
  rw [own_gs hi] at hn ⊢
  rw [own_gs (by rw [hl]; exact hi)]
  by_cases q : i = j
  · rw [if_pos q, if_pos q]; exact h
  · rw [if_neg q] at hn; rw [if_neg q, if_neg q]; exact C j (by simpa using hj) hn
theorem own_C_up (C : own_C F ks cs) (hk : k ∉ ks) : own_C (own_up F k v) ks cs := by
  intro j hj hn
  have q : ¬ ks.getD j 0 = k := fun q => hk (q ▸ own_mem hj)
  rw [own_up_n q]; exact C j hj hn
theorem own_C_ov (C : own_C F ks cs) (hl : cs.length = ks.length) (hi : i < ks.length) (hk : ks.getD i 0 = k) (hd : ∀ j, j < ks.length → ¬ i = j → ¬ ks.getD j 0 = k) : own_C (own_up F k v) ks (cs.set i v) := by
  intro j hj hn
  rw [own_gs (by rw [hl]; exact hi)]
  by_cases q : i = j
  · subst q; rw [if_pos rfl, hk, own_up_s]
  · rw [if_neg q, own_up_n (hd j hj q)]; exact C j hj hn
theorem own_C_rm (C : own_C F ks cs) (hi : i < ks.length) : own_C F (ks.set i (-1)) cs := by
  intro j hj hn
  rw [own_gs hi] at hn ⊢
  by_cases q : i = j
  · rw [if_pos q] at hn; exact absurd (by decide) hn
  · rw [if_neg q] at hn ⊢; exact C j (by simpa using hj) hn
theorem own_Ct_get (H : own_Ct F ks cs) (hk : k ∈ own_K) (hl : cs.length = ks.length) : (own_g ks (own_sl ks k) = k → own_g cs (own_sl ks k) = F k) ∧ (¬ own_g ks (own_sl ks k) = k → F k = 0) := by
  obtain ⟨h1, h2, h3, h4⟩ := H
  obtain ⟨d1, d2, d3, d4⟩ := own_D1 ks h1 k hk
  have l4 := own_D0 ks h1
  refine ⟨fun q => ?_, fun q => h3 k (d3.resolve_left q)⟩
  have kn : ¬ k < 0 := by
    have := hk; unfold own_K at this
    simp only [List.mem_cons, List.not_mem_nil, or_false] at this
    rcases this with rfl | rfl | rfl | rfl <;> decide
  have w := h2 _ (own_rg l4 d2) (by show ¬ own_g ks (own_sl ks k) < 0; rw [q]; exact kn)
  have w' : own_g cs (own_sl ks k) = F (own_g ks (own_sl ks k)) := w
  rw [w', q]
theorem own_Kn (hk : k ∈ own_K) : ¬ k < 0 := by
  have := hk; unfold own_K at this
  simp only [List.mem_cons, List.not_mem_nil, or_false] at this
  rcases this with rfl | rfl | rfl | rfl <;> decide
theorem own_Ct_set (H : own_Ct F ks cs) (hk : k ∈ own_K) (hl : cs.length = ks.length) (q : own_g ks (own_sl ks k) = k) (hv : 0 < v) : own_Ct (own_up F k v) ks (cs.set (own_sl ks k).toNatClampNeg v) := by
  obtain ⟨h1, h2, h3, h4⟩ := H
  obtain ⟨d1, d2, d3, d4⟩ := own_D1 ks h1 k hk
  have l4 := own_D0 ks h1
  have hi := own_rg l4 d2
  have km : k ∈ ks := own_gmem l4 d2 q
  have q' : ks.getD (own_sl ks k).toNatClampNeg 0 = k := q
  refine ⟨h1, own_C_ov h2 hl hi q' fun j hj hne r => ?_, fun x hx => ?_, fun x hx hn => ?_⟩
  · have := own_D4 ks h1 (own_sl ks k).toNatClampNeg (List.mem_range.mpr (by omega)) j (List.mem_range.mpr (by omega)) hi hj hne (r.trans q'.symm)
    rw [q'] at this; exact own_Kn hk this
  · have : ¬ x = k := fun z => hx (z ▸ km)
    rw [own_up_n this]; exact h3 x hx
  · by_cases z : x = k
    · rw [z, own_up_s]; exact hv
    · rw [own_up_n z]; exact h4 x hx hn
theorem own_in_mem {x : Int32} (h : x ∈ own_in ks k) : x ∈ ks ∨ x = k := List.mem_or_eq_of_mem_set h
theorem own_Ct_C (H : own_Ct F ks cs) (hk : k ∈ own_K) (hl : cs.length = ks.length) (q : ¬ own_g ks (own_sl ks k) = k) : own_C (own_up F k v) (own_in ks k) (cs.set (own_sl ks k).toNatClampNeg v) := by
  obtain ⟨h1, h2, h3, h4⟩ := H
  obtain ⟨d1, d2, d3, d4⟩ := own_D1 ks h1 k hk
  exact own_C_set (own_C_up h2 (d3.resolve_left q)) hl (own_rg (own_D0 ks h1) d2) (own_up_s F k v).symm
theorem own_kin (h1 : ks ∈ own_T) (hk : k ∈ own_K) : k ∈ own_in ks k := by
  obtain ⟨d1, d2, d3, d4⟩ := own_D1 ks h1 k hk
  exact List.mem_iff_getElem?.mpr ⟨(own_sl ks k).toNatClampNeg, by unfold own_in; rw [List.getElem?_set_self (own_rg (own_D0 ks h1) d2)]⟩
theorem own_Ct_23 (H : own_Ct F ks cs) (hk : k ∈ own_K) (q : ¬ own_g ks (own_sl ks k) = k) (hv : 0 < v) : (∀ x, x ∉ own_in ks k → own_up F k v x = 0) ∧ (∀ x ∈ own_in ks k, ¬ x < 0 → 0 < own_up F k v x) := by
  obtain ⟨h1, h2, h3, h4⟩ := H
  obtain ⟨⟨d1, d2⟩, -⟩ := own_D2 ks h1 k hk q
  refine ⟨fun x hx => ?_, fun x hx hn => ?_⟩
  · have : ¬ x = k := fun z => hx (by rw [z]; exact own_kin h1 hk)
    rw [own_up_n this]; exact h3 x fun z => hx (d2 x z)
  · by_cases z : x = k
    · rw [z, own_up_s]; exact hv
    · rw [own_up_n z]; exact h4 x ((own_in_mem hx).resolve_right z) hn
theorem own_Ct_in (H : own_Ct F ks cs) (hk : k ∈ own_K) (hl : cs.length = ks.length) (q : ¬ own_g ks (own_sl ks k) = k) (hv : 0 < v) (hg : ¬ own_ln ks < (2 : Int32) * (own_sz ks + (1 : Int32))) : own_Ct (own_up F k v) (own_in ks k) (cs.set (own_sl ks k).toNatClampNeg v) :=
  ⟨(own_D2 ks H.1 k hk q).2.1 hg, own_Ct_C H hk hl q, own_Ct_23 H hk q hv⟩
theorem own_Ct_gr {cs' : List Int32} (H : own_Ct F ks cs) (hk : k ∈ own_K) (q : ¬ own_g ks (own_sl ks k) = k) (hv : 0 < v) (hg : own_ln ks < (2 : Int32) * (own_sz ks + (1 : Int32))) (hC : own_C (own_up F k v) (own_gr (own_in ks k)) cs') : own_Ct (own_up F k v) (own_gr (own_in ks k)) cs' := by
  obtain ⟨g1, g2, g3, g4, g5⟩ := (own_D2 ks H.1 k hk q).2.2 hg
  obtain ⟨r2, r3⟩ := own_Ct_23 (v := v) H hk q hv
  exact ⟨g3, hC, fun x hx => r2 x fun z => hx (g4 x z), fun x hx hn => r3 x ((g5 x hx).resolve_left hn) hn⟩
theorem own_Ct_tk {u cs' : List Int32} (H : own_Ct F ks cs) (hu : u ∈ own_T) (hk' : k ∉ u) (a1 : ∀ x ∈ ks, x = k ∨ x ∈ u) (a2 : ∀ x ∈ u, x < 0 ∨ x ∈ ks) (hC : own_C F u cs') : own_Ct (own_up F k 0) u cs' := by
  obtain ⟨h1, h2, h3, h4⟩ := H
  refine ⟨hu, own_C_up hC hk', fun x hx => ?_, fun x hx hn => ?_⟩
  · by_cases z : x = k
    · rw [z, own_up_s]
    · rw [own_up_n z]; exact h3 x fun w => (a1 x w).elim z hx
  · have : ¬ x = k := fun z => hk' (z ▸ hx)
    rw [own_up_n this]; exact h4 x ((a2 x hx).resolve_left hn) hn
theorem own_Ct_pos (H : own_Ct F ks cs) (hk : k ∈ own_K) (h : 0 < F k) : own_g ks (own_sl ks k) = k := by
  obtain ⟨h1, h2, h3, h4⟩ := H
  obtain ⟨d1, d2, d3, d4⟩ := own_D1 ks h1 k hk
  refine d3.resolve_right fun z => ?_
  rw [h3 k z] at h; exact absurd h (by decide)
theorem own_Ct_new (h : ∀ k, F k = 0) : own_Ct F [-1, -1, -1, -1] [0, 0, 0, 0] := by
  refine ⟨own_D6, fun i hi hn => ?_, fun k _ => h k, fun k hk hn => ?_⟩
  · match i, hi with
    | 0, _ => exact absurd (by decide) hn
    | 1, _ => exact absurd (by decide) hn
    | 2, _ => exact absurd (by decide) hn
    | 3, _ => exact absurd (by decide) hn
  · simp only [List.mem_cons, List.not_mem_nil, or_false, or_self] at hk
    subst hk; exact absurd (by decide) hn
end OwnC
theorem own_it_n {u : List Int32} {k : Int32} (h : k < 0) : own_it u k = u := if_pos h
theorem own_it_p {u : List Int32} {k : Int32} (h : ¬ k < 0) : own_it u k = own_in u k := if_neg h
theorem own_tk_0 {f : Nat} {ks : List Int32} {x y : Int32} (h : own_g ks y < 0) : own_tk (f + 1) ks x y = some ks := by
  show (if own_g ks y < 0 then some ks else _) = _
  rw [if_pos h]
theorem own_tk_1 {f : Nat} {ks : List Int32} {x y : Int32} (h : ¬ own_g ks y < 0) (h2 : own_ps (own_hm (own_g ks y) (own_mk ks)) x y = 0) : own_tk (f + 1) ks x y = own_tk f ks x (own_nx ks y) := by
  show (if own_g ks y < 0 then some ks else if own_ps (own_hm (own_g ks y) (own_mk ks)) x y = 0 then _ else _) = _
  rw [if_neg h, if_pos h2]
theorem own_tk_2 {f : Nat} {ks : List Int32} {x y : Int32} (h : ¬ own_g ks y < 0) (h2 : ¬ own_ps (own_hm (own_g ks y) (own_mk ks)) x y = 0) : own_tk (f + 1) ks x y = own_tk f ((ks.set x.toNatClampNeg (own_g ks y)).set y.toNatClampNeg (-1)) y (own_nx ks y) := by
  show (if own_g ks y < 0 then some ks else if own_ps (own_hm (own_g ks y) (own_mk ks)) x y = 0 then _ else _) = _
  rw [if_neg h, if_neg h2]
theorem own_nx_set (ks : List Int32) (i : Nat) (v x : Int32) : own_nx (ks.set i v) x = own_nx ks x := by unfold own_nx; rw [own_mk_set]
def own_Cn (Z : State) (n0 : Nat) (h : Heap) (a kb cb : Addr) (ks cs : List Int32) : Prop := Exa Z h a "com/example/weir/weir/model/HeldTasks$Counts" ∧ Fld Z h a "com/example/weir/weir/model/HeldTasks$Counts" "keys" "[I" (.ref kb) ∧ Fld Z h a "com/example/weir/weir/model/HeldTasks$Counts" "counts" "[I" (.ref cb) ∧ Fld Z h a "com/example/weir/weir/model/HeldTasks$Counts" "size" "I" (.int (own_sz ks)) ∧ (∃ k, Arv Z h kb k .int (own_ln ks) (ks.map Value.int) (.int 0)) ∧ (∃ k, Arv Z h cb k .int (own_ln ks) (cs.map Value.int) (.int 0)) ∧ cs.length = ks.length ∧ (a ≠ kb ∧ a ≠ cb ∧ kb ≠ cb) ∧ (n0 ≤ a ∧ n0 ≤ kb ∧ n0 ≤ cb)
abbrev own_Ob := Addr × Addr × Addr × List Int32 × List Int32
def own_v : Option own_Ob → Value
  | none => .null
  | some b => .ref b.1
def own_I (Z : State) (n0 : Nat) (h : Heap) (oh nb pb : Addr) (O : Nat → Option own_Ob) (w : Addr → Nat) (G : Nat → Int32 → Int32) : Prop :=
  Exa Z h oh "com/example/weir/weir/model/HeldTasks" ∧ Fld Z h oh "com/example/weir/weir/model/HeldTasks" "byNode" "[Lcom/example/weir/weir/model/HeldTasks$Counts;" (.ref nb) ∧ Fld Z h oh "com/example/weir/weir/model/HeldTasks" "byPlace" "[Lcom/example/weir/weir/model/HeldTasks$Counts;" (.ref pb) ∧
  (∃ k, Arv Z h nb k (.object "com/example/weir/weir/model/HeldTasks$Counts") 2 [own_v (O 0), own_v (O 1)] .null ∧ Ovr Z k "com/example/weir/weir/model/HeldTasks$Counts") ∧ (∃ k, Arv Z h pb k (.object "com/example/weir/weir/model/HeldTasks$Counts") 4 [own_v (O 2), own_v (O 3), own_v (O 4), own_v (O 5)] .null ∧ Ovr Z k "com/example/weir/weir/model/HeldTasks$Counts") ∧
  (∀ (i : Nat) (b : own_Ob), i < 6 → O i = some b → own_Cn Z n0 h b.1 b.2.1 b.2.2.1 b.2.2.2.1 b.2.2.2.2 ∧ own_Ct (G i) b.2.2.2.1 b.2.2.2.2 ∧ w b.1 = i ∧ w b.2.1 = i ∧ w b.2.2.1 = i) ∧
  (∀ i : Nat, i < 6 → O i = none → ∀ k, G i k = 0) ∧ (w oh = 6 ∧ w nb = 7 ∧ w pb = 8) ∧ (n0 ≤ oh ∧ n0 ≤ nb ∧ n0 ≤ pb)
def own_uo (O : Nat → Option own_Ob) (i : Nat) (x : Option own_Ob) : Nat → Option own_Ob := fun y => if y = i then x else O y
def own_w (w : Addr → Nat) (n i : Nat) : Addr → Nat := fun x => if x < n then w x else i
def own_uG (G : Nat → Int32 → Int32) (i : Nat) (k v : Int32) : Nat → Int32 → Int32 := fun y => if y = i then own_up (G i) k v else G y
def own_Kw (h h' : Heap) (w w' : Addr → Nat) : Prop := h.size ≤ h'.size ∧ (∀ (x : Addr) (cc : Cell), h[x]? = some cc → w x = 9 → h'[x]? = some cc) ∧ ∀ x : Addr, x < h.size → w' x = w x
theorem own_uo_s {O : Nat → Option own_Ob} {i y : Nat} {x : Option own_Ob} (q : y = i) : own_uo O i x y = x := if_pos q
theorem own_uo_n {O : Nat → Option own_Ob} {i y : Nat} {x : Option own_Ob} (q : ¬ y = i) : own_uo O i x y = O y := if_neg q
theorem own_uG_s {G : Nat → Int32 → Int32} {i y : Nat} {k v : Int32} (q : y = i) : own_uG G i k v y = own_up (G i) k v := if_pos q
theorem own_uG_n {G : Nat → Int32 → Int32} {i y : Nat} {k v : Int32} (q : ¬ y = i) : own_uG G i k v y = G y := if_neg q
section OwnI
variable {Z : State} {n0 : Nat} {h h' h'' : Heap} {oh nb pb : Addr} {O : Nat → Option own_Ob} {w w' w'' : Addr → Nat} {G : Nat → Int32 → Int32}
theorem own_Kw_refl : own_Kw h h w w := ⟨Nat.le_refl _, fun _ _ q _ => q, fun _ _ => rfl⟩
theorem own_Kw_trans (A : own_Kw h h' w w') (B : own_Kw h' h'' w' w'') : own_Kw h h'' w w'' :=
  ⟨Nat.le_trans A.1 B.1, fun x cc hx h9 => B.2.1 x cc (A.2.1 x cc hx h9) ((A.2.2 x (Array.getElem?_eq_some_iff.mp hx).1).trans h9), fun x hx => (B.2.2 x (Nat.lt_of_lt_of_le hx A.1)).trans (A.2.2 x hx)⟩
theorem own_Kw_arv {a : Addr} {k : ClassId} {ty : FieldType} {z : Int32} {vs : List Value} {dv : Value} (F : Arv Z h a k ty z vs dv) (K : own_Kw h h' w w') (q : w a = 9) : Arv Z h' a k ty z vs dv := by
  obtain ⟨c, A, r⟩ := F; exact ⟨c, ⟨K.2.1 a c A.1 q, A.2⟩, r⟩
theorem own_Cn_keep {a kb cb : Addr} {ks cs : List Int32} {ws : List Addr} (H : own_Cn Z n0 h a kb cb ks cs) (K : Keep h h' ws) (q1 : a ∉ ws) (q2 : kb ∉ ws) (q3 : cb ∉ ws) : own_Cn Z n0 h' a kb cb ks cs := by
  obtain ⟨h1, h2, h3, h4, ⟨k5, h5⟩, ⟨k6, h6⟩, r⟩ := H
  exact ⟨h1.keep K, h2.keep K q1, h3.keep K q1, h4.keep K q1, ⟨k5, h5.keep K q2⟩, ⟨k6, h6.keep K q3⟩, r⟩
theorem own_Cn_lt {a kb cb : Addr} {ks cs : List Int32} (H : own_Cn Z n0 h a kb cb ks cs) : a < h.size ∧ kb < h.size ∧ cb < h.size := by
  obtain ⟨h1, h2, h3, h4, ⟨k5, h5⟩, ⟨k6, h6⟩, r⟩ := H
  exact ⟨h1.lt, h5.lt, h6.lt⟩
theorem own_I_keep {ws : List Addr} (H : own_I Z n0 h oh nb pb O w G) (K : Keep h h' ws) (q : ∀ x ∈ ws, w x = 9 ∨ h.size ≤ x) : own_I Z n0 h' oh nb pb O w G := by
  obtain ⟨EH, FN, FP, ⟨kn, VN, ON⟩, ⟨kp, VP, OP⟩, HO, HG, ⟨w6, w7, w8⟩, g⟩ := H
  have nin : ∀ x : Addr, x < h.size → ¬ w x = 9 → x ∉ ws := fun x h1 h2 h3 => (q x h3).elim h2 fun h4 => absurd h1 (Nat.not_lt.mpr h4)
  have n6 : ¬ w oh = 9 := by omega
  have n7 : ¬ w nb = 9 := by omega
  have n8 : ¬ w pb = 9 := by omega
  refine ⟨EH.keep K, FN.keep K (nin _ EH.lt n6), FP.keep K (nin _ EH.lt n6), ⟨kn, VN.keep K (nin _ VN.lt n7), ON⟩, ⟨kp, VP.keep K (nin _ VP.lt n8), OP⟩, fun i b hi hbb => ?_, HG, ⟨w6, w7, w8⟩, g⟩
  obtain ⟨c1, c2, c3, c4, c5⟩ := HO i b hi hbb
  obtain ⟨l1, l2, l3⟩ := own_Cn_lt c1
  exact ⟨own_Cn_keep c1 K (nin _ l1 (by rw [c3]; omega)) (nin _ l2 (by rw [c4]; omega)) (nin _ l3 (by rw [c5]; omega)), c2, c3, c4, c5⟩
theorem own_I_put {i : Nat} {a kb cb kb' cb' : Addr} {ks cs ks' cs' : List Int32} {k v : Int32} (H : own_I Z n0 h oh nb pb O w G) (hi : i < 6) (hO : O i = some (a, kb, cb, ks, cs)) (K : Keep h h' [a, kb, cb]) (C : own_Cn Z n0 h' a kb' cb' ks' cs') (Ct : own_Ct (own_up (G i) k v) ks' cs') (hf : (kb' = kb ∧ cb' = cb) ∨ (h.size ≤ kb' ∧ h.size ≤ cb')) :
    own_I Z n0 h' oh nb pb (own_uo O i (some (a, kb', cb', ks', cs'))) (own_w w h.size i) (own_uG G i k v) ∧ own_Kw h h' w (own_w w h.size i) := by
  obtain ⟨EH, FN, FP, ⟨kn, VN, ON⟩, ⟨kp, VP, OP⟩, HO, HG, ⟨w6, w7, w8⟩, g⟩ := H
  obtain ⟨d1, d2, d3, d4, d5⟩ := HO i _ hi hO
  have d3' : w a = i := d3
  have d4' : w kb = i := d4
  have d5' : w cb = i := d5
  have d1' : own_Cn Z n0 h a kb cb ks cs := d1
  obtain ⟨l1, l2, l3⟩ := own_Cn_lt d1'
  have nin : ∀ x : Addr, ¬ w x = i → x ∉ [a, kb, cb] := fun x q z => by
    simp only [List.mem_cons, List.not_mem_nil, or_false] at z
    rcases z with rfl | rfl | rfl
    · exact q d3'
    · exact q d4'
    · exact q d5'
  have ww : ∀ x : Addr, x < h.size → own_w w h.size i x = w x := fun x q => if_pos q
  have wf : ∀ x : Addr, h.size ≤ x → own_w w h.size i x = i := fun x q => if_neg (Nat.not_lt.mpr q)
  have vv : ∀ y, own_v (own_uo O i (some (a, kb', cb', ks', cs')) y) = own_v (O y) := fun y => by
    by_cases q : y = i
    · rw [own_uo_s q, q, hO]; rfl
    · rw [own_uo_n q]
  have n6 : ¬ w oh = i := by omega
  have n7 : ¬ w nb = i := by omega
  have n8 : ¬ w pb = i := by omega
  refine ⟨⟨EH.keep K, FN.keep K (nin _ n6), FP.keep K (nin _ n6), ⟨kn, ?_, ON⟩, ⟨kp, ?_, OP⟩, fun y b hy hyb => ?_, fun y hy hyb => ?_, ⟨(ww _ EH.lt).trans w6, (ww _ VN.lt).trans w7, (ww _ VP.lt).trans w8⟩, g⟩, K.1, fun x cc hx h9 => K.2.1 x cc hx (nin _ (by rw [h9]; omega)), ww⟩
  · rw [vv 0, vv 1]; exact VN.keep K (nin _ n7)
  · rw [vv 2, vv 3, vv 4, vv 5]; exact VP.keep K (nin _ n8)
  · by_cases q : y = i
    · rw [own_uo_s q] at hyb
      cases hyb
      refine ⟨C, by rw [own_uG_s q]; exact Ct, ?_, ?_, ?_⟩
      · show own_w w h.size i a = y
        rw [ww _ l1, q]; exact d3'
      · show own_w w h.size i kb' = y
        rcases hf with ⟨e1, e2⟩ | ⟨e1, e2⟩
        · rw [e1, ww _ l2, q]; exact d4'
        · rw [wf _ e1, q]
      · show own_w w h.size i cb' = y
        rcases hf with ⟨e1, e2⟩ | ⟨e1, e2⟩
        · rw [e2, ww _ l3, q]; exact d5'
        · rw [wf _ e2, q]
    · rw [own_uo_n q] at hyb
      obtain ⟨c1, c2, c3, c4, c5⟩ := HO y b hy hyb
      obtain ⟨m1, m2, m3⟩ := own_Cn_lt c1
      exact ⟨own_Cn_keep c1 K (nin _ (by rw [c3]; exact q)) (nin _ (by rw [c4]; exact q)) (nin _ (by rw [c5]; exact q)), by rw [own_uG_n q]; exact c2, (ww _ m1).trans c3, (ww _ m2).trans c4, (ww _ m3).trans c5⟩
  · have q : ¬ y = i := fun q => by rw [own_uo_s q] at hyb; cases hyb
    rw [own_uo_n q] at hyb; rw [own_uG_n q]; exact HG y hy hyb
theorem own_I_new {i : Nat} {b kb cb ar : Addr} (H : own_I Z n0 h oh nb pb O w G) (hi : i < 6) (hO : O i = none) (har : w ar = 7 ∨ w ar = 8) (K : Keep h h' [ar]) (C : own_Cn Z n0 h' b kb cb [-1, -1, -1, -1] [0, 0, 0, 0]) (f1 : h.size ≤ b) (f2 : h.size ≤ kb) (f3 : h.size ≤ cb)
    (VN' : ∃ k, Arv Z h' nb k (.object "com/example/weir/weir/model/HeldTasks$Counts") 2 [own_v (own_uo O i (some (b, kb, cb, [-1, -1, -1, -1], [0, 0, 0, 0])) 0), own_v (own_uo O i (some (b, kb, cb, [-1, -1, -1, -1], [0, 0, 0, 0])) 1)] .null ∧ Ovr Z k "com/example/weir/weir/model/HeldTasks$Counts")
    (VP' : ∃ k, Arv Z h' pb k (.object "com/example/weir/weir/model/HeldTasks$Counts") 4 [own_v (own_uo O i (some (b, kb, cb, [-1, -1, -1, -1], [0, 0, 0, 0])) 2), own_v (own_uo O i (some (b, kb, cb, [-1, -1, -1, -1], [0, 0, 0, 0])) 3), own_v (own_uo O i (some (b, kb, cb, [-1, -1, -1, -1], [0, 0, 0, 0])) 4), own_v (own_uo O i (some (b, kb, cb, [-1, -1, -1, -1], [0, 0, 0, 0])) 5)] .null ∧ Ovr Z k "com/example/weir/weir/model/HeldTasks$Counts") :
    own_I Z n0 h' oh nb pb (own_uo O i (some (b, kb, cb, [-1, -1, -1, -1], [0, 0, 0, 0]))) (own_w w h.size i) G ∧ own_Kw h h' w (own_w w h.size i) := by
  obtain ⟨EH, FN, FP, ⟨kn, VN, ON⟩, ⟨kp, VP, OP⟩, HO, HG, ⟨w6, w7, w8⟩, g⟩ := H
  have nin : ∀ x : Addr, ¬ w x = w ar → x ∉ [ar] := fun x q z => by
    simp only [List.mem_cons, List.not_mem_nil, or_false] at z
    exact q (by rw [z])
  have ww : ∀ x : Addr, x < h.size → own_w w h.size i x = w x := fun x q => if_pos q
  have wf : ∀ x : Addr, h.size ≤ x → own_w w h.size i x = i := fun x q => if_neg (Nat.not_lt.mpr q)
  have n6 : ¬ w oh = w ar := by omega
  refine ⟨⟨EH.keep K, FN.keep K (nin _ n6), FP.keep K (nin _ n6), VN', VP', fun y bb hy hyb => ?_, fun y hy hyb => ?_, ⟨(ww _ EH.lt).trans w6, (ww _ VN.lt).trans w7, (ww _ VP.lt).trans w8⟩, g⟩, K.1, fun x cc hx h9 => K.2.1 x cc hx (nin _ (by rw [h9]; omega)), ww⟩
  · by_cases q : y = i
    · rw [own_uo_s q] at hyb
      cases hyb
      exact ⟨C, by rw [q]; exact own_Ct_new (HG i hi hO), by rw [q]; exact wf _ f1, by rw [q]; exact wf _ f2, by rw [q]; exact wf _ f3⟩
    · rw [own_uo_n q] at hyb
      obtain ⟨c1, c2, c3, c4, c5⟩ := HO y bb hy hyb
      obtain ⟨m1, m2, m3⟩ := own_Cn_lt c1
      exact ⟨own_Cn_keep c1 K (nin _ (by rw [c3]; omega)) (nin _ (by rw [c4]; omega)) (nin _ (by rw [c5]; omega)), c2, (ww _ m1).trans c3, (ww _ m2).trans c4, (ww _ m3).trans c5⟩
  · have q : ¬ y = i := fun q => by rw [own_uo_s q] at hyb; cases hyb
    rw [own_uo_n q] at hyb; exact HG y hy hyb
theorem own_setN {i : Nat} {x : Option own_Ob} {v : Value} (hi : i < 2) (hv : own_v x = v) : [own_v (O 0), own_v (O 1)].set i v = [own_v (own_uo O i x 0), own_v (own_uo O i x 1)] := by
  subst hv
  match i, hi with
  | 0, _ => rfl
  | 1, _ => rfl
theorem own_setP {j : Nat} {x : Option own_Ob} {v : Value} (hj : j < 4) (hv : own_v x = v) : [own_v (O 2), own_v (O 3), own_v (O 4), own_v (O 5)].set j v = [own_v (own_uo O (2 + j) x 2), own_v (own_uo O (2 + j) x 3), own_v (own_uo O (2 + j) x 4), own_v (own_uo O (2 + j) x 5)] := by
  subst hv
  match j, hj with
  | 0, _ => rfl
  | 1, _ => rfl
  | 2, _ => rfl
  | 3, _ => rfl
theorem own_I_newN {i : Nat} {b kb cb : Addr} {k : ClassId} (H : own_I Z n0 h oh nb pb O w G) (hi : i < 2) (hO : O i = none) (K : Keep h h' [nb]) (C : own_Cn Z n0 h' b kb cb [-1, -1, -1, -1] [0, 0, 0, 0]) (f1 : h.size ≤ b) (f2 : h.size ≤ kb) (f3 : h.size ≤ cb)
    (V : Arv Z h' nb k (.object "com/example/weir/weir/model/HeldTasks$Counts") 2 ([own_v (O 0), own_v (O 1)].set i (.ref b)) .null) (ov : Ovr Z k "com/example/weir/weir/model/HeldTasks$Counts") :
    own_I Z n0 h' oh nb pb (own_uo O i (some (b, kb, cb, [-1, -1, -1, -1], [0, 0, 0, 0]))) (own_w w h.size i) G ∧ own_Kw h h' w (own_w w h.size i) := by
  obtain ⟨EH, FN, FP, ⟨kn, VN, ON⟩, ⟨kp, VP, OP⟩, HO, HG, ⟨w6, w7, w8⟩, g⟩ := id H
  have VP1 := VP.keep K (ninS (fun e => by rw [e] at w8; omega) nin0)
  refine own_I_new H (by omega) hO (Or.inl w7) K C f1 f2 f3 ⟨k, ?_, ov⟩ ⟨kp, ?_, OP⟩
  · rw [← own_setN hi rfl]; exact V
  · rw [own_uo_n (by omega), own_uo_n (by omega), own_uo_n (by omega), own_uo_n (by omega)]; exact VP1
theorem own_I_newP {j : Nat} {b kb cb : Addr} {k : ClassId} (H : own_I Z n0 h oh nb pb O w G) (hj : j < 4) (hO : O (2 + j) = none) (K : Keep h h' [pb]) (C : own_Cn Z n0 h' b kb cb [-1, -1, -1, -1] [0, 0, 0, 0]) (f1 : h.size ≤ b) (f2 : h.size ≤ kb) (f3 : h.size ≤ cb)
    (V : Arv Z h' pb k (.object "com/example/weir/weir/model/HeldTasks$Counts") 4 ([own_v (O 2), own_v (O 3), own_v (O 4), own_v (O 5)].set j (.ref b)) .null) (ov : Ovr Z k "com/example/weir/weir/model/HeldTasks$Counts") :
    own_I Z n0 h' oh nb pb (own_uo O (2 + j) (some (b, kb, cb, [-1, -1, -1, -1], [0, 0, 0, 0]))) (own_w w h.size (2 + j)) G ∧ own_Kw h h' w (own_w w h.size (2 + j)) := by
  obtain ⟨EH, FN, FP, ⟨kn, VN, ON⟩, ⟨kp, VP, OP⟩, HO, HG, ⟨w6, w7, w8⟩, g⟩ := id H
  have VN1 := VN.keep K (ninS (fun e => by rw [e] at w7; omega) nin0)
  refine own_I_new H (by omega) hO (Or.inr w8) K C f1 f2 f3 ⟨kn, ?_, ON⟩ ⟨k, ?_, ov⟩
  · rw [own_uo_n (by omega), own_uo_n (by omega)]; exact VN1
  · rw [← own_setP hj rfl]; exact V
end OwnI
def own_G2 (G : Nat → Int32 → Int32) (i j : Nat) (v : Int32) : Nat → Int32 → Int32 := own_uG (own_uG G i (Int32.ofNat j) v) (2 + j) (Int32.ofNat i) v
def own_Con (G : Nat → Int32 → Int32) : Prop := ∀ i j, i < 2 → j < 4 → G (2 + j) (Int32.ofNat i) = G i (Int32.ofNat j)
def own_M (G : Nat → Int32 → Int32) (ms : List Int32) : Prop := ms.length = 8 ∧ ∀ i j, i < 2 → j < 4 → ms.getD (i * 4 + j) 0 = G i (Int32.ofNat j)
def own_B (G : Nat → Int32 → Int32) (B : Int) : Prop := ∀ i j, i < 2 → j < 4 → 0 ≤ (G i (Int32.ofNat j)).toInt ∧ (G i (Int32.ofNat j)).toInt ≤ B
theorem own_ci {i : Nat} (h : i < 100) : (Int32.ofNat i).toNatClampNeg = i := by
  have e1 := own_toInt_ofNat (n := i) (by omega)
  simp only [Int32.toNatClampNeg, e1]; omega
theorem own_oi {i j : Nat} (hi : i < 100) (hj : j < 100) (h : Int32.ofNat i = Int32.ofNat j) : i = j := by
  have := congrArg Int32.toNatClampNeg h
  rw [own_ci hi, own_ci hj] at this; exact this
theorem own_oK {j : Nat} (h : j < 4) : Int32.ofNat j ∈ own_K := by
  match j, h with
  | 0, _ => decide
  | 1, _ => decide
  | 2, _ => decide
  | 3, _ => decide
theorem own_gi (ks : List Int32) {i : Nat} (h : i < 100) : (ks.map Value.int).getD (Int32.ofNat i).toNatClampNeg (.int 0) = .int (ks.getD i 0) := by
  rw [own_gd]; unfold own_g; rw [own_ci h]
theorem own_cmp {i n : Nat} (h1 : i < 100) (h2 : n < 100) : (Int32.ofNat i < Int32.ofNat n) ↔ i < n := by
  rw [Int32.lt_iff_toInt_lt, own_toInt_ofNat (by omega), own_toInt_ofNat (by omega)]; omega
theorem own_nn {i : Nat} (h : i < 100) : ¬ Int32.ofNat i < 0 := by
  rw [Int32.lt_iff_toInt_lt, own_toInt_ofNat (by omega)]; have : (0 : Int32).toInt = 0 := rfl; omega
theorem own_inc {i : Nat} (h : i < 100) : Int32.ofNat (i + 1) = Int32.ofNat i + (1 : Int32) := by
  apply Int32.toInt_inj.mp
  have h1 := c_iadd (Int32.ofNat i) 1
  have e1 := own_toInt_ofNat (n := i) (by omega)
  have e2 := own_toInt_ofNat (n := i + 1) (by omega)
  have e3 : (1 : Int32).toInt = 1 := rfl
  have h2 := rng32 (Int32.ofNat i + 1)
  omega
section OwnG
variable {G : Nat → Int32 → Int32} {i j i' j' : Nat} {v : Int32}
theorem own_G2_n (hi : i < 2) (hj : j < 4) (hi' : i' < 2) (hj' : j' < 4) : own_G2 G i j v i' (Int32.ofNat j') = if i' = i ∧ j' = j then v else G i' (Int32.ofNat j') := by
  unfold own_G2
  rw [own_uG_n (by omega)]
  by_cases q : i' = i
  · rw [own_uG_s q]
    by_cases r : j' = j
    · rw [if_pos ⟨q, r⟩, r, own_up_s]
    · rw [if_neg fun z => r z.2, own_up_n fun z => r (own_oi (by omega) (by omega) z), q]
  · rw [own_uG_n q, if_neg fun z => q z.1]
theorem own_G2_p (hi : i < 2) (hj : j < 4) (hi' : i' < 2) (hj' : j' < 4) : own_G2 G i j v (2 + j') (Int32.ofNat i') = if i' = i ∧ j' = j then v else G (2 + j') (Int32.ofNat i') := by
  unfold own_G2
  by_cases q : j' = j
  · rw [own_uG_s (by omega)]
    by_cases r : i' = i
    · rw [if_pos ⟨r, q⟩, r, own_up_s]
    · rw [if_neg fun z => r z.1, own_up_n fun z => r (own_oi (by omega) (by omega) z), own_uG_n (by omega), q]
  · rw [own_uG_n (by omega), own_uG_n (by omega), if_neg fun z => q z.2]
theorem own_Con_2 (hi : i < 2) (hj : j < 4) (H : own_Con G) : own_Con (own_G2 G i j v) := by
  intro i' j' hi' hj'
  rw [own_G2_n hi hj hi' hj', own_G2_p hi hj hi' hj', H i' j' hi' hj']
theorem own_M_2 {ms : List Int32} (hi : i < 2) (hj : j < 4) (H : own_M G ms) : own_M (own_G2 G i j v) (ms.set (i * 4 + j) v) := by
  obtain ⟨h1, h2⟩ := H
  refine ⟨by rw [List.length_set]; exact h1, fun i' j' hi' hj' => ?_⟩
  rw [own_gs (by omega), own_G2_n hi hj hi' hj', h2 i' j' hi' hj']
  by_cases q : i' = i ∧ j' = j
  · rw [if_pos q, if_pos (by omega)]
  · rw [if_neg q, if_neg (by omega)]
theorem own_B_2 {B B' : Int} (hi : i < 2) (hj : j < 4) (H : own_B G B) (h0 : 0 ≤ v.toInt) (h1 : v.toInt ≤ B') (h2 : B ≤ B') : own_B (own_G2 G i j v) B' := by
  intro i' j' hi' hj'
  rw [own_G2_n hi hj hi' hj']
  have := H i' j' hi' hj'
  split
  · exact ⟨h0, h1⟩
  · omega
theorem own_G2_0 (hi : i < 2) (hC : G (2 + j) (Int32.ofNat i) = G i (Int32.ofNat j)) : own_G2 G i j (G i (Int32.ofNat j)) = G := by
  funext x y
  unfold own_G2
  by_cases q : x = 2 + j
  · rw [own_uG_s q]
    by_cases r : y = Int32.ofNat i
    · rw [r, own_up_s, q, hC]
    · rw [own_up_n r, own_uG_n (by omega), q]
  · rw [own_uG_n q]
    by_cases q' : x = i
    · rw [own_uG_s q']
      by_cases r : y = Int32.ofNat j
      · rw [r, own_up_s, q']
      · rw [own_up_n r, q']
    · rw [own_uG_n q']
end OwnG
theorem own_z {x : Int32} (h1 : ¬ x < 0) (h2 : ¬ 0 < x) : x = 0 := by
  rw [Int32.lt_iff_toInt_lt] at h1 h2
  have e0 : (0 : Int32).toInt = 0 := rfl
  exact Int32.toInt_inj.mp (by omega)
theorem own_a0 (x y : Int32) (h : y = 0) : x + y = x := by subst h; simp
def own_dl (md cu : Int32) : Int32 := if md = (0 : Int32) then (-cu) else if md = (1 : Int32) then (-(cu >>> ((1 : Int32) &&& 31))) else (0 : Int32)
theorem own_dl_ok (md cu : Int32) (h0 : 0 ≤ cu.toInt) : own_dl md cu = 0 ∨ (¬ (cu + own_dl md cu) < 0 ∧ (0 < cu + own_dl md cu ∨ 0 < cu)) := by
  have e0 : (0 : Int32).toInt = 0 := rfl
  have r0 := rng32 cu
  unfold own_dl
  split
  · by_cases q : cu = 0
    · left; rw [q]; rfl
    · right
      have q' : ¬ cu.toInt = 0 := fun z => q (Int32.toInt_inj.mp (by rw [z, e0]))
      have h1 := c_ineg cu; have r1 := rng32 (-cu)
      have h2 := c_iadd cu (-cu); have r2 := rng32 (cu + -cu)
      rw [Int32.lt_iff_toInt_lt, Int32.lt_iff_toInt_lt, Int32.lt_iff_toInt_lt]
      omega
  · split
    · by_cases q : cu = 0
      · left; rw [q]; rfl
      · right
        have q' : ¬ cu.toInt = 0 := fun z => q (Int32.toInt_inj.mp (by rw [z, e0]))
        have h3 := c_ishr cu 1 1 (by decide)
        have e8 : ((2 ^ 1 : Nat) : Int) = 2 := rfl
        rw [e8] at h3
        have h1 := c_ineg (cu >>> ((1 : Int32) &&& 31)); have r1 := rng32 (-(cu >>> ((1 : Int32) &&& 31)))
        have h2 := c_iadd cu (-(cu >>> ((1 : Int32) &&& 31))); have r2 := rng32 (cu + -(cu >>> ((1 : Int32) &&& 31)))
        rw [Int32.lt_iff_toInt_lt, Int32.lt_iff_toInt_lt, Int32.lt_iff_toInt_lt]
        omega
    · left; rfl
theorem own_add_ok (cu tx : Int32) (B : Int) (h0 : 0 ≤ cu.toInt) (hB : cu.toInt ≤ B) (h1 : 0 ≤ tx.toInt) (h2 : tx.toInt ≤ 268435455) (hB' : B ≤ 1000000000) : (tx = 0 ∨ (¬ (cu + tx) < 0 ∧ (0 < cu + tx ∨ 0 < cu))) ∧ 0 ≤ (cu + tx).toInt ∧ (cu + tx).toInt ≤ B + 268435455 := by
  have e0 : (0 : Int32).toInt = 0 := rfl
  have h3 := c_iadd cu tx; have r2 := rng32 (cu + tx)
  have e1 : (cu + tx).toInt = cu.toInt + tx.toInt := by omega
  refine ⟨?_, by omega, by omega⟩
  by_cases q : tx = 0
  · exact Or.inl q
  · right
    have q' : ¬ tx.toInt = 0 := fun z => q (Int32.toInt_inj.mp (by rw [z, e0]))
    rw [Int32.lt_iff_toInt_lt, Int32.lt_iff_toInt_lt, Int32.lt_iff_toInt_lt]
    omega
theorem own_dl_b (md cu : Int32) (B : Int) (h0 : 0 ≤ cu.toInt) (hB : cu.toInt ≤ B) : True := trivial
theorem own_msk (x mm : Int32) (k B : Nat) (hB : 2 ^ k = B) (hB' : B ≤ 2147483648) (h0 : 0 < B) (hk : k ≤ 31) (hm : mm.toBitVec.toNat = 2 ^ k - 1) : ∃ n : Nat, n < B ∧ Int32.ofNat n = (x &&& mm) := by
  have h := c_mask x mm k hk hm
  rw [hB] at h
  have h1 := Int.emod_nonneg x.toInt (b := (B : Int)) (by omega)
  have h2 := Int.emod_lt_of_pos x.toInt (b := (B : Int)) (by omega)
  refine ⟨(x.toInt % (B : Int)).toNat, by omega, Int32.toInt_inj.mp ?_⟩
  rw [own_toInt_ofNat (by omega), h]; omega
theorem own_mb (x : Int32) : 0 ≤ (x &&& (268435455 : Int32)).toInt ∧ (x &&& (268435455 : Int32)).toInt ≤ 268435455 := by
  have h := c_mask x 268435455 28 (by decide) (by decide)
  have e : ((2 ^ 28 : Nat) : Int) = 268435456 := rfl
  rw [e] at h; omega
theorem own_x8 {i j : Nat} (hi : i < 2) (hj : j < 4) : Int32.ofNat (i * 4 + j) = Int32.ofNat i * (4 : Int32) + Int32.ofNat j := by
  match i, hi with
  | 0, _ => match j, hj with
    | 0, _ => decide
    | 1, _ => decide
    | 2, _ => decide
    | 3, _ => decide
  | 1, _ => match j, hj with
    | 0, _ => decide
    | 1, _ => decide
    | 2, _ => decide
    | 3, _ => decide
theorem own_x0 {i : Nat} (hi : i < 2) : Int32.ofNat (i * 4 + 0) = Int32.ofNat i * (4 : Int32) := by
  match i, hi with
  | 0, _ => decide
  | 1, _ => decide
theorem own_x1 {i : Nat} (hi : i < 2) : Int32.ofNat (i * 4 + 1) = Int32.ofNat i * (4 : Int32) + (1 : Int32) := by
  match i, hi with
  | 0, _ => decide
  | 1, _ => decide
theorem own_x2 {i : Nat} (hi : i < 2) : Int32.ofNat (i * 4 + 2) = Int32.ofNat i * (4 : Int32) + (2 : Int32) := by
  match i, hi with
  | 0, _ => decide
  | 1, _ => decide
theorem own_x3 {i : Nat} (hi : i < 2) : Int32.ofNat (i * 4 + 3) = Int32.ofNat i * (4 : Int32) + (3 : Int32) := by
  match i, hi with
  | 0, _ => decide
  | 1, _ => decide
theorem own_lt8 {i : Nat} (h : i < 8) : ¬ Int32.ofNat i < 0 ∧ Int32.ofNat i < (8 : Int32) := ⟨own_nn (by omega), (own_cmp (n := 8) (by omega) (by omega)).mpr h⟩
theorem own_g2 {O : Nat → Option own_Ob} {i : Nat} (h : i < 2) : [own_v (O 0), own_v (O 1)].getD (Int32.ofNat i).toNatClampNeg .null = own_v (O i) := by
  rw [own_ci (by omega)]
  match i, h with
  | 0, _ => rfl
  | 1, _ => rfl
theorem own_g4 {O : Nat → Option own_Ob} {j : Nat} (h : j < 4) : [own_v (O 2), own_v (O 3), own_v (O 4), own_v (O 5)].getD (Int32.ofNat j).toNatClampNeg .null = own_v (O (2 + j)) := by
  rw [own_ci (by omega)]
  match j, h with
  | 0, _ => rfl
  | 1, _ => rfl
  | 2, _ => rfl
  | 3, _ => rfl
def own_co (ks cs : List Int32) (qq : Nat) : Nat → Nat → List Int32 → List Int32
  | 0, _, xs => xs
  | nn + 1, i, xs => own_co ks cs qq nn (i + 1) (if ks.getD i 0 < 0 then xs else if ks.getD i 0 < Int32.ofNat qq then xs.set (ks.getD i 0).toNatClampNeg (cs.getD i 0) else xs)
theorem own_co_len (ks cs : List Int32) (qq : Nat) : ∀ (nn i : Nat) (xs : List Int32), (own_co ks cs qq nn i xs).length = xs.length
  | 0, _, _ => rfl
  | nn + 1, i, xs => by
    unfold own_co
    rw [own_co_len ks cs qq nn]
    split
    · rfl
    · split
      · rw [List.length_set]
      · rfl
theorem own_co_get {F : Int32 → Int32} {ks cs : List Int32} {qq : Nat} (C : own_C F ks cs) (hq : qq < 100) : ∀ (nn i : Nat) (xs : List Int32), i + nn = ks.length → xs.length = qq → ∀ y, y < qq → (Int32.ofNat y ∈ ks ∧ (own_co ks cs qq nn i xs).getD y 0 = F (Int32.ofNat y)) ∨ ((own_co ks cs qq nn i xs).getD y 0 = xs.getD y 0 ∧ ∀ j, i ≤ j → j < ks.length → ¬ ks.getD j 0 = Int32.ofNat y)
  | 0, i, xs, hl, hx, y, hy => Or.inr ⟨rfl, fun j h1 h2 => absurd h2 (by omega)⟩
  | nn + 1, i, xs, hl, hx, y, hy => by
    have hil : i < ks.length := by omega
    have yn : ¬ Int32.ofNat y < 0 := own_nn (by omega)
    obtain ⟨xs', hxs⟩ : ∃ z, z = (if ks.getD i 0 < 0 then xs else if ks.getD i 0 < Int32.ofNat qq then xs.set (ks.getD i 0).toNatClampNeg (cs.getD i 0) else xs) := ⟨_, rfl⟩
    have e1 : own_co ks cs qq (nn + 1) i xs = own_co ks cs qq nn (i + 1) xs' := by rw [hxs]; rfl
    have hx' : xs'.length = qq := by
      rw [hxs]; split
      · exact hx
      · split
        · rw [List.length_set]; exact hx
        · exact hx
    rw [e1]
    rcases own_co_get C hq nn (i + 1) xs' (by omega) hx' y hy with h | ⟨h1, h2⟩
    · exact Or.inl h
    · have step : ∀ (z : ¬ ks.getD i 0 = Int32.ofNat y), ∀ j, i ≤ j → j < ks.length → ¬ ks.getD j 0 = Int32.ofNat y := fun z j hj hj2 => by
        by_cases r : j = i
        · rw [r]; exact z
        · exact h2 j (by omega) hj2
      by_cases q1 : ks.getD i 0 < 0
      · rw [if_pos q1] at hxs
        refine Or.inr ⟨by rw [h1, hxs], step fun z => yn (z ▸ q1)⟩
      · rw [if_neg q1] at hxs
        by_cases q2 : ks.getD i 0 < Int32.ofNat qq
        · rw [if_pos q2] at hxs
          have b1 : (ks.getD i 0).toNatClampNeg < xs.length := by
            rw [Int32.lt_iff_toInt_lt] at q1 q2
            rw [own_toInt_ofNat (by omega)] at q2
            have e0 : (0 : Int32).toInt = 0 := rfl
            simp only [Int32.toNatClampNeg]; omega
          by_cases q3 : ks.getD i 0 = Int32.ofNat y
          · refine Or.inl ⟨q3 ▸ own_mem hil, ?_⟩
            rw [h1, hxs, own_gs b1, if_pos (by rw [q3]; exact own_ci (by omega)), C i hil q1, q3]
          · refine Or.inr ⟨?_, step q3⟩
            rw [h1, hxs, own_gs b1, if_neg]
            intro z
            refine q3 (Int32.toInt_inj.mp ?_)
            rw [own_toInt_ofNat (by omega)]
            rw [Int32.lt_iff_toInt_lt] at q1
            have e0 : (0 : Int32).toInt = 0 := rfl
            simp only [Int32.toNatClampNeg] at z; omega
        · rw [if_neg q2] at hxs
          refine Or.inr ⟨by rw [h1, hxs], step fun z => q2 ?_⟩
          rw [z]; exact (own_cmp (by omega) hq).mpr hy
theorem own_co_all {F : Int32 → Int32} {ks cs : List Int32} {qq : Nat} (H : own_Ct F ks cs) (hq : qq < 100) : ∀ y, y < qq → (own_co ks cs qq ks.length 0 (List.replicate qq 0)).getD y 0 = F (Int32.ofNat y) := by
  intro y hy
  rcases own_co_get H.2.1 hq ks.length 0 (List.replicate qq 0) (by omega) (by simp) y hy with ⟨-, h⟩ | ⟨h1, h2⟩
  · exact h
  · rw [h1, H.2.2.1 (Int32.ofNat y) fun z => ?_]
    · simp [List.getD_eq_getElem?_getD, List.getElem?_replicate, hy]
    · obtain ⟨j, hj, e⟩ := List.mem_iff_getElem.mp z
      refine h2 j (Nat.zero_le _) hj ?_
      rw [List.getD_eq_getElem?_getD, List.getElem?_eq_getElem hj]; exact e
theorem own_gr_eq {ks : List Int32} (h : ks.length = 4) : own_gr ks = own_it (own_it (own_it (own_it own_e8 (ks.getD 0 0)) (ks.getD 1 0)) (ks.getD 2 0)) (ks.getD 3 0) := by
  match ks, h with
  | [_, _, _, _], _ => rfl
theorem own_gw_eq {ks : List Int32} (h : ks.length = 4) (g : own_gw ks = true) : own_ok own_e8 (ks.getD 0 0) = true ∧ own_ok (own_it own_e8 (ks.getD 0 0)) (ks.getD 1 0) = true ∧ own_ok (own_it (own_it own_e8 (ks.getD 0 0)) (ks.getD 1 0)) (ks.getD 2 0) = true ∧ own_ok (own_it (own_it (own_it own_e8 (ks.getD 0 0)) (ks.getD 1 0)) (ks.getD 2 0)) (ks.getD 3 0) = true := by
  match ks, h, g with
  | [_, _, _, _], _, g => simp only [own_gw, Bool.and_eq_true] at g; exact g
theorem own_C_e8 (F : Int32 → Int32) (cs : List Int32) : own_C F own_e8 cs := by
  intro i hi hn
  match i, hi with
  | 0, _ => exact absurd (by decide) hn
  | 1, _ => exact absurd (by decide) hn
  | 2, _ => exact absurd (by decide) hn
  | 3, _ => exact absurd (by decide) hn
  | 4, _ => exact absurd (by decide) hn
  | 5, _ => exact absurd (by decide) hn
  | 6, _ => exact absurd (by decide) hn
  | 7, _ => exact absurd (by decide) hn
theorem own_ln_in (ks : List Int32) (k : Int32) : own_ln (own_in ks k) = own_ln ks := own_ln_set _ _ _
theorem own_len_in {ks cs : List Int32} {i : Nat} {k v : Int32} (h : cs.length = ks.length) : (cs.set i v).length = (own_in ks k).length := by unfold own_in; rw [List.length_set, List.length_set]; exact h
theorem own_len_in' (ks : List Int32) (k : Int32) : (own_in ks k).length = ks.length := by unfold own_in; rw [List.length_set]
theorem own_ln4 {ks : List Int32} (h : ks.length = 4) : own_ln ks = (4 : Int32) := by unfold own_ln; rw [h]; rfl
theorem own_2ln {ks : List Int32} (h : ks.length = 4) : (8 : Int32) = (2 : Int32) * own_ln ks := by rw [own_ln4 h]; rfl
theorem own_lt4 {i : Nat} (h : i < 4) : ¬ Int32.ofNat i < 0 ∧ Int32.ofNat i < (4 : Int32) := ⟨own_nn (by omega), (own_cmp (n := 4) (by omega) (by omega)).mpr h⟩
theorem own_lt2 {i : Nat} (h : i < 2) : ¬ Int32.ofNat i < 0 ∧ Int32.ofNat i < (2 : Int32) := ⟨own_nn (by omega), (own_cmp (n := 2) (by omega) (by omega)).mpr h⟩
theorem own_ltl {ks : List Int32} {i : Nat} (l4 : ks.length = 4 ∨ ks.length = 8) (h : i < ks.length) : ¬ Int32.ofNat i < 0 ∧ Int32.ofNat i < own_ln ks := ⟨own_nn (by omega), (own_cmp (by omega) (by omega)).mpr h⟩
theorem own_ltq {x : Int32} {qq : Nat} {xs : List Int32} (hq : qq < 100) (hx : xs.length = qq) (h : ¬ x < 0 ∧ x < Int32.ofNat qq) : x.toNatClampNeg < (xs.map Value.int).length := by
  rw [List.length_map, hx]
  obtain ⟨q1, q2⟩ := h
  rw [Int32.lt_iff_toInt_lt] at q1 q2
  rw [own_toInt_ofNat (by omega)] at q2
  have e0 : (0 : Int32).toInt = 0 := rfl
  simp only [Int32.toNatClampNeg]; omega
theorem own_notin1 {x y : Addr} (h : x ≠ y) : x ∉ [y] := ninS h nin0
theorem own_notin2 {x y z : Addr} (h : x ≠ y) (h2 : x ≠ z) : x ∉ [y, z] := ninS h (ninS h2 nin0)
theorem own_notin3 {x y z u : Addr} (h : x ≠ y) (h2 : x ≠ z) (h3 : x ≠ u) : x ∉ [y, z, u] := ninS h (ninS h2 (ninS h3 nin0))
theorem own_gk {h0 : Heap} {a x1 x2 : Addr} (z1 : h0.size ≤ x1) (z2 : h0.size ≤ x2) : ∀ x ∈ [a, x1, x2], x ∈ [a] ∨ h0.size ≤ x := fun x hx => by
  simp only [List.mem_cons, List.not_mem_nil, or_false] at hx ⊢
  rcases hx with rfl | rfl | rfl
  · exact Or.inl rfl
  · exact Or.inr z1
  · exact Or.inr z2
theorem own_M_0 : own_M (fun _ _ => 0) [0, 0, 0, 0, 0, 0, 0, 0] := by
  refine ⟨rfl, fun i j hi hj => ?_⟩
  match i, hi with
  | 0, _ => match j, hj with
    | 0, _ => rfl
    | 1, _ => rfl
    | 2, _ => rfl
    | 3, _ => rfl
  | 1, _ => match j, hj with
    | 0, _ => rfl
    | 1, _ => rfl
    | 2, _ => rfl
    | 3, _ => rfl
theorem own_ixg {xs : List Int32} {jq q : Nat} {v : Int32} (hj : jq < 8) (hq : q < 8) (h : q < jq → xs.getD q 0 = v) : ¬ Int32.ofNat q < Int32.ofNat jq ∨ own_g xs (Int32.ofNat q) = v := by
  by_cases z : q < jq
  · right; unfold own_g; rw [own_ci (by omega)]; exact h z
  · left; intro y; exact z ((own_cmp (by omega) (by omega)).mp y)
theorem own_ix4 {G : Nat → Int32 → Int32} {xs : List Int32} {iq jq q : Nat} {v : Int32} (hj : jq < 8) (hq : q < 8) (gr : ∀ x, x < jq → xs.getD x 0 = G iq (Int32.ofNat x)) (hm : v = G iq (Int32.ofNat q)) : ¬ Int32.ofNat q < Int32.ofNat jq ∨ own_g xs (Int32.ofNat q) = v :=
  own_ixg hj hq fun z => by rw [gr q z, hm]
theorem own_ix0 {G : Nat → Int32 → Int32} {xs : List Int32} {iq jq q : Nat} (hj : jq < 8) (hq : q < 8) (gr : ∀ x, x < jq → xs.getD x 0 = G iq (Int32.ofNat x)) (hm : G iq (Int32.ofNat q) = 0) : ¬ Int32.ofNat q < Int32.ofNat jq ∨ own_g xs (Int32.ofNat q) = 0 :=
  own_ixg hj hq fun z => by rw [gr q z, hm]
theorem own_G_hi {Z : State} {n0 : Nat} {h : Heap} {oh nb pb : Addr} {O : Nat → Option own_Ob} {w : Addr → Nat} {G : Nat → Int32 → Int32} (H : own_I Z n0 h oh nb pb O w G) {iq : Nat} (hi : iq < 2) : ∀ x, 4 ≤ x → x < 100 → G iq (Int32.ofNat x) = 0 := by
  intro x hx hx2
  obtain ⟨-, -, -, -, -, HO, HG, -⟩ := H
  cases hO : O iq with
  | none => exact HG iq (by omega) hO _
  | some b =>
    obtain ⟨-, ⟨t1, t2, t3, t4⟩, -⟩ := HO iq b (by omega) hO
    refine t3 _ fun z => ?_
    rcases own_D5 _ t1 _ z with q | q
    · exact own_nn (by omega) q
    · unfold own_K at q
      simp only [List.mem_cons, List.not_mem_nil, or_false] at q
      have c : ∀ y : Nat, y < 4 → ¬ Int32.ofNat x = Int32.ofNat y := fun y hy e => by have := own_oi (by omega) (by omega) e; omega
      rcases q with q | q | q | q
      · exact c 0 (by omega) q
      · exact c 1 (by omega) q
      · exact c 2 (by omega) q
      · exact c 3 (by omega) q

def own_sp (x : Slot) : Prop := x = .unset ∨ ∃ i, x = .val (.int i)
theorem own_s5 {a b c d e L5 L6 : Slot} {v : Int32} (h : own_sp L5) : storeLocals #[a, b, c, d, e, L5, L6] 5 (.int v) = some #[a, b, c, d, e, .val (.int v), L6] := by rcases h with rfl | ⟨i, rfl⟩ <;> rfl
theorem own_s6 {a b c d e L5 L6 : Slot} {v : Int32} (h : own_sp L6) : storeLocals #[a, b, c, d, e, L5, L6] 6 (.int v) = some #[a, b, c, d, e, L5, .val (.int v)] := by rcases h with rfl | ⟨i, rfl⟩ <;> rfl
def QH (Z : State) (ky : Int32) (mm : Int32) (h0 : Heap) (n0 : Nat) (v : Option Value) (h : Heap) (L : List Loc) : Prop := v = some (.int (own_hm ky mm)) ∧ Fr n0 L ∧ h = h0
theorem ef_H (m : MethodId) (x0 : Int32) (x1 : Int32) : entryFrame m #[(.int x0), (.int x1)] 3 = mkF m 0 #[.val (.int x0), .val (.int x1), .unset] [] := by first | (simp [entryFrame, mkF, argsToLocals, Value.category]; done) | rfl
theorem pn_HeldTasks_Counts : plainName "com/example/weir/weir/model/HeldTasks$Counts" = true := by first | (simp [plainName, overriddenIn]; done) | decide +kernel
theorem d_prog_82_method_7_0 : decode prog_82_method_7_code 0 = .ok (.iload_n 0, 1) := by decide +kernel
theorem d_prog_82_method_7_1 : decode prog_82_method_7_code 1 = .ok (.ldc 45, 2) := by decide +kernel
theorem d_prog_82_method_7_3 : decode prog_82_method_7_code 3 = .ok (.imul, 1) := by decide +kernel
theorem d_prog_82_method_7_4 : decode prog_82_method_7_code 4 = .ok (.istore_n 2, 1) := by decide +kernel
theorem d_prog_82_method_7_5 : decode prog_82_method_7_code 5 = .ok (.iload_n 2, 1) := by decide +kernel
theorem d_prog_82_method_7_6 : decode prog_82_method_7_code 6 = .ok (.iload_n 2, 1) := by decide +kernel
theorem d_prog_82_method_7_7 : decode prog_82_method_7_code 7 = .ok (.bipush 16, 2) := by decide +kernel
theorem d_prog_82_method_7_9 : decode prog_82_method_7_code 9 = .ok (.iushr, 1) := by decide +kernel
theorem d_prog_82_method_7_10 : decode prog_82_method_7_code 10 = .ok (.ixor, 1) := by decide +kernel
theorem d_prog_82_method_7_11 : decode prog_82_method_7_code 11 = .ok (.iload_n 1, 1) := by decide +kernel
theorem d_prog_82_method_7_12 : decode prog_82_method_7_code 12 = .ok (.iand, 1) := by decide +kernel
theorem d_prog_82_method_7_13 : decode prog_82_method_7_code 13 = .ok (.ireturn, 1) := by decide +kernel
set_option maxRecDepth 65536 in
set_option maxHeartbeats 40000000 in
theorem rmH (l : Launch) (Z : State) (a0 : Array Value) (hw : ∀ d ∈ tables_1, d.before a0 Z = true) (ws : List Jvm.Cond) (ky : Int32) (mm : Int32) (h0 : Heap) (n0 : Nat) (Z0 : n0 ≤ h0.size) :
    MetFree l (⟨"com/example/weir/weir/model/HeldTasks$Counts", "home", "(II)I"⟩ : MethodName) (head1 (Jvm.Cond.code (⟨"com/example/weir/weir/model/HeldTasks$Counts", "home", "(II)I"⟩ : MethodName) prog_82_method_7_code 3 (some .int) :: ws) ({ frames := 0, cells := 0, slots := 0, locals := 0 } : Room)) (fun a_ U_ => a_ = #[(.int ky), (.int mm)] ∧ Z.Warmed39 U_.vm ∧ U_.heap = h0) (fun _ _ _ _ _ => True) (fun _ U_ o_ E_ => ∃ v_ L_, o_ = .returned v_ ∧ QH Z ky mm h0 n0 v_ E_.heap L_ ∧ FrameEnd U_ o_ E_ L_ ({ frames := 0, cells := 0, slots := 0, locals := 0 } : Room).cells ({ frames := 0, cells := 0, slots := 0, locals := 0 } : Room).slots) := by
  refine MetFree.of_bodySF (plainFor_of_name pn_HeldTasks_Counts) hisR ?_
  intro p e s m args below meth c s₁ Bd hml0 hP hK
  obtain ⟨rfl, hZ, hh⟩ := hP
  have hx := Bd.exec
  have hby := Bd.bytes
  have hml : c.maxLocals = 3 := hml0
  have hown : s.vm.findClass "com/example/weir/weir/model/HeldTasks$Counts" = some m.cls := findClass_of_methodNamed Bd.named
  have hnm := (name_of_methodNamed Bd.named Bd.method).1
  have X0 : Stand p l e ({ frames := 0, cells := 0, slots := 0, locals := 0 } : Room) s m #[(.int ky), (.int mm)] below meth c s₁ [] 0 0 := Stand.of_body Bd
  have e0 : s₁.heap = h0 := by rw [← hh, Bd.state]; rfl
  have N0 := Fr.nil n0
  have Zn := Z0
  have pre0 : ∀ t, Steps p.tables e below (s₁.setTop (mkF m 0 #[.val (.int ky), .val (.int mm), .unset] [])) t → Steps p.tables e below (s₁.setTop (entryFrame m #[(.int ky), (.int mm)] 3)) t := fun t q => castTop (ef_H m ky mm) q
  have k0 : ∀ t, Steps p.tables e below (s₁.setTop (mkF m 0 #[.val (.int ky), .val (.int mm), .unset] [])) t → Steps p.tables e below (s₁.setTop (mkF m 0 #[.val (.int ky), .val (.int mm), .unset] [])) t := fun t q => q
  have k1_ : ∀ t, Steps p.tables e below (s₁.setTop (mkF m 13 #[.val (.int ky), .val (.int mm), .val (.int (ky * (-1640531527 : Int32)))] [(.int (((ky * (-1640531527 : Int32)) ^^^ (((ky * (-1640531527 : Int32)).toUInt32 >>> ((16 : Int32) &&& 31).toUInt32).toInt32)) &&& mm))])) t → Steps p.tables e below (s₁.setTop (mkF m 0 #[.val (.int ky), .val (.int mm), .unset] [])) t := by
    intro t q
    refine k0 _ ?_
    show Steps p.tables e below (s₁.setTop (mkF m 0 #[.val (.int ky), .val (.int mm), .unset] [])) _
    refine XS.iloadN X0.here hx rfl (hb hby d_prog_82_method_7_0) rfl ?_
    show Steps p.tables e below (s₁.setTop (mkF m 1 #[.val (.int ky), .val (.int mm), .unset] [(.int ky)])) _
    refine X0.ldcInt hx hown (mvT hZ (hw _ (List.mem_of_getElem? (i := 59) rfl))) (g := (mkF m 1 #[.val (.int ky), .val (.int mm), .unset] [(.int ky)])) rfl (hb hby d_prog_82_method_7_1) _ ?_
    show Steps p.tables e below (s₁.setTop (mkF m 3 #[.val (.int ky), .val (.int mm), .unset] [(.int (-1640531527 : Int32)), (.int ky)])) _
    refine XS.imul X0.here hx rfl (hb hby d_prog_82_method_7_3) rfl ?_
    show Steps p.tables e below (s₁.setTop (mkF m 4 #[.val (.int ky), .val (.int mm), .unset] [(.int (ky * (-1640531527 : Int32)))])) _
    refine XS.istoreN X0.here hx rfl (hb hby d_prog_82_method_7_4) rfl (l' := #[.val (.int ky), .val (.int mm), .val (.int (ky * (-1640531527 : Int32)))]) rfl ?_
    show Steps p.tables e below (s₁.setTop (mkF m 5 #[.val (.int ky), .val (.int mm), .val (.int (ky * (-1640531527 : Int32)))] [])) _
    refine XS.iloadN X0.here hx rfl (hb hby d_prog_82_method_7_5) rfl ?_
    show Steps p.tables e below (s₁.setTop (mkF m 6 #[.val (.int ky), .val (.int mm), .val (.int (ky * (-1640531527 : Int32)))] [(.int (ky * (-1640531527 : Int32)))])) _
    refine XS.iloadN X0.here hx rfl (hb hby d_prog_82_method_7_6) rfl ?_
    show Steps p.tables e below (s₁.setTop (mkF m 7 #[.val (.int ky), .val (.int mm), .val (.int (ky * (-1640531527 : Int32)))] [(.int (ky * (-1640531527 : Int32))), (.int (ky * (-1640531527 : Int32)))])) _
    refine XS.bipush X0.here hx rfl (hb hby d_prog_82_method_7_7) ?_
    show Steps p.tables e below (s₁.setTop (mkF m 9 #[.val (.int ky), .val (.int mm), .val (.int (ky * (-1640531527 : Int32)))] [(.int (16 : Int32)), (.int (ky * (-1640531527 : Int32))), (.int (ky * (-1640531527 : Int32)))])) _
    refine XS.iushr X0.here hx rfl (hb hby d_prog_82_method_7_9) rfl ?_
    show Steps p.tables e below (s₁.setTop (mkF m 10 #[.val (.int ky), .val (.int mm), .val (.int (ky * (-1640531527 : Int32)))] [(.int (((ky * (-1640531527 : Int32)).toUInt32 >>> ((16 : Int32) &&& 31).toUInt32).toInt32)), (.int (ky * (-1640531527 : Int32)))])) _
    refine XS.ixor X0.here hx rfl (hb hby d_prog_82_method_7_10) rfl ?_
    show Steps p.tables e below (s₁.setTop (mkF m 11 #[.val (.int ky), .val (.int mm), .val (.int (ky * (-1640531527 : Int32)))] [(.int ((ky * (-1640531527 : Int32)) ^^^ (((ky * (-1640531527 : Int32)).toUInt32 >>> ((16 : Int32) &&& 31).toUInt32).toInt32)))])) _
    refine XS.iloadN X0.here hx rfl (hb hby d_prog_82_method_7_11) rfl ?_
    show Steps p.tables e below (s₁.setTop (mkF m 12 #[.val (.int ky), .val (.int mm), .val (.int (ky * (-1640531527 : Int32)))] [(.int mm), (.int ((ky * (-1640531527 : Int32)) ^^^ (((ky * (-1640531527 : Int32)).toUInt32 >>> ((16 : Int32) &&& 31).toUInt32).toInt32)))])) _
    refine XS.iand X0.here hx rfl (hb hby d_prog_82_method_7_12) rfl ?_
    show Steps p.tables e below (s₁.setTop (mkF m 13 #[.val (.int ky), .val (.int mm), .val (.int (ky * (-1640531527 : Int32)))] [(.int (((ky * (-1640531527 : Int32)) ^^^ (((ky * (-1640531527 : Int32)).toUInt32 >>> ((16 : Int32) &&& 31).toUInt32).toInt32)) &&& mm))])) _
    exact q
  obtain ⟨fs, hr, hrun, hended, hW, hsame⟩ := X0.leave (v := some (.int (((ky * (-1640531527 : Int32)) ^^^ (((ky * (-1640531527 : Int32)).toUInt32 >>> ((16 : Int32) &&& 31).toUInt32).toInt32)) &&& mm))) (fun h => by rw [Bd.returns] at h; cases h)
  refine ⟨_, _, pre0 _ (k1_ _ ?_), hrun, hended, _, _, rfl, ?_, ⟨_, rfl⟩, hW, hsame.mono (by decide) (by decide)⟩
  · show Steps p.tables e below (s₁.setTop (mkF m 13 #[.val (.int ky), .val (.int mm), .val (.int (ky * (-1640531527 : Int32)))] [(.int (((ky * (-1640531527 : Int32)) ^^^ (((ky * (-1640531527 : Int32)).toUInt32 >>> ((16 : Int32) &&& 31).toUInt32).toInt32)) &&& mm))])) _
    exact retI X0 hx Bd.returns (hb hby d_prog_82_method_7_13) hr
  · show QH Z ky mm h0 n0 _ s₁.heap _
    rw [e0]
    exact ⟨rfl, N0, rfl⟩
def QI (Z : State) (a : Addr) (h0 : Heap) (n0 : Nat) (v : Option Value) (h : Heap) (L : List Loc) : Prop := v = none ∧ Fr n0 L ∧ ∃ kb cb, own_Cn Z n0 h a kb cb [-1, -1, -1, -1] [0, 0, 0, 0] ∧ h0.size ≤ kb ∧ h0.size ≤ cb ∧ Keep h0 h [a]
theorem ef_I (m : MethodId) (x0 : Addr) : entryFrame m #[(.ref x0)] 1 = mkF m 0 #[.val (.ref x0)] [] := by first | (simp [entryFrame, mkF, argsToLocals, Value.category]; done) | rfl
theorem d_prog_82_method_1_0 : decode prog_82_method_1_code 0 = .ok (.aload_n 0, 1) := by decide +kernel
theorem d_prog_82_method_1_1 : decode prog_82_method_1_code 1 = .ok (.invokespecial 1, 3) := by decide +kernel
theorem d_prog_82_method_1_4 : decode prog_82_method_1_code 4 = .ok (.aload_n 0, 1) := by decide +kernel
theorem d_prog_82_method_1_5 : decode prog_82_method_1_code 5 = .ok (.iconst 4, 1) := by decide +kernel
theorem d_prog_82_method_1_6 : decode prog_82_method_1_code 6 = .ok (.newarray .int, 2) := by decide +kernel
theorem d_prog_82_method_1_8 : decode prog_82_method_1_code 8 = .ok (.dup, 1) := by decide +kernel
theorem d_prog_82_method_1_9 : decode prog_82_method_1_code 9 = .ok (.iconst 0, 1) := by decide +kernel
theorem d_prog_82_method_1_10 : decode prog_82_method_1_code 10 = .ok (.iconst (-1), 1) := by decide +kernel
theorem d_prog_82_method_1_11 : decode prog_82_method_1_code 11 = .ok (.iastore, 1) := by decide +kernel
theorem d_prog_82_method_1_12 : decode prog_82_method_1_code 12 = .ok (.dup, 1) := by decide +kernel
theorem d_prog_82_method_1_13 : decode prog_82_method_1_code 13 = .ok (.iconst 1, 1) := by decide +kernel
theorem d_prog_82_method_1_14 : decode prog_82_method_1_code 14 = .ok (.iconst (-1), 1) := by decide +kernel
theorem d_prog_82_method_1_15 : decode prog_82_method_1_code 15 = .ok (.iastore, 1) := by decide +kernel
theorem d_prog_82_method_1_16 : decode prog_82_method_1_code 16 = .ok (.dup, 1) := by decide +kernel
theorem d_prog_82_method_1_17 : decode prog_82_method_1_code 17 = .ok (.iconst 2, 1) := by decide +kernel
theorem d_prog_82_method_1_18 : decode prog_82_method_1_code 18 = .ok (.iconst (-1), 1) := by decide +kernel
theorem d_prog_82_method_1_19 : decode prog_82_method_1_code 19 = .ok (.iastore, 1) := by decide +kernel
theorem d_prog_82_method_1_20 : decode prog_82_method_1_code 20 = .ok (.dup, 1) := by decide +kernel
theorem d_prog_82_method_1_21 : decode prog_82_method_1_code 21 = .ok (.iconst 3, 1) := by decide +kernel
theorem d_prog_82_method_1_22 : decode prog_82_method_1_code 22 = .ok (.iconst (-1), 1) := by decide +kernel
theorem d_prog_82_method_1_23 : decode prog_82_method_1_code 23 = .ok (.iastore, 1) := by decide +kernel
theorem d_prog_82_method_1_24 : decode prog_82_method_1_code 24 = .ok (.putfield 7, 3) := by decide +kernel
theorem d_prog_82_method_1_27 : decode prog_82_method_1_code 27 = .ok (.aload_n 0, 1) := by decide +kernel
theorem d_prog_82_method_1_28 : decode prog_82_method_1_code 28 = .ok (.iconst 4, 1) := by decide +kernel
theorem d_prog_82_method_1_29 : decode prog_82_method_1_code 29 = .ok (.newarray .int, 2) := by decide +kernel
theorem d_prog_82_method_1_31 : decode prog_82_method_1_code 31 = .ok (.putfield 13, 3) := by decide +kernel
theorem d_prog_82_method_1_34 : decode prog_82_method_1_code 34 = .ok (.return_, 1) := by decide +kernel
set_option maxRecDepth 65536 in
set_option maxHeartbeats 40000000 in
theorem rmI (l : Launch) (Z : State) (a0 : Array Value) (hw : ∀ d ∈ tables_1, d.before a0 Z = true) (ws : List Jvm.Cond) (a : Addr) (h0 : Heap) (n0 : Nat) (Z0 : n0 ≤ h0.size) (EA : Exa Z h0 a "com/example/weir/weir/model/HeldTasks$Counts") (FK : Fld Z h0 a "com/example/weir/weir/model/HeldTasks$Counts" "keys" "[I" .null) (FC : Fld Z h0 a "com/example/weir/weir/model/HeldTasks$Counts" "counts" "[I" .null) (FS : Fld Z h0 a "com/example/weir/weir/model/HeldTasks$Counts" "size" "I" (.int (0 : Int32))) (ga : n0 ≤ a) :
    MetFree l (⟨"com/example/weir/weir/model/HeldTasks$Counts", "<init>", "()V"⟩ : MethodName) (head1 (Jvm.Cond.code (⟨"com/example/weir/weir/model/HeldTasks$Counts", "<init>", "()V"⟩ : MethodName) prog_82_method_1_code 1 none :: ws) ({ frames := 1, cells := 2, slots := 8, locals := 12 } : Room)) (fun a_ U_ => a_ = #[(.ref a)] ∧ Z.Warmed39 U_.vm ∧ U_.heap = h0) (fun _ _ _ _ _ => True) (fun _ U_ o_ E_ => ∃ v_ L_, o_ = .returned v_ ∧ QI Z a h0 n0 v_ E_.heap L_ ∧ FrameEnd U_ o_ E_ L_ ({ frames := 1, cells := 2, slots := 8, locals := 12 } : Room).cells ({ frames := 1, cells := 2, slots := 8, locals := 12 } : Room).slots) := by
  refine MetFree.of_bodySF (plainFor_of_name pn_HeldTasks_Counts) hisR ?_
  intro p e s m args below meth c s₁ Bd hml0 hP hK
  obtain ⟨rfl, hZ, hh⟩ := hP
  have hx := Bd.exec
  have hby := Bd.bytes
  have hml : c.maxLocals = 1 := hml0
  have hown : s.vm.findClass "com/example/weir/weir/model/HeldTasks$Counts" = some m.cls := findClass_of_methodNamed Bd.named
  have hnm := (name_of_methodNamed Bd.named Bd.method).1
  have X0 : Stand p l e ({ frames := 1, cells := 2, slots := 8, locals := 12 } : Room) s m #[(.ref a)] below meth c s₁ [] 0 0 := Stand.of_body Bd
  have e0 : s₁.heap = h0 := by rw [← hh, Bd.state]; rfl
  have N0 := Fr.nil n0
  have Zn := Z0
  have pre0 : ∀ t, Steps p.tables e below (s₁.setTop (mkF m 0 #[.val (.ref a)] [])) t → Steps p.tables e below (s₁.setTop (entryFrame m #[(.ref a)] 1)) t := fun t q => castTop (ef_I m a) q
  have k0 : ∀ t, Steps p.tables e below (s₁.setTop (mkF m 0 #[.val (.ref a)] [])) t → Steps p.tables e below (s₁.setTop (mkF m 0 #[.val (.ref a)] [])) t := fun t q => q
  have k1_ : ∀ t, Steps p.tables e below (s₁.setTop (mkF m 1 #[.val (.ref a)] [(.ref a)])) t → Steps p.tables e below (s₁.setTop (mkF m 0 #[.val (.ref a)] [])) t := by
    intro t q
    refine k0 _ ?_
    show Steps p.tables e below (s₁.setTop (mkF m 0 #[.val (.ref a)] [])) _
    refine XS.aloadN X0.here hx rfl (hb hby d_prog_82_method_1_0) rfl rfl ?_
    show Steps p.tables e below (s₁.setTop (mkF m 1 #[.val (.ref a)] [(.ref a)])) _
    exact q
  obtain ⟨T2, X2, e2, st2⟩ := initO X0 hx hZ hown (hw _ (List.mem_of_getElem? (i := 45) rfl)) (hw _ (List.mem_of_getElem? (i := 7) rfl)) (hw _ (List.mem_of_getElem? (i := 8) rfl)) e0 (g := (mkF m 1 #[.val (.ref a)] [(.ref a)])) rfl (by rw [hml]; rfl) rfl (hb hby d_prog_82_method_1_1) (by decide) (W := 0) (by show 2 * 0 + _ ≤ _; exact Nat.le_of_eq rfl) (by decide)
  have k3_ : ∀ t, Steps p.tables e below (T2.setTop (mkF m 4 #[.val (.ref a)] [])) t → Steps p.tables e below (s₁.setTop (mkF m 0 #[.val (.ref a)] [])) t := fun t q => k1_ t (st2 t q)
  have KP := Keep.refl h0 [a]
  have k4_ : ∀ t, Steps p.tables e below (T2.setTop (mkF m 6 #[.val (.ref a)] [(.int (4 : Int32)), (.ref a)])) t → Steps p.tables e below (s₁.setTop (mkF m 0 #[.val (.ref a)] [])) t := by
    intro t q
    refine k3_ _ ?_
    show Steps p.tables e below (T2.setTop (mkF m 4 #[.val (.ref a)] [])) _
    refine XS.aloadN X2.here hx rfl (hb hby d_prog_82_method_1_4) rfl rfl ?_
    show Steps p.tables e below (T2.setTop (mkF m 5 #[.val (.ref a)] [(.ref a)])) _
    refine XS.iconst X2.here hx rfl (hb hby d_prog_82_method_1_5) ?_
    show Steps p.tables e below (T2.setTop (mkF m 6 #[.val (.ref a)] [(.int (4 : Int32)), (.ref a)])) _
    exact q
  obtain ⟨T5, h5, c5, X5, e5, E5, A5, st5⟩ := newP X2 hx hZ (hw _ (List.mem_of_getElem? (i := 15) rfl)) e2 (g := (mkF m 6 #[.val (.ref a)] [(.int (4 : Int32)), (.ref a)])) rfl (hb hby d_prog_82_method_1_6) rfl (by decide) (cap := 4) (by decide) (by decide) (by decide) (by decide)
  obtain ⟨b5, g5⟩ : ∃ z, z = h0.size := ⟨_, rfl⟩
  rw [← g5] at A5 st5
  have k6_ : ∀ t, Steps p.tables e below (T5.setTop (mkF m 8 #[.val (.ref a)] [(.ref b5), (.ref a)])) t → Steps p.tables e below (s₁.setTop (mkF m 0 #[.val (.ref a)] [])) t := fun t q => k4_ t (st5 t q)
  have ne_a_b5 : a ≠ b5 := Nat.ne_of_lt (Nat.lt_of_lt_of_le EA.lt (Nat.le_of_eq g5.symm))
  have g_b5 : n0 ≤ b5 := Nat.le_trans Zn (Nat.le_of_eq g5.symm)
  replace Zn := Nat.le_trans Zn E5.1
  replace EA := EA.ext E5
  replace FK := FK.ext E5
  replace FC := FC.ext E5
  replace FS := FS.ext E5
  have V_b5 : Arv Z h5 b5 c5 .int (4 : Int32) [(.int (0 : Int32)), (.int (0 : Int32)), (.int (0 : Int32)), (.int (0 : Int32))] (.int (0 : Int32)) := (Arv.new A5 (by decide)).pad (pad_rep [] (.int (0 : Int32)) 4)
  have z_b5 : h0.size ≤ b5 := by rw [g5]; exact KP.1
  replace KP := KP.ext E5
  have k7_ : ∀ t, Steps p.tables e below (T5.setTop (mkF m 11 #[.val (.ref a)] [(.int (-1 : Int32)), (.int (0 : Int32)), (.ref b5), (.ref b5), (.ref a)])) t → Steps p.tables e below (s₁.setTop (mkF m 0 #[.val (.ref a)] [])) t := by
    intro t q
    refine k6_ _ ?_
    show Steps p.tables e below (T5.setTop (mkF m 8 #[.val (.ref a)] [(.ref b5), (.ref a)])) _
    refine XS.dup X5.here hx rfl (hb hby d_prog_82_method_1_8) rfl rfl ?_
    show Steps p.tables e below (T5.setTop (mkF m 9 #[.val (.ref a)] [(.ref b5), (.ref b5), (.ref a)])) _
    refine XS.iconst X5.here hx rfl (hb hby d_prog_82_method_1_9) ?_
    show Steps p.tables e below (T5.setTop (mkF m 10 #[.val (.ref a)] [(.int (0 : Int32)), (.ref b5), (.ref b5), (.ref a)])) _
    refine XS.iconst X5.here hx rfl (hb hby d_prog_82_method_1_10) ?_
    show Steps p.tables e below (T5.setTop (mkF m 11 #[.val (.ref a)] [(.int (-1 : Int32)), (.int (0 : Int32)), (.ref b5), (.ref b5), (.ref a)])) _
    exact q
  obtain ⟨cl8, Ar8, q8, S8, M8, H8, G8⟩ := V_b5
  obtain ⟨T9, h9, X9, e9, W9, st9⟩ := stI X5 hx hZ e5 Ar8 (j := (0 : Int32)) (inb_of S8 ⟨by decide, by decide⟩) (g := (mkF m 11 #[.val (.ref a)] [(.int (-1 : Int32)), (.int (0 : Int32)), (.ref b5), (.ref b5), (.ref a)])) rfl rfl (hb hby d_prog_82_method_1_11)
  have k10_ : ∀ t, Steps p.tables e below (T9.setTop (mkF m 12 #[.val (.ref a)] [(.ref b5), (.ref a)])) t → Steps p.tables e below (s₁.setTop (mkF m 0 #[.val (.ref a)] [])) t := fun t q => k7_ t (st9 t q)
  have N9 := Fr.snoc X9 N0 g_b5
  replace Zn := Nat.le_trans Zn (Keep.of_wr W9).1
  replace EA := EA.wr W9
  replace FK := FK.other W9 (Or.inl ne_a_b5)
  replace FC := FC.other W9 (Or.inl ne_a_b5)
  replace FS := FS.other W9 (Or.inl ne_a_b5)
  have V_b5 : Arv Z h9 b5 c5 .int (4 : Int32) [(.int (-1 : Int32)), (.int (0 : Int32)), (.int (0 : Int32)), (.int (0 : Int32))] (.int (0 : Int32)) := Arv.set Ar8 q8 S8 M8 H8 G8 rfl W9 0 rfl (Nat.le_of_ble_eq_true rfl)
  replace KP := KP.wr W9 (Or.inr z_b5)
  have k11_ : ∀ t, Steps p.tables e below (T9.setTop (mkF m 15 #[.val (.ref a)] [(.int (-1 : Int32)), (.int (1 : Int32)), (.ref b5), (.ref b5), (.ref a)])) t → Steps p.tables e below (s₁.setTop (mkF m 0 #[.val (.ref a)] [])) t := by
    intro t q
    refine k10_ _ ?_
    show Steps p.tables e below (T9.setTop (mkF m 12 #[.val (.ref a)] [(.ref b5), (.ref a)])) _
    refine XS.dup X9.here hx rfl (hb hby d_prog_82_method_1_12) rfl rfl ?_
    show Steps p.tables e below (T9.setTop (mkF m 13 #[.val (.ref a)] [(.ref b5), (.ref b5), (.ref a)])) _
    refine XS.iconst X9.here hx rfl (hb hby d_prog_82_method_1_13) ?_
    show Steps p.tables e below (T9.setTop (mkF m 14 #[.val (.ref a)] [(.int (1 : Int32)), (.ref b5), (.ref b5), (.ref a)])) _
    refine XS.iconst X9.here hx rfl (hb hby d_prog_82_method_1_14) ?_
    show Steps p.tables e below (T9.setTop (mkF m 15 #[.val (.ref a)] [(.int (-1 : Int32)), (.int (1 : Int32)), (.ref b5), (.ref b5), (.ref a)])) _
    exact q
  obtain ⟨cl12, Ar12, q12, S12, M12, H12, G12⟩ := V_b5
  obtain ⟨T13, h13, X13, e13, W13, st13⟩ := stI X9 hx hZ e9 Ar12 (j := (1 : Int32)) (inb_of S12 ⟨by decide, by decide⟩) (g := (mkF m 15 #[.val (.ref a)] [(.int (-1 : Int32)), (.int (1 : Int32)), (.ref b5), (.ref b5), (.ref a)])) rfl rfl (hb hby d_prog_82_method_1_15)
  have k14_ : ∀ t, Steps p.tables e below (T13.setTop (mkF m 16 #[.val (.ref a)] [(.ref b5), (.ref a)])) t → Steps p.tables e below (s₁.setTop (mkF m 0 #[.val (.ref a)] [])) t := fun t q => k11_ t (st13 t q)
  have N13 := Fr.snoc X13 N9 g_b5
  replace Zn := Nat.le_trans Zn (Keep.of_wr W13).1
  replace EA := EA.wr W13
  replace FK := FK.other W13 (Or.inl ne_a_b5)
  replace FC := FC.other W13 (Or.inl ne_a_b5)
  replace FS := FS.other W13 (Or.inl ne_a_b5)
  have V_b5 : Arv Z h13 b5 c5 .int (4 : Int32) [(.int (-1 : Int32)), (.int (-1 : Int32)), (.int (0 : Int32)), (.int (0 : Int32))] (.int (0 : Int32)) := Arv.set Ar12 q12 S12 M12 H12 G12 rfl W13 1 rfl (Nat.le_of_ble_eq_true rfl)
  replace KP := KP.wr W13 (Or.inr z_b5)
  have k15_ : ∀ t, Steps p.tables e below (T13.setTop (mkF m 19 #[.val (.ref a)] [(.int (-1 : Int32)), (.int (2 : Int32)), (.ref b5), (.ref b5), (.ref a)])) t → Steps p.tables e below (s₁.setTop (mkF m 0 #[.val (.ref a)] [])) t := by
    intro t q
    refine k14_ _ ?_
    show Steps p.tables e below (T13.setTop (mkF m 16 #[.val (.ref a)] [(.ref b5), (.ref a)])) _
    refine XS.dup X13.here hx rfl (hb hby d_prog_82_method_1_16) rfl rfl ?_
    show Steps p.tables e below (T13.setTop (mkF m 17 #[.val (.ref a)] [(.ref b5), (.ref b5), (.ref a)])) _
    refine XS.iconst X13.here hx rfl (hb hby d_prog_82_method_1_17) ?_
    show Steps p.tables e below (T13.setTop (mkF m 18 #[.val (.ref a)] [(.int (2 : Int32)), (.ref b5), (.ref b5), (.ref a)])) _
    refine XS.iconst X13.here hx rfl (hb hby d_prog_82_method_1_18) ?_
    show Steps p.tables e below (T13.setTop (mkF m 19 #[.val (.ref a)] [(.int (-1 : Int32)), (.int (2 : Int32)), (.ref b5), (.ref b5), (.ref a)])) _
    exact q
  obtain ⟨cl16, Ar16, q16, S16, M16, H16, G16⟩ := V_b5
  obtain ⟨T17, h17, X17, e17, W17, st17⟩ := stI X13 hx hZ e13 Ar16 (j := (2 : Int32)) (inb_of S16 ⟨by decide, by decide⟩) (g := (mkF m 19 #[.val (.ref a)] [(.int (-1 : Int32)), (.int (2 : Int32)), (.ref b5), (.ref b5), (.ref a)])) rfl rfl (hb hby d_prog_82_method_1_19)
  have k18_ : ∀ t, Steps p.tables e below (T17.setTop (mkF m 20 #[.val (.ref a)] [(.ref b5), (.ref a)])) t → Steps p.tables e below (s₁.setTop (mkF m 0 #[.val (.ref a)] [])) t := fun t q => k15_ t (st17 t q)
  have N17 := Fr.snoc X17 N13 g_b5
  replace Zn := Nat.le_trans Zn (Keep.of_wr W17).1
  replace EA := EA.wr W17
  replace FK := FK.other W17 (Or.inl ne_a_b5)
  replace FC := FC.other W17 (Or.inl ne_a_b5)
  replace FS := FS.other W17 (Or.inl ne_a_b5)
  have V_b5 : Arv Z h17 b5 c5 .int (4 : Int32) [(.int (-1 : Int32)), (.int (-1 : Int32)), (.int (-1 : Int32)), (.int (0 : Int32))] (.int (0 : Int32)) := Arv.set Ar16 q16 S16 M16 H16 G16 rfl W17 2 rfl (Nat.le_of_ble_eq_true rfl)
  replace KP := KP.wr W17 (Or.inr z_b5)
  have k19_ : ∀ t, Steps p.tables e below (T17.setTop (mkF m 23 #[.val (.ref a)] [(.int (-1 : Int32)), (.int (3 : Int32)), (.ref b5), (.ref b5), (.ref a)])) t → Steps p.tables e below (s₁.setTop (mkF m 0 #[.val (.ref a)] [])) t := by
    intro t q
    refine k18_ _ ?_
    show Steps p.tables e below (T17.setTop (mkF m 20 #[.val (.ref a)] [(.ref b5), (.ref a)])) _
    refine XS.dup X17.here hx rfl (hb hby d_prog_82_method_1_20) rfl rfl ?_
    show Steps p.tables e below (T17.setTop (mkF m 21 #[.val (.ref a)] [(.ref b5), (.ref b5), (.ref a)])) _
    refine XS.iconst X17.here hx rfl (hb hby d_prog_82_method_1_21) ?_
    show Steps p.tables e below (T17.setTop (mkF m 22 #[.val (.ref a)] [(.int (3 : Int32)), (.ref b5), (.ref b5), (.ref a)])) _
    refine XS.iconst X17.here hx rfl (hb hby d_prog_82_method_1_22) ?_
    show Steps p.tables e below (T17.setTop (mkF m 23 #[.val (.ref a)] [(.int (-1 : Int32)), (.int (3 : Int32)), (.ref b5), (.ref b5), (.ref a)])) _
    exact q
  obtain ⟨cl20, Ar20, q20, S20, M20, H20, G20⟩ := V_b5
  obtain ⟨T21, h21, X21, e21, W21, st21⟩ := stI X17 hx hZ e17 Ar20 (j := (3 : Int32)) (inb_of S20 ⟨by decide, by decide⟩) (g := (mkF m 23 #[.val (.ref a)] [(.int (-1 : Int32)), (.int (3 : Int32)), (.ref b5), (.ref b5), (.ref a)])) rfl rfl (hb hby d_prog_82_method_1_23)
  have k22_ : ∀ t, Steps p.tables e below (T21.setTop (mkF m 24 #[.val (.ref a)] [(.ref b5), (.ref a)])) t → Steps p.tables e below (s₁.setTop (mkF m 0 #[.val (.ref a)] [])) t := fun t q => k19_ t (st21 t q)
  have N21 := Fr.snoc X21 N17 g_b5
  replace Zn := Nat.le_trans Zn (Keep.of_wr W21).1
  replace EA := EA.wr W21
  replace FK := FK.other W21 (Or.inl ne_a_b5)
  replace FC := FC.other W21 (Or.inl ne_a_b5)
  replace FS := FS.other W21 (Or.inl ne_a_b5)
  have V_b5 : Arv Z h21 b5 c5 .int (4 : Int32) [(.int (-1 : Int32)), (.int (-1 : Int32)), (.int (-1 : Int32)), (.int (-1 : Int32))] (.int (0 : Int32)) := Arv.set Ar20 q20 S20 M20 H20 G20 rfl W21 3 rfl (Nat.le_of_ble_eq_true rfl)
  replace KP := KP.wr W21 (Or.inr z_b5)
  obtain ⟨T23, h23, X23, e23, W23, st23⟩ := putF X21 hx hZ hown (host := "") (Or.inl (hw _ (List.mem_of_getElem? (i := 46) rfl))) Via.refl e21 FK EA (Or.inl (hw _ (List.mem_of_getElem? (i := 47) rfl))) (hw _ (List.mem_of_getElem? (i := 40) rfl)) (ty := (.array .int)) (by decide) rfl rfl (g := (mkF m 24 #[.val (.ref a)] [(.ref b5), (.ref a)])) rfl rfl (hb hby d_prog_82_method_1_24)
  have k24_ : ∀ t, Steps p.tables e below (T23.setTop (mkF m 27 #[.val (.ref a)] [])) t → Steps p.tables e below (s₁.setTop (mkF m 0 #[.val (.ref a)] [])) t := fun t q => k22_ t (st23 t q)
  have N23 := Fr.snoc X23 N21 ga
  replace Zn := Nat.le_trans Zn (Keep.of_wr W23).1
  replace EA := EA.wr W23
  replace FC := FC.other W23 (Or.inr (slot_ne (Or.inl (hw _ (List.mem_of_getElem? (i := 49) rfl))) (Or.inl (hw _ (List.mem_of_getElem? (i := 47) rfl))) (by decide) (t := (.array .int)) (t' := (.array .int)) (by decide) (by decide)))
  replace FS := FS.other W23 (Or.inr (slot_ne (Or.inl (hw _ (List.mem_of_getElem? (i := 61) rfl))) (Or.inl (hw _ (List.mem_of_getElem? (i := 47) rfl))) (by decide) (t := .int) (t' := (.array .int)) (by decide) (by decide)))
  replace V_b5 := V_b5.other W23 (Ne.symm ne_a_b5)
  replace FK := FK.same W23
  replace KP := KP.wr W23 (Or.inl (List.mem_of_getElem? (i := 0) rfl))
  have k25_ : ∀ t, Steps p.tables e below (T23.setTop (mkF m 29 #[.val (.ref a)] [(.int (4 : Int32)), (.ref a)])) t → Steps p.tables e below (s₁.setTop (mkF m 0 #[.val (.ref a)] [])) t := by
    intro t q
    refine k24_ _ ?_
    show Steps p.tables e below (T23.setTop (mkF m 27 #[.val (.ref a)] [])) _
    refine XS.aloadN X23.here hx rfl (hb hby d_prog_82_method_1_27) rfl rfl ?_
    show Steps p.tables e below (T23.setTop (mkF m 28 #[.val (.ref a)] [(.ref a)])) _
    refine XS.iconst X23.here hx rfl (hb hby d_prog_82_method_1_28) ?_
    show Steps p.tables e below (T23.setTop (mkF m 29 #[.val (.ref a)] [(.int (4 : Int32)), (.ref a)])) _
    exact q
  obtain ⟨T26, h26, c26, X26, e26, E26, A26, st26⟩ := newP X23 hx hZ (hw _ (List.mem_of_getElem? (i := 15) rfl)) e23 (g := (mkF m 29 #[.val (.ref a)] [(.int (4 : Int32)), (.ref a)])) rfl (hb hby d_prog_82_method_1_29) rfl (by decide) (cap := 4) (by decide) (by decide) (by decide) (by decide)
  obtain ⟨b26, g26⟩ : ∃ z, z = h23.size := ⟨_, rfl⟩
  rw [← g26] at A26 st26
  have k27_ : ∀ t, Steps p.tables e below (T26.setTop (mkF m 31 #[.val (.ref a)] [(.ref b26), (.ref a)])) t → Steps p.tables e below (s₁.setTop (mkF m 0 #[.val (.ref a)] [])) t := fun t q => k25_ t (st26 t q)
  have ne_a_b26 : a ≠ b26 := Nat.ne_of_lt (Nat.lt_of_lt_of_le EA.lt (Nat.le_of_eq g26.symm))
  have ne_b5_b26 : b5 ≠ b26 := Nat.ne_of_lt (Nat.lt_of_lt_of_le V_b5.lt (Nat.le_of_eq g26.symm))
  have g_b26 : n0 ≤ b26 := Nat.le_trans Zn (Nat.le_of_eq g26.symm)
  replace Zn := Nat.le_trans Zn E26.1
  replace EA := EA.ext E26
  replace FK := FK.ext E26
  replace FC := FC.ext E26
  replace FS := FS.ext E26
  replace V_b5 := V_b5.ext E26
  have V_b26 : Arv Z h26 b26 c26 .int (4 : Int32) [(.int (0 : Int32)), (.int (0 : Int32)), (.int (0 : Int32)), (.int (0 : Int32))] (.int (0 : Int32)) := (Arv.new A26 (by decide)).pad (pad_rep [] (.int (0 : Int32)) 4)
  have z_b26 : h0.size ≤ b26 := by rw [g26]; exact KP.1
  replace KP := KP.ext E26
  obtain ⟨T28, h28, X28, e28, W28, st28⟩ := putF X26 hx hZ hown (host := "") (Or.inl (hw _ (List.mem_of_getElem? (i := 48) rfl))) Via.refl e26 FC EA (Or.inl (hw _ (List.mem_of_getElem? (i := 49) rfl))) (hw _ (List.mem_of_getElem? (i := 40) rfl)) (ty := (.array .int)) (by decide) rfl rfl (g := (mkF m 31 #[.val (.ref a)] [(.ref b26), (.ref a)])) rfl rfl (hb hby d_prog_82_method_1_31)
  have k29_ : ∀ t, Steps p.tables e below (T28.setTop (mkF m 34 #[.val (.ref a)] [])) t → Steps p.tables e below (s₁.setTop (mkF m 0 #[.val (.ref a)] [])) t := fun t q => k27_ t (st28 t q)
  have N28 := Fr.snoc X28 N23 ga
  replace Zn := Nat.le_trans Zn (Keep.of_wr W28).1
  replace EA := EA.wr W28
  replace FK := FK.other W28 (Or.inr (slot_ne (Or.inl (hw _ (List.mem_of_getElem? (i := 47) rfl))) (Or.inl (hw _ (List.mem_of_getElem? (i := 49) rfl))) (by decide) (t := (.array .int)) (t' := (.array .int)) (by decide) (by decide)))
  replace FS := FS.other W28 (Or.inr (slot_ne (Or.inl (hw _ (List.mem_of_getElem? (i := 61) rfl))) (Or.inl (hw _ (List.mem_of_getElem? (i := 49) rfl))) (by decide) (t := .int) (t' := (.array .int)) (by decide) (by decide)))
  replace V_b5 := V_b5.other W28 (Ne.symm ne_a_b5)
  replace V_b26 := V_b26.other W28 (Ne.symm ne_a_b26)
  replace FC := FC.same W28
  replace KP := KP.wr W28 (Or.inl (List.mem_of_getElem? (i := 0) rfl))
  have hsz : own_sz [-1, -1, -1, -1] = (0 : Int32) := by decide +kernel
  obtain ⟨fs, hr, hrun, hended, hW, hsame⟩ := X28.leave (v := none) (fun _ => rfl)
  refine ⟨_, _, pre0 _ (k29_ _ ?_), hrun, hended, _, _, rfl, ?_, ⟨_, rfl⟩, hW, hsame.mono (by decide) (by decide)⟩
  · show Steps p.tables e below (T28.setTop (mkF m 34 #[.val (.ref a)] [])) _
    exact X28.returnOut hx Bd.returns (hb hby d_prog_82_method_1_34) hr
  · show QI Z a h0 n0 _ T28.heap _
    rw [e28]
    exact ⟨rfl, N28, b5, b26, ⟨EA, FK, FC, by rw [hsz]; exact FS, ⟨_, V_b5⟩, ⟨_, V_b26⟩, rfl, ⟨ne_a_b5, ne_a_b26, ne_b5_b26⟩, ga, g_b5, g_b26⟩, z_b5, z_b26, KP⟩
theorem d_prog_82_method_2_14 : decode prog_82_method_2_code 14 = .ok (.aload_n 0, 1) := by decide +kernel
theorem d_prog_82_method_2_15 : decode prog_82_method_2_code 15 = .ok (.getfield 7, 3) := by decide +kernel
theorem d_prog_82_method_2_18 : decode prog_82_method_2_code 18 = .ok (.iload_n 3, 1) := by decide +kernel
theorem d_prog_82_method_2_19 : decode prog_82_method_2_code 19 = .ok (.iaload, 1) := by decide +kernel
theorem d_prog_82_method_2_20 : decode prog_82_method_2_code 20 = .ok (.iload_n 1, 1) := by decide +kernel
theorem d_prog_82_method_2_21 : decode prog_82_method_2_code 21 = .ok (.if_icmp .ne 10, 3) := by decide +kernel
theorem d_prog_82_method_2_31 : decode prog_82_method_2_code 31 = .ok (.aload_n 0, 1) := by decide +kernel
theorem d_prog_82_method_2_32 : decode prog_82_method_2_code 32 = .ok (.getfield 7, 3) := by decide +kernel
theorem d_prog_82_method_2_35 : decode prog_82_method_2_code 35 = .ok (.iload_n 3, 1) := by decide +kernel
theorem d_prog_82_method_2_36 : decode prog_82_method_2_code 36 = .ok (.iaload, 1) := by decide +kernel
theorem d_prog_82_method_2_37 : decode prog_82_method_2_code 37 = .ok (.ifCond .ge 5, 3) := by decide +kernel
theorem d_prog_82_method_2_42 : decode prog_82_method_2_code 42 = .ok (.iload_n 3, 1) := by decide +kernel
theorem d_prog_82_method_2_43 : decode prog_82_method_2_code 43 = .ok (.iconst 1, 1) := by decide +kernel
theorem d_prog_82_method_2_44 : decode prog_82_method_2_code 44 = .ok (.iadd, 1) := by decide +kernel
theorem d_prog_82_method_2_45 : decode prog_82_method_2_code 45 = .ok (.iload_n 2, 1) := by decide +kernel
theorem d_prog_82_method_2_46 : decode prog_82_method_2_code 46 = .ok (.iand, 1) := by decide +kernel
theorem d_prog_82_method_2_47 : decode prog_82_method_2_code 47 = .ok (.istore_n 3, 1) := by decide +kernel
theorem d_prog_82_method_2_48 : decode prog_82_method_2_code 48 = .ok (.goto (-34), 3) := by decide +kernel
set_option maxRecDepth 65536 in
set_option maxHeartbeats 40000000 in
theorem lpG {p : Program} {l : Launch} {e : Env} {R : Room} {s : State} {m : MethodId} {args : Array Value} {below : List Frame} {meth : Method} {c : Code} (Z : State) (a0 : Array Value) (hw : ∀ d ∈ tables_1, d.before a0 Z = true) (hx : p.tables.exec = Jvm.exec) (hZ : Z.Warmed39 s.vm) (hby : c.code = prog_82_method_2_code) (hml : c.maxLocals = 4) (hown : s.vm.findClass "com/example/weir/weir/model/HeldTasks$Counts" = some m.cls) (n0 : Nat) (a kb : Addr) (ky : Int32) (ks : List Int32) (l4 : ks.length = 4 ∨ ks.length = 8) (h0 : Heap) (FK : Fld Z h0 a "com/example/weir/weir/model/HeldTasks$Counts" "keys" "[I" (.ref kb)) (kK : ClassId) (VK : Arv Z h0 kb kK .int (own_ln ks) (ks.map Value.int) (.int 0)) (lc0 : List Loc) (ce so : Nat) : ∀ (nn : Nat) (xx : Int32) (s₁ : State), Stand p l e R s m args below meth c s₁ lc0 ce so → s₁.heap = h0 → (own_g ks (own_pf ks ky nn xx) < 0 ∨ own_g ks (own_pf ks ky nn xx) = ky) → (¬ xx < 0 ∧ xx < own_ln ks) → ∃ (T' : State) (px : Nat), Stand p l e R s m args below meth c T' lc0 ce so ∧ T'.heap = h0 ∧ ((px = 24 ∧ own_g ks (own_pf ks ky nn xx) = ky) ∨ (px = 40 ∧ ¬ own_g ks (own_pf ks ky nn xx) = ky)) ∧ ∀ t, Steps p.tables e below (T'.setTop (mkF m px #[.val (.ref a), .val (.int ky), .val (.int (own_mk ks)), .val (.int (own_pf ks ky nn xx))] [])) t → Steps p.tables e below (s₁.setTop (mkF m 14 #[.val (.ref a), .val (.int ky), .val (.int (own_mk ks)), .val (.int xx)] [])) t := by
  intro nn
  induction nn with
  | zero =>
    intro xx s₁ X0 e0 hst hr
    have k0 : ∀ t, Steps p.tables e below (s₁.setTop (mkF m 14 #[.val (.ref a), .val (.int ky), .val (.int (own_mk ks)), .val (.int xx)] [])) t → Steps p.tables e below (s₁.setTop (mkF m 14 #[.val (.ref a), .val (.int ky), .val (.int (own_mk ks)), .val (.int xx)] [])) t := fun t q => q
    have k1_ : ∀ t, Steps p.tables e below (s₁.setTop (mkF m 15 #[.val (.ref a), .val (.int ky), .val (.int (own_mk ks)), .val (.int xx)] [(.ref a)])) t → Steps p.tables e below (s₁.setTop (mkF m 14 #[.val (.ref a), .val (.int ky), .val (.int (own_mk ks)), .val (.int xx)] [])) t := by
      intro t q
      refine k0 _ ?_
      show Steps p.tables e below (s₁.setTop (mkF m 14 #[.val (.ref a), .val (.int ky), .val (.int (own_mk ks)), .val (.int xx)] [])) _
      refine XS.aloadN X0.here hx rfl (hb hby d_prog_82_method_2_14) rfl rfl ?_
      show Steps p.tables e below (s₁.setTop (mkF m 15 #[.val (.ref a), .val (.int ky), .val (.int (own_mk ks)), .val (.int xx)] [(.ref a)])) _
      exact q
    obtain ⟨T2, X2, e2, st2⟩ := getF X0 hx hZ hown (host := "") (Or.inl (hw _ (List.mem_of_getElem? (i := 46) rfl))) Via.refl e0 FK (g := (mkF m 15 #[.val (.ref a), .val (.int ky), .val (.int (own_mk ks)), .val (.int xx)] [(.ref a)])) rfl rfl (hb hby d_prog_82_method_2_15)
    have k3_ : ∀ t, Steps p.tables e below (T2.setTop (mkF m 18 #[.val (.ref a), .val (.int ky), .val (.int (own_mk ks)), .val (.int xx)] [(.ref kb)])) t → Steps p.tables e below (s₁.setTop (mkF m 14 #[.val (.ref a), .val (.int ky), .val (.int (own_mk ks)), .val (.int xx)] [])) t := fun t q => k1_ t (st2 t q)
    obtain ⟨cl4, Ar4, q4, S4, M4, H4, G4⟩ := id VK
    have k5_ : ∀ t, Steps p.tables e below (T2.setTop (mkF m 21 #[.val (.ref a), .val (.int ky), .val (.int (own_mk ks)), .val (.int xx)] [(.int ky), (.int (own_g ks xx))])) t → Steps p.tables e below (s₁.setTop (mkF m 14 #[.val (.ref a), .val (.int ky), .val (.int (own_mk ks)), .val (.int xx)] [])) t := by
      intro t q
      refine k3_ _ ?_
      show Steps p.tables e below (T2.setTop (mkF m 18 #[.val (.ref a), .val (.int ky), .val (.int (own_mk ks)), .val (.int xx)] [(.ref kb)])) _
      refine XS.iloadN X2.here hx rfl (hb hby d_prog_82_method_2_18) rfl ?_
      show Steps p.tables e below (T2.setTop (mkF m 19 #[.val (.ref a), .val (.int ky), .val (.int (own_mk ks)), .val (.int xx)] [(.int xx), (.ref kb)])) _
      refine X2.iaload hx (j := xx) (v := (.int (own_g ks xx))) (by rw [e2]; exact Ar4.1) (State.isArrayOf_alike hZ.alike Ar4.2.1) Ar4.2.2 (inb_of S4 hr) (Has.at H4 (inb_of S4 hr) (own_gd _ _)) (g := (mkF m 19 #[.val (.ref a), .val (.int ky), .val (.int (own_mk ks)), .val (.int xx)] [(.int xx), (.ref kb)])) rfl rfl (hb hby d_prog_82_method_2_19) _ ?_
      show Steps p.tables e below (T2.setTop (mkF m 20 #[.val (.ref a), .val (.int ky), .val (.int (own_mk ks)), .val (.int xx)] [(.int (own_g ks xx))])) _
      refine XS.iloadN X2.here hx rfl (hb hby d_prog_82_method_2_20) rfl ?_
      show Steps p.tables e below (T2.setTop (mkF m 21 #[.val (.ref a), .val (.int ky), .val (.int (own_mk ks)), .val (.int xx)] [(.int ky), (.int (own_g ks xx))])) _
      exact q
    by_cases hca : (own_g ks xx) = ky
    · rw [own_pf_s _ (Or.inr hca)]
      have k6_ : ∀ t, Steps p.tables e below (T2.setTop (mkF m 24 #[.val (.ref a), .val (.int ky), .val (.int (own_mk ks)), .val (.int xx)] [])) t → Steps p.tables e below (s₁.setTop (mkF m 14 #[.val (.ref a), .val (.int ky), .val (.int (own_mk ks)), .val (.int xx)] [])) t := by
        intro t q
        refine k5_ _ ?_
        show Steps p.tables e below (T2.setTop (mkF m 21 #[.val (.ref a), .val (.int ky), .val (.int (own_mk ks)), .val (.int xx)] [(.int ky), (.int (own_g ks xx))])) _
        refine XS.icmpNo X2.here hx rfl (hb hby d_prog_82_method_2_21) rfl (teq hca).2 ?_
        show Steps p.tables e below (T2.setTop (mkF m 24 #[.val (.ref a), .val (.int ky), .val (.int (own_mk ks)), .val (.int xx)] [])) _
        exact q
      exact ⟨_, 24, X2, e2, Or.inl ⟨rfl, hca⟩, k6_⟩
    · have k7_ : ∀ t, Steps p.tables e below (T2.setTop (mkF m 31 #[.val (.ref a), .val (.int ky), .val (.int (own_mk ks)), .val (.int xx)] [])) t → Steps p.tables e below (s₁.setTop (mkF m 14 #[.val (.ref a), .val (.int ky), .val (.int (own_mk ks)), .val (.int xx)] [])) t := by
        intro t q
        refine k5_ _ ?_
        show Steps p.tables e below (T2.setTop (mkF m 21 #[.val (.ref a), .val (.int ky), .val (.int (own_mk ks)), .val (.int xx)] [(.int ky), (.int (own_g ks xx))])) _
        refine XS.icmpYes X2.here hx rfl (pc0 := 21) (pc' := 31) rfl (hb hby d_prog_82_method_2_21) rfl (feq hca).2 (by decide) (by decide) ?_
        show Steps p.tables e below (T2.setTop (mkF m 31 #[.val (.ref a), .val (.int ky), .val (.int (own_mk ks)), .val (.int xx)] [])) _
        exact q
      have k8_ : ∀ t, Steps p.tables e below (T2.setTop (mkF m 32 #[.val (.ref a), .val (.int ky), .val (.int (own_mk ks)), .val (.int xx)] [(.ref a)])) t → Steps p.tables e below (s₁.setTop (mkF m 14 #[.val (.ref a), .val (.int ky), .val (.int (own_mk ks)), .val (.int xx)] [])) t := by
        intro t q
        refine k7_ _ ?_
        show Steps p.tables e below (T2.setTop (mkF m 31 #[.val (.ref a), .val (.int ky), .val (.int (own_mk ks)), .val (.int xx)] [])) _
        refine XS.aloadN X2.here hx rfl (hb hby d_prog_82_method_2_31) rfl rfl ?_
        show Steps p.tables e below (T2.setTop (mkF m 32 #[.val (.ref a), .val (.int ky), .val (.int (own_mk ks)), .val (.int xx)] [(.ref a)])) _
        exact q
      obtain ⟨T9, X9, e9, st9⟩ := getF X2 hx hZ hown (host := "") (Or.inl (hw _ (List.mem_of_getElem? (i := 46) rfl))) Via.refl e2 FK (g := (mkF m 32 #[.val (.ref a), .val (.int ky), .val (.int (own_mk ks)), .val (.int xx)] [(.ref a)])) rfl rfl (hb hby d_prog_82_method_2_32)
      have k10_ : ∀ t, Steps p.tables e below (T9.setTop (mkF m 35 #[.val (.ref a), .val (.int ky), .val (.int (own_mk ks)), .val (.int xx)] [(.ref kb)])) t → Steps p.tables e below (s₁.setTop (mkF m 14 #[.val (.ref a), .val (.int ky), .val (.int (own_mk ks)), .val (.int xx)] [])) t := fun t q => k8_ t (st9 t q)
      obtain ⟨cl11, Ar11, q11, S11, M11, H11, G11⟩ := id VK
      have k12_ : ∀ t, Steps p.tables e below (T9.setTop (mkF m 37 #[.val (.ref a), .val (.int ky), .val (.int (own_mk ks)), .val (.int xx)] [(.int (own_g ks xx))])) t → Steps p.tables e below (s₁.setTop (mkF m 14 #[.val (.ref a), .val (.int ky), .val (.int (own_mk ks)), .val (.int xx)] [])) t := by
        intro t q
        refine k10_ _ ?_
        show Steps p.tables e below (T9.setTop (mkF m 35 #[.val (.ref a), .val (.int ky), .val (.int (own_mk ks)), .val (.int xx)] [(.ref kb)])) _
        refine XS.iloadN X9.here hx rfl (hb hby d_prog_82_method_2_35) rfl ?_
        show Steps p.tables e below (T9.setTop (mkF m 36 #[.val (.ref a), .val (.int ky), .val (.int (own_mk ks)), .val (.int xx)] [(.int xx), (.ref kb)])) _
        refine X9.iaload hx (j := xx) (v := (.int (own_g ks xx))) (by rw [e9]; exact Ar11.1) (State.isArrayOf_alike hZ.alike Ar11.2.1) Ar11.2.2 (inb_of S11 hr) (Has.at H11 (inb_of S11 hr) (own_gd _ _)) (g := (mkF m 36 #[.val (.ref a), .val (.int ky), .val (.int (own_mk ks)), .val (.int xx)] [(.int xx), (.ref kb)])) rfl rfl (hb hby d_prog_82_method_2_36) _ ?_
        show Steps p.tables e below (T9.setTop (mkF m 37 #[.val (.ref a), .val (.int ky), .val (.int (own_mk ks)), .val (.int xx)] [(.int (own_g ks xx))])) _
        exact q
      by_cases hcb : (own_g ks xx) < (0 : Int32)
      · rw [own_pf_s _ (Or.inl hcb)]
        have k13_ : ∀ t, Steps p.tables e below (T9.setTop (mkF m 40 #[.val (.ref a), .val (.int ky), .val (.int (own_mk ks)), .val (.int xx)] [])) t → Steps p.tables e below (s₁.setTop (mkF m 14 #[.val (.ref a), .val (.int ky), .val (.int (own_mk ks)), .val (.int xx)] [])) t := by
          intro t q
          refine k12_ _ ?_
          show Steps p.tables e below (T9.setTop (mkF m 37 #[.val (.ref a), .val (.int ky), .val (.int (own_mk ks)), .val (.int xx)] [(.int (own_g ks xx))])) _
          refine XS.ifNo X9.here hx rfl (hb hby d_prog_82_method_2_37) rfl ((if0 _ _).trans (tlt hcb).2.1) ?_
          show Steps p.tables e below (T9.setTop (mkF m 40 #[.val (.ref a), .val (.int ky), .val (.int (own_mk ks)), .val (.int xx)] [])) _
          exact q
        exact ⟨_, 40, X9, e9, Or.inr ⟨rfl, hca⟩, k13_⟩
      · exact absurd hst (fun z => z.elim hcb hca)
  | succ nn ih =>
    intro xx s₁ X0 e0 hst hr
    have k0 : ∀ t, Steps p.tables e below (s₁.setTop (mkF m 14 #[.val (.ref a), .val (.int ky), .val (.int (own_mk ks)), .val (.int xx)] [])) t → Steps p.tables e below (s₁.setTop (mkF m 14 #[.val (.ref a), .val (.int ky), .val (.int (own_mk ks)), .val (.int xx)] [])) t := fun t q => q
    have k14_ : ∀ t, Steps p.tables e below (s₁.setTop (mkF m 15 #[.val (.ref a), .val (.int ky), .val (.int (own_mk ks)), .val (.int xx)] [(.ref a)])) t → Steps p.tables e below (s₁.setTop (mkF m 14 #[.val (.ref a), .val (.int ky), .val (.int (own_mk ks)), .val (.int xx)] [])) t := by
      intro t q
      refine k0 _ ?_
      show Steps p.tables e below (s₁.setTop (mkF m 14 #[.val (.ref a), .val (.int ky), .val (.int (own_mk ks)), .val (.int xx)] [])) _
      refine XS.aloadN X0.here hx rfl (hb hby d_prog_82_method_2_14) rfl rfl ?_
      show Steps p.tables e below (s₁.setTop (mkF m 15 #[.val (.ref a), .val (.int ky), .val (.int (own_mk ks)), .val (.int xx)] [(.ref a)])) _
      exact q
    obtain ⟨T15, X15, e15, st15⟩ := getF X0 hx hZ hown (host := "") (Or.inl (hw _ (List.mem_of_getElem? (i := 46) rfl))) Via.refl e0 FK (g := (mkF m 15 #[.val (.ref a), .val (.int ky), .val (.int (own_mk ks)), .val (.int xx)] [(.ref a)])) rfl rfl (hb hby d_prog_82_method_2_15)
    have k16_ : ∀ t, Steps p.tables e below (T15.setTop (mkF m 18 #[.val (.ref a), .val (.int ky), .val (.int (own_mk ks)), .val (.int xx)] [(.ref kb)])) t → Steps p.tables e below (s₁.setTop (mkF m 14 #[.val (.ref a), .val (.int ky), .val (.int (own_mk ks)), .val (.int xx)] [])) t := fun t q => k14_ t (st15 t q)
    obtain ⟨cl17, Ar17, q17, S17, M17, H17, G17⟩ := id VK
    have k18_ : ∀ t, Steps p.tables e below (T15.setTop (mkF m 21 #[.val (.ref a), .val (.int ky), .val (.int (own_mk ks)), .val (.int xx)] [(.int ky), (.int (own_g ks xx))])) t → Steps p.tables e below (s₁.setTop (mkF m 14 #[.val (.ref a), .val (.int ky), .val (.int (own_mk ks)), .val (.int xx)] [])) t := by
      intro t q
      refine k16_ _ ?_
      show Steps p.tables e below (T15.setTop (mkF m 18 #[.val (.ref a), .val (.int ky), .val (.int (own_mk ks)), .val (.int xx)] [(.ref kb)])) _
      refine XS.iloadN X15.here hx rfl (hb hby d_prog_82_method_2_18) rfl ?_
      show Steps p.tables e below (T15.setTop (mkF m 19 #[.val (.ref a), .val (.int ky), .val (.int (own_mk ks)), .val (.int xx)] [(.int xx), (.ref kb)])) _
      refine X15.iaload hx (j := xx) (v := (.int (own_g ks xx))) (by rw [e15]; exact Ar17.1) (State.isArrayOf_alike hZ.alike Ar17.2.1) Ar17.2.2 (inb_of S17 hr) (Has.at H17 (inb_of S17 hr) (own_gd _ _)) (g := (mkF m 19 #[.val (.ref a), .val (.int ky), .val (.int (own_mk ks)), .val (.int xx)] [(.int xx), (.ref kb)])) rfl rfl (hb hby d_prog_82_method_2_19) _ ?_
      show Steps p.tables e below (T15.setTop (mkF m 20 #[.val (.ref a), .val (.int ky), .val (.int (own_mk ks)), .val (.int xx)] [(.int (own_g ks xx))])) _
      refine XS.iloadN X15.here hx rfl (hb hby d_prog_82_method_2_20) rfl ?_
      show Steps p.tables e below (T15.setTop (mkF m 21 #[.val (.ref a), .val (.int ky), .val (.int (own_mk ks)), .val (.int xx)] [(.int ky), (.int (own_g ks xx))])) _
      exact q
    by_cases hca : (own_g ks xx) = ky
    · rw [own_pf_s _ (Or.inr hca)]
      have k19_ : ∀ t, Steps p.tables e below (T15.setTop (mkF m 24 #[.val (.ref a), .val (.int ky), .val (.int (own_mk ks)), .val (.int xx)] [])) t → Steps p.tables e below (s₁.setTop (mkF m 14 #[.val (.ref a), .val (.int ky), .val (.int (own_mk ks)), .val (.int xx)] [])) t := by
        intro t q
        refine k18_ _ ?_
        show Steps p.tables e below (T15.setTop (mkF m 21 #[.val (.ref a), .val (.int ky), .val (.int (own_mk ks)), .val (.int xx)] [(.int ky), (.int (own_g ks xx))])) _
        refine XS.icmpNo X15.here hx rfl (hb hby d_prog_82_method_2_21) rfl (teq hca).2 ?_
        show Steps p.tables e below (T15.setTop (mkF m 24 #[.val (.ref a), .val (.int ky), .val (.int (own_mk ks)), .val (.int xx)] [])) _
        exact q
      exact ⟨_, 24, X15, e15, Or.inl ⟨rfl, hca⟩, k19_⟩
    · have k20_ : ∀ t, Steps p.tables e below (T15.setTop (mkF m 31 #[.val (.ref a), .val (.int ky), .val (.int (own_mk ks)), .val (.int xx)] [])) t → Steps p.tables e below (s₁.setTop (mkF m 14 #[.val (.ref a), .val (.int ky), .val (.int (own_mk ks)), .val (.int xx)] [])) t := by
        intro t q
        refine k18_ _ ?_
        show Steps p.tables e below (T15.setTop (mkF m 21 #[.val (.ref a), .val (.int ky), .val (.int (own_mk ks)), .val (.int xx)] [(.int ky), (.int (own_g ks xx))])) _
        refine XS.icmpYes X15.here hx rfl (pc0 := 21) (pc' := 31) rfl (hb hby d_prog_82_method_2_21) rfl (feq hca).2 (by decide) (by decide) ?_
        show Steps p.tables e below (T15.setTop (mkF m 31 #[.val (.ref a), .val (.int ky), .val (.int (own_mk ks)), .val (.int xx)] [])) _
        exact q
      have k21_ : ∀ t, Steps p.tables e below (T15.setTop (mkF m 32 #[.val (.ref a), .val (.int ky), .val (.int (own_mk ks)), .val (.int xx)] [(.ref a)])) t → Steps p.tables e below (s₁.setTop (mkF m 14 #[.val (.ref a), .val (.int ky), .val (.int (own_mk ks)), .val (.int xx)] [])) t := by
        intro t q
        refine k20_ _ ?_
        show Steps p.tables e below (T15.setTop (mkF m 31 #[.val (.ref a), .val (.int ky), .val (.int (own_mk ks)), .val (.int xx)] [])) _
        refine XS.aloadN X15.here hx rfl (hb hby d_prog_82_method_2_31) rfl rfl ?_
        show Steps p.tables e below (T15.setTop (mkF m 32 #[.val (.ref a), .val (.int ky), .val (.int (own_mk ks)), .val (.int xx)] [(.ref a)])) _
        exact q
      obtain ⟨T22, X22, e22, st22⟩ := getF X15 hx hZ hown (host := "") (Or.inl (hw _ (List.mem_of_getElem? (i := 46) rfl))) Via.refl e15 FK (g := (mkF m 32 #[.val (.ref a), .val (.int ky), .val (.int (own_mk ks)), .val (.int xx)] [(.ref a)])) rfl rfl (hb hby d_prog_82_method_2_32)
      have k23_ : ∀ t, Steps p.tables e below (T22.setTop (mkF m 35 #[.val (.ref a), .val (.int ky), .val (.int (own_mk ks)), .val (.int xx)] [(.ref kb)])) t → Steps p.tables e below (s₁.setTop (mkF m 14 #[.val (.ref a), .val (.int ky), .val (.int (own_mk ks)), .val (.int xx)] [])) t := fun t q => k21_ t (st22 t q)
      obtain ⟨cl24, Ar24, q24, S24, M24, H24, G24⟩ := id VK
      have k25_ : ∀ t, Steps p.tables e below (T22.setTop (mkF m 37 #[.val (.ref a), .val (.int ky), .val (.int (own_mk ks)), .val (.int xx)] [(.int (own_g ks xx))])) t → Steps p.tables e below (s₁.setTop (mkF m 14 #[.val (.ref a), .val (.int ky), .val (.int (own_mk ks)), .val (.int xx)] [])) t := by
        intro t q
        refine k23_ _ ?_
        show Steps p.tables e below (T22.setTop (mkF m 35 #[.val (.ref a), .val (.int ky), .val (.int (own_mk ks)), .val (.int xx)] [(.ref kb)])) _
        refine XS.iloadN X22.here hx rfl (hb hby d_prog_82_method_2_35) rfl ?_
        show Steps p.tables e below (T22.setTop (mkF m 36 #[.val (.ref a), .val (.int ky), .val (.int (own_mk ks)), .val (.int xx)] [(.int xx), (.ref kb)])) _
        refine X22.iaload hx (j := xx) (v := (.int (own_g ks xx))) (by rw [e22]; exact Ar24.1) (State.isArrayOf_alike hZ.alike Ar24.2.1) Ar24.2.2 (inb_of S24 hr) (Has.at H24 (inb_of S24 hr) (own_gd _ _)) (g := (mkF m 36 #[.val (.ref a), .val (.int ky), .val (.int (own_mk ks)), .val (.int xx)] [(.int xx), (.ref kb)])) rfl rfl (hb hby d_prog_82_method_2_36) _ ?_
        show Steps p.tables e below (T22.setTop (mkF m 37 #[.val (.ref a), .val (.int ky), .val (.int (own_mk ks)), .val (.int xx)] [(.int (own_g ks xx))])) _
        exact q
      by_cases hcb : (own_g ks xx) < (0 : Int32)
      · rw [own_pf_s _ (Or.inl hcb)]
        have k26_ : ∀ t, Steps p.tables e below (T22.setTop (mkF m 40 #[.val (.ref a), .val (.int ky), .val (.int (own_mk ks)), .val (.int xx)] [])) t → Steps p.tables e below (s₁.setTop (mkF m 14 #[.val (.ref a), .val (.int ky), .val (.int (own_mk ks)), .val (.int xx)] [])) t := by
          intro t q
          refine k25_ _ ?_
          show Steps p.tables e below (T22.setTop (mkF m 37 #[.val (.ref a), .val (.int ky), .val (.int (own_mk ks)), .val (.int xx)] [(.int (own_g ks xx))])) _
          refine XS.ifNo X22.here hx rfl (hb hby d_prog_82_method_2_37) rfl ((if0 _ _).trans (tlt hcb).2.1) ?_
          show Steps p.tables e below (T22.setTop (mkF m 40 #[.val (.ref a), .val (.int ky), .val (.int (own_mk ks)), .val (.int xx)] [])) _
          exact q
        exact ⟨_, 40, X22, e22, Or.inr ⟨rfl, hca⟩, k26_⟩
      · rw [own_pf_g nn hcb hca] at hst ⊢
        have k27_ : ∀ t, Steps p.tables e below (T22.setTop (mkF m 42 #[.val (.ref a), .val (.int ky), .val (.int (own_mk ks)), .val (.int xx)] [])) t → Steps p.tables e below (s₁.setTop (mkF m 14 #[.val (.ref a), .val (.int ky), .val (.int (own_mk ks)), .val (.int xx)] [])) t := by
          intro t q
          refine k25_ _ ?_
          show Steps p.tables e below (T22.setTop (mkF m 37 #[.val (.ref a), .val (.int ky), .val (.int (own_mk ks)), .val (.int xx)] [(.int (own_g ks xx))])) _
          refine XS.ifYes X22.here hx rfl (pc0 := 37) (pc' := 42) rfl (hb hby d_prog_82_method_2_37) rfl ((if0 _ _).trans (flt hcb).2.1) (by decide) (by decide) ?_
          show Steps p.tables e below (T22.setTop (mkF m 42 #[.val (.ref a), .val (.int ky), .val (.int (own_mk ks)), .val (.int xx)] [])) _
          exact q
        have k28_ : ∀ t, Steps p.tables e below (T22.setTop (mkF m 14 #[.val (.ref a), .val (.int ky), .val (.int (own_mk ks)), .val (.int ((xx + (1 : Int32)) &&& (own_mk ks)))] [])) t → Steps p.tables e below (s₁.setTop (mkF m 14 #[.val (.ref a), .val (.int ky), .val (.int (own_mk ks)), .val (.int xx)] [])) t := by
          intro t q
          refine k27_ _ ?_
          show Steps p.tables e below (T22.setTop (mkF m 42 #[.val (.ref a), .val (.int ky), .val (.int (own_mk ks)), .val (.int xx)] [])) _
          refine XS.iloadN X22.here hx rfl (hb hby d_prog_82_method_2_42) rfl ?_
          show Steps p.tables e below (T22.setTop (mkF m 43 #[.val (.ref a), .val (.int ky), .val (.int (own_mk ks)), .val (.int xx)] [(.int xx)])) _
          refine XS.iconst X22.here hx rfl (hb hby d_prog_82_method_2_43) ?_
          show Steps p.tables e below (T22.setTop (mkF m 44 #[.val (.ref a), .val (.int ky), .val (.int (own_mk ks)), .val (.int xx)] [(.int (1 : Int32)), (.int xx)])) _
          refine XS.iadd X22.here hx rfl (hb hby d_prog_82_method_2_44) rfl ?_
          show Steps p.tables e below (T22.setTop (mkF m 45 #[.val (.ref a), .val (.int ky), .val (.int (own_mk ks)), .val (.int xx)] [(.int (xx + (1 : Int32)))])) _
          refine XS.iloadN X22.here hx rfl (hb hby d_prog_82_method_2_45) rfl ?_
          show Steps p.tables e below (T22.setTop (mkF m 46 #[.val (.ref a), .val (.int ky), .val (.int (own_mk ks)), .val (.int xx)] [(.int (own_mk ks)), (.int (xx + (1 : Int32)))])) _
          refine XS.iand X22.here hx rfl (hb hby d_prog_82_method_2_46) rfl ?_
          show Steps p.tables e below (T22.setTop (mkF m 47 #[.val (.ref a), .val (.int ky), .val (.int (own_mk ks)), .val (.int xx)] [(.int ((xx + (1 : Int32)) &&& (own_mk ks)))])) _
          refine XS.istoreN X22.here hx rfl (hb hby d_prog_82_method_2_47) rfl (l' := #[.val (.ref a), .val (.int ky), .val (.int (own_mk ks)), .val (.int ((xx + (1 : Int32)) &&& (own_mk ks)))]) rfl ?_
          show Steps p.tables e below (T22.setTop (mkF m 48 #[.val (.ref a), .val (.int ky), .val (.int (own_mk ks)), .val (.int ((xx + (1 : Int32)) &&& (own_mk ks)))] [])) _
          refine XS.goto X22.here hx rfl (pc0 := 48) (pc' := 14) rfl (hb hby d_prog_82_method_2_48) (by decide) (by decide) ?_
          show Steps p.tables e below (T22.setTop (mkF m 14 #[.val (.ref a), .val (.int ky), .val (.int (own_mk ks)), .val (.int ((xx + (1 : Int32)) &&& (own_mk ks)))] [])) _
          exact q
        have k29_ : ∀ t, Steps p.tables e below (T22.setTop (mkF m 14 #[.val (.ref a), .val (.int ky), .val (.int (own_mk ks)), .val (.int (own_nx ks xx))] [])) t → Steps p.tables e below (s₁.setTop (mkF m 14 #[.val (.ref a), .val (.int ky), .val (.int (own_mk ks)), .val (.int xx)] [])) t := fun t q => k28_ t (Eq.mp (congrArg (fun z => Steps p.tables e below (T22.setTop (mkF m 14 #[.val (.ref a), .val (.int ky), .val (.int (own_mk ks)), .val (.int z)] [])) t) (show (own_nx ks xx) = ((xx + (1 : Int32)) &&& (own_mk ks)) from rfl)) q)
        obtain ⟨T', px, X', e', hp, st'⟩ := ih (own_nx ks xx) _ X22 e22 hst (own_nr l4 xx)
        exact ⟨T', px, X', e', hp, fun t q => k29_ t (st' t q)⟩
theorem d_prog_82_method_3_15 : decode prog_82_method_3_code 15 = .ok (.aload_n 0, 1) := by decide +kernel
theorem d_prog_82_method_3_16 : decode prog_82_method_3_code 16 = .ok (.getfield 7, 3) := by decide +kernel
theorem d_prog_82_method_3_19 : decode prog_82_method_3_code 19 = .ok (.iload 4, 2) := by decide +kernel
theorem d_prog_82_method_3_21 : decode prog_82_method_3_code 21 = .ok (.iaload, 1) := by decide +kernel
theorem d_prog_82_method_3_22 : decode prog_82_method_3_code 22 = .ok (.ifCond .lt 25, 3) := by decide +kernel
theorem d_prog_82_method_3_25 : decode prog_82_method_3_code 25 = .ok (.aload_n 0, 1) := by decide +kernel
theorem d_prog_82_method_3_26 : decode prog_82_method_3_code 26 = .ok (.getfield 7, 3) := by decide +kernel
theorem d_prog_82_method_3_29 : decode prog_82_method_3_code 29 = .ok (.iload 4, 2) := by decide +kernel
theorem d_prog_82_method_3_31 : decode prog_82_method_3_code 31 = .ok (.iaload, 1) := by decide +kernel
theorem d_prog_82_method_3_32 : decode prog_82_method_3_code 32 = .ok (.iload_n 1, 1) := by decide +kernel
theorem d_prog_82_method_3_33 : decode prog_82_method_3_code 33 = .ok (.if_icmp .eq 14, 3) := by decide +kernel
theorem d_prog_82_method_3_36 : decode prog_82_method_3_code 36 = .ok (.iload 4, 2) := by decide +kernel
theorem d_prog_82_method_3_38 : decode prog_82_method_3_code 38 = .ok (.iconst 1, 1) := by decide +kernel
theorem d_prog_82_method_3_39 : decode prog_82_method_3_code 39 = .ok (.iadd, 1) := by decide +kernel
theorem d_prog_82_method_3_40 : decode prog_82_method_3_code 40 = .ok (.iload_n 3, 1) := by decide +kernel
theorem d_prog_82_method_3_41 : decode prog_82_method_3_code 41 = .ok (.iand, 1) := by decide +kernel
theorem d_prog_82_method_3_42 : decode prog_82_method_3_code 42 = .ok (.istore 4, 2) := by decide +kernel
theorem d_prog_82_method_3_44 : decode prog_82_method_3_code 44 = .ok (.goto (-29), 3) := by decide +kernel
set_option maxRecDepth 65536 in
set_option maxHeartbeats 40000000 in
theorem lpP {p : Program} {l : Launch} {e : Env} {R : Room} {s : State} {m : MethodId} {args : Array Value} {below : List Frame} {meth : Method} {c : Code} (Z : State) (a0 : Array Value) (hw : ∀ d ∈ tables_1, d.before a0 Z = true) (hx : p.tables.exec = Jvm.exec) (hZ : Z.Warmed39 s.vm) (hby : c.code = prog_82_method_3_code) (hml : c.maxLocals = 5) (hown : s.vm.findClass "com/example/weir/weir/model/HeldTasks$Counts" = some m.cls) (n0 : Nat) (a kb : Addr) (ky ct : Int32) (ks : List Int32) (l4 : ks.length = 4 ∨ ks.length = 8) (h0 : Heap) (FK : Fld Z h0 a "com/example/weir/weir/model/HeldTasks$Counts" "keys" "[I" (.ref kb)) (kK : ClassId) (VK : Arv Z h0 kb kK .int (own_ln ks) (ks.map Value.int) (.int 0)) (lc0 : List Loc) (ce so : Nat) : ∀ (nn : Nat) (xx : Int32) (s₁ : State), Stand p l e R s m args below meth c s₁ lc0 ce so → s₁.heap = h0 → (own_g ks (own_pf ks ky nn xx) < 0 ∨ own_g ks (own_pf ks ky nn xx) = ky) → (¬ xx < 0 ∧ xx < own_ln ks) → ∃ (T' : State), Stand p l e R s m args below meth c T' lc0 ce so ∧ T'.heap = h0 ∧ ∀ t, Steps p.tables e below (T'.setTop (mkF m 47 #[.val (.ref a), .val (.int ky), .val (.int ct), .val (.int (own_mk ks)), .val (.int (own_pf ks ky nn xx))] [])) t → Steps p.tables e below (s₁.setTop (mkF m 15 #[.val (.ref a), .val (.int ky), .val (.int ct), .val (.int (own_mk ks)), .val (.int xx)] [])) t := by
  intro nn
  induction nn with
  | zero =>
    intro xx s₁ X0 e0 hst hr
    have k0 : ∀ t, Steps p.tables e below (s₁.setTop (mkF m 15 #[.val (.ref a), .val (.int ky), .val (.int ct), .val (.int (own_mk ks)), .val (.int xx)] [])) t → Steps p.tables e below (s₁.setTop (mkF m 15 #[.val (.ref a), .val (.int ky), .val (.int ct), .val (.int (own_mk ks)), .val (.int xx)] [])) t := fun t q => q
    have k1_ : ∀ t, Steps p.tables e below (s₁.setTop (mkF m 16 #[.val (.ref a), .val (.int ky), .val (.int ct), .val (.int (own_mk ks)), .val (.int xx)] [(.ref a)])) t → Steps p.tables e below (s₁.setTop (mkF m 15 #[.val (.ref a), .val (.int ky), .val (.int ct), .val (.int (own_mk ks)), .val (.int xx)] [])) t := by
      intro t q
      refine k0 _ ?_
      show Steps p.tables e below (s₁.setTop (mkF m 15 #[.val (.ref a), .val (.int ky), .val (.int ct), .val (.int (own_mk ks)), .val (.int xx)] [])) _
      refine XS.aloadN X0.here hx rfl (hb hby d_prog_82_method_3_15) rfl rfl ?_
      show Steps p.tables e below (s₁.setTop (mkF m 16 #[.val (.ref a), .val (.int ky), .val (.int ct), .val (.int (own_mk ks)), .val (.int xx)] [(.ref a)])) _
      exact q
    obtain ⟨T2, X2, e2, st2⟩ := getF X0 hx hZ hown (host := "") (Or.inl (hw _ (List.mem_of_getElem? (i := 46) rfl))) Via.refl e0 FK (g := (mkF m 16 #[.val (.ref a), .val (.int ky), .val (.int ct), .val (.int (own_mk ks)), .val (.int xx)] [(.ref a)])) rfl rfl (hb hby d_prog_82_method_3_16)
    have k3_ : ∀ t, Steps p.tables e below (T2.setTop (mkF m 19 #[.val (.ref a), .val (.int ky), .val (.int ct), .val (.int (own_mk ks)), .val (.int xx)] [(.ref kb)])) t → Steps p.tables e below (s₁.setTop (mkF m 15 #[.val (.ref a), .val (.int ky), .val (.int ct), .val (.int (own_mk ks)), .val (.int xx)] [])) t := fun t q => k1_ t (st2 t q)
    obtain ⟨cl4, Ar4, q4, S4, M4, H4, G4⟩ := id VK
    have k5_ : ∀ t, Steps p.tables e below (T2.setTop (mkF m 22 #[.val (.ref a), .val (.int ky), .val (.int ct), .val (.int (own_mk ks)), .val (.int xx)] [(.int (own_g ks xx))])) t → Steps p.tables e below (s₁.setTop (mkF m 15 #[.val (.ref a), .val (.int ky), .val (.int ct), .val (.int (own_mk ks)), .val (.int xx)] [])) t := by
      intro t q
      refine k3_ _ ?_
      show Steps p.tables e below (T2.setTop (mkF m 19 #[.val (.ref a), .val (.int ky), .val (.int ct), .val (.int (own_mk ks)), .val (.int xx)] [(.ref kb)])) _
      refine XS.iload X2.here hx rfl (hb hby d_prog_82_method_3_19) rfl ?_
      show Steps p.tables e below (T2.setTop (mkF m 21 #[.val (.ref a), .val (.int ky), .val (.int ct), .val (.int (own_mk ks)), .val (.int xx)] [(.int xx), (.ref kb)])) _
      refine X2.iaload hx (j := xx) (v := (.int (own_g ks xx))) (by rw [e2]; exact Ar4.1) (State.isArrayOf_alike hZ.alike Ar4.2.1) Ar4.2.2 (inb_of S4 hr) (Has.at H4 (inb_of S4 hr) (own_gd _ _)) (g := (mkF m 21 #[.val (.ref a), .val (.int ky), .val (.int ct), .val (.int (own_mk ks)), .val (.int xx)] [(.int xx), (.ref kb)])) rfl rfl (hb hby d_prog_82_method_3_21) _ ?_
      show Steps p.tables e below (T2.setTop (mkF m 22 #[.val (.ref a), .val (.int ky), .val (.int ct), .val (.int (own_mk ks)), .val (.int xx)] [(.int (own_g ks xx))])) _
      exact q
    by_cases hcb : (own_g ks xx) < (0 : Int32)
    · rw [own_pf_s _ (Or.inl hcb)]
      have k6_ : ∀ t, Steps p.tables e below (T2.setTop (mkF m 47 #[.val (.ref a), .val (.int ky), .val (.int ct), .val (.int (own_mk ks)), .val (.int xx)] [])) t → Steps p.tables e below (s₁.setTop (mkF m 15 #[.val (.ref a), .val (.int ky), .val (.int ct), .val (.int (own_mk ks)), .val (.int xx)] [])) t := by
        intro t q
        refine k5_ _ ?_
        show Steps p.tables e below (T2.setTop (mkF m 22 #[.val (.ref a), .val (.int ky), .val (.int ct), .val (.int (own_mk ks)), .val (.int xx)] [(.int (own_g ks xx))])) _
        refine XS.ifYes X2.here hx rfl (pc0 := 22) (pc' := 47) rfl (hb hby d_prog_82_method_3_22) rfl ((if0 _ _).trans (tlt hcb).1) (by decide) (by decide) ?_
        show Steps p.tables e below (T2.setTop (mkF m 47 #[.val (.ref a), .val (.int ky), .val (.int ct), .val (.int (own_mk ks)), .val (.int xx)] [])) _
        exact q
      exact ⟨_, X2, e2, k6_⟩
    · have k7_ : ∀ t, Steps p.tables e below (T2.setTop (mkF m 25 #[.val (.ref a), .val (.int ky), .val (.int ct), .val (.int (own_mk ks)), .val (.int xx)] [])) t → Steps p.tables e below (s₁.setTop (mkF m 15 #[.val (.ref a), .val (.int ky), .val (.int ct), .val (.int (own_mk ks)), .val (.int xx)] [])) t := by
        intro t q
        refine k5_ _ ?_
        show Steps p.tables e below (T2.setTop (mkF m 22 #[.val (.ref a), .val (.int ky), .val (.int ct), .val (.int (own_mk ks)), .val (.int xx)] [(.int (own_g ks xx))])) _
        refine XS.ifNo X2.here hx rfl (hb hby d_prog_82_method_3_22) rfl ((if0 _ _).trans (flt hcb).1) ?_
        show Steps p.tables e below (T2.setTop (mkF m 25 #[.val (.ref a), .val (.int ky), .val (.int ct), .val (.int (own_mk ks)), .val (.int xx)] [])) _
        exact q
      have k8_ : ∀ t, Steps p.tables e below (T2.setTop (mkF m 26 #[.val (.ref a), .val (.int ky), .val (.int ct), .val (.int (own_mk ks)), .val (.int xx)] [(.ref a)])) t → Steps p.tables e below (s₁.setTop (mkF m 15 #[.val (.ref a), .val (.int ky), .val (.int ct), .val (.int (own_mk ks)), .val (.int xx)] [])) t := by
        intro t q
        refine k7_ _ ?_
        show Steps p.tables e below (T2.setTop (mkF m 25 #[.val (.ref a), .val (.int ky), .val (.int ct), .val (.int (own_mk ks)), .val (.int xx)] [])) _
        refine XS.aloadN X2.here hx rfl (hb hby d_prog_82_method_3_25) rfl rfl ?_
        show Steps p.tables e below (T2.setTop (mkF m 26 #[.val (.ref a), .val (.int ky), .val (.int ct), .val (.int (own_mk ks)), .val (.int xx)] [(.ref a)])) _
        exact q
      obtain ⟨T9, X9, e9, st9⟩ := getF X2 hx hZ hown (host := "") (Or.inl (hw _ (List.mem_of_getElem? (i := 46) rfl))) Via.refl e2 FK (g := (mkF m 26 #[.val (.ref a), .val (.int ky), .val (.int ct), .val (.int (own_mk ks)), .val (.int xx)] [(.ref a)])) rfl rfl (hb hby d_prog_82_method_3_26)
      have k10_ : ∀ t, Steps p.tables e below (T9.setTop (mkF m 29 #[.val (.ref a), .val (.int ky), .val (.int ct), .val (.int (own_mk ks)), .val (.int xx)] [(.ref kb)])) t → Steps p.tables e below (s₁.setTop (mkF m 15 #[.val (.ref a), .val (.int ky), .val (.int ct), .val (.int (own_mk ks)), .val (.int xx)] [])) t := fun t q => k8_ t (st9 t q)
      obtain ⟨cl11, Ar11, q11, S11, M11, H11, G11⟩ := id VK
      have k12_ : ∀ t, Steps p.tables e below (T9.setTop (mkF m 33 #[.val (.ref a), .val (.int ky), .val (.int ct), .val (.int (own_mk ks)), .val (.int xx)] [(.int ky), (.int (own_g ks xx))])) t → Steps p.tables e below (s₁.setTop (mkF m 15 #[.val (.ref a), .val (.int ky), .val (.int ct), .val (.int (own_mk ks)), .val (.int xx)] [])) t := by
        intro t q
        refine k10_ _ ?_
        show Steps p.tables e below (T9.setTop (mkF m 29 #[.val (.ref a), .val (.int ky), .val (.int ct), .val (.int (own_mk ks)), .val (.int xx)] [(.ref kb)])) _
        refine XS.iload X9.here hx rfl (hb hby d_prog_82_method_3_29) rfl ?_
        show Steps p.tables e below (T9.setTop (mkF m 31 #[.val (.ref a), .val (.int ky), .val (.int ct), .val (.int (own_mk ks)), .val (.int xx)] [(.int xx), (.ref kb)])) _
        refine X9.iaload hx (j := xx) (v := (.int (own_g ks xx))) (by rw [e9]; exact Ar11.1) (State.isArrayOf_alike hZ.alike Ar11.2.1) Ar11.2.2 (inb_of S11 hr) (Has.at H11 (inb_of S11 hr) (own_gd _ _)) (g := (mkF m 31 #[.val (.ref a), .val (.int ky), .val (.int ct), .val (.int (own_mk ks)), .val (.int xx)] [(.int xx), (.ref kb)])) rfl rfl (hb hby d_prog_82_method_3_31) _ ?_
        show Steps p.tables e below (T9.setTop (mkF m 32 #[.val (.ref a), .val (.int ky), .val (.int ct), .val (.int (own_mk ks)), .val (.int xx)] [(.int (own_g ks xx))])) _
        refine XS.iloadN X9.here hx rfl (hb hby d_prog_82_method_3_32) rfl ?_
        show Steps p.tables e below (T9.setTop (mkF m 33 #[.val (.ref a), .val (.int ky), .val (.int ct), .val (.int (own_mk ks)), .val (.int xx)] [(.int ky), (.int (own_g ks xx))])) _
        exact q
      by_cases hca : (own_g ks xx) = ky
      · rw [own_pf_s _ (Or.inr hca)]
        have k13_ : ∀ t, Steps p.tables e below (T9.setTop (mkF m 47 #[.val (.ref a), .val (.int ky), .val (.int ct), .val (.int (own_mk ks)), .val (.int xx)] [])) t → Steps p.tables e below (s₁.setTop (mkF m 15 #[.val (.ref a), .val (.int ky), .val (.int ct), .val (.int (own_mk ks)), .val (.int xx)] [])) t := by
          intro t q
          refine k12_ _ ?_
          show Steps p.tables e below (T9.setTop (mkF m 33 #[.val (.ref a), .val (.int ky), .val (.int ct), .val (.int (own_mk ks)), .val (.int xx)] [(.int ky), (.int (own_g ks xx))])) _
          refine XS.icmpYes X9.here hx rfl (pc0 := 33) (pc' := 47) rfl (hb hby d_prog_82_method_3_33) rfl (teq hca).1 (by decide) (by decide) ?_
          show Steps p.tables e below (T9.setTop (mkF m 47 #[.val (.ref a), .val (.int ky), .val (.int ct), .val (.int (own_mk ks)), .val (.int xx)] [])) _
          exact q
        exact ⟨_, X9, e9, k13_⟩
      · exact absurd hst (fun z => z.elim hcb hca)
  | succ nn ih =>
    intro xx s₁ X0 e0 hst hr
    have k0 : ∀ t, Steps p.tables e below (s₁.setTop (mkF m 15 #[.val (.ref a), .val (.int ky), .val (.int ct), .val (.int (own_mk ks)), .val (.int xx)] [])) t → Steps p.tables e below (s₁.setTop (mkF m 15 #[.val (.ref a), .val (.int ky), .val (.int ct), .val (.int (own_mk ks)), .val (.int xx)] [])) t := fun t q => q
    have k14_ : ∀ t, Steps p.tables e below (s₁.setTop (mkF m 16 #[.val (.ref a), .val (.int ky), .val (.int ct), .val (.int (own_mk ks)), .val (.int xx)] [(.ref a)])) t → Steps p.tables e below (s₁.setTop (mkF m 15 #[.val (.ref a), .val (.int ky), .val (.int ct), .val (.int (own_mk ks)), .val (.int xx)] [])) t := by
      intro t q
      refine k0 _ ?_
      show Steps p.tables e below (s₁.setTop (mkF m 15 #[.val (.ref a), .val (.int ky), .val (.int ct), .val (.int (own_mk ks)), .val (.int xx)] [])) _
      refine XS.aloadN X0.here hx rfl (hb hby d_prog_82_method_3_15) rfl rfl ?_
      show Steps p.tables e below (s₁.setTop (mkF m 16 #[.val (.ref a), .val (.int ky), .val (.int ct), .val (.int (own_mk ks)), .val (.int xx)] [(.ref a)])) _
      exact q
    obtain ⟨T15, X15, e15, st15⟩ := getF X0 hx hZ hown (host := "") (Or.inl (hw _ (List.mem_of_getElem? (i := 46) rfl))) Via.refl e0 FK (g := (mkF m 16 #[.val (.ref a), .val (.int ky), .val (.int ct), .val (.int (own_mk ks)), .val (.int xx)] [(.ref a)])) rfl rfl (hb hby d_prog_82_method_3_16)
    have k16_ : ∀ t, Steps p.tables e below (T15.setTop (mkF m 19 #[.val (.ref a), .val (.int ky), .val (.int ct), .val (.int (own_mk ks)), .val (.int xx)] [(.ref kb)])) t → Steps p.tables e below (s₁.setTop (mkF m 15 #[.val (.ref a), .val (.int ky), .val (.int ct), .val (.int (own_mk ks)), .val (.int xx)] [])) t := fun t q => k14_ t (st15 t q)
    obtain ⟨cl17, Ar17, q17, S17, M17, H17, G17⟩ := id VK
    have k18_ : ∀ t, Steps p.tables e below (T15.setTop (mkF m 22 #[.val (.ref a), .val (.int ky), .val (.int ct), .val (.int (own_mk ks)), .val (.int xx)] [(.int (own_g ks xx))])) t → Steps p.tables e below (s₁.setTop (mkF m 15 #[.val (.ref a), .val (.int ky), .val (.int ct), .val (.int (own_mk ks)), .val (.int xx)] [])) t := by
      intro t q
      refine k16_ _ ?_
      show Steps p.tables e below (T15.setTop (mkF m 19 #[.val (.ref a), .val (.int ky), .val (.int ct), .val (.int (own_mk ks)), .val (.int xx)] [(.ref kb)])) _
      refine XS.iload X15.here hx rfl (hb hby d_prog_82_method_3_19) rfl ?_
      show Steps p.tables e below (T15.setTop (mkF m 21 #[.val (.ref a), .val (.int ky), .val (.int ct), .val (.int (own_mk ks)), .val (.int xx)] [(.int xx), (.ref kb)])) _
      refine X15.iaload hx (j := xx) (v := (.int (own_g ks xx))) (by rw [e15]; exact Ar17.1) (State.isArrayOf_alike hZ.alike Ar17.2.1) Ar17.2.2 (inb_of S17 hr) (Has.at H17 (inb_of S17 hr) (own_gd _ _)) (g := (mkF m 21 #[.val (.ref a), .val (.int ky), .val (.int ct), .val (.int (own_mk ks)), .val (.int xx)] [(.int xx), (.ref kb)])) rfl rfl (hb hby d_prog_82_method_3_21) _ ?_
      show Steps p.tables e below (T15.setTop (mkF m 22 #[.val (.ref a), .val (.int ky), .val (.int ct), .val (.int (own_mk ks)), .val (.int xx)] [(.int (own_g ks xx))])) _
      exact q
    by_cases hcb : (own_g ks xx) < (0 : Int32)
    · rw [own_pf_s _ (Or.inl hcb)]
      have k19_ : ∀ t, Steps p.tables e below (T15.setTop (mkF m 47 #[.val (.ref a), .val (.int ky), .val (.int ct), .val (.int (own_mk ks)), .val (.int xx)] [])) t → Steps p.tables e below (s₁.setTop (mkF m 15 #[.val (.ref a), .val (.int ky), .val (.int ct), .val (.int (own_mk ks)), .val (.int xx)] [])) t := by
        intro t q
        refine k18_ _ ?_
        show Steps p.tables e below (T15.setTop (mkF m 22 #[.val (.ref a), .val (.int ky), .val (.int ct), .val (.int (own_mk ks)), .val (.int xx)] [(.int (own_g ks xx))])) _
        refine XS.ifYes X15.here hx rfl (pc0 := 22) (pc' := 47) rfl (hb hby d_prog_82_method_3_22) rfl ((if0 _ _).trans (tlt hcb).1) (by decide) (by decide) ?_
        show Steps p.tables e below (T15.setTop (mkF m 47 #[.val (.ref a), .val (.int ky), .val (.int ct), .val (.int (own_mk ks)), .val (.int xx)] [])) _
        exact q
      exact ⟨_, X15, e15, k19_⟩
    · have k20_ : ∀ t, Steps p.tables e below (T15.setTop (mkF m 25 #[.val (.ref a), .val (.int ky), .val (.int ct), .val (.int (own_mk ks)), .val (.int xx)] [])) t → Steps p.tables e below (s₁.setTop (mkF m 15 #[.val (.ref a), .val (.int ky), .val (.int ct), .val (.int (own_mk ks)), .val (.int xx)] [])) t := by
        intro t q
        refine k18_ _ ?_
        show Steps p.tables e below (T15.setTop (mkF m 22 #[.val (.ref a), .val (.int ky), .val (.int ct), .val (.int (own_mk ks)), .val (.int xx)] [(.int (own_g ks xx))])) _
        refine XS.ifNo X15.here hx rfl (hb hby d_prog_82_method_3_22) rfl ((if0 _ _).trans (flt hcb).1) ?_
        show Steps p.tables e below (T15.setTop (mkF m 25 #[.val (.ref a), .val (.int ky), .val (.int ct), .val (.int (own_mk ks)), .val (.int xx)] [])) _
        exact q
      have k21_ : ∀ t, Steps p.tables e below (T15.setTop (mkF m 26 #[.val (.ref a), .val (.int ky), .val (.int ct), .val (.int (own_mk ks)), .val (.int xx)] [(.ref a)])) t → Steps p.tables e below (s₁.setTop (mkF m 15 #[.val (.ref a), .val (.int ky), .val (.int ct), .val (.int (own_mk ks)), .val (.int xx)] [])) t := by
        intro t q
        refine k20_ _ ?_
        show Steps p.tables e below (T15.setTop (mkF m 25 #[.val (.ref a), .val (.int ky), .val (.int ct), .val (.int (own_mk ks)), .val (.int xx)] [])) _
        refine XS.aloadN X15.here hx rfl (hb hby d_prog_82_method_3_25) rfl rfl ?_
        show Steps p.tables e below (T15.setTop (mkF m 26 #[.val (.ref a), .val (.int ky), .val (.int ct), .val (.int (own_mk ks)), .val (.int xx)] [(.ref a)])) _
        exact q
      obtain ⟨T22, X22, e22, st22⟩ := getF X15 hx hZ hown (host := "") (Or.inl (hw _ (List.mem_of_getElem? (i := 46) rfl))) Via.refl e15 FK (g := (mkF m 26 #[.val (.ref a), .val (.int ky), .val (.int ct), .val (.int (own_mk ks)), .val (.int xx)] [(.ref a)])) rfl rfl (hb hby d_prog_82_method_3_26)
      have k23_ : ∀ t, Steps p.tables e below (T22.setTop (mkF m 29 #[.val (.ref a), .val (.int ky), .val (.int ct), .val (.int (own_mk ks)), .val (.int xx)] [(.ref kb)])) t → Steps p.tables e below (s₁.setTop (mkF m 15 #[.val (.ref a), .val (.int ky), .val (.int ct), .val (.int (own_mk ks)), .val (.int xx)] [])) t := fun t q => k21_ t (st22 t q)
      obtain ⟨cl24, Ar24, q24, S24, M24, H24, G24⟩ := id VK
      have k25_ : ∀ t, Steps p.tables e below (T22.setTop (mkF m 33 #[.val (.ref a), .val (.int ky), .val (.int ct), .val (.int (own_mk ks)), .val (.int xx)] [(.int ky), (.int (own_g ks xx))])) t → Steps p.tables e below (s₁.setTop (mkF m 15 #[.val (.ref a), .val (.int ky), .val (.int ct), .val (.int (own_mk ks)), .val (.int xx)] [])) t := by
        intro t q
        refine k23_ _ ?_
        show Steps p.tables e below (T22.setTop (mkF m 29 #[.val (.ref a), .val (.int ky), .val (.int ct), .val (.int (own_mk ks)), .val (.int xx)] [(.ref kb)])) _
        refine XS.iload X22.here hx rfl (hb hby d_prog_82_method_3_29) rfl ?_
        show Steps p.tables e below (T22.setTop (mkF m 31 #[.val (.ref a), .val (.int ky), .val (.int ct), .val (.int (own_mk ks)), .val (.int xx)] [(.int xx), (.ref kb)])) _
        refine X22.iaload hx (j := xx) (v := (.int (own_g ks xx))) (by rw [e22]; exact Ar24.1) (State.isArrayOf_alike hZ.alike Ar24.2.1) Ar24.2.2 (inb_of S24 hr) (Has.at H24 (inb_of S24 hr) (own_gd _ _)) (g := (mkF m 31 #[.val (.ref a), .val (.int ky), .val (.int ct), .val (.int (own_mk ks)), .val (.int xx)] [(.int xx), (.ref kb)])) rfl rfl (hb hby d_prog_82_method_3_31) _ ?_
        show Steps p.tables e below (T22.setTop (mkF m 32 #[.val (.ref a), .val (.int ky), .val (.int ct), .val (.int (own_mk ks)), .val (.int xx)] [(.int (own_g ks xx))])) _
        refine XS.iloadN X22.here hx rfl (hb hby d_prog_82_method_3_32) rfl ?_
        show Steps p.tables e below (T22.setTop (mkF m 33 #[.val (.ref a), .val (.int ky), .val (.int ct), .val (.int (own_mk ks)), .val (.int xx)] [(.int ky), (.int (own_g ks xx))])) _
        exact q
      by_cases hca : (own_g ks xx) = ky
      · rw [own_pf_s _ (Or.inr hca)]
        have k26_ : ∀ t, Steps p.tables e below (T22.setTop (mkF m 47 #[.val (.ref a), .val (.int ky), .val (.int ct), .val (.int (own_mk ks)), .val (.int xx)] [])) t → Steps p.tables e below (s₁.setTop (mkF m 15 #[.val (.ref a), .val (.int ky), .val (.int ct), .val (.int (own_mk ks)), .val (.int xx)] [])) t := by
          intro t q
          refine k25_ _ ?_
          show Steps p.tables e below (T22.setTop (mkF m 33 #[.val (.ref a), .val (.int ky), .val (.int ct), .val (.int (own_mk ks)), .val (.int xx)] [(.int ky), (.int (own_g ks xx))])) _
          refine XS.icmpYes X22.here hx rfl (pc0 := 33) (pc' := 47) rfl (hb hby d_prog_82_method_3_33) rfl (teq hca).1 (by decide) (by decide) ?_
          show Steps p.tables e below (T22.setTop (mkF m 47 #[.val (.ref a), .val (.int ky), .val (.int ct), .val (.int (own_mk ks)), .val (.int xx)] [])) _
          exact q
        exact ⟨_, X22, e22, k26_⟩
      · rw [own_pf_g nn hcb hca] at hst ⊢
        have k27_ : ∀ t, Steps p.tables e below (T22.setTop (mkF m 36 #[.val (.ref a), .val (.int ky), .val (.int ct), .val (.int (own_mk ks)), .val (.int xx)] [])) t → Steps p.tables e below (s₁.setTop (mkF m 15 #[.val (.ref a), .val (.int ky), .val (.int ct), .val (.int (own_mk ks)), .val (.int xx)] [])) t := by
          intro t q
          refine k25_ _ ?_
          show Steps p.tables e below (T22.setTop (mkF m 33 #[.val (.ref a), .val (.int ky), .val (.int ct), .val (.int (own_mk ks)), .val (.int xx)] [(.int ky), (.int (own_g ks xx))])) _
          refine XS.icmpNo X22.here hx rfl (hb hby d_prog_82_method_3_33) rfl (feq hca).1 ?_
          show Steps p.tables e below (T22.setTop (mkF m 36 #[.val (.ref a), .val (.int ky), .val (.int ct), .val (.int (own_mk ks)), .val (.int xx)] [])) _
          exact q
        have k28_ : ∀ t, Steps p.tables e below (T22.setTop (mkF m 15 #[.val (.ref a), .val (.int ky), .val (.int ct), .val (.int (own_mk ks)), .val (.int ((xx + (1 : Int32)) &&& (own_mk ks)))] [])) t → Steps p.tables e below (s₁.setTop (mkF m 15 #[.val (.ref a), .val (.int ky), .val (.int ct), .val (.int (own_mk ks)), .val (.int xx)] [])) t := by
          intro t q
          refine k27_ _ ?_
          show Steps p.tables e below (T22.setTop (mkF m 36 #[.val (.ref a), .val (.int ky), .val (.int ct), .val (.int (own_mk ks)), .val (.int xx)] [])) _
          refine XS.iload X22.here hx rfl (hb hby d_prog_82_method_3_36) rfl ?_
          show Steps p.tables e below (T22.setTop (mkF m 38 #[.val (.ref a), .val (.int ky), .val (.int ct), .val (.int (own_mk ks)), .val (.int xx)] [(.int xx)])) _
          refine XS.iconst X22.here hx rfl (hb hby d_prog_82_method_3_38) ?_
          show Steps p.tables e below (T22.setTop (mkF m 39 #[.val (.ref a), .val (.int ky), .val (.int ct), .val (.int (own_mk ks)), .val (.int xx)] [(.int (1 : Int32)), (.int xx)])) _
          refine XS.iadd X22.here hx rfl (hb hby d_prog_82_method_3_39) rfl ?_
          show Steps p.tables e below (T22.setTop (mkF m 40 #[.val (.ref a), .val (.int ky), .val (.int ct), .val (.int (own_mk ks)), .val (.int xx)] [(.int (xx + (1 : Int32)))])) _
          refine XS.iloadN X22.here hx rfl (hb hby d_prog_82_method_3_40) rfl ?_
          show Steps p.tables e below (T22.setTop (mkF m 41 #[.val (.ref a), .val (.int ky), .val (.int ct), .val (.int (own_mk ks)), .val (.int xx)] [(.int (own_mk ks)), (.int (xx + (1 : Int32)))])) _
          refine XS.iand X22.here hx rfl (hb hby d_prog_82_method_3_41) rfl ?_
          show Steps p.tables e below (T22.setTop (mkF m 42 #[.val (.ref a), .val (.int ky), .val (.int ct), .val (.int (own_mk ks)), .val (.int xx)] [(.int ((xx + (1 : Int32)) &&& (own_mk ks)))])) _
          refine XS.istore X22.here hx rfl (hb hby d_prog_82_method_3_42) rfl (l' := #[.val (.ref a), .val (.int ky), .val (.int ct), .val (.int (own_mk ks)), .val (.int ((xx + (1 : Int32)) &&& (own_mk ks)))]) rfl ?_
          show Steps p.tables e below (T22.setTop (mkF m 44 #[.val (.ref a), .val (.int ky), .val (.int ct), .val (.int (own_mk ks)), .val (.int ((xx + (1 : Int32)) &&& (own_mk ks)))] [])) _
          refine XS.goto X22.here hx rfl (pc0 := 44) (pc' := 15) rfl (hb hby d_prog_82_method_3_44) (by decide) (by decide) ?_
          show Steps p.tables e below (T22.setTop (mkF m 15 #[.val (.ref a), .val (.int ky), .val (.int ct), .val (.int (own_mk ks)), .val (.int ((xx + (1 : Int32)) &&& (own_mk ks)))] [])) _
          exact q
        have k29_ : ∀ t, Steps p.tables e below (T22.setTop (mkF m 15 #[.val (.ref a), .val (.int ky), .val (.int ct), .val (.int (own_mk ks)), .val (.int (own_nx ks xx))] [])) t → Steps p.tables e below (s₁.setTop (mkF m 15 #[.val (.ref a), .val (.int ky), .val (.int ct), .val (.int (own_mk ks)), .val (.int xx)] [])) t := fun t q => k28_ t (Eq.mp (congrArg (fun z => Steps p.tables e below (T22.setTop (mkF m 15 #[.val (.ref a), .val (.int ky), .val (.int ct), .val (.int (own_mk ks)), .val (.int z)] [])) t) (show (own_nx ks xx) = ((xx + (1 : Int32)) &&& (own_mk ks)) from rfl)) q)
        obtain ⟨T', X', e', st'⟩ := ih (own_nx ks xx) _ X22 e22 hst (own_nr l4 xx)
        exact ⟨T', X', e', fun t q => k29_ t (st' t q)⟩
def QG (Z : State) (a : Addr) (ky : Int32) (kb : Addr) (cb : Addr) (ks : List Int32) (cs : List Int32) (F : Int32 → Int32) (h0 : Heap) (n0 : Nat) (v : Option Value) (h : Heap) (L : List Loc) : Prop := v = some (.int (F ky)) ∧ Fr n0 L ∧ h = h0
theorem ef_G (m : MethodId) (x0 : Addr) (x1 : Int32) : entryFrame m #[(.ref x0), (.int x1)] 4 = mkF m 0 #[.val (.ref x0), .val (.int x1), .unset, .unset] [] := by first | (simp [entryFrame, mkF, argsToLocals, Value.category]; done) | rfl
theorem d_prog_82_method_2_0 : decode prog_82_method_2_code 0 = .ok (.aload_n 0, 1) := by decide +kernel
theorem d_prog_82_method_2_1 : decode prog_82_method_2_code 1 = .ok (.getfield 7, 3) := by decide +kernel
theorem d_prog_82_method_2_4 : decode prog_82_method_2_code 4 = .ok (.arraylength, 1) := by decide +kernel
theorem d_prog_82_method_2_5 : decode prog_82_method_2_code 5 = .ok (.iconst 1, 1) := by decide +kernel
theorem d_prog_82_method_2_6 : decode prog_82_method_2_code 6 = .ok (.isub, 1) := by decide +kernel
theorem d_prog_82_method_2_7 : decode prog_82_method_2_code 7 = .ok (.istore_n 2, 1) := by decide +kernel
theorem d_prog_82_method_2_8 : decode prog_82_method_2_code 8 = .ok (.iload_n 1, 1) := by decide +kernel
theorem d_prog_82_method_2_9 : decode prog_82_method_2_code 9 = .ok (.iload_n 2, 1) := by decide +kernel
theorem pd_90420 : parseMethodDescriptor "(II)I" = some ⟨[.int, .int], some .int⟩ := by decide +kernel
theorem d_prog_82_method_2_10 : decode prog_82_method_2_code 10 = .ok (.invokestatic 16, 3) := by decide +kernel
theorem d_prog_82_method_2_13 : decode prog_82_method_2_code 13 = .ok (.istore_n 3, 1) := by decide +kernel
theorem d_prog_82_method_2_24 : decode prog_82_method_2_code 24 = .ok (.aload_n 0, 1) := by decide +kernel
theorem d_prog_82_method_2_25 : decode prog_82_method_2_code 25 = .ok (.getfield 13, 3) := by decide +kernel
theorem d_prog_82_method_2_28 : decode prog_82_method_2_code 28 = .ok (.iload_n 3, 1) := by decide +kernel
theorem d_prog_82_method_2_29 : decode prog_82_method_2_code 29 = .ok (.iaload, 1) := by decide +kernel
theorem d_prog_82_method_2_30 : decode prog_82_method_2_code 30 = .ok (.ireturn, 1) := by decide +kernel
theorem d_prog_82_method_2_40 : decode prog_82_method_2_code 40 = .ok (.iconst 0, 1) := by decide +kernel
theorem d_prog_82_method_2_41 : decode prog_82_method_2_code 41 = .ok (.ireturn, 1) := by decide +kernel
set_option maxRecDepth 65536 in
set_option maxHeartbeats 40000000 in
theorem rmG (l : Launch) (Z : State) (a0 : Array Value) (hw : ∀ d ∈ tables_1, d.before a0 Z = true) (ws : List Jvm.Cond) (a : Addr) (ky : Int32) (kb : Addr) (cb : Addr) (ks : List Int32) (cs : List Int32) (F : Int32 → Int32) (h0 : Heap) (n0 : Nat) (Z0 : n0 ≤ h0.size) (hC : own_Cn Z n0 h0 a kb cb ks cs) (hT : own_Ct F ks cs) (hk : ky ∈ own_K) :
    MetFree l (⟨"com/example/weir/weir/model/HeldTasks$Counts", "get", "(I)I"⟩ : MethodName) (head1 (Jvm.Cond.code (⟨"com/example/weir/weir/model/HeldTasks$Counts", "get", "(I)I"⟩ : MethodName) prog_82_method_2_code 4 (some .int) :: ws) ({ frames := 1, cells := 0, slots := 0, locals := 14 } : Room)) (fun a_ U_ => a_ = #[(.ref a), (.int ky)] ∧ Z.Warmed39 U_.vm ∧ U_.heap = h0) (fun _ _ _ _ _ => True) (fun _ U_ o_ E_ => ∃ v_ L_, o_ = .returned v_ ∧ QG Z a ky kb cb ks cs F h0 n0 v_ E_.heap L_ ∧ FrameEnd U_ o_ E_ L_ ({ frames := 1, cells := 0, slots := 0, locals := 14 } : Room).cells ({ frames := 1, cells := 0, slots := 0, locals := 14 } : Room).slots) := by
  refine MetFree.of_bodySF (plainFor_of_name pn_HeldTasks_Counts) hisR ?_
  intro p e s m args below meth c s₁ Bd hml0 hP hK
  obtain ⟨rfl, hZ, hh⟩ := hP
  have hx := Bd.exec
  have hby := Bd.bytes
  have hml : c.maxLocals = 4 := hml0
  have hown : s.vm.findClass "com/example/weir/weir/model/HeldTasks$Counts" = some m.cls := findClass_of_methodNamed Bd.named
  have hnm := (name_of_methodNamed Bd.named Bd.method).1
  have X0 : Stand p l e ({ frames := 1, cells := 0, slots := 0, locals := 14 } : Room) s m #[(.ref a), (.int ky)] below meth c s₁ [] 0 0 := Stand.of_body Bd
  have e0 : s₁.heap = h0 := by rw [← hh, Bd.state]; rfl
  have N0 := Fr.nil n0
  have Zn := Z0
  have pre0 : ∀ t, Steps p.tables e below (s₁.setTop (mkF m 0 #[.val (.ref a), .val (.int ky), .unset, .unset] [])) t → Steps p.tables e below (s₁.setTop (entryFrame m #[(.ref a), (.int ky)] 4)) t := fun t q => castTop (ef_G m a ky) q
  have k0 : ∀ t, Steps p.tables e below (s₁.setTop (mkF m 0 #[.val (.ref a), .val (.int ky), .unset, .unset] [])) t → Steps p.tables e below (s₁.setTop (mkF m 0 #[.val (.ref a), .val (.int ky), .unset, .unset] [])) t := fun t q => q
  obtain ⟨EA, FK, FC, FS, ⟨kK, VK⟩, ⟨kC, VC⟩, hlen, ⟨n1, n2, n3⟩, ⟨g1, g2, g3⟩⟩ := id hC
  have l4 := own_D0 ks hT.1
  obtain ⟨d1, d2, d3, d4⟩ := own_D1 ks hT.1 ky hk
  have k1_ : ∀ t, Steps p.tables e below (s₁.setTop (mkF m 1 #[.val (.ref a), .val (.int ky), .unset, .unset] [(.ref a)])) t → Steps p.tables e below (s₁.setTop (mkF m 0 #[.val (.ref a), .val (.int ky), .unset, .unset] [])) t := by
    intro t q
    refine k0 _ ?_
    show Steps p.tables e below (s₁.setTop (mkF m 0 #[.val (.ref a), .val (.int ky), .unset, .unset] [])) _
    refine XS.aloadN X0.here hx rfl (hb hby d_prog_82_method_2_0) rfl rfl ?_
    show Steps p.tables e below (s₁.setTop (mkF m 1 #[.val (.ref a), .val (.int ky), .unset, .unset] [(.ref a)])) _
    exact q
  obtain ⟨T2, X2, e2, st2⟩ := getF X0 hx hZ hown (host := "") (Or.inl (hw _ (List.mem_of_getElem? (i := 46) rfl))) Via.refl e0 FK (g := (mkF m 1 #[.val (.ref a), .val (.int ky), .unset, .unset] [(.ref a)])) rfl rfl (hb hby d_prog_82_method_2_1)
  have k3_ : ∀ t, Steps p.tables e below (T2.setTop (mkF m 4 #[.val (.ref a), .val (.int ky), .unset, .unset] [(.ref kb)])) t → Steps p.tables e below (s₁.setTop (mkF m 0 #[.val (.ref a), .val (.int ky), .unset, .unset] [])) t := fun t q => k1_ t (st2 t q)
  obtain ⟨cl4, Ar4, q4, S4, M4, H4, G4⟩ := id VK
  have k5_ : ∀ t, Steps p.tables e below (T2.setTop (mkF m 8 #[.val (.ref a), .val (.int ky), .val (.int ((own_ln ks) - (1 : Int32))), .unset] [])) t → Steps p.tables e below (s₁.setTop (mkF m 0 #[.val (.ref a), .val (.int ky), .unset, .unset] [])) t := by
    intro t q
    refine k3_ _ ?_
    show Steps p.tables e below (T2.setTop (mkF m 4 #[.val (.ref a), .val (.int ky), .unset, .unset] [(.ref kb)])) _
    refine X2.arraylength hx (by rw [e2]; exact Ar4.1) (State.isArrayOf_alike hZ.alike Ar4.2.1) (g := (mkF m 4 #[.val (.ref a), .val (.int ky), .unset, .unset] [(.ref kb)])) rfl rfl (hb hby d_prog_82_method_2_4) _ ?_
    rw [len_of S4 M4]
    show Steps p.tables e below (T2.setTop (mkF m 5 #[.val (.ref a), .val (.int ky), .unset, .unset] [(.int (own_ln ks))])) _
    refine XS.iconst X2.here hx rfl (hb hby d_prog_82_method_2_5) ?_
    show Steps p.tables e below (T2.setTop (mkF m 6 #[.val (.ref a), .val (.int ky), .unset, .unset] [(.int (1 : Int32)), (.int (own_ln ks))])) _
    refine XS.isub X2.here hx rfl (hb hby d_prog_82_method_2_6) rfl ?_
    show Steps p.tables e below (T2.setTop (mkF m 7 #[.val (.ref a), .val (.int ky), .unset, .unset] [(.int ((own_ln ks) - (1 : Int32)))])) _
    refine XS.istoreN X2.here hx rfl (hb hby d_prog_82_method_2_7) rfl (l' := #[.val (.ref a), .val (.int ky), .val (.int ((own_ln ks) - (1 : Int32))), .unset]) rfl ?_
    show Steps p.tables e below (T2.setTop (mkF m 8 #[.val (.ref a), .val (.int ky), .val (.int ((own_ln ks) - (1 : Int32))), .unset] [])) _
    exact q
  have k6_ : ∀ t, Steps p.tables e below (T2.setTop (mkF m 8 #[.val (.ref a), .val (.int ky), .val (.int (own_mk ks)), .unset] [])) t → Steps p.tables e below (s₁.setTop (mkF m 0 #[.val (.ref a), .val (.int ky), .unset, .unset] [])) t := fun t q => k5_ t (Eq.mp (congrArg (fun z => Steps p.tables e below (T2.setTop (mkF m 8 #[.val (.ref a), .val (.int ky), .val (.int z), .unset] [])) t) (show (own_mk ks) = ((own_ln ks) - (1 : Int32)) from rfl)) q)
  have k7_ : ∀ t, Steps p.tables e below (T2.setTop (mkF m 10 #[.val (.ref a), .val (.int ky), .val (.int (own_mk ks)), .unset] [(.int (own_mk ks)), (.int ky)])) t → Steps p.tables e below (s₁.setTop (mkF m 0 #[.val (.ref a), .val (.int ky), .unset, .unset] [])) t := by
    intro t q
    refine k6_ _ ?_
    show Steps p.tables e below (T2.setTop (mkF m 8 #[.val (.ref a), .val (.int ky), .val (.int (own_mk ks)), .unset] [])) _
    refine XS.iloadN X2.here hx rfl (hb hby d_prog_82_method_2_8) rfl ?_
    show Steps p.tables e below (T2.setTop (mkF m 9 #[.val (.ref a), .val (.int ky), .val (.int (own_mk ks)), .unset] [(.int ky)])) _
    refine XS.iloadN X2.here hx rfl (hb hby d_prog_82_method_2_9) rfl ?_
    show Steps p.tables e below (T2.setTop (mkF m 10 #[.val (.ref a), .val (.int ky), .val (.int (own_mk ks)), .unset] [(.int (own_mk ks)), (.int ky)])) _
    exact q
  obtain ⟨_, _, ⟨T8, L8, kk8, n8⟩, -, X8, ⟨Lc8, hQ8, l8, y8, z8⟩, st8⟩ := Jvm.LawKit.callS X2 hx (y := (⟨"com/example/weir/weir/model/HeldTasks$Counts", "home", "(II)I"⟩ : MethodName)) hown (mvT hZ (hw _ (List.mem_of_getElem? (i := 56) rfl))) (mvT hZ (hw _ (List.mem_of_getElem? (i := 57) rfl))) (mvT hZ (hw _ (List.mem_of_getElem? (i := 41) rfl))) (mvT hZ (hw _ (List.mem_of_getElem? (i := 58) rfl))) (by decide) (backOf (W := 0) (rmH l Z a0 hw [] ky (own_mk ks) h0 n0 Zn) hZ (hw _ (List.mem_of_getElem? (i := 58) rfl)) (hw _ (List.mem_of_getElem? (i := 41) rfl)) (by decide) (by decide)) (g := (mkF m 10 #[.val (.ref a), .val (.int ky), .val (.int (own_mk ks)), .unset] [(.int (own_mk ks)), (.int ky)])) rfl (by rw [hml]; rfl) (argsL := [(.int ky), (.int (own_mk ks))]) (rest := []) (lenOf pd_90420 rfl) rfl (by show 2 * 0 + _ ≤ _; exact Nat.le_of_eq rfl) (hb hby d_prog_82_method_2_10) (fun _ _ => ⟨rfl, e2, (by decide : 0 + 0 ≤ _), (by decide : 0 + 0 ≤ _)⟩)
  dsimp only [Pt.U, Pt.locs, Pt.cells, Pt.slots] at X8 l8 y8 z8 st8 hQ8
  rw [l8, y8, z8] at X8
  obtain ⟨rfl, Nq8, hq8⟩ := hQ8
  have N8 := Fr.app N0 Nq8
  have k9_ : ∀ t, Steps p.tables e below (T8.setTop (mkF m 13 #[.val (.ref a), .val (.int ky), .val (.int (own_mk ks)), .unset] [(.int (own_hm ky (own_mk ks)))])) t → Steps p.tables e below (s₁.setTop (mkF m 0 #[.val (.ref a), .val (.int ky), .unset, .unset] [])) t := fun t q => k7_ t (st8 t q)
  have k10_ : ∀ t, Steps p.tables e below (T8.setTop (mkF m 14 #[.val (.ref a), .val (.int ky), .val (.int (own_mk ks)), .val (.int (own_hm ky (own_mk ks)))] [])) t → Steps p.tables e below (s₁.setTop (mkF m 0 #[.val (.ref a), .val (.int ky), .unset, .unset] [])) t := by
    intro t q
    refine k9_ _ ?_
    show Steps p.tables e below (T8.setTop (mkF m 13 #[.val (.ref a), .val (.int ky), .val (.int (own_mk ks)), .unset] [(.int (own_hm ky (own_mk ks)))])) _
    refine XS.istoreN X8.here hx rfl (hb hby d_prog_82_method_2_13) rfl (l' := #[.val (.ref a), .val (.int ky), .val (.int (own_mk ks)), .val (.int (own_hm ky (own_mk ks)))]) rfl ?_
    show Steps p.tables e below (T8.setTop (mkF m 14 #[.val (.ref a), .val (.int ky), .val (.int (own_mk ks)), .val (.int (own_hm ky (own_mk ks)))] [])) _
    exact q
  obtain ⟨TA, px, XA, eA, hpx, stA⟩ := lpG Z a0 hw hx hZ hby hml hown n0 a kb ky ks l4 h0 FK kK VK _ _ _ 3 (own_hm ky (own_mk ks)) _ X8 hq8 d1 d4
  rcases hpx with ⟨rfl, hg⟩ | ⟨rfl, hg⟩
  · have k11_ : ∀ t, Steps p.tables e below (TA.setTop (mkF m 24 #[.val (.ref a), .val (.int ky), .val (.int (own_mk ks)), .val (.int (own_sl ks ky))] [])) t → Steps p.tables e below (s₁.setTop (mkF m 0 #[.val (.ref a), .val (.int ky), .unset, .unset] [])) t := fun t q => k10_ t (stA t q)
    have k12_ : ∀ t, Steps p.tables e below (TA.setTop (mkF m 25 #[.val (.ref a), .val (.int ky), .val (.int (own_mk ks)), .val (.int (own_sl ks ky))] [(.ref a)])) t → Steps p.tables e below (s₁.setTop (mkF m 0 #[.val (.ref a), .val (.int ky), .unset, .unset] [])) t := by
      intro t q
      refine k11_ _ ?_
      show Steps p.tables e below (TA.setTop (mkF m 24 #[.val (.ref a), .val (.int ky), .val (.int (own_mk ks)), .val (.int (own_sl ks ky))] [])) _
      refine XS.aloadN XA.here hx rfl (hb hby d_prog_82_method_2_24) rfl rfl ?_
      show Steps p.tables e below (TA.setTop (mkF m 25 #[.val (.ref a), .val (.int ky), .val (.int (own_mk ks)), .val (.int (own_sl ks ky))] [(.ref a)])) _
      exact q
    obtain ⟨T13, X13, e13, st13⟩ := getF XA hx hZ hown (host := "") (Or.inl (hw _ (List.mem_of_getElem? (i := 48) rfl))) Via.refl eA FC (g := (mkF m 25 #[.val (.ref a), .val (.int ky), .val (.int (own_mk ks)), .val (.int (own_sl ks ky))] [(.ref a)])) rfl rfl (hb hby d_prog_82_method_2_25)
    have k14_ : ∀ t, Steps p.tables e below (T13.setTop (mkF m 28 #[.val (.ref a), .val (.int ky), .val (.int (own_mk ks)), .val (.int (own_sl ks ky))] [(.ref cb)])) t → Steps p.tables e below (s₁.setTop (mkF m 0 #[.val (.ref a), .val (.int ky), .unset, .unset] [])) t := fun t q => k12_ t (st13 t q)
    obtain ⟨cl15, Ar15, q15, S15, M15, H15, G15⟩ := id VC
    have k16_ : ∀ t, Steps p.tables e below (T13.setTop (mkF m 30 #[.val (.ref a), .val (.int ky), .val (.int (own_mk ks)), .val (.int (own_sl ks ky))] [(.int (own_g cs (own_sl ks ky)))])) t → Steps p.tables e below (s₁.setTop (mkF m 0 #[.val (.ref a), .val (.int ky), .unset, .unset] [])) t := by
      intro t q
      refine k14_ _ ?_
      show Steps p.tables e below (T13.setTop (mkF m 28 #[.val (.ref a), .val (.int ky), .val (.int (own_mk ks)), .val (.int (own_sl ks ky))] [(.ref cb)])) _
      refine XS.iloadN X13.here hx rfl (hb hby d_prog_82_method_2_28) rfl ?_
      show Steps p.tables e below (T13.setTop (mkF m 29 #[.val (.ref a), .val (.int ky), .val (.int (own_mk ks)), .val (.int (own_sl ks ky))] [(.int (own_sl ks ky)), (.ref cb)])) _
      refine X13.iaload hx (j := (own_sl ks ky)) (v := (.int (own_g cs (own_sl ks ky)))) (by rw [e13]; exact Ar15.1) (State.isArrayOf_alike hZ.alike Ar15.2.1) Ar15.2.2 (inb_of S15 d2) (Has.at H15 (inb_of S15 d2) (own_gd _ _)) (g := (mkF m 29 #[.val (.ref a), .val (.int ky), .val (.int (own_mk ks)), .val (.int (own_sl ks ky))] [(.int (own_sl ks ky)), (.ref cb)])) rfl rfl (hb hby d_prog_82_method_2_29) _ ?_
      show Steps p.tables e below (T13.setTop (mkF m 30 #[.val (.ref a), .val (.int ky), .val (.int (own_mk ks)), .val (.int (own_sl ks ky))] [(.int (own_g cs (own_sl ks ky)))])) _
      exact q
    obtain ⟨fs, hr, hrun, hended, hW, hsame⟩ := X13.leave (v := some (.int (own_g cs (own_sl ks ky)))) (fun h => by rw [Bd.returns] at h; cases h)
    refine ⟨_, _, pre0 _ (k16_ _ ?_), hrun, hended, _, _, rfl, ?_, ⟨_, rfl⟩, hW, hsame.mono (by decide) (by decide)⟩
    · show Steps p.tables e below (T13.setTop (mkF m 30 #[.val (.ref a), .val (.int ky), .val (.int (own_mk ks)), .val (.int (own_sl ks ky))] [(.int (own_g cs (own_sl ks ky)))])) _
      exact retI X13 hx Bd.returns (hb hby d_prog_82_method_2_30) hr
    · show QG Z a ky kb cb ks cs F h0 n0 _ T13.heap _
      rw [e13]
      exact ⟨by rw [(own_Ct_get hT hk hlen).1 hg], N8, rfl⟩
  · have k17_ : ∀ t, Steps p.tables e below (TA.setTop (mkF m 40 #[.val (.ref a), .val (.int ky), .val (.int (own_mk ks)), .val (.int (own_sl ks ky))] [])) t → Steps p.tables e below (s₁.setTop (mkF m 0 #[.val (.ref a), .val (.int ky), .unset, .unset] [])) t := fun t q => k10_ t (stA t q)
    have k18_ : ∀ t, Steps p.tables e below (TA.setTop (mkF m 41 #[.val (.ref a), .val (.int ky), .val (.int (own_mk ks)), .val (.int (own_sl ks ky))] [(.int (0 : Int32))])) t → Steps p.tables e below (s₁.setTop (mkF m 0 #[.val (.ref a), .val (.int ky), .unset, .unset] [])) t := by
      intro t q
      refine k17_ _ ?_
      show Steps p.tables e below (TA.setTop (mkF m 40 #[.val (.ref a), .val (.int ky), .val (.int (own_mk ks)), .val (.int (own_sl ks ky))] [])) _
      refine XS.iconst XA.here hx rfl (hb hby d_prog_82_method_2_40) ?_
      show Steps p.tables e below (TA.setTop (mkF m 41 #[.val (.ref a), .val (.int ky), .val (.int (own_mk ks)), .val (.int (own_sl ks ky))] [(.int (0 : Int32))])) _
      exact q
    obtain ⟨fs, hr, hrun, hended, hW, hsame⟩ := XA.leave (v := some (.int (0 : Int32))) (fun h => by rw [Bd.returns] at h; cases h)
    refine ⟨_, _, pre0 _ (k18_ _ ?_), hrun, hended, _, _, rfl, ?_, ⟨_, rfl⟩, hW, hsame.mono (by decide) (by decide)⟩
    · show Steps p.tables e below (TA.setTop (mkF m 41 #[.val (.ref a), .val (.int ky), .val (.int (own_mk ks)), .val (.int (own_sl ks ky))] [(.int (0 : Int32))])) _
      exact retI XA hx Bd.returns (hb hby d_prog_82_method_2_41) hr
    · show QG Z a ky kb cb ks cs F h0 n0 _ TA.heap _
      rw [eA]
      exact ⟨by rw [(own_Ct_get hT hk hlen).2 hg], N8, rfl⟩
def QC (Z : State) (a : Addr) (ky : Int32) (ct : Int32) (kb : Addr) (cb : Addr) (ks : List Int32) (cs : List Int32) (h0 : Heap) (n0 : Nat) (v : Option Value) (h : Heap) (L : List Loc) : Prop := v = none ∧ Fr n0 L ∧ Keep h0 h [a, kb, cb] ∧ own_Cn Z n0 h a kb cb (own_in ks ky) (cs.set (own_sl ks ky).toNatClampNeg ct)
theorem ef_C (m : MethodId) (x0 : Addr) (x1 : Int32) (x2 : Int32) : entryFrame m #[(.ref x0), (.int x1), (.int x2)] 5 = mkF m 0 #[.val (.ref x0), .val (.int x1), .val (.int x2), .unset, .unset] [] := by first | (simp [entryFrame, mkF, argsToLocals, Value.category]; done) | rfl
theorem d_prog_82_method_3_0 : decode prog_82_method_3_code 0 = .ok (.aload_n 0, 1) := by decide +kernel
theorem d_prog_82_method_3_1 : decode prog_82_method_3_code 1 = .ok (.getfield 7, 3) := by decide +kernel
theorem d_prog_82_method_3_4 : decode prog_82_method_3_code 4 = .ok (.arraylength, 1) := by decide +kernel
theorem d_prog_82_method_3_5 : decode prog_82_method_3_code 5 = .ok (.iconst 1, 1) := by decide +kernel
theorem d_prog_82_method_3_6 : decode prog_82_method_3_code 6 = .ok (.isub, 1) := by decide +kernel
theorem d_prog_82_method_3_7 : decode prog_82_method_3_code 7 = .ok (.istore_n 3, 1) := by decide +kernel
theorem d_prog_82_method_3_8 : decode prog_82_method_3_code 8 = .ok (.iload_n 1, 1) := by decide +kernel
theorem d_prog_82_method_3_9 : decode prog_82_method_3_code 9 = .ok (.iload_n 3, 1) := by decide +kernel
theorem d_prog_82_method_3_10 : decode prog_82_method_3_code 10 = .ok (.invokestatic 16, 3) := by decide +kernel
theorem d_prog_82_method_3_13 : decode prog_82_method_3_code 13 = .ok (.istore 4, 2) := by decide +kernel
theorem d_prog_82_method_3_47 : decode prog_82_method_3_code 47 = .ok (.aload_n 0, 1) := by decide +kernel
theorem d_prog_82_method_3_48 : decode prog_82_method_3_code 48 = .ok (.getfield 7, 3) := by decide +kernel
theorem d_prog_82_method_3_51 : decode prog_82_method_3_code 51 = .ok (.iload 4, 2) := by decide +kernel
theorem d_prog_82_method_3_53 : decode prog_82_method_3_code 53 = .ok (.iaload, 1) := by decide +kernel
theorem d_prog_82_method_3_54 : decode prog_82_method_3_code 54 = .ok (.iload_n 1, 1) := by decide +kernel
theorem d_prog_82_method_3_55 : decode prog_82_method_3_code 55 = .ok (.if_icmp .ne 27, 3) := by decide +kernel
theorem d_prog_82_method_3_82 : decode prog_82_method_3_code 82 = .ok (.iload_n 2, 1) := by decide +kernel
theorem d_prog_82_method_3_83 : decode prog_82_method_3_code 83 = .ok (.ifCond .le 47, 3) := by decide +kernel
theorem d_prog_82_method_3_86 : decode prog_82_method_3_code 86 = .ok (.aload_n 0, 1) := by decide +kernel
theorem d_prog_82_method_3_87 : decode prog_82_method_3_code 87 = .ok (.getfield 7, 3) := by decide +kernel
theorem d_prog_82_method_3_90 : decode prog_82_method_3_code 90 = .ok (.iload 4, 2) := by decide +kernel
theorem d_prog_82_method_3_92 : decode prog_82_method_3_code 92 = .ok (.iload_n 1, 1) := by decide +kernel
theorem d_prog_82_method_3_93 : decode prog_82_method_3_code 93 = .ok (.iastore, 1) := by decide +kernel
theorem d_prog_82_method_3_94 : decode prog_82_method_3_code 94 = .ok (.aload_n 0, 1) := by decide +kernel
theorem d_prog_82_method_3_95 : decode prog_82_method_3_code 95 = .ok (.getfield 13, 3) := by decide +kernel
theorem d_prog_82_method_3_98 : decode prog_82_method_3_code 98 = .ok (.iload 4, 2) := by decide +kernel
theorem d_prog_82_method_3_100 : decode prog_82_method_3_code 100 = .ok (.iload_n 2, 1) := by decide +kernel
theorem d_prog_82_method_3_101 : decode prog_82_method_3_code 101 = .ok (.iastore, 1) := by decide +kernel
theorem d_prog_82_method_3_102 : decode prog_82_method_3_code 102 = .ok (.aload_n 0, 1) := by decide +kernel
theorem d_prog_82_method_3_103 : decode prog_82_method_3_code 103 = .ok (.dup, 1) := by decide +kernel
theorem d_prog_82_method_3_104 : decode prog_82_method_3_code 104 = .ok (.getfield 24, 3) := by decide +kernel
theorem d_prog_82_method_3_107 : decode prog_82_method_3_code 107 = .ok (.iconst 1, 1) := by decide +kernel
theorem d_prog_82_method_3_108 : decode prog_82_method_3_code 108 = .ok (.iadd, 1) := by decide +kernel
theorem d_prog_82_method_3_109 : decode prog_82_method_3_code 109 = .ok (.putfield 24, 3) := by decide +kernel
theorem d_prog_82_method_3_112 : decode prog_82_method_3_code 112 = .ok (.iconst 2, 1) := by decide +kernel
theorem d_prog_82_method_3_113 : decode prog_82_method_3_code 113 = .ok (.aload_n 0, 1) := by decide +kernel
theorem d_prog_82_method_3_114 : decode prog_82_method_3_code 114 = .ok (.getfield 24, 3) := by decide +kernel
theorem d_prog_82_method_3_117 : decode prog_82_method_3_code 117 = .ok (.imul, 1) := by decide +kernel
theorem d_prog_82_method_3_118 : decode prog_82_method_3_code 118 = .ok (.aload_n 0, 1) := by decide +kernel
theorem d_prog_82_method_3_119 : decode prog_82_method_3_code 119 = .ok (.getfield 7, 3) := by decide +kernel
theorem d_prog_82_method_3_122 : decode prog_82_method_3_code 122 = .ok (.arraylength, 1) := by decide +kernel
theorem d_prog_82_method_3_123 : decode prog_82_method_3_code 123 = .ok (.if_icmp .le 7, 3) := by decide +kernel
theorem d_prog_82_method_3_130 : decode prog_82_method_3_code 130 = .ok (.return_, 1) := by decide +kernel
set_option maxRecDepth 65536 in
set_option maxHeartbeats 40000000 in
theorem rmC (l : Launch) (Z : State) (a0 : Array Value) (hw : ∀ d ∈ tables_1, d.before a0 Z = true) (ws : List Jvm.Cond) (a : Addr) (ky : Int32) (ct : Int32) (kb : Addr) (cb : Addr) (ks : List Int32) (cs : List Int32) (h0 : Heap) (n0 : Nat) (Z0 : n0 ≤ h0.size) (hC : own_Cn Z n0 h0 a kb cb ks cs) (hT : ks ∈ own_T) (hk : ky ∈ own_K) (hab : ¬ own_g ks (own_sl ks ky) = ky) (hct : (0 : Int32) < ct) (hng : ¬ own_ln ks < (2 : Int32) * (own_sz ks + (1 : Int32))) :
    MetFree l (⟨"com/example/weir/weir/model/HeldTasks$Counts", "put", "(II)V"⟩ : MethodName) (head1 (Jvm.Cond.code (⟨"com/example/weir/weir/model/HeldTasks$Counts", "put", "(II)V"⟩ : MethodName) prog_82_method_3_code 5 none :: ws) ({ frames := 1, cells := 0, slots := 0, locals := 14 } : Room)) (fun a_ U_ => a_ = #[(.ref a), (.int ky), (.int ct)] ∧ Z.Warmed39 U_.vm ∧ U_.heap = h0) (fun _ _ _ _ _ => True) (fun _ U_ o_ E_ => ∃ v_ L_, o_ = .returned v_ ∧ QC Z a ky ct kb cb ks cs h0 n0 v_ E_.heap L_ ∧ FrameEnd U_ o_ E_ L_ ({ frames := 1, cells := 0, slots := 0, locals := 14 } : Room).cells ({ frames := 1, cells := 0, slots := 0, locals := 14 } : Room).slots) := by
  refine MetFree.of_bodySF (plainFor_of_name pn_HeldTasks_Counts) hisR ?_
  intro p e s m args below meth c s₁ Bd hml0 hP hK
  obtain ⟨rfl, hZ, hh⟩ := hP
  have hx := Bd.exec
  have hby := Bd.bytes
  have hml : c.maxLocals = 5 := hml0
  have hown : s.vm.findClass "com/example/weir/weir/model/HeldTasks$Counts" = some m.cls := findClass_of_methodNamed Bd.named
  have hnm := (name_of_methodNamed Bd.named Bd.method).1
  have X0 : Stand p l e ({ frames := 1, cells := 0, slots := 0, locals := 14 } : Room) s m #[(.ref a), (.int ky), (.int ct)] below meth c s₁ [] 0 0 := Stand.of_body Bd
  have e0 : s₁.heap = h0 := by rw [← hh, Bd.state]; rfl
  have N0 := Fr.nil n0
  have Zn := Z0
  have pre0 : ∀ t, Steps p.tables e below (s₁.setTop (mkF m 0 #[.val (.ref a), .val (.int ky), .val (.int ct), .unset, .unset] [])) t → Steps p.tables e below (s₁.setTop (entryFrame m #[(.ref a), (.int ky), (.int ct)] 5)) t := fun t q => castTop (ef_C m a ky ct) q
  have k0 : ∀ t, Steps p.tables e below (s₁.setTop (mkF m 0 #[.val (.ref a), .val (.int ky), .val (.int ct), .unset, .unset] [])) t → Steps p.tables e below (s₁.setTop (mkF m 0 #[.val (.ref a), .val (.int ky), .val (.int ct), .unset, .unset] [])) t := fun t q => q
  obtain ⟨EA, FK, FC, FS, ⟨kK, VK⟩, ⟨kC, VC⟩, hlen, ⟨n1, n2, n3⟩, ⟨g1, g2, g3⟩⟩ := id hC
  have l4 := own_D0 ks hT
  obtain ⟨d1, d2, d3, d4⟩ := own_D1 ks hT ky hk
  have KP := Keep.refl h0 [a, kb, cb]
  have k1_ : ∀ t, Steps p.tables e below (s₁.setTop (mkF m 1 #[.val (.ref a), .val (.int ky), .val (.int ct), .unset, .unset] [(.ref a)])) t → Steps p.tables e below (s₁.setTop (mkF m 0 #[.val (.ref a), .val (.int ky), .val (.int ct), .unset, .unset] [])) t := by
    intro t q
    refine k0 _ ?_
    show Steps p.tables e below (s₁.setTop (mkF m 0 #[.val (.ref a), .val (.int ky), .val (.int ct), .unset, .unset] [])) _
    refine XS.aloadN X0.here hx rfl (hb hby d_prog_82_method_3_0) rfl rfl ?_
    show Steps p.tables e below (s₁.setTop (mkF m 1 #[.val (.ref a), .val (.int ky), .val (.int ct), .unset, .unset] [(.ref a)])) _
    exact q
  obtain ⟨T2, X2, e2, st2⟩ := getF X0 hx hZ hown (host := "") (Or.inl (hw _ (List.mem_of_getElem? (i := 46) rfl))) Via.refl e0 FK (g := (mkF m 1 #[.val (.ref a), .val (.int ky), .val (.int ct), .unset, .unset] [(.ref a)])) rfl rfl (hb hby d_prog_82_method_3_1)
  have k3_ : ∀ t, Steps p.tables e below (T2.setTop (mkF m 4 #[.val (.ref a), .val (.int ky), .val (.int ct), .unset, .unset] [(.ref kb)])) t → Steps p.tables e below (s₁.setTop (mkF m 0 #[.val (.ref a), .val (.int ky), .val (.int ct), .unset, .unset] [])) t := fun t q => k1_ t (st2 t q)
  obtain ⟨cl4, Ar4, q4, S4, M4, H4, G4⟩ := id VK
  have k5_ : ∀ t, Steps p.tables e below (T2.setTop (mkF m 8 #[.val (.ref a), .val (.int ky), .val (.int ct), .val (.int ((own_ln ks) - (1 : Int32))), .unset] [])) t → Steps p.tables e below (s₁.setTop (mkF m 0 #[.val (.ref a), .val (.int ky), .val (.int ct), .unset, .unset] [])) t := by
    intro t q
    refine k3_ _ ?_
    show Steps p.tables e below (T2.setTop (mkF m 4 #[.val (.ref a), .val (.int ky), .val (.int ct), .unset, .unset] [(.ref kb)])) _
    refine X2.arraylength hx (by rw [e2]; exact Ar4.1) (State.isArrayOf_alike hZ.alike Ar4.2.1) (g := (mkF m 4 #[.val (.ref a), .val (.int ky), .val (.int ct), .unset, .unset] [(.ref kb)])) rfl rfl (hb hby d_prog_82_method_3_4) _ ?_
    rw [len_of S4 M4]
    show Steps p.tables e below (T2.setTop (mkF m 5 #[.val (.ref a), .val (.int ky), .val (.int ct), .unset, .unset] [(.int (own_ln ks))])) _
    refine XS.iconst X2.here hx rfl (hb hby d_prog_82_method_3_5) ?_
    show Steps p.tables e below (T2.setTop (mkF m 6 #[.val (.ref a), .val (.int ky), .val (.int ct), .unset, .unset] [(.int (1 : Int32)), (.int (own_ln ks))])) _
    refine XS.isub X2.here hx rfl (hb hby d_prog_82_method_3_6) rfl ?_
    show Steps p.tables e below (T2.setTop (mkF m 7 #[.val (.ref a), .val (.int ky), .val (.int ct), .unset, .unset] [(.int ((own_ln ks) - (1 : Int32)))])) _
    refine XS.istoreN X2.here hx rfl (hb hby d_prog_82_method_3_7) rfl (l' := #[.val (.ref a), .val (.int ky), .val (.int ct), .val (.int ((own_ln ks) - (1 : Int32))), .unset]) rfl ?_
    show Steps p.tables e below (T2.setTop (mkF m 8 #[.val (.ref a), .val (.int ky), .val (.int ct), .val (.int ((own_ln ks) - (1 : Int32))), .unset] [])) _
    exact q
  have k6_ : ∀ t, Steps p.tables e below (T2.setTop (mkF m 8 #[.val (.ref a), .val (.int ky), .val (.int ct), .val (.int (own_mk ks)), .unset] [])) t → Steps p.tables e below (s₁.setTop (mkF m 0 #[.val (.ref a), .val (.int ky), .val (.int ct), .unset, .unset] [])) t := fun t q => k5_ t (Eq.mp (congrArg (fun z => Steps p.tables e below (T2.setTop (mkF m 8 #[.val (.ref a), .val (.int ky), .val (.int ct), .val (.int z), .unset] [])) t) (show (own_mk ks) = ((own_ln ks) - (1 : Int32)) from rfl)) q)
  have k7_ : ∀ t, Steps p.tables e below (T2.setTop (mkF m 10 #[.val (.ref a), .val (.int ky), .val (.int ct), .val (.int (own_mk ks)), .unset] [(.int (own_mk ks)), (.int ky)])) t → Steps p.tables e below (s₁.setTop (mkF m 0 #[.val (.ref a), .val (.int ky), .val (.int ct), .unset, .unset] [])) t := by
    intro t q
    refine k6_ _ ?_
    show Steps p.tables e below (T2.setTop (mkF m 8 #[.val (.ref a), .val (.int ky), .val (.int ct), .val (.int (own_mk ks)), .unset] [])) _
    refine XS.iloadN X2.here hx rfl (hb hby d_prog_82_method_3_8) rfl ?_
    show Steps p.tables e below (T2.setTop (mkF m 9 #[.val (.ref a), .val (.int ky), .val (.int ct), .val (.int (own_mk ks)), .unset] [(.int ky)])) _
    refine XS.iloadN X2.here hx rfl (hb hby d_prog_82_method_3_9) rfl ?_
    show Steps p.tables e below (T2.setTop (mkF m 10 #[.val (.ref a), .val (.int ky), .val (.int ct), .val (.int (own_mk ks)), .unset] [(.int (own_mk ks)), (.int ky)])) _
    exact q
  obtain ⟨_, _, ⟨T8, L8, kk8, n8⟩, -, X8, ⟨Lc8, hQ8, l8, y8, z8⟩, st8⟩ := Jvm.LawKit.callS X2 hx (y := (⟨"com/example/weir/weir/model/HeldTasks$Counts", "home", "(II)I"⟩ : MethodName)) hown (mvT hZ (hw _ (List.mem_of_getElem? (i := 56) rfl))) (mvT hZ (hw _ (List.mem_of_getElem? (i := 57) rfl))) (mvT hZ (hw _ (List.mem_of_getElem? (i := 41) rfl))) (mvT hZ (hw _ (List.mem_of_getElem? (i := 58) rfl))) (by decide) (backOf (W := 0) (rmH l Z a0 hw [] ky (own_mk ks) h0 n0 Zn) hZ (hw _ (List.mem_of_getElem? (i := 58) rfl)) (hw _ (List.mem_of_getElem? (i := 41) rfl)) (by decide) (by decide)) (g := (mkF m 10 #[.val (.ref a), .val (.int ky), .val (.int ct), .val (.int (own_mk ks)), .unset] [(.int (own_mk ks)), (.int ky)])) rfl (by rw [hml]; rfl) (argsL := [(.int ky), (.int (own_mk ks))]) (rest := []) (lenOf pd_90420 rfl) rfl (by show 2 * 0 + _ ≤ _; exact Nat.le_of_eq rfl) (hb hby d_prog_82_method_3_10) (fun _ _ => ⟨rfl, e2, (by decide : 0 + 0 ≤ _), (by decide : 0 + 0 ≤ _)⟩)
  dsimp only [Pt.U, Pt.locs, Pt.cells, Pt.slots] at X8 l8 y8 z8 st8 hQ8
  rw [l8, y8, z8] at X8
  obtain ⟨rfl, Nq8, hq8⟩ := hQ8
  have N8 := Fr.app N0 Nq8
  have k9_ : ∀ t, Steps p.tables e below (T8.setTop (mkF m 13 #[.val (.ref a), .val (.int ky), .val (.int ct), .val (.int (own_mk ks)), .unset] [(.int (own_hm ky (own_mk ks)))])) t → Steps p.tables e below (s₁.setTop (mkF m 0 #[.val (.ref a), .val (.int ky), .val (.int ct), .unset, .unset] [])) t := fun t q => k7_ t (st8 t q)
  have k10_ : ∀ t, Steps p.tables e below (T8.setTop (mkF m 15 #[.val (.ref a), .val (.int ky), .val (.int ct), .val (.int (own_mk ks)), .val (.int (own_hm ky (own_mk ks)))] [])) t → Steps p.tables e below (s₁.setTop (mkF m 0 #[.val (.ref a), .val (.int ky), .val (.int ct), .unset, .unset] [])) t := by
    intro t q
    refine k9_ _ ?_
    show Steps p.tables e below (T8.setTop (mkF m 13 #[.val (.ref a), .val (.int ky), .val (.int ct), .val (.int (own_mk ks)), .unset] [(.int (own_hm ky (own_mk ks)))])) _
    refine XS.istore X8.here hx rfl (hb hby d_prog_82_method_3_13) rfl (l' := #[.val (.ref a), .val (.int ky), .val (.int ct), .val (.int (own_mk ks)), .val (.int (own_hm ky (own_mk ks)))]) rfl ?_
    show Steps p.tables e below (T8.setTop (mkF m 15 #[.val (.ref a), .val (.int ky), .val (.int ct), .val (.int (own_mk ks)), .val (.int (own_hm ky (own_mk ks)))] [])) _
    exact q
  obtain ⟨TA, XA, eA, stA⟩ := lpP Z a0 hw hx hZ hby hml hown n0 a kb ky ct ks l4 h0 FK kK VK _ _ _ 3 (own_hm ky (own_mk ks)) _ X8 hq8 d1 d4
  have k11_ : ∀ t, Steps p.tables e below (TA.setTop (mkF m 47 #[.val (.ref a), .val (.int ky), .val (.int ct), .val (.int (own_mk ks)), .val (.int (own_sl ks ky))] [])) t → Steps p.tables e below (s₁.setTop (mkF m 0 #[.val (.ref a), .val (.int ky), .val (.int ct), .unset, .unset] [])) t := fun t q => k10_ t (stA t q)
  have k12_ : ∀ t, Steps p.tables e below (TA.setTop (mkF m 48 #[.val (.ref a), .val (.int ky), .val (.int ct), .val (.int (own_mk ks)), .val (.int (own_sl ks ky))] [(.ref a)])) t → Steps p.tables e below (s₁.setTop (mkF m 0 #[.val (.ref a), .val (.int ky), .val (.int ct), .unset, .unset] [])) t := by
    intro t q
    refine k11_ _ ?_
    show Steps p.tables e below (TA.setTop (mkF m 47 #[.val (.ref a), .val (.int ky), .val (.int ct), .val (.int (own_mk ks)), .val (.int (own_sl ks ky))] [])) _
    refine XS.aloadN XA.here hx rfl (hb hby d_prog_82_method_3_47) rfl rfl ?_
    show Steps p.tables e below (TA.setTop (mkF m 48 #[.val (.ref a), .val (.int ky), .val (.int ct), .val (.int (own_mk ks)), .val (.int (own_sl ks ky))] [(.ref a)])) _
    exact q
  obtain ⟨T13, X13, e13, st13⟩ := getF XA hx hZ hown (host := "") (Or.inl (hw _ (List.mem_of_getElem? (i := 46) rfl))) Via.refl eA FK (g := (mkF m 48 #[.val (.ref a), .val (.int ky), .val (.int ct), .val (.int (own_mk ks)), .val (.int (own_sl ks ky))] [(.ref a)])) rfl rfl (hb hby d_prog_82_method_3_48)
  have k14_ : ∀ t, Steps p.tables e below (T13.setTop (mkF m 51 #[.val (.ref a), .val (.int ky), .val (.int ct), .val (.int (own_mk ks)), .val (.int (own_sl ks ky))] [(.ref kb)])) t → Steps p.tables e below (s₁.setTop (mkF m 0 #[.val (.ref a), .val (.int ky), .val (.int ct), .unset, .unset] [])) t := fun t q => k12_ t (st13 t q)
  obtain ⟨cl15, Ar15, q15, S15, M15, H15, G15⟩ := id VK
  have k16_ : ∀ t, Steps p.tables e below (T13.setTop (mkF m 55 #[.val (.ref a), .val (.int ky), .val (.int ct), .val (.int (own_mk ks)), .val (.int (own_sl ks ky))] [(.int ky), (.int (own_g ks (own_sl ks ky)))])) t → Steps p.tables e below (s₁.setTop (mkF m 0 #[.val (.ref a), .val (.int ky), .val (.int ct), .unset, .unset] [])) t := by
    intro t q
    refine k14_ _ ?_
    show Steps p.tables e below (T13.setTop (mkF m 51 #[.val (.ref a), .val (.int ky), .val (.int ct), .val (.int (own_mk ks)), .val (.int (own_sl ks ky))] [(.ref kb)])) _
    refine XS.iload X13.here hx rfl (hb hby d_prog_82_method_3_51) rfl ?_
    show Steps p.tables e below (T13.setTop (mkF m 53 #[.val (.ref a), .val (.int ky), .val (.int ct), .val (.int (own_mk ks)), .val (.int (own_sl ks ky))] [(.int (own_sl ks ky)), (.ref kb)])) _
    refine X13.iaload hx (j := (own_sl ks ky)) (v := (.int (own_g ks (own_sl ks ky)))) (by rw [e13]; exact Ar15.1) (State.isArrayOf_alike hZ.alike Ar15.2.1) Ar15.2.2 (inb_of S15 d2) (Has.at H15 (inb_of S15 d2) (own_gd _ _)) (g := (mkF m 53 #[.val (.ref a), .val (.int ky), .val (.int ct), .val (.int (own_mk ks)), .val (.int (own_sl ks ky))] [(.int (own_sl ks ky)), (.ref kb)])) rfl rfl (hb hby d_prog_82_method_3_53) _ ?_
    show Steps p.tables e below (T13.setTop (mkF m 54 #[.val (.ref a), .val (.int ky), .val (.int ct), .val (.int (own_mk ks)), .val (.int (own_sl ks ky))] [(.int (own_g ks (own_sl ks ky)))])) _
    refine XS.iloadN X13.here hx rfl (hb hby d_prog_82_method_3_54) rfl ?_
    show Steps p.tables e below (T13.setTop (mkF m 55 #[.val (.ref a), .val (.int ky), .val (.int ct), .val (.int (own_mk ks)), .val (.int (own_sl ks ky))] [(.int ky), (.int (own_g ks (own_sl ks ky)))])) _
    exact q
  have k17_ : ∀ t, Steps p.tables e below (T13.setTop (mkF m 82 #[.val (.ref a), .val (.int ky), .val (.int ct), .val (.int (own_mk ks)), .val (.int (own_sl ks ky))] [])) t → Steps p.tables e below (s₁.setTop (mkF m 0 #[.val (.ref a), .val (.int ky), .val (.int ct), .unset, .unset] [])) t := by
    intro t q
    refine k16_ _ ?_
    show Steps p.tables e below (T13.setTop (mkF m 55 #[.val (.ref a), .val (.int ky), .val (.int ct), .val (.int (own_mk ks)), .val (.int (own_sl ks ky))] [(.int ky), (.int (own_g ks (own_sl ks ky)))])) _
    refine XS.icmpYes X13.here hx rfl (pc0 := 55) (pc' := 82) rfl (hb hby d_prog_82_method_3_55) rfl (feq hab).2 (by decide) (by decide) ?_
    show Steps p.tables e below (T13.setTop (mkF m 82 #[.val (.ref a), .val (.int ky), .val (.int ct), .val (.int (own_mk ks)), .val (.int (own_sl ks ky))] [])) _
    exact q
  have k18_ : ∀ t, Steps p.tables e below (T13.setTop (mkF m 83 #[.val (.ref a), .val (.int ky), .val (.int ct), .val (.int (own_mk ks)), .val (.int (own_sl ks ky))] [(.int ct)])) t → Steps p.tables e below (s₁.setTop (mkF m 0 #[.val (.ref a), .val (.int ky), .val (.int ct), .unset, .unset] [])) t := by
    intro t q
    refine k17_ _ ?_
    show Steps p.tables e below (T13.setTop (mkF m 82 #[.val (.ref a), .val (.int ky), .val (.int ct), .val (.int (own_mk ks)), .val (.int (own_sl ks ky))] [])) _
    refine XS.iloadN X13.here hx rfl (hb hby d_prog_82_method_3_82) rfl ?_
    show Steps p.tables e below (T13.setTop (mkF m 83 #[.val (.ref a), .val (.int ky), .val (.int ct), .val (.int (own_mk ks)), .val (.int (own_sl ks ky))] [(.int ct)])) _
    exact q
  have k19_ : ∀ t, Steps p.tables e below (T13.setTop (mkF m 86 #[.val (.ref a), .val (.int ky), .val (.int ct), .val (.int (own_mk ks)), .val (.int (own_sl ks ky))] [])) t → Steps p.tables e below (s₁.setTop (mkF m 0 #[.val (.ref a), .val (.int ky), .val (.int ct), .unset, .unset] [])) t := by
    intro t q
    refine k18_ _ ?_
    show Steps p.tables e below (T13.setTop (mkF m 83 #[.val (.ref a), .val (.int ky), .val (.int ct), .val (.int (own_mk ks)), .val (.int (own_sl ks ky))] [(.int ct)])) _
    refine XS.ifNo X13.here hx rfl (hb hby d_prog_82_method_3_83) rfl ((if0 _ _).trans (tlt hct).2.2.2) ?_
    show Steps p.tables e below (T13.setTop (mkF m 86 #[.val (.ref a), .val (.int ky), .val (.int ct), .val (.int (own_mk ks)), .val (.int (own_sl ks ky))] [])) _
    exact q
  have k20_ : ∀ t, Steps p.tables e below (T13.setTop (mkF m 87 #[.val (.ref a), .val (.int ky), .val (.int ct), .val (.int (own_mk ks)), .val (.int (own_sl ks ky))] [(.ref a)])) t → Steps p.tables e below (s₁.setTop (mkF m 0 #[.val (.ref a), .val (.int ky), .val (.int ct), .unset, .unset] [])) t := by
    intro t q
    refine k19_ _ ?_
    show Steps p.tables e below (T13.setTop (mkF m 86 #[.val (.ref a), .val (.int ky), .val (.int ct), .val (.int (own_mk ks)), .val (.int (own_sl ks ky))] [])) _
    refine XS.aloadN X13.here hx rfl (hb hby d_prog_82_method_3_86) rfl rfl ?_
    show Steps p.tables e below (T13.setTop (mkF m 87 #[.val (.ref a), .val (.int ky), .val (.int ct), .val (.int (own_mk ks)), .val (.int (own_sl ks ky))] [(.ref a)])) _
    exact q
  obtain ⟨T21, X21, e21, st21⟩ := getF X13 hx hZ hown (host := "") (Or.inl (hw _ (List.mem_of_getElem? (i := 46) rfl))) Via.refl e13 FK (g := (mkF m 87 #[.val (.ref a), .val (.int ky), .val (.int ct), .val (.int (own_mk ks)), .val (.int (own_sl ks ky))] [(.ref a)])) rfl rfl (hb hby d_prog_82_method_3_87)
  have k22_ : ∀ t, Steps p.tables e below (T21.setTop (mkF m 90 #[.val (.ref a), .val (.int ky), .val (.int ct), .val (.int (own_mk ks)), .val (.int (own_sl ks ky))] [(.ref kb)])) t → Steps p.tables e below (s₁.setTop (mkF m 0 #[.val (.ref a), .val (.int ky), .val (.int ct), .unset, .unset] [])) t := fun t q => k20_ t (st21 t q)
  have k23_ : ∀ t, Steps p.tables e below (T21.setTop (mkF m 93 #[.val (.ref a), .val (.int ky), .val (.int ct), .val (.int (own_mk ks)), .val (.int (own_sl ks ky))] [(.int ky), (.int (own_sl ks ky)), (.ref kb)])) t → Steps p.tables e below (s₁.setTop (mkF m 0 #[.val (.ref a), .val (.int ky), .val (.int ct), .unset, .unset] [])) t := by
    intro t q
    refine k22_ _ ?_
    show Steps p.tables e below (T21.setTop (mkF m 90 #[.val (.ref a), .val (.int ky), .val (.int ct), .val (.int (own_mk ks)), .val (.int (own_sl ks ky))] [(.ref kb)])) _
    refine XS.iload X21.here hx rfl (hb hby d_prog_82_method_3_90) rfl ?_
    show Steps p.tables e below (T21.setTop (mkF m 92 #[.val (.ref a), .val (.int ky), .val (.int ct), .val (.int (own_mk ks)), .val (.int (own_sl ks ky))] [(.int (own_sl ks ky)), (.ref kb)])) _
    refine XS.iloadN X21.here hx rfl (hb hby d_prog_82_method_3_92) rfl ?_
    show Steps p.tables e below (T21.setTop (mkF m 93 #[.val (.ref a), .val (.int ky), .val (.int ct), .val (.int (own_mk ks)), .val (.int (own_sl ks ky))] [(.int ky), (.int (own_sl ks ky)), (.ref kb)])) _
    exact q
  obtain ⟨cl24, Ar24, q24, S24, M24, H24, G24⟩ := VK
  obtain ⟨T25, h25, X25, e25, W25, st25⟩ := stI X21 hx hZ e21 Ar24 (j := (own_sl ks ky)) (inb_of S24 d2) (g := (mkF m 93 #[.val (.ref a), .val (.int ky), .val (.int ct), .val (.int (own_mk ks)), .val (.int (own_sl ks ky))] [(.int ky), (.int (own_sl ks ky)), (.ref kb)])) rfl rfl (hb hby d_prog_82_method_3_93)
  have k26_ : ∀ t, Steps p.tables e below (T25.setTop (mkF m 94 #[.val (.ref a), .val (.int ky), .val (.int ct), .val (.int (own_mk ks)), .val (.int (own_sl ks ky))] [])) t → Steps p.tables e below (s₁.setTop (mkF m 0 #[.val (.ref a), .val (.int ky), .val (.int ct), .unset, .unset] [])) t := fun t q => k23_ t (st25 t q)
  have N25 := Fr.snoc X25 N8 g2
  replace Zn := Nat.le_trans Zn (Keep.of_wr W25).1
  replace EA := EA.wr W25
  replace FK := FK.other W25 (Or.inl n1)
  replace FC := FC.other W25 (Or.inl n1)
  replace FS := FS.other W25 (Or.inl n1)
  replace VC := VC.other W25 (Ne.symm n3)
  have VK : Arv Z h25 kb kK .int (own_ln ks) ((ks.set ((own_sl ks ky)).toNatClampNeg ky).map Value.int) (.int 0) := by rw [List.map_set]; exact Arv.set Ar24 q24 S24 M24 H24 G24 rfl W25 _ rfl (own_rgm l4 d2)
  replace KP := KP.wr W25 (Or.inl (List.mem_of_getElem? (i := 1) rfl))
  have k27_ : ∀ t, Steps p.tables e below (T25.setTop (mkF m 95 #[.val (.ref a), .val (.int ky), .val (.int ct), .val (.int (own_mk ks)), .val (.int (own_sl ks ky))] [(.ref a)])) t → Steps p.tables e below (s₁.setTop (mkF m 0 #[.val (.ref a), .val (.int ky), .val (.int ct), .unset, .unset] [])) t := by
    intro t q
    refine k26_ _ ?_
    show Steps p.tables e below (T25.setTop (mkF m 94 #[.val (.ref a), .val (.int ky), .val (.int ct), .val (.int (own_mk ks)), .val (.int (own_sl ks ky))] [])) _
    refine XS.aloadN X25.here hx rfl (hb hby d_prog_82_method_3_94) rfl rfl ?_
    show Steps p.tables e below (T25.setTop (mkF m 95 #[.val (.ref a), .val (.int ky), .val (.int ct), .val (.int (own_mk ks)), .val (.int (own_sl ks ky))] [(.ref a)])) _
    exact q
  obtain ⟨T28, X28, e28, st28⟩ := getF X25 hx hZ hown (host := "") (Or.inl (hw _ (List.mem_of_getElem? (i := 48) rfl))) Via.refl e25 FC (g := (mkF m 95 #[.val (.ref a), .val (.int ky), .val (.int ct), .val (.int (own_mk ks)), .val (.int (own_sl ks ky))] [(.ref a)])) rfl rfl (hb hby d_prog_82_method_3_95)
  have k29_ : ∀ t, Steps p.tables e below (T28.setTop (mkF m 98 #[.val (.ref a), .val (.int ky), .val (.int ct), .val (.int (own_mk ks)), .val (.int (own_sl ks ky))] [(.ref cb)])) t → Steps p.tables e below (s₁.setTop (mkF m 0 #[.val (.ref a), .val (.int ky), .val (.int ct), .unset, .unset] [])) t := fun t q => k27_ t (st28 t q)
  have k30_ : ∀ t, Steps p.tables e below (T28.setTop (mkF m 101 #[.val (.ref a), .val (.int ky), .val (.int ct), .val (.int (own_mk ks)), .val (.int (own_sl ks ky))] [(.int ct), (.int (own_sl ks ky)), (.ref cb)])) t → Steps p.tables e below (s₁.setTop (mkF m 0 #[.val (.ref a), .val (.int ky), .val (.int ct), .unset, .unset] [])) t := by
    intro t q
    refine k29_ _ ?_
    show Steps p.tables e below (T28.setTop (mkF m 98 #[.val (.ref a), .val (.int ky), .val (.int ct), .val (.int (own_mk ks)), .val (.int (own_sl ks ky))] [(.ref cb)])) _
    refine XS.iload X28.here hx rfl (hb hby d_prog_82_method_3_98) rfl ?_
    show Steps p.tables e below (T28.setTop (mkF m 100 #[.val (.ref a), .val (.int ky), .val (.int ct), .val (.int (own_mk ks)), .val (.int (own_sl ks ky))] [(.int (own_sl ks ky)), (.ref cb)])) _
    refine XS.iloadN X28.here hx rfl (hb hby d_prog_82_method_3_100) rfl ?_
    show Steps p.tables e below (T28.setTop (mkF m 101 #[.val (.ref a), .val (.int ky), .val (.int ct), .val (.int (own_mk ks)), .val (.int (own_sl ks ky))] [(.int ct), (.int (own_sl ks ky)), (.ref cb)])) _
    exact q
  obtain ⟨cl31, Ar31, q31, S31, M31, H31, G31⟩ := VC
  obtain ⟨T32, h32, X32, e32, W32, st32⟩ := stI X28 hx hZ e28 Ar31 (j := (own_sl ks ky)) (inb_of S31 d2) (g := (mkF m 101 #[.val (.ref a), .val (.int ky), .val (.int ct), .val (.int (own_mk ks)), .val (.int (own_sl ks ky))] [(.int ct), (.int (own_sl ks ky)), (.ref cb)])) rfl rfl (hb hby d_prog_82_method_3_101)
  have k33_ : ∀ t, Steps p.tables e below (T32.setTop (mkF m 102 #[.val (.ref a), .val (.int ky), .val (.int ct), .val (.int (own_mk ks)), .val (.int (own_sl ks ky))] [])) t → Steps p.tables e below (s₁.setTop (mkF m 0 #[.val (.ref a), .val (.int ky), .val (.int ct), .unset, .unset] [])) t := fun t q => k30_ t (st32 t q)
  have N32 := Fr.snoc X32 N25 g3
  replace Zn := Nat.le_trans Zn (Keep.of_wr W32).1
  replace EA := EA.wr W32
  replace FK := FK.other W32 (Or.inl n2)
  replace FC := FC.other W32 (Or.inl n2)
  replace FS := FS.other W32 (Or.inl n2)
  replace VK := VK.other W32 n3
  have VC : Arv Z h32 cb kC .int (own_ln ks) ((cs.set ((own_sl ks ky)).toNatClampNeg ct).map Value.int) (.int 0) := by rw [List.map_set]; exact Arv.set Ar31 q31 S31 M31 H31 G31 rfl W32 _ rfl (by rw [List.length_map, hlen]; exact own_rg l4 d2)
  replace KP := KP.wr W32 (Or.inl (List.mem_of_getElem? (i := 2) rfl))
  have k34_ : ∀ t, Steps p.tables e below (T32.setTop (mkF m 104 #[.val (.ref a), .val (.int ky), .val (.int ct), .val (.int (own_mk ks)), .val (.int (own_sl ks ky))] [(.ref a), (.ref a)])) t → Steps p.tables e below (s₁.setTop (mkF m 0 #[.val (.ref a), .val (.int ky), .val (.int ct), .unset, .unset] [])) t := by
    intro t q
    refine k33_ _ ?_
    show Steps p.tables e below (T32.setTop (mkF m 102 #[.val (.ref a), .val (.int ky), .val (.int ct), .val (.int (own_mk ks)), .val (.int (own_sl ks ky))] [])) _
    refine XS.aloadN X32.here hx rfl (hb hby d_prog_82_method_3_102) rfl rfl ?_
    show Steps p.tables e below (T32.setTop (mkF m 103 #[.val (.ref a), .val (.int ky), .val (.int ct), .val (.int (own_mk ks)), .val (.int (own_sl ks ky))] [(.ref a)])) _
    refine XS.dup X32.here hx rfl (hb hby d_prog_82_method_3_103) rfl rfl ?_
    show Steps p.tables e below (T32.setTop (mkF m 104 #[.val (.ref a), .val (.int ky), .val (.int ct), .val (.int (own_mk ks)), .val (.int (own_sl ks ky))] [(.ref a), (.ref a)])) _
    exact q
  obtain ⟨T35, X35, e35, st35⟩ := getF X32 hx hZ hown (host := "") (Or.inl (hw _ (List.mem_of_getElem? (i := 60) rfl))) Via.refl e32 FS (g := (mkF m 104 #[.val (.ref a), .val (.int ky), .val (.int ct), .val (.int (own_mk ks)), .val (.int (own_sl ks ky))] [(.ref a), (.ref a)])) rfl rfl (hb hby d_prog_82_method_3_104)
  have k36_ : ∀ t, Steps p.tables e below (T35.setTop (mkF m 107 #[.val (.ref a), .val (.int ky), .val (.int ct), .val (.int (own_mk ks)), .val (.int (own_sl ks ky))] [(.int (own_sz ks)), (.ref a)])) t → Steps p.tables e below (s₁.setTop (mkF m 0 #[.val (.ref a), .val (.int ky), .val (.int ct), .unset, .unset] [])) t := fun t q => k34_ t (st35 t q)
  have k37_ : ∀ t, Steps p.tables e below (T35.setTop (mkF m 109 #[.val (.ref a), .val (.int ky), .val (.int ct), .val (.int (own_mk ks)), .val (.int (own_sl ks ky))] [(.int ((own_sz ks) + (1 : Int32))), (.ref a)])) t → Steps p.tables e below (s₁.setTop (mkF m 0 #[.val (.ref a), .val (.int ky), .val (.int ct), .unset, .unset] [])) t := by
    intro t q
    refine k36_ _ ?_
    show Steps p.tables e below (T35.setTop (mkF m 107 #[.val (.ref a), .val (.int ky), .val (.int ct), .val (.int (own_mk ks)), .val (.int (own_sl ks ky))] [(.int (own_sz ks)), (.ref a)])) _
    refine XS.iconst X35.here hx rfl (hb hby d_prog_82_method_3_107) ?_
    show Steps p.tables e below (T35.setTop (mkF m 108 #[.val (.ref a), .val (.int ky), .val (.int ct), .val (.int (own_mk ks)), .val (.int (own_sl ks ky))] [(.int (1 : Int32)), (.int (own_sz ks)), (.ref a)])) _
    refine XS.iadd X35.here hx rfl (hb hby d_prog_82_method_3_108) rfl ?_
    show Steps p.tables e below (T35.setTop (mkF m 109 #[.val (.ref a), .val (.int ky), .val (.int ct), .val (.int (own_mk ks)), .val (.int (own_sl ks ky))] [(.int ((own_sz ks) + (1 : Int32))), (.ref a)])) _
    exact q
  obtain ⟨T38, h38, X38, e38, W38, st38⟩ := putF X35 hx hZ hown (host := "") (Or.inl (hw _ (List.mem_of_getElem? (i := 60) rfl))) Via.refl e35 FS EA (Or.inl (hw _ (List.mem_of_getElem? (i := 61) rfl))) (hw _ (List.mem_of_getElem? (i := 40) rfl)) (ty := .int) (by decide) rfl rfl (g := (mkF m 109 #[.val (.ref a), .val (.int ky), .val (.int ct), .val (.int (own_mk ks)), .val (.int (own_sl ks ky))] [(.int ((own_sz ks) + (1 : Int32))), (.ref a)])) rfl rfl (hb hby d_prog_82_method_3_109)
  have k39_ : ∀ t, Steps p.tables e below (T38.setTop (mkF m 112 #[.val (.ref a), .val (.int ky), .val (.int ct), .val (.int (own_mk ks)), .val (.int (own_sl ks ky))] [])) t → Steps p.tables e below (s₁.setTop (mkF m 0 #[.val (.ref a), .val (.int ky), .val (.int ct), .unset, .unset] [])) t := fun t q => k37_ t (st38 t q)
  have N38 := Fr.snoc X38 N32 g1
  replace Zn := Nat.le_trans Zn (Keep.of_wr W38).1
  replace EA := EA.wr W38
  replace FK := FK.other W38 (Or.inr (slot_ne (Or.inl (hw _ (List.mem_of_getElem? (i := 47) rfl))) (Or.inl (hw _ (List.mem_of_getElem? (i := 61) rfl))) (by decide) (t := (.array .int)) (t' := .int) (by decide) (by decide)))
  replace FC := FC.other W38 (Or.inr (slot_ne (Or.inl (hw _ (List.mem_of_getElem? (i := 49) rfl))) (Or.inl (hw _ (List.mem_of_getElem? (i := 61) rfl))) (by decide) (t := (.array .int)) (t' := .int) (by decide) (by decide)))
  replace VK := VK.other W38 (Ne.symm n1)
  replace VC := VC.other W38 (Ne.symm n2)
  replace FS := FS.same W38
  replace KP := KP.wr W38 (Or.inl (List.mem_of_getElem? (i := 0) rfl))
  have k40_ : ∀ t, Steps p.tables e below (T38.setTop (mkF m 114 #[.val (.ref a), .val (.int ky), .val (.int ct), .val (.int (own_mk ks)), .val (.int (own_sl ks ky))] [(.ref a), (.int (2 : Int32))])) t → Steps p.tables e below (s₁.setTop (mkF m 0 #[.val (.ref a), .val (.int ky), .val (.int ct), .unset, .unset] [])) t := by
    intro t q
    refine k39_ _ ?_
    show Steps p.tables e below (T38.setTop (mkF m 112 #[.val (.ref a), .val (.int ky), .val (.int ct), .val (.int (own_mk ks)), .val (.int (own_sl ks ky))] [])) _
    refine XS.iconst X38.here hx rfl (hb hby d_prog_82_method_3_112) ?_
    show Steps p.tables e below (T38.setTop (mkF m 113 #[.val (.ref a), .val (.int ky), .val (.int ct), .val (.int (own_mk ks)), .val (.int (own_sl ks ky))] [(.int (2 : Int32))])) _
    refine XS.aloadN X38.here hx rfl (hb hby d_prog_82_method_3_113) rfl rfl ?_
    show Steps p.tables e below (T38.setTop (mkF m 114 #[.val (.ref a), .val (.int ky), .val (.int ct), .val (.int (own_mk ks)), .val (.int (own_sl ks ky))] [(.ref a), (.int (2 : Int32))])) _
    exact q
  obtain ⟨T41, X41, e41, st41⟩ := getF X38 hx hZ hown (host := "") (Or.inl (hw _ (List.mem_of_getElem? (i := 60) rfl))) Via.refl e38 FS (g := (mkF m 114 #[.val (.ref a), .val (.int ky), .val (.int ct), .val (.int (own_mk ks)), .val (.int (own_sl ks ky))] [(.ref a), (.int (2 : Int32))])) rfl rfl (hb hby d_prog_82_method_3_114)
  have k42_ : ∀ t, Steps p.tables e below (T41.setTop (mkF m 117 #[.val (.ref a), .val (.int ky), .val (.int ct), .val (.int (own_mk ks)), .val (.int (own_sl ks ky))] [(.int ((own_sz ks) + (1 : Int32))), (.int (2 : Int32))])) t → Steps p.tables e below (s₁.setTop (mkF m 0 #[.val (.ref a), .val (.int ky), .val (.int ct), .unset, .unset] [])) t := fun t q => k40_ t (st41 t q)
  have k43_ : ∀ t, Steps p.tables e below (T41.setTop (mkF m 119 #[.val (.ref a), .val (.int ky), .val (.int ct), .val (.int (own_mk ks)), .val (.int (own_sl ks ky))] [(.ref a), (.int ((2 : Int32) * ((own_sz ks) + (1 : Int32))))])) t → Steps p.tables e below (s₁.setTop (mkF m 0 #[.val (.ref a), .val (.int ky), .val (.int ct), .unset, .unset] [])) t := by
    intro t q
    refine k42_ _ ?_
    show Steps p.tables e below (T41.setTop (mkF m 117 #[.val (.ref a), .val (.int ky), .val (.int ct), .val (.int (own_mk ks)), .val (.int (own_sl ks ky))] [(.int ((own_sz ks) + (1 : Int32))), (.int (2 : Int32))])) _
    refine XS.imul X41.here hx rfl (hb hby d_prog_82_method_3_117) rfl ?_
    show Steps p.tables e below (T41.setTop (mkF m 118 #[.val (.ref a), .val (.int ky), .val (.int ct), .val (.int (own_mk ks)), .val (.int (own_sl ks ky))] [(.int ((2 : Int32) * ((own_sz ks) + (1 : Int32))))])) _
    refine XS.aloadN X41.here hx rfl (hb hby d_prog_82_method_3_118) rfl rfl ?_
    show Steps p.tables e below (T41.setTop (mkF m 119 #[.val (.ref a), .val (.int ky), .val (.int ct), .val (.int (own_mk ks)), .val (.int (own_sl ks ky))] [(.ref a), (.int ((2 : Int32) * ((own_sz ks) + (1 : Int32))))])) _
    exact q
  obtain ⟨T44, X44, e44, st44⟩ := getF X41 hx hZ hown (host := "") (Or.inl (hw _ (List.mem_of_getElem? (i := 46) rfl))) Via.refl e41 FK (g := (mkF m 119 #[.val (.ref a), .val (.int ky), .val (.int ct), .val (.int (own_mk ks)), .val (.int (own_sl ks ky))] [(.ref a), (.int ((2 : Int32) * ((own_sz ks) + (1 : Int32))))])) rfl rfl (hb hby d_prog_82_method_3_119)
  have k45_ : ∀ t, Steps p.tables e below (T44.setTop (mkF m 122 #[.val (.ref a), .val (.int ky), .val (.int ct), .val (.int (own_mk ks)), .val (.int (own_sl ks ky))] [(.ref kb), (.int ((2 : Int32) * ((own_sz ks) + (1 : Int32))))])) t → Steps p.tables e below (s₁.setTop (mkF m 0 #[.val (.ref a), .val (.int ky), .val (.int ct), .unset, .unset] [])) t := fun t q => k43_ t (st44 t q)
  obtain ⟨cl46, Ar46, q46, S46, M46, H46, G46⟩ := id VK
  have k47_ : ∀ t, Steps p.tables e below (T44.setTop (mkF m 123 #[.val (.ref a), .val (.int ky), .val (.int ct), .val (.int (own_mk ks)), .val (.int (own_sl ks ky))] [(.int (own_ln ks)), (.int ((2 : Int32) * ((own_sz ks) + (1 : Int32))))])) t → Steps p.tables e below (s₁.setTop (mkF m 0 #[.val (.ref a), .val (.int ky), .val (.int ct), .unset, .unset] [])) t := by
    intro t q
    refine k45_ _ ?_
    show Steps p.tables e below (T44.setTop (mkF m 122 #[.val (.ref a), .val (.int ky), .val (.int ct), .val (.int (own_mk ks)), .val (.int (own_sl ks ky))] [(.ref kb), (.int ((2 : Int32) * ((own_sz ks) + (1 : Int32))))])) _
    refine X44.arraylength hx (by rw [e44]; exact Ar46.1) (State.isArrayOf_alike hZ.alike Ar46.2.1) (g := (mkF m 122 #[.val (.ref a), .val (.int ky), .val (.int ct), .val (.int (own_mk ks)), .val (.int (own_sl ks ky))] [(.ref kb), (.int ((2 : Int32) * ((own_sz ks) + (1 : Int32))))])) rfl rfl (hb hby d_prog_82_method_3_122) _ ?_
    rw [len_of S46 M46]
    show Steps p.tables e below (T44.setTop (mkF m 123 #[.val (.ref a), .val (.int ky), .val (.int ct), .val (.int (own_mk ks)), .val (.int (own_sl ks ky))] [(.int (own_ln ks)), (.int ((2 : Int32) * ((own_sz ks) + (1 : Int32))))])) _
    exact q
  have k48_ : ∀ t, Steps p.tables e below (T44.setTop (mkF m 130 #[.val (.ref a), .val (.int ky), .val (.int ct), .val (.int (own_mk ks)), .val (.int (own_sl ks ky))] [])) t → Steps p.tables e below (s₁.setTop (mkF m 0 #[.val (.ref a), .val (.int ky), .val (.int ct), .unset, .unset] [])) t := by
    intro t q
    refine k47_ _ ?_
    show Steps p.tables e below (T44.setTop (mkF m 123 #[.val (.ref a), .val (.int ky), .val (.int ct), .val (.int (own_mk ks)), .val (.int (own_sl ks ky))] [(.int (own_ln ks)), (.int ((2 : Int32) * ((own_sz ks) + (1 : Int32))))])) _
    refine XS.icmpYes X44.here hx rfl (pc0 := 123) (pc' := 130) rfl (hb hby d_prog_82_method_3_123) rfl (flt hng).2.2.2 (by decide) (by decide) ?_
    show Steps p.tables e below (T44.setTop (mkF m 130 #[.val (.ref a), .val (.int ky), .val (.int ct), .val (.int (own_mk ks)), .val (.int (own_sl ks ky))] [])) _
    exact q
  obtain ⟨fs, hr, hrun, hended, hW, hsame⟩ := X44.leave (v := none) (fun _ => rfl)
  refine ⟨_, _, pre0 _ (k48_ _ ?_), hrun, hended, _, _, rfl, ?_, ⟨_, rfl⟩, hW, hsame.mono (by decide) (by decide)⟩
  · show Steps p.tables e below (T44.setTop (mkF m 130 #[.val (.ref a), .val (.int ky), .val (.int ct), .val (.int (own_mk ks)), .val (.int (own_sl ks ky))] [])) _
    exact X44.returnOut hx Bd.returns (hb hby d_prog_82_method_3_130) hr
  · show QC Z a ky ct kb cb ks cs h0 n0 _ T44.heap _
    rw [e44]
    exact ⟨rfl, N38, KP, ⟨EA, FK, FC, by rw [← (own_D2 ks hT ky hk hab).1.1]; exact FS, ⟨kK, by rw [own_ln_in]; exact VK⟩, ⟨kC, by rw [own_ln_in]; exact VC⟩, own_len_in hlen, ⟨n1, n2, n3⟩, g1, g2, g3⟩⟩
def QF (Z : State) (bb : Addr) (vv : Int32) (kB : ClassId) (h0 : Heap) (n0 : Nat) (v : Option Value) (h : Heap) (L : List Loc) : Prop := v = none ∧ Fr n0 L ∧ Keep h0 h [bb] ∧ Arv Z h bb kB .int (8 : Int32) [(.int vv), (.int vv), (.int vv), (.int vv), (.int vv), (.int vv), (.int vv), (.int vv)] (.int (0 : Int32))
theorem ef_F (m : MethodId) (x0 : Addr) (x1 : Int32) : entryFrame m #[(.ref x0), (.int x1)] 4 = mkF m 0 #[.val (.ref x0), .val (.int x1), .unset, .unset] [] := by first | (simp [entryFrame, mkF, argsToLocals, Value.category]; done) | rfl
theorem pn_Arrays : plainName "java/util/Arrays" = true := by first | (simp [plainName, overriddenIn]; done) | decide +kernel
theorem d_jdk_65_method_103_0 : decode jdk_65_method_103_code 0 = .ok (.iconst 0, 1) := by decide +kernel
theorem d_jdk_65_method_103_1 : decode jdk_65_method_103_code 1 = .ok (.istore_n 2, 1) := by decide +kernel
theorem d_jdk_65_method_103_2 : decode jdk_65_method_103_code 2 = .ok (.aload_n 0, 1) := by decide +kernel
theorem d_jdk_65_method_103_3 : decode jdk_65_method_103_code 3 = .ok (.arraylength, 1) := by decide +kernel
theorem d_jdk_65_method_103_4 : decode jdk_65_method_103_code 4 = .ok (.istore_n 3, 1) := by decide +kernel
theorem d_jdk_65_method_103_5 : decode jdk_65_method_103_code 5 = .ok (.iload_n 2, 1) := by decide +kernel
theorem d_jdk_65_method_103_6 : decode jdk_65_method_103_code 6 = .ok (.iload_n 3, 1) := by decide +kernel
theorem d_jdk_65_method_103_7 : decode jdk_65_method_103_code 7 = .ok (.if_icmp .ge 13, 3) := by decide +kernel
theorem d_jdk_65_method_103_10 : decode jdk_65_method_103_code 10 = .ok (.aload_n 0, 1) := by decide +kernel
theorem d_jdk_65_method_103_11 : decode jdk_65_method_103_code 11 = .ok (.iload_n 2, 1) := by decide +kernel
theorem d_jdk_65_method_103_12 : decode jdk_65_method_103_code 12 = .ok (.iload_n 1, 1) := by decide +kernel
theorem d_jdk_65_method_103_13 : decode jdk_65_method_103_code 13 = .ok (.iastore, 1) := by decide +kernel
theorem d_jdk_65_method_103_14 : decode jdk_65_method_103_code 14 = .ok (.iinc 2 1, 3) := by decide +kernel
theorem d_jdk_65_method_103_17 : decode jdk_65_method_103_code 17 = .ok (.goto (-12), 3) := by decide +kernel
theorem d_jdk_65_method_103_20 : decode jdk_65_method_103_code 20 = .ok (.return_, 1) := by decide +kernel
set_option maxRecDepth 65536 in
set_option maxHeartbeats 40000000 in
theorem rmF (l : Launch) (Z : State) (a0 : Array Value) (hw : ∀ d ∈ tables_1, d.before a0 Z = true) (ws : List Jvm.Cond) (bb : Addr) (vv : Int32) (kB : ClassId) (h0 : Heap) (n0 : Nat) (Z0 : n0 ≤ h0.size) (V_bb : Arv Z h0 bb kB .int (8 : Int32) [(.int (0 : Int32)), (.int (0 : Int32)), (.int (0 : Int32)), (.int (0 : Int32)), (.int (0 : Int32)), (.int (0 : Int32)), (.int (0 : Int32)), (.int (0 : Int32))] (.int (0 : Int32))) (g_bb : n0 ≤ bb) :
    MetFree l (⟨"java/util/Arrays", "fill", "([II)V"⟩ : MethodName) (head1 (Jvm.Cond.code (⟨"java/util/Arrays", "fill", "([II)V"⟩ : MethodName) jdk_65_method_103_code 4 none :: ws) ({ frames := 0, cells := 0, slots := 0, locals := 0 } : Room)) (fun a_ U_ => a_ = #[(.ref bb), (.int vv)] ∧ Z.Warmed39 U_.vm ∧ U_.heap = h0) (fun _ _ _ _ _ => True) (fun _ U_ o_ E_ => ∃ v_ L_, o_ = .returned v_ ∧ QF Z bb vv kB h0 n0 v_ E_.heap L_ ∧ FrameEnd U_ o_ E_ L_ ({ frames := 0, cells := 0, slots := 0, locals := 0 } : Room).cells ({ frames := 0, cells := 0, slots := 0, locals := 0 } : Room).slots) := by
  refine MetFree.of_bodySF (plainFor_of_name pn_Arrays) hisR ?_
  intro p e s m args below meth c s₁ Bd hml0 hP hK
  obtain ⟨rfl, hZ, hh⟩ := hP
  have hx := Bd.exec
  have hby := Bd.bytes
  have hml : c.maxLocals = 4 := hml0
  have hown : s.vm.findClass "java/util/Arrays" = some m.cls := findClass_of_methodNamed Bd.named
  have hnm := (name_of_methodNamed Bd.named Bd.method).1
  have X0 : Stand p l e ({ frames := 0, cells := 0, slots := 0, locals := 0 } : Room) s m #[(.ref bb), (.int vv)] below meth c s₁ [] 0 0 := Stand.of_body Bd
  have e0 : s₁.heap = h0 := by rw [← hh, Bd.state]; rfl
  have N0 := Fr.nil n0
  have Zn := Z0
  have pre0 : ∀ t, Steps p.tables e below (s₁.setTop (mkF m 0 #[.val (.ref bb), .val (.int vv), .unset, .unset] [])) t → Steps p.tables e below (s₁.setTop (entryFrame m #[(.ref bb), (.int vv)] 4)) t := fun t q => castTop (ef_F m bb vv) q
  have k0 : ∀ t, Steps p.tables e below (s₁.setTop (mkF m 0 #[.val (.ref bb), .val (.int vv), .unset, .unset] [])) t → Steps p.tables e below (s₁.setTop (mkF m 0 #[.val (.ref bb), .val (.int vv), .unset, .unset] [])) t := fun t q => q
  have KP := Keep.refl h0 [bb]
  obtain ⟨cl1, Ar1, q1, S1, M1, H1, G1⟩ := id V_bb
  have k2_ : ∀ t, Steps p.tables e below (s₁.setTop (mkF m 7 #[.val (.ref bb), .val (.int vv), .val (.int (0 : Int32)), .val (.int (8 : Int32))] [(.int (8 : Int32)), (.int (0 : Int32))])) t → Steps p.tables e below (s₁.setTop (mkF m 0 #[.val (.ref bb), .val (.int vv), .unset, .unset] [])) t := by
    intro t q
    refine k0 _ ?_
    show Steps p.tables e below (s₁.setTop (mkF m 0 #[.val (.ref bb), .val (.int vv), .unset, .unset] [])) _
    refine XS.iconst X0.here hx rfl (hb hby d_jdk_65_method_103_0) ?_
    show Steps p.tables e below (s₁.setTop (mkF m 1 #[.val (.ref bb), .val (.int vv), .unset, .unset] [(.int (0 : Int32))])) _
    refine XS.istoreN X0.here hx rfl (hb hby d_jdk_65_method_103_1) rfl (l' := #[.val (.ref bb), .val (.int vv), .val (.int (0 : Int32)), .unset]) rfl ?_
    show Steps p.tables e below (s₁.setTop (mkF m 2 #[.val (.ref bb), .val (.int vv), .val (.int (0 : Int32)), .unset] [])) _
    refine XS.aloadN X0.here hx rfl (hb hby d_jdk_65_method_103_2) rfl rfl ?_
    show Steps p.tables e below (s₁.setTop (mkF m 3 #[.val (.ref bb), .val (.int vv), .val (.int (0 : Int32)), .unset] [(.ref bb)])) _
    refine X0.arraylength hx (by rw [e0]; exact Ar1.1) (State.isArrayOf_alike hZ.alike Ar1.2.1) (g := (mkF m 3 #[.val (.ref bb), .val (.int vv), .val (.int (0 : Int32)), .unset] [(.ref bb)])) rfl rfl (hb hby d_jdk_65_method_103_3) _ ?_
    rw [len_of S1 M1]
    show Steps p.tables e below (s₁.setTop (mkF m 4 #[.val (.ref bb), .val (.int vv), .val (.int (0 : Int32)), .unset] [(.int (8 : Int32))])) _
    refine XS.istoreN X0.here hx rfl (hb hby d_jdk_65_method_103_4) rfl (l' := #[.val (.ref bb), .val (.int vv), .val (.int (0 : Int32)), .val (.int (8 : Int32))]) rfl ?_
    show Steps p.tables e below (s₁.setTop (mkF m 5 #[.val (.ref bb), .val (.int vv), .val (.int (0 : Int32)), .val (.int (8 : Int32))] [])) _
    refine XS.iloadN X0.here hx rfl (hb hby d_jdk_65_method_103_5) rfl ?_
    show Steps p.tables e below (s₁.setTop (mkF m 6 #[.val (.ref bb), .val (.int vv), .val (.int (0 : Int32)), .val (.int (8 : Int32))] [(.int (0 : Int32))])) _
    refine XS.iloadN X0.here hx rfl (hb hby d_jdk_65_method_103_6) rfl ?_
    show Steps p.tables e below (s₁.setTop (mkF m 7 #[.val (.ref bb), .val (.int vv), .val (.int (0 : Int32)), .val (.int (8 : Int32))] [(.int (8 : Int32)), (.int (0 : Int32))])) _
    exact q
  have k3_ : ∀ t, Steps p.tables e below (s₁.setTop (mkF m 10 #[.val (.ref bb), .val (.int vv), .val (.int (0 : Int32)), .val (.int (8 : Int32))] [])) t → Steps p.tables e below (s₁.setTop (mkF m 0 #[.val (.ref bb), .val (.int vv), .unset, .unset] [])) t := by
    intro t q
    refine k2_ _ ?_
    show Steps p.tables e below (s₁.setTop (mkF m 7 #[.val (.ref bb), .val (.int vv), .val (.int (0 : Int32)), .val (.int (8 : Int32))] [(.int (8 : Int32)), (.int (0 : Int32))])) _
    refine XS.icmpNo X0.here hx rfl (hb hby d_jdk_65_method_103_7) rfl (tlt (by decide)).2.1 ?_
    show Steps p.tables e below (s₁.setTop (mkF m 10 #[.val (.ref bb), .val (.int vv), .val (.int (0 : Int32)), .val (.int (8 : Int32))] [])) _
    exact q
  have k4_ : ∀ t, Steps p.tables e below (s₁.setTop (mkF m 13 #[.val (.ref bb), .val (.int vv), .val (.int (0 : Int32)), .val (.int (8 : Int32))] [(.int vv), (.int (0 : Int32)), (.ref bb)])) t → Steps p.tables e below (s₁.setTop (mkF m 0 #[.val (.ref bb), .val (.int vv), .unset, .unset] [])) t := by
    intro t q
    refine k3_ _ ?_
    show Steps p.tables e below (s₁.setTop (mkF m 10 #[.val (.ref bb), .val (.int vv), .val (.int (0 : Int32)), .val (.int (8 : Int32))] [])) _
    refine XS.aloadN X0.here hx rfl (hb hby d_jdk_65_method_103_10) rfl rfl ?_
    show Steps p.tables e below (s₁.setTop (mkF m 11 #[.val (.ref bb), .val (.int vv), .val (.int (0 : Int32)), .val (.int (8 : Int32))] [(.ref bb)])) _
    refine XS.iloadN X0.here hx rfl (hb hby d_jdk_65_method_103_11) rfl ?_
    show Steps p.tables e below (s₁.setTop (mkF m 12 #[.val (.ref bb), .val (.int vv), .val (.int (0 : Int32)), .val (.int (8 : Int32))] [(.int (0 : Int32)), (.ref bb)])) _
    refine XS.iloadN X0.here hx rfl (hb hby d_jdk_65_method_103_12) rfl ?_
    show Steps p.tables e below (s₁.setTop (mkF m 13 #[.val (.ref bb), .val (.int vv), .val (.int (0 : Int32)), .val (.int (8 : Int32))] [(.int vv), (.int (0 : Int32)), (.ref bb)])) _
    exact q
  obtain ⟨cl5, Ar5, q5, S5, M5, H5, G5⟩ := V_bb
  obtain ⟨T6, h6, X6, e6, W6, st6⟩ := stI X0 hx hZ e0 Ar5 (j := (0 : Int32)) (inb_of S5 ⟨by decide, by decide⟩) (g := (mkF m 13 #[.val (.ref bb), .val (.int vv), .val (.int (0 : Int32)), .val (.int (8 : Int32))] [(.int vv), (.int (0 : Int32)), (.ref bb)])) rfl rfl (hb hby d_jdk_65_method_103_13)
  have k7_ : ∀ t, Steps p.tables e below (T6.setTop (mkF m 14 #[.val (.ref bb), .val (.int vv), .val (.int (0 : Int32)), .val (.int (8 : Int32))] [])) t → Steps p.tables e below (s₁.setTop (mkF m 0 #[.val (.ref bb), .val (.int vv), .unset, .unset] [])) t := fun t q => k4_ t (st6 t q)
  have N6 := Fr.snoc X6 N0 g_bb
  replace Zn := Nat.le_trans Zn (Keep.of_wr W6).1
  have V_bb : Arv Z h6 bb kB .int (8 : Int32) [(.int vv), (.int (0 : Int32)), (.int (0 : Int32)), (.int (0 : Int32)), (.int (0 : Int32)), (.int (0 : Int32)), (.int (0 : Int32)), (.int (0 : Int32))] (.int (0 : Int32)) := Arv.set Ar5 q5 S5 M5 H5 G5 rfl W6 0 rfl (Nat.le_of_ble_eq_true rfl)
  replace KP := KP.wr W6 (Or.inl (List.mem_of_getElem? (i := 0) rfl))
  have k8_ : ∀ t, Steps p.tables e below (T6.setTop (mkF m 17 #[.val (.ref bb), .val (.int vv), .val (.int ((0 : Int32) + (1 : Int32))), .val (.int (8 : Int32))] [])) t → Steps p.tables e below (s₁.setTop (mkF m 0 #[.val (.ref bb), .val (.int vv), .unset, .unset] [])) t := by
    intro t q
    refine k7_ _ ?_
    show Steps p.tables e below (T6.setTop (mkF m 14 #[.val (.ref bb), .val (.int vv), .val (.int (0 : Int32)), .val (.int (8 : Int32))] [])) _
    refine XS.iinc X6.here hx rfl (hb hby d_jdk_65_method_103_14) rfl (l' := #[.val (.ref bb), .val (.int vv), .val (.int ((0 : Int32) + (1 : Int32))), .val (.int (8 : Int32))]) rfl ?_
    show Steps p.tables e below (T6.setTop (mkF m 17 #[.val (.ref bb), .val (.int vv), .val (.int ((0 : Int32) + (1 : Int32))), .val (.int (8 : Int32))] [])) _
    exact q
  have k9_ : ∀ t, Steps p.tables e below (T6.setTop (mkF m 17 #[.val (.ref bb), .val (.int vv), .val (.int (1 : Int32)), .val (.int (8 : Int32))] [])) t → Steps p.tables e below (s₁.setTop (mkF m 0 #[.val (.ref bb), .val (.int vv), .unset, .unset] [])) t := fun t q => k8_ t (Eq.mp (congrArg (fun z => Steps p.tables e below (T6.setTop (mkF m 17 #[.val (.ref bb), .val (.int vv), .val (.int z), .val (.int (8 : Int32))] [])) t) (show (1 : Int32) = ((0 : Int32) + (1 : Int32)) from (by decide))) q)
  have k10_ : ∀ t, Steps p.tables e below (T6.setTop (mkF m 7 #[.val (.ref bb), .val (.int vv), .val (.int (1 : Int32)), .val (.int (8 : Int32))] [(.int (8 : Int32)), (.int (1 : Int32))])) t → Steps p.tables e below (s₁.setTop (mkF m 0 #[.val (.ref bb), .val (.int vv), .unset, .unset] [])) t := by
    intro t q
    refine k9_ _ ?_
    show Steps p.tables e below (T6.setTop (mkF m 17 #[.val (.ref bb), .val (.int vv), .val (.int (1 : Int32)), .val (.int (8 : Int32))] [])) _
    refine XS.goto X6.here hx rfl (pc0 := 17) (pc' := 5) rfl (hb hby d_jdk_65_method_103_17) (by decide) (by decide) ?_
    show Steps p.tables e below (T6.setTop (mkF m 5 #[.val (.ref bb), .val (.int vv), .val (.int (1 : Int32)), .val (.int (8 : Int32))] [])) _
    refine XS.iloadN X6.here hx rfl (hb hby d_jdk_65_method_103_5) rfl ?_
    show Steps p.tables e below (T6.setTop (mkF m 6 #[.val (.ref bb), .val (.int vv), .val (.int (1 : Int32)), .val (.int (8 : Int32))] [(.int (1 : Int32))])) _
    refine XS.iloadN X6.here hx rfl (hb hby d_jdk_65_method_103_6) rfl ?_
    show Steps p.tables e below (T6.setTop (mkF m 7 #[.val (.ref bb), .val (.int vv), .val (.int (1 : Int32)), .val (.int (8 : Int32))] [(.int (8 : Int32)), (.int (1 : Int32))])) _
    exact q
  have k11_ : ∀ t, Steps p.tables e below (T6.setTop (mkF m 10 #[.val (.ref bb), .val (.int vv), .val (.int (1 : Int32)), .val (.int (8 : Int32))] [])) t → Steps p.tables e below (s₁.setTop (mkF m 0 #[.val (.ref bb), .val (.int vv), .unset, .unset] [])) t := by
    intro t q
    refine k10_ _ ?_
    show Steps p.tables e below (T6.setTop (mkF m 7 #[.val (.ref bb), .val (.int vv), .val (.int (1 : Int32)), .val (.int (8 : Int32))] [(.int (8 : Int32)), (.int (1 : Int32))])) _
    refine XS.icmpNo X6.here hx rfl (hb hby d_jdk_65_method_103_7) rfl (tlt (by decide)).2.1 ?_
    show Steps p.tables e below (T6.setTop (mkF m 10 #[.val (.ref bb), .val (.int vv), .val (.int (1 : Int32)), .val (.int (8 : Int32))] [])) _
    exact q
  have k12_ : ∀ t, Steps p.tables e below (T6.setTop (mkF m 13 #[.val (.ref bb), .val (.int vv), .val (.int (1 : Int32)), .val (.int (8 : Int32))] [(.int vv), (.int (1 : Int32)), (.ref bb)])) t → Steps p.tables e below (s₁.setTop (mkF m 0 #[.val (.ref bb), .val (.int vv), .unset, .unset] [])) t := by
    intro t q
    refine k11_ _ ?_
    show Steps p.tables e below (T6.setTop (mkF m 10 #[.val (.ref bb), .val (.int vv), .val (.int (1 : Int32)), .val (.int (8 : Int32))] [])) _
    refine XS.aloadN X6.here hx rfl (hb hby d_jdk_65_method_103_10) rfl rfl ?_
    show Steps p.tables e below (T6.setTop (mkF m 11 #[.val (.ref bb), .val (.int vv), .val (.int (1 : Int32)), .val (.int (8 : Int32))] [(.ref bb)])) _
    refine XS.iloadN X6.here hx rfl (hb hby d_jdk_65_method_103_11) rfl ?_
    show Steps p.tables e below (T6.setTop (mkF m 12 #[.val (.ref bb), .val (.int vv), .val (.int (1 : Int32)), .val (.int (8 : Int32))] [(.int (1 : Int32)), (.ref bb)])) _
    refine XS.iloadN X6.here hx rfl (hb hby d_jdk_65_method_103_12) rfl ?_
    show Steps p.tables e below (T6.setTop (mkF m 13 #[.val (.ref bb), .val (.int vv), .val (.int (1 : Int32)), .val (.int (8 : Int32))] [(.int vv), (.int (1 : Int32)), (.ref bb)])) _
    exact q
  obtain ⟨cl13, Ar13, q13, S13, M13, H13, G13⟩ := V_bb
  obtain ⟨T14, h14, X14, e14, W14, st14⟩ := stI X6 hx hZ e6 Ar13 (j := (1 : Int32)) (inb_of S13 ⟨by decide, by decide⟩) (g := (mkF m 13 #[.val (.ref bb), .val (.int vv), .val (.int (1 : Int32)), .val (.int (8 : Int32))] [(.int vv), (.int (1 : Int32)), (.ref bb)])) rfl rfl (hb hby d_jdk_65_method_103_13)
  have k15_ : ∀ t, Steps p.tables e below (T14.setTop (mkF m 14 #[.val (.ref bb), .val (.int vv), .val (.int (1 : Int32)), .val (.int (8 : Int32))] [])) t → Steps p.tables e below (s₁.setTop (mkF m 0 #[.val (.ref bb), .val (.int vv), .unset, .unset] [])) t := fun t q => k12_ t (st14 t q)
  have N14 := Fr.snoc X14 N6 g_bb
  replace Zn := Nat.le_trans Zn (Keep.of_wr W14).1
  have V_bb : Arv Z h14 bb kB .int (8 : Int32) [(.int vv), (.int vv), (.int (0 : Int32)), (.int (0 : Int32)), (.int (0 : Int32)), (.int (0 : Int32)), (.int (0 : Int32)), (.int (0 : Int32))] (.int (0 : Int32)) := Arv.set Ar13 q13 S13 M13 H13 G13 rfl W14 1 rfl (Nat.le_of_ble_eq_true rfl)
  replace KP := KP.wr W14 (Or.inl (List.mem_of_getElem? (i := 0) rfl))
  have k16_ : ∀ t, Steps p.tables e below (T14.setTop (mkF m 17 #[.val (.ref bb), .val (.int vv), .val (.int ((1 : Int32) + (1 : Int32))), .val (.int (8 : Int32))] [])) t → Steps p.tables e below (s₁.setTop (mkF m 0 #[.val (.ref bb), .val (.int vv), .unset, .unset] [])) t := by
    intro t q
    refine k15_ _ ?_
    show Steps p.tables e below (T14.setTop (mkF m 14 #[.val (.ref bb), .val (.int vv), .val (.int (1 : Int32)), .val (.int (8 : Int32))] [])) _
    refine XS.iinc X14.here hx rfl (hb hby d_jdk_65_method_103_14) rfl (l' := #[.val (.ref bb), .val (.int vv), .val (.int ((1 : Int32) + (1 : Int32))), .val (.int (8 : Int32))]) rfl ?_
    show Steps p.tables e below (T14.setTop (mkF m 17 #[.val (.ref bb), .val (.int vv), .val (.int ((1 : Int32) + (1 : Int32))), .val (.int (8 : Int32))] [])) _
    exact q
  have k17_ : ∀ t, Steps p.tables e below (T14.setTop (mkF m 17 #[.val (.ref bb), .val (.int vv), .val (.int (2 : Int32)), .val (.int (8 : Int32))] [])) t → Steps p.tables e below (s₁.setTop (mkF m 0 #[.val (.ref bb), .val (.int vv), .unset, .unset] [])) t := fun t q => k16_ t (Eq.mp (congrArg (fun z => Steps p.tables e below (T14.setTop (mkF m 17 #[.val (.ref bb), .val (.int vv), .val (.int z), .val (.int (8 : Int32))] [])) t) (show (2 : Int32) = ((1 : Int32) + (1 : Int32)) from (by decide))) q)
  have k18_ : ∀ t, Steps p.tables e below (T14.setTop (mkF m 7 #[.val (.ref bb), .val (.int vv), .val (.int (2 : Int32)), .val (.int (8 : Int32))] [(.int (8 : Int32)), (.int (2 : Int32))])) t → Steps p.tables e below (s₁.setTop (mkF m 0 #[.val (.ref bb), .val (.int vv), .unset, .unset] [])) t := by
    intro t q
    refine k17_ _ ?_
    show Steps p.tables e below (T14.setTop (mkF m 17 #[.val (.ref bb), .val (.int vv), .val (.int (2 : Int32)), .val (.int (8 : Int32))] [])) _
    refine XS.goto X14.here hx rfl (pc0 := 17) (pc' := 5) rfl (hb hby d_jdk_65_method_103_17) (by decide) (by decide) ?_
    show Steps p.tables e below (T14.setTop (mkF m 5 #[.val (.ref bb), .val (.int vv), .val (.int (2 : Int32)), .val (.int (8 : Int32))] [])) _
    refine XS.iloadN X14.here hx rfl (hb hby d_jdk_65_method_103_5) rfl ?_
    show Steps p.tables e below (T14.setTop (mkF m 6 #[.val (.ref bb), .val (.int vv), .val (.int (2 : Int32)), .val (.int (8 : Int32))] [(.int (2 : Int32))])) _
    refine XS.iloadN X14.here hx rfl (hb hby d_jdk_65_method_103_6) rfl ?_
    show Steps p.tables e below (T14.setTop (mkF m 7 #[.val (.ref bb), .val (.int vv), .val (.int (2 : Int32)), .val (.int (8 : Int32))] [(.int (8 : Int32)), (.int (2 : Int32))])) _
    exact q
  have k19_ : ∀ t, Steps p.tables e below (T14.setTop (mkF m 10 #[.val (.ref bb), .val (.int vv), .val (.int (2 : Int32)), .val (.int (8 : Int32))] [])) t → Steps p.tables e below (s₁.setTop (mkF m 0 #[.val (.ref bb), .val (.int vv), .unset, .unset] [])) t := by
    intro t q
    refine k18_ _ ?_
    show Steps p.tables e below (T14.setTop (mkF m 7 #[.val (.ref bb), .val (.int vv), .val (.int (2 : Int32)), .val (.int (8 : Int32))] [(.int (8 : Int32)), (.int (2 : Int32))])) _
    refine XS.icmpNo X14.here hx rfl (hb hby d_jdk_65_method_103_7) rfl (tlt (by decide)).2.1 ?_
    show Steps p.tables e below (T14.setTop (mkF m 10 #[.val (.ref bb), .val (.int vv), .val (.int (2 : Int32)), .val (.int (8 : Int32))] [])) _
    exact q
  have k20_ : ∀ t, Steps p.tables e below (T14.setTop (mkF m 13 #[.val (.ref bb), .val (.int vv), .val (.int (2 : Int32)), .val (.int (8 : Int32))] [(.int vv), (.int (2 : Int32)), (.ref bb)])) t → Steps p.tables e below (s₁.setTop (mkF m 0 #[.val (.ref bb), .val (.int vv), .unset, .unset] [])) t := by
    intro t q
    refine k19_ _ ?_
    show Steps p.tables e below (T14.setTop (mkF m 10 #[.val (.ref bb), .val (.int vv), .val (.int (2 : Int32)), .val (.int (8 : Int32))] [])) _
    refine XS.aloadN X14.here hx rfl (hb hby d_jdk_65_method_103_10) rfl rfl ?_
    show Steps p.tables e below (T14.setTop (mkF m 11 #[.val (.ref bb), .val (.int vv), .val (.int (2 : Int32)), .val (.int (8 : Int32))] [(.ref bb)])) _
    refine XS.iloadN X14.here hx rfl (hb hby d_jdk_65_method_103_11) rfl ?_
    show Steps p.tables e below (T14.setTop (mkF m 12 #[.val (.ref bb), .val (.int vv), .val (.int (2 : Int32)), .val (.int (8 : Int32))] [(.int (2 : Int32)), (.ref bb)])) _
    refine XS.iloadN X14.here hx rfl (hb hby d_jdk_65_method_103_12) rfl ?_
    show Steps p.tables e below (T14.setTop (mkF m 13 #[.val (.ref bb), .val (.int vv), .val (.int (2 : Int32)), .val (.int (8 : Int32))] [(.int vv), (.int (2 : Int32)), (.ref bb)])) _
    exact q
  obtain ⟨cl21, Ar21, q21, S21, M21, H21, G21⟩ := V_bb
  obtain ⟨T22, h22, X22, e22, W22, st22⟩ := stI X14 hx hZ e14 Ar21 (j := (2 : Int32)) (inb_of S21 ⟨by decide, by decide⟩) (g := (mkF m 13 #[.val (.ref bb), .val (.int vv), .val (.int (2 : Int32)), .val (.int (8 : Int32))] [(.int vv), (.int (2 : Int32)), (.ref bb)])) rfl rfl (hb hby d_jdk_65_method_103_13)
  have k23_ : ∀ t, Steps p.tables e below (T22.setTop (mkF m 14 #[.val (.ref bb), .val (.int vv), .val (.int (2 : Int32)), .val (.int (8 : Int32))] [])) t → Steps p.tables e below (s₁.setTop (mkF m 0 #[.val (.ref bb), .val (.int vv), .unset, .unset] [])) t := fun t q => k20_ t (st22 t q)
  have N22 := Fr.snoc X22 N14 g_bb
  replace Zn := Nat.le_trans Zn (Keep.of_wr W22).1
  have V_bb : Arv Z h22 bb kB .int (8 : Int32) [(.int vv), (.int vv), (.int vv), (.int (0 : Int32)), (.int (0 : Int32)), (.int (0 : Int32)), (.int (0 : Int32)), (.int (0 : Int32))] (.int (0 : Int32)) := Arv.set Ar21 q21 S21 M21 H21 G21 rfl W22 2 rfl (Nat.le_of_ble_eq_true rfl)
  replace KP := KP.wr W22 (Or.inl (List.mem_of_getElem? (i := 0) rfl))
  have k24_ : ∀ t, Steps p.tables e below (T22.setTop (mkF m 17 #[.val (.ref bb), .val (.int vv), .val (.int ((2 : Int32) + (1 : Int32))), .val (.int (8 : Int32))] [])) t → Steps p.tables e below (s₁.setTop (mkF m 0 #[.val (.ref bb), .val (.int vv), .unset, .unset] [])) t := by
    intro t q
    refine k23_ _ ?_
    show Steps p.tables e below (T22.setTop (mkF m 14 #[.val (.ref bb), .val (.int vv), .val (.int (2 : Int32)), .val (.int (8 : Int32))] [])) _
    refine XS.iinc X22.here hx rfl (hb hby d_jdk_65_method_103_14) rfl (l' := #[.val (.ref bb), .val (.int vv), .val (.int ((2 : Int32) + (1 : Int32))), .val (.int (8 : Int32))]) rfl ?_
    show Steps p.tables e below (T22.setTop (mkF m 17 #[.val (.ref bb), .val (.int vv), .val (.int ((2 : Int32) + (1 : Int32))), .val (.int (8 : Int32))] [])) _
    exact q
  have k25_ : ∀ t, Steps p.tables e below (T22.setTop (mkF m 17 #[.val (.ref bb), .val (.int vv), .val (.int (3 : Int32)), .val (.int (8 : Int32))] [])) t → Steps p.tables e below (s₁.setTop (mkF m 0 #[.val (.ref bb), .val (.int vv), .unset, .unset] [])) t := fun t q => k24_ t (Eq.mp (congrArg (fun z => Steps p.tables e below (T22.setTop (mkF m 17 #[.val (.ref bb), .val (.int vv), .val (.int z), .val (.int (8 : Int32))] [])) t) (show (3 : Int32) = ((2 : Int32) + (1 : Int32)) from (by decide))) q)
  have k26_ : ∀ t, Steps p.tables e below (T22.setTop (mkF m 7 #[.val (.ref bb), .val (.int vv), .val (.int (3 : Int32)), .val (.int (8 : Int32))] [(.int (8 : Int32)), (.int (3 : Int32))])) t → Steps p.tables e below (s₁.setTop (mkF m 0 #[.val (.ref bb), .val (.int vv), .unset, .unset] [])) t := by
    intro t q
    refine k25_ _ ?_
    show Steps p.tables e below (T22.setTop (mkF m 17 #[.val (.ref bb), .val (.int vv), .val (.int (3 : Int32)), .val (.int (8 : Int32))] [])) _
    refine XS.goto X22.here hx rfl (pc0 := 17) (pc' := 5) rfl (hb hby d_jdk_65_method_103_17) (by decide) (by decide) ?_
    show Steps p.tables e below (T22.setTop (mkF m 5 #[.val (.ref bb), .val (.int vv), .val (.int (3 : Int32)), .val (.int (8 : Int32))] [])) _
    refine XS.iloadN X22.here hx rfl (hb hby d_jdk_65_method_103_5) rfl ?_
    show Steps p.tables e below (T22.setTop (mkF m 6 #[.val (.ref bb), .val (.int vv), .val (.int (3 : Int32)), .val (.int (8 : Int32))] [(.int (3 : Int32))])) _
    refine XS.iloadN X22.here hx rfl (hb hby d_jdk_65_method_103_6) rfl ?_
    show Steps p.tables e below (T22.setTop (mkF m 7 #[.val (.ref bb), .val (.int vv), .val (.int (3 : Int32)), .val (.int (8 : Int32))] [(.int (8 : Int32)), (.int (3 : Int32))])) _
    exact q
  have k27_ : ∀ t, Steps p.tables e below (T22.setTop (mkF m 10 #[.val (.ref bb), .val (.int vv), .val (.int (3 : Int32)), .val (.int (8 : Int32))] [])) t → Steps p.tables e below (s₁.setTop (mkF m 0 #[.val (.ref bb), .val (.int vv), .unset, .unset] [])) t := by
    intro t q
    refine k26_ _ ?_
    show Steps p.tables e below (T22.setTop (mkF m 7 #[.val (.ref bb), .val (.int vv), .val (.int (3 : Int32)), .val (.int (8 : Int32))] [(.int (8 : Int32)), (.int (3 : Int32))])) _
    refine XS.icmpNo X22.here hx rfl (hb hby d_jdk_65_method_103_7) rfl (tlt (by decide)).2.1 ?_
    show Steps p.tables e below (T22.setTop (mkF m 10 #[.val (.ref bb), .val (.int vv), .val (.int (3 : Int32)), .val (.int (8 : Int32))] [])) _
    exact q
  have k28_ : ∀ t, Steps p.tables e below (T22.setTop (mkF m 13 #[.val (.ref bb), .val (.int vv), .val (.int (3 : Int32)), .val (.int (8 : Int32))] [(.int vv), (.int (3 : Int32)), (.ref bb)])) t → Steps p.tables e below (s₁.setTop (mkF m 0 #[.val (.ref bb), .val (.int vv), .unset, .unset] [])) t := by
    intro t q
    refine k27_ _ ?_
    show Steps p.tables e below (T22.setTop (mkF m 10 #[.val (.ref bb), .val (.int vv), .val (.int (3 : Int32)), .val (.int (8 : Int32))] [])) _
    refine XS.aloadN X22.here hx rfl (hb hby d_jdk_65_method_103_10) rfl rfl ?_
    show Steps p.tables e below (T22.setTop (mkF m 11 #[.val (.ref bb), .val (.int vv), .val (.int (3 : Int32)), .val (.int (8 : Int32))] [(.ref bb)])) _
    refine XS.iloadN X22.here hx rfl (hb hby d_jdk_65_method_103_11) rfl ?_
    show Steps p.tables e below (T22.setTop (mkF m 12 #[.val (.ref bb), .val (.int vv), .val (.int (3 : Int32)), .val (.int (8 : Int32))] [(.int (3 : Int32)), (.ref bb)])) _
    refine XS.iloadN X22.here hx rfl (hb hby d_jdk_65_method_103_12) rfl ?_
    show Steps p.tables e below (T22.setTop (mkF m 13 #[.val (.ref bb), .val (.int vv), .val (.int (3 : Int32)), .val (.int (8 : Int32))] [(.int vv), (.int (3 : Int32)), (.ref bb)])) _
    exact q
  obtain ⟨cl29, Ar29, q29, S29, M29, H29, G29⟩ := V_bb
  obtain ⟨T30, h30, X30, e30, W30, st30⟩ := stI X22 hx hZ e22 Ar29 (j := (3 : Int32)) (inb_of S29 ⟨by decide, by decide⟩) (g := (mkF m 13 #[.val (.ref bb), .val (.int vv), .val (.int (3 : Int32)), .val (.int (8 : Int32))] [(.int vv), (.int (3 : Int32)), (.ref bb)])) rfl rfl (hb hby d_jdk_65_method_103_13)
  have k31_ : ∀ t, Steps p.tables e below (T30.setTop (mkF m 14 #[.val (.ref bb), .val (.int vv), .val (.int (3 : Int32)), .val (.int (8 : Int32))] [])) t → Steps p.tables e below (s₁.setTop (mkF m 0 #[.val (.ref bb), .val (.int vv), .unset, .unset] [])) t := fun t q => k28_ t (st30 t q)
  have N30 := Fr.snoc X30 N22 g_bb
  replace Zn := Nat.le_trans Zn (Keep.of_wr W30).1
  have V_bb : Arv Z h30 bb kB .int (8 : Int32) [(.int vv), (.int vv), (.int vv), (.int vv), (.int (0 : Int32)), (.int (0 : Int32)), (.int (0 : Int32)), (.int (0 : Int32))] (.int (0 : Int32)) := Arv.set Ar29 q29 S29 M29 H29 G29 rfl W30 3 rfl (Nat.le_of_ble_eq_true rfl)
  replace KP := KP.wr W30 (Or.inl (List.mem_of_getElem? (i := 0) rfl))
  have k32_ : ∀ t, Steps p.tables e below (T30.setTop (mkF m 17 #[.val (.ref bb), .val (.int vv), .val (.int ((3 : Int32) + (1 : Int32))), .val (.int (8 : Int32))] [])) t → Steps p.tables e below (s₁.setTop (mkF m 0 #[.val (.ref bb), .val (.int vv), .unset, .unset] [])) t := by
    intro t q
    refine k31_ _ ?_
    show Steps p.tables e below (T30.setTop (mkF m 14 #[.val (.ref bb), .val (.int vv), .val (.int (3 : Int32)), .val (.int (8 : Int32))] [])) _
    refine XS.iinc X30.here hx rfl (hb hby d_jdk_65_method_103_14) rfl (l' := #[.val (.ref bb), .val (.int vv), .val (.int ((3 : Int32) + (1 : Int32))), .val (.int (8 : Int32))]) rfl ?_
    show Steps p.tables e below (T30.setTop (mkF m 17 #[.val (.ref bb), .val (.int vv), .val (.int ((3 : Int32) + (1 : Int32))), .val (.int (8 : Int32))] [])) _
    exact q
  have k33_ : ∀ t, Steps p.tables e below (T30.setTop (mkF m 17 #[.val (.ref bb), .val (.int vv), .val (.int (4 : Int32)), .val (.int (8 : Int32))] [])) t → Steps p.tables e below (s₁.setTop (mkF m 0 #[.val (.ref bb), .val (.int vv), .unset, .unset] [])) t := fun t q => k32_ t (Eq.mp (congrArg (fun z => Steps p.tables e below (T30.setTop (mkF m 17 #[.val (.ref bb), .val (.int vv), .val (.int z), .val (.int (8 : Int32))] [])) t) (show (4 : Int32) = ((3 : Int32) + (1 : Int32)) from (by decide))) q)
  have k34_ : ∀ t, Steps p.tables e below (T30.setTop (mkF m 7 #[.val (.ref bb), .val (.int vv), .val (.int (4 : Int32)), .val (.int (8 : Int32))] [(.int (8 : Int32)), (.int (4 : Int32))])) t → Steps p.tables e below (s₁.setTop (mkF m 0 #[.val (.ref bb), .val (.int vv), .unset, .unset] [])) t := by
    intro t q
    refine k33_ _ ?_
    show Steps p.tables e below (T30.setTop (mkF m 17 #[.val (.ref bb), .val (.int vv), .val (.int (4 : Int32)), .val (.int (8 : Int32))] [])) _
    refine XS.goto X30.here hx rfl (pc0 := 17) (pc' := 5) rfl (hb hby d_jdk_65_method_103_17) (by decide) (by decide) ?_
    show Steps p.tables e below (T30.setTop (mkF m 5 #[.val (.ref bb), .val (.int vv), .val (.int (4 : Int32)), .val (.int (8 : Int32))] [])) _
    refine XS.iloadN X30.here hx rfl (hb hby d_jdk_65_method_103_5) rfl ?_
    show Steps p.tables e below (T30.setTop (mkF m 6 #[.val (.ref bb), .val (.int vv), .val (.int (4 : Int32)), .val (.int (8 : Int32))] [(.int (4 : Int32))])) _
    refine XS.iloadN X30.here hx rfl (hb hby d_jdk_65_method_103_6) rfl ?_
    show Steps p.tables e below (T30.setTop (mkF m 7 #[.val (.ref bb), .val (.int vv), .val (.int (4 : Int32)), .val (.int (8 : Int32))] [(.int (8 : Int32)), (.int (4 : Int32))])) _
    exact q
  have k35_ : ∀ t, Steps p.tables e below (T30.setTop (mkF m 10 #[.val (.ref bb), .val (.int vv), .val (.int (4 : Int32)), .val (.int (8 : Int32))] [])) t → Steps p.tables e below (s₁.setTop (mkF m 0 #[.val (.ref bb), .val (.int vv), .unset, .unset] [])) t := by
    intro t q
    refine k34_ _ ?_
    show Steps p.tables e below (T30.setTop (mkF m 7 #[.val (.ref bb), .val (.int vv), .val (.int (4 : Int32)), .val (.int (8 : Int32))] [(.int (8 : Int32)), (.int (4 : Int32))])) _
    refine XS.icmpNo X30.here hx rfl (hb hby d_jdk_65_method_103_7) rfl (tlt (by decide)).2.1 ?_
    show Steps p.tables e below (T30.setTop (mkF m 10 #[.val (.ref bb), .val (.int vv), .val (.int (4 : Int32)), .val (.int (8 : Int32))] [])) _
    exact q
  have k36_ : ∀ t, Steps p.tables e below (T30.setTop (mkF m 13 #[.val (.ref bb), .val (.int vv), .val (.int (4 : Int32)), .val (.int (8 : Int32))] [(.int vv), (.int (4 : Int32)), (.ref bb)])) t → Steps p.tables e below (s₁.setTop (mkF m 0 #[.val (.ref bb), .val (.int vv), .unset, .unset] [])) t := by
    intro t q
    refine k35_ _ ?_
    show Steps p.tables e below (T30.setTop (mkF m 10 #[.val (.ref bb), .val (.int vv), .val (.int (4 : Int32)), .val (.int (8 : Int32))] [])) _
    refine XS.aloadN X30.here hx rfl (hb hby d_jdk_65_method_103_10) rfl rfl ?_
    show Steps p.tables e below (T30.setTop (mkF m 11 #[.val (.ref bb), .val (.int vv), .val (.int (4 : Int32)), .val (.int (8 : Int32))] [(.ref bb)])) _
    refine XS.iloadN X30.here hx rfl (hb hby d_jdk_65_method_103_11) rfl ?_
    show Steps p.tables e below (T30.setTop (mkF m 12 #[.val (.ref bb), .val (.int vv), .val (.int (4 : Int32)), .val (.int (8 : Int32))] [(.int (4 : Int32)), (.ref bb)])) _
    refine XS.iloadN X30.here hx rfl (hb hby d_jdk_65_method_103_12) rfl ?_
    show Steps p.tables e below (T30.setTop (mkF m 13 #[.val (.ref bb), .val (.int vv), .val (.int (4 : Int32)), .val (.int (8 : Int32))] [(.int vv), (.int (4 : Int32)), (.ref bb)])) _
    exact q
  obtain ⟨cl37, Ar37, q37, S37, M37, H37, G37⟩ := V_bb
  obtain ⟨T38, h38, X38, e38, W38, st38⟩ := stI X30 hx hZ e30 Ar37 (j := (4 : Int32)) (inb_of S37 ⟨by decide, by decide⟩) (g := (mkF m 13 #[.val (.ref bb), .val (.int vv), .val (.int (4 : Int32)), .val (.int (8 : Int32))] [(.int vv), (.int (4 : Int32)), (.ref bb)])) rfl rfl (hb hby d_jdk_65_method_103_13)
  have k39_ : ∀ t, Steps p.tables e below (T38.setTop (mkF m 14 #[.val (.ref bb), .val (.int vv), .val (.int (4 : Int32)), .val (.int (8 : Int32))] [])) t → Steps p.tables e below (s₁.setTop (mkF m 0 #[.val (.ref bb), .val (.int vv), .unset, .unset] [])) t := fun t q => k36_ t (st38 t q)
  have N38 := Fr.snoc X38 N30 g_bb
  replace Zn := Nat.le_trans Zn (Keep.of_wr W38).1
  have V_bb : Arv Z h38 bb kB .int (8 : Int32) [(.int vv), (.int vv), (.int vv), (.int vv), (.int vv), (.int (0 : Int32)), (.int (0 : Int32)), (.int (0 : Int32))] (.int (0 : Int32)) := Arv.set Ar37 q37 S37 M37 H37 G37 rfl W38 4 rfl (Nat.le_of_ble_eq_true rfl)
  replace KP := KP.wr W38 (Or.inl (List.mem_of_getElem? (i := 0) rfl))
  have k40_ : ∀ t, Steps p.tables e below (T38.setTop (mkF m 17 #[.val (.ref bb), .val (.int vv), .val (.int ((4 : Int32) + (1 : Int32))), .val (.int (8 : Int32))] [])) t → Steps p.tables e below (s₁.setTop (mkF m 0 #[.val (.ref bb), .val (.int vv), .unset, .unset] [])) t := by
    intro t q
    refine k39_ _ ?_
    show Steps p.tables e below (T38.setTop (mkF m 14 #[.val (.ref bb), .val (.int vv), .val (.int (4 : Int32)), .val (.int (8 : Int32))] [])) _
    refine XS.iinc X38.here hx rfl (hb hby d_jdk_65_method_103_14) rfl (l' := #[.val (.ref bb), .val (.int vv), .val (.int ((4 : Int32) + (1 : Int32))), .val (.int (8 : Int32))]) rfl ?_
    show Steps p.tables e below (T38.setTop (mkF m 17 #[.val (.ref bb), .val (.int vv), .val (.int ((4 : Int32) + (1 : Int32))), .val (.int (8 : Int32))] [])) _
    exact q
  have k41_ : ∀ t, Steps p.tables e below (T38.setTop (mkF m 17 #[.val (.ref bb), .val (.int vv), .val (.int (5 : Int32)), .val (.int (8 : Int32))] [])) t → Steps p.tables e below (s₁.setTop (mkF m 0 #[.val (.ref bb), .val (.int vv), .unset, .unset] [])) t := fun t q => k40_ t (Eq.mp (congrArg (fun z => Steps p.tables e below (T38.setTop (mkF m 17 #[.val (.ref bb), .val (.int vv), .val (.int z), .val (.int (8 : Int32))] [])) t) (show (5 : Int32) = ((4 : Int32) + (1 : Int32)) from (by decide))) q)
  have k42_ : ∀ t, Steps p.tables e below (T38.setTop (mkF m 7 #[.val (.ref bb), .val (.int vv), .val (.int (5 : Int32)), .val (.int (8 : Int32))] [(.int (8 : Int32)), (.int (5 : Int32))])) t → Steps p.tables e below (s₁.setTop (mkF m 0 #[.val (.ref bb), .val (.int vv), .unset, .unset] [])) t := by
    intro t q
    refine k41_ _ ?_
    show Steps p.tables e below (T38.setTop (mkF m 17 #[.val (.ref bb), .val (.int vv), .val (.int (5 : Int32)), .val (.int (8 : Int32))] [])) _
    refine XS.goto X38.here hx rfl (pc0 := 17) (pc' := 5) rfl (hb hby d_jdk_65_method_103_17) (by decide) (by decide) ?_
    show Steps p.tables e below (T38.setTop (mkF m 5 #[.val (.ref bb), .val (.int vv), .val (.int (5 : Int32)), .val (.int (8 : Int32))] [])) _
    refine XS.iloadN X38.here hx rfl (hb hby d_jdk_65_method_103_5) rfl ?_
    show Steps p.tables e below (T38.setTop (mkF m 6 #[.val (.ref bb), .val (.int vv), .val (.int (5 : Int32)), .val (.int (8 : Int32))] [(.int (5 : Int32))])) _
    refine XS.iloadN X38.here hx rfl (hb hby d_jdk_65_method_103_6) rfl ?_
    show Steps p.tables e below (T38.setTop (mkF m 7 #[.val (.ref bb), .val (.int vv), .val (.int (5 : Int32)), .val (.int (8 : Int32))] [(.int (8 : Int32)), (.int (5 : Int32))])) _
    exact q
  have k43_ : ∀ t, Steps p.tables e below (T38.setTop (mkF m 10 #[.val (.ref bb), .val (.int vv), .val (.int (5 : Int32)), .val (.int (8 : Int32))] [])) t → Steps p.tables e below (s₁.setTop (mkF m 0 #[.val (.ref bb), .val (.int vv), .unset, .unset] [])) t := by
    intro t q
    refine k42_ _ ?_
    show Steps p.tables e below (T38.setTop (mkF m 7 #[.val (.ref bb), .val (.int vv), .val (.int (5 : Int32)), .val (.int (8 : Int32))] [(.int (8 : Int32)), (.int (5 : Int32))])) _
    refine XS.icmpNo X38.here hx rfl (hb hby d_jdk_65_method_103_7) rfl (tlt (by decide)).2.1 ?_
    show Steps p.tables e below (T38.setTop (mkF m 10 #[.val (.ref bb), .val (.int vv), .val (.int (5 : Int32)), .val (.int (8 : Int32))] [])) _
    exact q
  have k44_ : ∀ t, Steps p.tables e below (T38.setTop (mkF m 13 #[.val (.ref bb), .val (.int vv), .val (.int (5 : Int32)), .val (.int (8 : Int32))] [(.int vv), (.int (5 : Int32)), (.ref bb)])) t → Steps p.tables e below (s₁.setTop (mkF m 0 #[.val (.ref bb), .val (.int vv), .unset, .unset] [])) t := by
    intro t q
    refine k43_ _ ?_
    show Steps p.tables e below (T38.setTop (mkF m 10 #[.val (.ref bb), .val (.int vv), .val (.int (5 : Int32)), .val (.int (8 : Int32))] [])) _
    refine XS.aloadN X38.here hx rfl (hb hby d_jdk_65_method_103_10) rfl rfl ?_
    show Steps p.tables e below (T38.setTop (mkF m 11 #[.val (.ref bb), .val (.int vv), .val (.int (5 : Int32)), .val (.int (8 : Int32))] [(.ref bb)])) _
    refine XS.iloadN X38.here hx rfl (hb hby d_jdk_65_method_103_11) rfl ?_
    show Steps p.tables e below (T38.setTop (mkF m 12 #[.val (.ref bb), .val (.int vv), .val (.int (5 : Int32)), .val (.int (8 : Int32))] [(.int (5 : Int32)), (.ref bb)])) _
    refine XS.iloadN X38.here hx rfl (hb hby d_jdk_65_method_103_12) rfl ?_
    show Steps p.tables e below (T38.setTop (mkF m 13 #[.val (.ref bb), .val (.int vv), .val (.int (5 : Int32)), .val (.int (8 : Int32))] [(.int vv), (.int (5 : Int32)), (.ref bb)])) _
    exact q
  obtain ⟨cl45, Ar45, q45, S45, M45, H45, G45⟩ := V_bb
  obtain ⟨T46, h46, X46, e46, W46, st46⟩ := stI X38 hx hZ e38 Ar45 (j := (5 : Int32)) (inb_of S45 ⟨by decide, by decide⟩) (g := (mkF m 13 #[.val (.ref bb), .val (.int vv), .val (.int (5 : Int32)), .val (.int (8 : Int32))] [(.int vv), (.int (5 : Int32)), (.ref bb)])) rfl rfl (hb hby d_jdk_65_method_103_13)
  have k47_ : ∀ t, Steps p.tables e below (T46.setTop (mkF m 14 #[.val (.ref bb), .val (.int vv), .val (.int (5 : Int32)), .val (.int (8 : Int32))] [])) t → Steps p.tables e below (s₁.setTop (mkF m 0 #[.val (.ref bb), .val (.int vv), .unset, .unset] [])) t := fun t q => k44_ t (st46 t q)
  have N46 := Fr.snoc X46 N38 g_bb
  replace Zn := Nat.le_trans Zn (Keep.of_wr W46).1
  have V_bb : Arv Z h46 bb kB .int (8 : Int32) [(.int vv), (.int vv), (.int vv), (.int vv), (.int vv), (.int vv), (.int (0 : Int32)), (.int (0 : Int32))] (.int (0 : Int32)) := Arv.set Ar45 q45 S45 M45 H45 G45 rfl W46 5 rfl (Nat.le_of_ble_eq_true rfl)
  replace KP := KP.wr W46 (Or.inl (List.mem_of_getElem? (i := 0) rfl))
  have k48_ : ∀ t, Steps p.tables e below (T46.setTop (mkF m 17 #[.val (.ref bb), .val (.int vv), .val (.int ((5 : Int32) + (1 : Int32))), .val (.int (8 : Int32))] [])) t → Steps p.tables e below (s₁.setTop (mkF m 0 #[.val (.ref bb), .val (.int vv), .unset, .unset] [])) t := by
    intro t q
    refine k47_ _ ?_
    show Steps p.tables e below (T46.setTop (mkF m 14 #[.val (.ref bb), .val (.int vv), .val (.int (5 : Int32)), .val (.int (8 : Int32))] [])) _
    refine XS.iinc X46.here hx rfl (hb hby d_jdk_65_method_103_14) rfl (l' := #[.val (.ref bb), .val (.int vv), .val (.int ((5 : Int32) + (1 : Int32))), .val (.int (8 : Int32))]) rfl ?_
    show Steps p.tables e below (T46.setTop (mkF m 17 #[.val (.ref bb), .val (.int vv), .val (.int ((5 : Int32) + (1 : Int32))), .val (.int (8 : Int32))] [])) _
    exact q
  have k49_ : ∀ t, Steps p.tables e below (T46.setTop (mkF m 17 #[.val (.ref bb), .val (.int vv), .val (.int (6 : Int32)), .val (.int (8 : Int32))] [])) t → Steps p.tables e below (s₁.setTop (mkF m 0 #[.val (.ref bb), .val (.int vv), .unset, .unset] [])) t := fun t q => k48_ t (Eq.mp (congrArg (fun z => Steps p.tables e below (T46.setTop (mkF m 17 #[.val (.ref bb), .val (.int vv), .val (.int z), .val (.int (8 : Int32))] [])) t) (show (6 : Int32) = ((5 : Int32) + (1 : Int32)) from (by decide))) q)
  have k50_ : ∀ t, Steps p.tables e below (T46.setTop (mkF m 7 #[.val (.ref bb), .val (.int vv), .val (.int (6 : Int32)), .val (.int (8 : Int32))] [(.int (8 : Int32)), (.int (6 : Int32))])) t → Steps p.tables e below (s₁.setTop (mkF m 0 #[.val (.ref bb), .val (.int vv), .unset, .unset] [])) t := by
    intro t q
    refine k49_ _ ?_
    show Steps p.tables e below (T46.setTop (mkF m 17 #[.val (.ref bb), .val (.int vv), .val (.int (6 : Int32)), .val (.int (8 : Int32))] [])) _
    refine XS.goto X46.here hx rfl (pc0 := 17) (pc' := 5) rfl (hb hby d_jdk_65_method_103_17) (by decide) (by decide) ?_
    show Steps p.tables e below (T46.setTop (mkF m 5 #[.val (.ref bb), .val (.int vv), .val (.int (6 : Int32)), .val (.int (8 : Int32))] [])) _
    refine XS.iloadN X46.here hx rfl (hb hby d_jdk_65_method_103_5) rfl ?_
    show Steps p.tables e below (T46.setTop (mkF m 6 #[.val (.ref bb), .val (.int vv), .val (.int (6 : Int32)), .val (.int (8 : Int32))] [(.int (6 : Int32))])) _
    refine XS.iloadN X46.here hx rfl (hb hby d_jdk_65_method_103_6) rfl ?_
    show Steps p.tables e below (T46.setTop (mkF m 7 #[.val (.ref bb), .val (.int vv), .val (.int (6 : Int32)), .val (.int (8 : Int32))] [(.int (8 : Int32)), (.int (6 : Int32))])) _
    exact q
  have k51_ : ∀ t, Steps p.tables e below (T46.setTop (mkF m 10 #[.val (.ref bb), .val (.int vv), .val (.int (6 : Int32)), .val (.int (8 : Int32))] [])) t → Steps p.tables e below (s₁.setTop (mkF m 0 #[.val (.ref bb), .val (.int vv), .unset, .unset] [])) t := by
    intro t q
    refine k50_ _ ?_
    show Steps p.tables e below (T46.setTop (mkF m 7 #[.val (.ref bb), .val (.int vv), .val (.int (6 : Int32)), .val (.int (8 : Int32))] [(.int (8 : Int32)), (.int (6 : Int32))])) _
    refine XS.icmpNo X46.here hx rfl (hb hby d_jdk_65_method_103_7) rfl (tlt (by decide)).2.1 ?_
    show Steps p.tables e below (T46.setTop (mkF m 10 #[.val (.ref bb), .val (.int vv), .val (.int (6 : Int32)), .val (.int (8 : Int32))] [])) _
    exact q
  have k52_ : ∀ t, Steps p.tables e below (T46.setTop (mkF m 13 #[.val (.ref bb), .val (.int vv), .val (.int (6 : Int32)), .val (.int (8 : Int32))] [(.int vv), (.int (6 : Int32)), (.ref bb)])) t → Steps p.tables e below (s₁.setTop (mkF m 0 #[.val (.ref bb), .val (.int vv), .unset, .unset] [])) t := by
    intro t q
    refine k51_ _ ?_
    show Steps p.tables e below (T46.setTop (mkF m 10 #[.val (.ref bb), .val (.int vv), .val (.int (6 : Int32)), .val (.int (8 : Int32))] [])) _
    refine XS.aloadN X46.here hx rfl (hb hby d_jdk_65_method_103_10) rfl rfl ?_
    show Steps p.tables e below (T46.setTop (mkF m 11 #[.val (.ref bb), .val (.int vv), .val (.int (6 : Int32)), .val (.int (8 : Int32))] [(.ref bb)])) _
    refine XS.iloadN X46.here hx rfl (hb hby d_jdk_65_method_103_11) rfl ?_
    show Steps p.tables e below (T46.setTop (mkF m 12 #[.val (.ref bb), .val (.int vv), .val (.int (6 : Int32)), .val (.int (8 : Int32))] [(.int (6 : Int32)), (.ref bb)])) _
    refine XS.iloadN X46.here hx rfl (hb hby d_jdk_65_method_103_12) rfl ?_
    show Steps p.tables e below (T46.setTop (mkF m 13 #[.val (.ref bb), .val (.int vv), .val (.int (6 : Int32)), .val (.int (8 : Int32))] [(.int vv), (.int (6 : Int32)), (.ref bb)])) _
    exact q
  obtain ⟨cl53, Ar53, q53, S53, M53, H53, G53⟩ := V_bb
  obtain ⟨T54, h54, X54, e54, W54, st54⟩ := stI X46 hx hZ e46 Ar53 (j := (6 : Int32)) (inb_of S53 ⟨by decide, by decide⟩) (g := (mkF m 13 #[.val (.ref bb), .val (.int vv), .val (.int (6 : Int32)), .val (.int (8 : Int32))] [(.int vv), (.int (6 : Int32)), (.ref bb)])) rfl rfl (hb hby d_jdk_65_method_103_13)
  have k55_ : ∀ t, Steps p.tables e below (T54.setTop (mkF m 14 #[.val (.ref bb), .val (.int vv), .val (.int (6 : Int32)), .val (.int (8 : Int32))] [])) t → Steps p.tables e below (s₁.setTop (mkF m 0 #[.val (.ref bb), .val (.int vv), .unset, .unset] [])) t := fun t q => k52_ t (st54 t q)
  have N54 := Fr.snoc X54 N46 g_bb
  replace Zn := Nat.le_trans Zn (Keep.of_wr W54).1
  have V_bb : Arv Z h54 bb kB .int (8 : Int32) [(.int vv), (.int vv), (.int vv), (.int vv), (.int vv), (.int vv), (.int vv), (.int (0 : Int32))] (.int (0 : Int32)) := Arv.set Ar53 q53 S53 M53 H53 G53 rfl W54 6 rfl (Nat.le_of_ble_eq_true rfl)
  replace KP := KP.wr W54 (Or.inl (List.mem_of_getElem? (i := 0) rfl))
  have k56_ : ∀ t, Steps p.tables e below (T54.setTop (mkF m 17 #[.val (.ref bb), .val (.int vv), .val (.int ((6 : Int32) + (1 : Int32))), .val (.int (8 : Int32))] [])) t → Steps p.tables e below (s₁.setTop (mkF m 0 #[.val (.ref bb), .val (.int vv), .unset, .unset] [])) t := by
    intro t q
    refine k55_ _ ?_
    show Steps p.tables e below (T54.setTop (mkF m 14 #[.val (.ref bb), .val (.int vv), .val (.int (6 : Int32)), .val (.int (8 : Int32))] [])) _
    refine XS.iinc X54.here hx rfl (hb hby d_jdk_65_method_103_14) rfl (l' := #[.val (.ref bb), .val (.int vv), .val (.int ((6 : Int32) + (1 : Int32))), .val (.int (8 : Int32))]) rfl ?_
    show Steps p.tables e below (T54.setTop (mkF m 17 #[.val (.ref bb), .val (.int vv), .val (.int ((6 : Int32) + (1 : Int32))), .val (.int (8 : Int32))] [])) _
    exact q
  have k57_ : ∀ t, Steps p.tables e below (T54.setTop (mkF m 17 #[.val (.ref bb), .val (.int vv), .val (.int (7 : Int32)), .val (.int (8 : Int32))] [])) t → Steps p.tables e below (s₁.setTop (mkF m 0 #[.val (.ref bb), .val (.int vv), .unset, .unset] [])) t := fun t q => k56_ t (Eq.mp (congrArg (fun z => Steps p.tables e below (T54.setTop (mkF m 17 #[.val (.ref bb), .val (.int vv), .val (.int z), .val (.int (8 : Int32))] [])) t) (show (7 : Int32) = ((6 : Int32) + (1 : Int32)) from (by decide))) q)
  have k58_ : ∀ t, Steps p.tables e below (T54.setTop (mkF m 7 #[.val (.ref bb), .val (.int vv), .val (.int (7 : Int32)), .val (.int (8 : Int32))] [(.int (8 : Int32)), (.int (7 : Int32))])) t → Steps p.tables e below (s₁.setTop (mkF m 0 #[.val (.ref bb), .val (.int vv), .unset, .unset] [])) t := by
    intro t q
    refine k57_ _ ?_
    show Steps p.tables e below (T54.setTop (mkF m 17 #[.val (.ref bb), .val (.int vv), .val (.int (7 : Int32)), .val (.int (8 : Int32))] [])) _
    refine XS.goto X54.here hx rfl (pc0 := 17) (pc' := 5) rfl (hb hby d_jdk_65_method_103_17) (by decide) (by decide) ?_
    show Steps p.tables e below (T54.setTop (mkF m 5 #[.val (.ref bb), .val (.int vv), .val (.int (7 : Int32)), .val (.int (8 : Int32))] [])) _
    refine XS.iloadN X54.here hx rfl (hb hby d_jdk_65_method_103_5) rfl ?_
    show Steps p.tables e below (T54.setTop (mkF m 6 #[.val (.ref bb), .val (.int vv), .val (.int (7 : Int32)), .val (.int (8 : Int32))] [(.int (7 : Int32))])) _
    refine XS.iloadN X54.here hx rfl (hb hby d_jdk_65_method_103_6) rfl ?_
    show Steps p.tables e below (T54.setTop (mkF m 7 #[.val (.ref bb), .val (.int vv), .val (.int (7 : Int32)), .val (.int (8 : Int32))] [(.int (8 : Int32)), (.int (7 : Int32))])) _
    exact q
  have k59_ : ∀ t, Steps p.tables e below (T54.setTop (mkF m 10 #[.val (.ref bb), .val (.int vv), .val (.int (7 : Int32)), .val (.int (8 : Int32))] [])) t → Steps p.tables e below (s₁.setTop (mkF m 0 #[.val (.ref bb), .val (.int vv), .unset, .unset] [])) t := by
    intro t q
    refine k58_ _ ?_
    show Steps p.tables e below (T54.setTop (mkF m 7 #[.val (.ref bb), .val (.int vv), .val (.int (7 : Int32)), .val (.int (8 : Int32))] [(.int (8 : Int32)), (.int (7 : Int32))])) _
    refine XS.icmpNo X54.here hx rfl (hb hby d_jdk_65_method_103_7) rfl (tlt (by decide)).2.1 ?_
    show Steps p.tables e below (T54.setTop (mkF m 10 #[.val (.ref bb), .val (.int vv), .val (.int (7 : Int32)), .val (.int (8 : Int32))] [])) _
    exact q
  have k60_ : ∀ t, Steps p.tables e below (T54.setTop (mkF m 13 #[.val (.ref bb), .val (.int vv), .val (.int (7 : Int32)), .val (.int (8 : Int32))] [(.int vv), (.int (7 : Int32)), (.ref bb)])) t → Steps p.tables e below (s₁.setTop (mkF m 0 #[.val (.ref bb), .val (.int vv), .unset, .unset] [])) t := by
    intro t q
    refine k59_ _ ?_
    show Steps p.tables e below (T54.setTop (mkF m 10 #[.val (.ref bb), .val (.int vv), .val (.int (7 : Int32)), .val (.int (8 : Int32))] [])) _
    refine XS.aloadN X54.here hx rfl (hb hby d_jdk_65_method_103_10) rfl rfl ?_
    show Steps p.tables e below (T54.setTop (mkF m 11 #[.val (.ref bb), .val (.int vv), .val (.int (7 : Int32)), .val (.int (8 : Int32))] [(.ref bb)])) _
    refine XS.iloadN X54.here hx rfl (hb hby d_jdk_65_method_103_11) rfl ?_
    show Steps p.tables e below (T54.setTop (mkF m 12 #[.val (.ref bb), .val (.int vv), .val (.int (7 : Int32)), .val (.int (8 : Int32))] [(.int (7 : Int32)), (.ref bb)])) _
    refine XS.iloadN X54.here hx rfl (hb hby d_jdk_65_method_103_12) rfl ?_
    show Steps p.tables e below (T54.setTop (mkF m 13 #[.val (.ref bb), .val (.int vv), .val (.int (7 : Int32)), .val (.int (8 : Int32))] [(.int vv), (.int (7 : Int32)), (.ref bb)])) _
    exact q
  obtain ⟨cl61, Ar61, q61, S61, M61, H61, G61⟩ := V_bb
  obtain ⟨T62, h62, X62, e62, W62, st62⟩ := stI X54 hx hZ e54 Ar61 (j := (7 : Int32)) (inb_of S61 ⟨by decide, by decide⟩) (g := (mkF m 13 #[.val (.ref bb), .val (.int vv), .val (.int (7 : Int32)), .val (.int (8 : Int32))] [(.int vv), (.int (7 : Int32)), (.ref bb)])) rfl rfl (hb hby d_jdk_65_method_103_13)
  have k63_ : ∀ t, Steps p.tables e below (T62.setTop (mkF m 14 #[.val (.ref bb), .val (.int vv), .val (.int (7 : Int32)), .val (.int (8 : Int32))] [])) t → Steps p.tables e below (s₁.setTop (mkF m 0 #[.val (.ref bb), .val (.int vv), .unset, .unset] [])) t := fun t q => k60_ t (st62 t q)
  have N62 := Fr.snoc X62 N54 g_bb
  replace Zn := Nat.le_trans Zn (Keep.of_wr W62).1
  have V_bb : Arv Z h62 bb kB .int (8 : Int32) [(.int vv), (.int vv), (.int vv), (.int vv), (.int vv), (.int vv), (.int vv), (.int vv)] (.int (0 : Int32)) := Arv.set Ar61 q61 S61 M61 H61 G61 rfl W62 7 rfl (Nat.le_of_ble_eq_true rfl)
  replace KP := KP.wr W62 (Or.inl (List.mem_of_getElem? (i := 0) rfl))
  have k64_ : ∀ t, Steps p.tables e below (T62.setTop (mkF m 17 #[.val (.ref bb), .val (.int vv), .val (.int ((7 : Int32) + (1 : Int32))), .val (.int (8 : Int32))] [])) t → Steps p.tables e below (s₁.setTop (mkF m 0 #[.val (.ref bb), .val (.int vv), .unset, .unset] [])) t := by
    intro t q
    refine k63_ _ ?_
    show Steps p.tables e below (T62.setTop (mkF m 14 #[.val (.ref bb), .val (.int vv), .val (.int (7 : Int32)), .val (.int (8 : Int32))] [])) _
    refine XS.iinc X62.here hx rfl (hb hby d_jdk_65_method_103_14) rfl (l' := #[.val (.ref bb), .val (.int vv), .val (.int ((7 : Int32) + (1 : Int32))), .val (.int (8 : Int32))]) rfl ?_
    show Steps p.tables e below (T62.setTop (mkF m 17 #[.val (.ref bb), .val (.int vv), .val (.int ((7 : Int32) + (1 : Int32))), .val (.int (8 : Int32))] [])) _
    exact q
  have k65_ : ∀ t, Steps p.tables e below (T62.setTop (mkF m 17 #[.val (.ref bb), .val (.int vv), .val (.int (8 : Int32)), .val (.int (8 : Int32))] [])) t → Steps p.tables e below (s₁.setTop (mkF m 0 #[.val (.ref bb), .val (.int vv), .unset, .unset] [])) t := fun t q => k64_ t (Eq.mp (congrArg (fun z => Steps p.tables e below (T62.setTop (mkF m 17 #[.val (.ref bb), .val (.int vv), .val (.int z), .val (.int (8 : Int32))] [])) t) (show (8 : Int32) = ((7 : Int32) + (1 : Int32)) from (by decide))) q)
  have k66_ : ∀ t, Steps p.tables e below (T62.setTop (mkF m 7 #[.val (.ref bb), .val (.int vv), .val (.int (8 : Int32)), .val (.int (8 : Int32))] [(.int (8 : Int32)), (.int (8 : Int32))])) t → Steps p.tables e below (s₁.setTop (mkF m 0 #[.val (.ref bb), .val (.int vv), .unset, .unset] [])) t := by
    intro t q
    refine k65_ _ ?_
    show Steps p.tables e below (T62.setTop (mkF m 17 #[.val (.ref bb), .val (.int vv), .val (.int (8 : Int32)), .val (.int (8 : Int32))] [])) _
    refine XS.goto X62.here hx rfl (pc0 := 17) (pc' := 5) rfl (hb hby d_jdk_65_method_103_17) (by decide) (by decide) ?_
    show Steps p.tables e below (T62.setTop (mkF m 5 #[.val (.ref bb), .val (.int vv), .val (.int (8 : Int32)), .val (.int (8 : Int32))] [])) _
    refine XS.iloadN X62.here hx rfl (hb hby d_jdk_65_method_103_5) rfl ?_
    show Steps p.tables e below (T62.setTop (mkF m 6 #[.val (.ref bb), .val (.int vv), .val (.int (8 : Int32)), .val (.int (8 : Int32))] [(.int (8 : Int32))])) _
    refine XS.iloadN X62.here hx rfl (hb hby d_jdk_65_method_103_6) rfl ?_
    show Steps p.tables e below (T62.setTop (mkF m 7 #[.val (.ref bb), .val (.int vv), .val (.int (8 : Int32)), .val (.int (8 : Int32))] [(.int (8 : Int32)), (.int (8 : Int32))])) _
    exact q
  have k67_ : ∀ t, Steps p.tables e below (T62.setTop (mkF m 20 #[.val (.ref bb), .val (.int vv), .val (.int (8 : Int32)), .val (.int (8 : Int32))] [])) t → Steps p.tables e below (s₁.setTop (mkF m 0 #[.val (.ref bb), .val (.int vv), .unset, .unset] [])) t := by
    intro t q
    refine k66_ _ ?_
    show Steps p.tables e below (T62.setTop (mkF m 7 #[.val (.ref bb), .val (.int vv), .val (.int (8 : Int32)), .val (.int (8 : Int32))] [(.int (8 : Int32)), (.int (8 : Int32))])) _
    refine XS.icmpYes X62.here hx rfl (pc0 := 7) (pc' := 20) rfl (hb hby d_jdk_65_method_103_7) rfl (flt (by decide)).2.1 (by decide) (by decide) ?_
    show Steps p.tables e below (T62.setTop (mkF m 20 #[.val (.ref bb), .val (.int vv), .val (.int (8 : Int32)), .val (.int (8 : Int32))] [])) _
    exact q
  obtain ⟨fs, hr, hrun, hended, hW, hsame⟩ := X62.leave (v := none) (fun _ => rfl)
  refine ⟨_, _, pre0 _ (k67_ _ ?_), hrun, hended, _, _, rfl, ?_, ⟨_, rfl⟩, hW, hsame.mono (by decide) (by decide)⟩
  · show Steps p.tables e below (T62.setTop (mkF m 20 #[.val (.ref bb), .val (.int vv), .val (.int (8 : Int32)), .val (.int (8 : Int32))] [])) _
    exact X62.returnOut hx Bd.returns (hb hby d_jdk_65_method_103_20) hr
  · show QF Z bb vv kB h0 n0 _ T62.heap _
    rw [e62]
    exact ⟨rfl, N62, KP, V_bb⟩
theorem d_prog_82_method_6_45 : decode prog_82_method_6_code 45 = .ok (.iload_n 3, 1) := by decide +kernel
theorem d_prog_82_method_6_46 : decode prog_82_method_6_code 46 = .ok (.aload_n 1, 1) := by decide +kernel
theorem d_prog_82_method_6_47 : decode prog_82_method_6_code 47 = .ok (.arraylength, 1) := by decide +kernel
theorem d_prog_82_method_6_48 : decode prog_82_method_6_code 48 = .ok (.if_icmp .ge 25, 3) := by decide +kernel
theorem d_prog_82_method_6_51 : decode prog_82_method_6_code 51 = .ok (.aload_n 1, 1) := by decide +kernel
theorem d_prog_82_method_6_52 : decode prog_82_method_6_code 52 = .ok (.iload_n 3, 1) := by decide +kernel
theorem d_prog_82_method_6_53 : decode prog_82_method_6_code 53 = .ok (.iaload, 1) := by decide +kernel
theorem d_prog_82_method_6_54 : decode prog_82_method_6_code 54 = .ok (.ifCond .lt 13, 3) := by decide +kernel
theorem d_prog_82_method_6_67 : decode prog_82_method_6_code 67 = .ok (.iinc 3 1, 3) := by decide +kernel
theorem d_prog_82_method_6_70 : decode prog_82_method_6_code 70 = .ok (.goto (-25), 3) := by decide +kernel
theorem d_prog_82_method_6_57 : decode prog_82_method_6_code 57 = .ok (.aload_n 0, 1) := by decide +kernel
theorem d_prog_82_method_6_58 : decode prog_82_method_6_code 58 = .ok (.aload_n 1, 1) := by decide +kernel
theorem d_prog_82_method_6_59 : decode prog_82_method_6_code 59 = .ok (.iload_n 3, 1) := by decide +kernel
theorem d_prog_82_method_6_60 : decode prog_82_method_6_code 60 = .ok (.iaload, 1) := by decide +kernel
theorem d_prog_82_method_6_61 : decode prog_82_method_6_code 61 = .ok (.aload_n 2, 1) := by decide +kernel
theorem d_prog_82_method_6_62 : decode prog_82_method_6_code 62 = .ok (.iload_n 3, 1) := by decide +kernel
theorem d_prog_82_method_6_63 : decode prog_82_method_6_code 63 = .ok (.iaload, 1) := by decide +kernel
theorem pd_90433 : parseMethodDescriptor "(II)V" = some ⟨[.int, .int], none⟩ := by decide +kernel
theorem d_prog_82_method_6_64 : decode prog_82_method_6_code 64 = .ok (.invokevirtual 41, 3) := by decide +kernel
set_option maxRecDepth 65536 in
set_option maxHeartbeats 40000000 in
theorem grS {p : Program} {l : Launch} {e : Env}  {s : State} {m : MethodId} {args : Array Value} {below : List Frame} {meth : Method} {c : Code} (Z : State) (a0 : Array Value) (hw : ∀ d ∈ tables_1, d.before a0 Z = true) (hx : p.tables.exec = Jvm.exec) (hZ : Z.Warmed39 s.vm) (hby : c.code = prog_82_method_6_code) (hml : c.maxLocals = 4) (hown : s.vm.findClass "com/example/weir/weir/model/HeldTasks$Counts" = some m.cls) (n0 : Nat) (a ka ca kb cb : Addr) (ks cs u us : List Int32) (F : Int32 → Int32) (kA kD : ClassId) (i : Nat) (s₁ : State) (h0 : Heap) (lc0 : List Loc) (hi : i < 4) (X0 : Stand p l e ({ frames := 2, cells := 2, slots := 16, locals := 30 } : Room) s m args below meth c s₁ lc0 2 16) (e0 : s₁.heap = h0) (N0 : Fr n0 lc0) (Zn : n0 ≤ h0.size) (hC : own_Cn Z n0 h0 a kb cb u us) (VA : Arv Z h0 ka kA .int (4 : Int32) (ks.map Value.int) (.int 0)) (VD : Arv Z h0 ca kD .int (4 : Int32) (cs.map Value.int) (.int 0)) (hok : own_ok u (ks.getD i 0) = true) (hF : own_C F u us) (hv : ¬ ks.getD i 0 < 0 → cs.getD i 0 = F (ks.getD i 0) ∧ 0 < cs.getD i 0) : ∃ (T' : State) (h' : Heap) (lc' : List Loc) (us' : List Int32), Stand p l e ({ frames := 2, cells := 2, slots := 16, locals := 30 } : Room) s m args below meth c T' lc' 2 16 ∧ T'.heap = h' ∧ Fr n0 lc' ∧ own_Cn Z n0 h' a kb cb (own_it u (ks.getD i 0)) us' ∧ own_C F (own_it u (ks.getD i 0)) us' ∧ Keep h0 h' [a, kb, cb] ∧ ∀ t, Steps p.tables e below (T'.setTop (mkF m 45 #[.val (.ref a), .val (.ref ka), .val (.ref ca), .val (.int (Int32.ofNat (i + 1)))] [])) t → Steps p.tables e below (s₁.setTop (mkF m 45 #[.val (.ref a), .val (.ref ka), .val (.ref ca), .val (.int (Int32.ofNat i))] [])) t := by
  have k0 : ∀ t, Steps p.tables e below (s₁.setTop (mkF m 45 #[.val (.ref a), .val (.ref ka), .val (.ref ca), .val (.int (Int32.ofNat i))] [])) t → Steps p.tables e below (s₁.setTop (mkF m 45 #[.val (.ref a), .val (.ref ka), .val (.ref ca), .val (.int (Int32.ofNat i))] [])) t := fun t q => q
  have hr := own_lt4 hi
  obtain ⟨cl1, Ar1, q1, S1, M1, H1, G1⟩ := id VA
  obtain ⟨cl2, Ar2, q2, S2, M2, H2, G2⟩ := id VA
  obtain ⟨cl3, Ar3, q3, S3, M3, H3, G3⟩ := id VA
  obtain ⟨cl4, Ar4, q4, S4, M4, H4, G4⟩ := id VD
  have k5_ : ∀ t, Steps p.tables e below (s₁.setTop (mkF m 48 #[.val (.ref a), .val (.ref ka), .val (.ref ca), .val (.int (Int32.ofNat i))] [(.int (4 : Int32)), (.int (Int32.ofNat i))])) t → Steps p.tables e below (s₁.setTop (mkF m 45 #[.val (.ref a), .val (.ref ka), .val (.ref ca), .val (.int (Int32.ofNat i))] [])) t := by
    intro t q
    refine k0 _ ?_
    show Steps p.tables e below (s₁.setTop (mkF m 45 #[.val (.ref a), .val (.ref ka), .val (.ref ca), .val (.int (Int32.ofNat i))] [])) _
    refine XS.iloadN X0.here hx rfl (hb hby d_prog_82_method_6_45) rfl ?_
    show Steps p.tables e below (s₁.setTop (mkF m 46 #[.val (.ref a), .val (.ref ka), .val (.ref ca), .val (.int (Int32.ofNat i))] [(.int (Int32.ofNat i))])) _
    refine XS.aloadN X0.here hx rfl (hb hby d_prog_82_method_6_46) rfl rfl ?_
    show Steps p.tables e below (s₁.setTop (mkF m 47 #[.val (.ref a), .val (.ref ka), .val (.ref ca), .val (.int (Int32.ofNat i))] [(.ref ka), (.int (Int32.ofNat i))])) _
    refine X0.arraylength hx (by rw [e0]; exact Ar1.1) (State.isArrayOf_alike hZ.alike Ar1.2.1) (g := (mkF m 47 #[.val (.ref a), .val (.ref ka), .val (.ref ca), .val (.int (Int32.ofNat i))] [(.ref ka), (.int (Int32.ofNat i))])) rfl rfl (hb hby d_prog_82_method_6_47) _ ?_
    rw [len_of S1 M1]
    show Steps p.tables e below (s₁.setTop (mkF m 48 #[.val (.ref a), .val (.ref ka), .val (.ref ca), .val (.int (Int32.ofNat i))] [(.int (4 : Int32)), (.int (Int32.ofNat i))])) _
    exact q
  have k6_ : ∀ t, Steps p.tables e below (s₁.setTop (mkF m 51 #[.val (.ref a), .val (.ref ka), .val (.ref ca), .val (.int (Int32.ofNat i))] [])) t → Steps p.tables e below (s₁.setTop (mkF m 45 #[.val (.ref a), .val (.ref ka), .val (.ref ca), .val (.int (Int32.ofNat i))] [])) t := by
    intro t q
    refine k5_ _ ?_
    show Steps p.tables e below (s₁.setTop (mkF m 48 #[.val (.ref a), .val (.ref ka), .val (.ref ca), .val (.int (Int32.ofNat i))] [(.int (4 : Int32)), (.int (Int32.ofNat i))])) _
    refine XS.icmpNo X0.here hx rfl (hb hby d_prog_82_method_6_48) rfl (tlt hr.2).2.1 ?_
    show Steps p.tables e below (s₁.setTop (mkF m 51 #[.val (.ref a), .val (.ref ka), .val (.ref ca), .val (.int (Int32.ofNat i))] [])) _
    exact q
  have k7_ : ∀ t, Steps p.tables e below (s₁.setTop (mkF m 54 #[.val (.ref a), .val (.ref ka), .val (.ref ca), .val (.int (Int32.ofNat i))] [(.int (ks.getD i 0))])) t → Steps p.tables e below (s₁.setTop (mkF m 45 #[.val (.ref a), .val (.ref ka), .val (.ref ca), .val (.int (Int32.ofNat i))] [])) t := by
    intro t q
    refine k6_ _ ?_
    show Steps p.tables e below (s₁.setTop (mkF m 51 #[.val (.ref a), .val (.ref ka), .val (.ref ca), .val (.int (Int32.ofNat i))] [])) _
    refine XS.aloadN X0.here hx rfl (hb hby d_prog_82_method_6_51) rfl rfl ?_
    show Steps p.tables e below (s₁.setTop (mkF m 52 #[.val (.ref a), .val (.ref ka), .val (.ref ca), .val (.int (Int32.ofNat i))] [(.ref ka)])) _
    refine XS.iloadN X0.here hx rfl (hb hby d_prog_82_method_6_52) rfl ?_
    show Steps p.tables e below (s₁.setTop (mkF m 53 #[.val (.ref a), .val (.ref ka), .val (.ref ca), .val (.int (Int32.ofNat i))] [(.int (Int32.ofNat i)), (.ref ka)])) _
    refine X0.iaload hx (j := (Int32.ofNat i)) (v := (.int (ks.getD i 0))) (by rw [e0]; exact Ar2.1) (State.isArrayOf_alike hZ.alike Ar2.2.1) Ar2.2.2 (inb_of S2 hr) (Has.at H2 (inb_of S2 hr) (own_gi _ (by omega))) (g := (mkF m 53 #[.val (.ref a), .val (.ref ka), .val (.ref ca), .val (.int (Int32.ofNat i))] [(.int (Int32.ofNat i)), (.ref ka)])) rfl rfl (hb hby d_prog_82_method_6_53) _ ?_
    show Steps p.tables e below (s₁.setTop (mkF m 54 #[.val (.ref a), .val (.ref ka), .val (.ref ca), .val (.int (Int32.ofNat i))] [(.int (ks.getD i 0))])) _
    exact q
  by_cases hca : (ks.getD i 0) < (0 : Int32)
  · rw [own_it_n hca]
    have k8_ : ∀ t, Steps p.tables e below (s₁.setTop (mkF m 67 #[.val (.ref a), .val (.ref ka), .val (.ref ca), .val (.int (Int32.ofNat i))] [])) t → Steps p.tables e below (s₁.setTop (mkF m 45 #[.val (.ref a), .val (.ref ka), .val (.ref ca), .val (.int (Int32.ofNat i))] [])) t := by
      intro t q
      refine k7_ _ ?_
      show Steps p.tables e below (s₁.setTop (mkF m 54 #[.val (.ref a), .val (.ref ka), .val (.ref ca), .val (.int (Int32.ofNat i))] [(.int (ks.getD i 0))])) _
      refine XS.ifYes X0.here hx rfl (pc0 := 54) (pc' := 67) rfl (hb hby d_prog_82_method_6_54) rfl ((if0 _ _).trans (tlt hca).1) (by decide) (by decide) ?_
      show Steps p.tables e below (s₁.setTop (mkF m 67 #[.val (.ref a), .val (.ref ka), .val (.ref ca), .val (.int (Int32.ofNat i))] [])) _
      exact q
    have k9_ : ∀ t, Steps p.tables e below (s₁.setTop (mkF m 45 #[.val (.ref a), .val (.ref ka), .val (.ref ca), .val (.int ((Int32.ofNat i) + (1 : Int32)))] [])) t → Steps p.tables e below (s₁.setTop (mkF m 45 #[.val (.ref a), .val (.ref ka), .val (.ref ca), .val (.int (Int32.ofNat i))] [])) t := by
      intro t q
      refine k8_ _ ?_
      show Steps p.tables e below (s₁.setTop (mkF m 67 #[.val (.ref a), .val (.ref ka), .val (.ref ca), .val (.int (Int32.ofNat i))] [])) _
      refine XS.iinc X0.here hx rfl (hb hby d_prog_82_method_6_67) rfl (l' := #[.val (.ref a), .val (.ref ka), .val (.ref ca), .val (.int ((Int32.ofNat i) + (1 : Int32)))]) rfl ?_
      show Steps p.tables e below (s₁.setTop (mkF m 70 #[.val (.ref a), .val (.ref ka), .val (.ref ca), .val (.int ((Int32.ofNat i) + (1 : Int32)))] [])) _
      refine XS.goto X0.here hx rfl (pc0 := 70) (pc' := 45) rfl (hb hby d_prog_82_method_6_70) (by decide) (by decide) ?_
      show Steps p.tables e below (s₁.setTop (mkF m 45 #[.val (.ref a), .val (.ref ka), .val (.ref ca), .val (.int ((Int32.ofNat i) + (1 : Int32)))] [])) _
      exact q
    have k10_ : ∀ t, Steps p.tables e below (s₁.setTop (mkF m 45 #[.val (.ref a), .val (.ref ka), .val (.ref ca), .val (.int (Int32.ofNat (i + 1)))] [])) t → Steps p.tables e below (s₁.setTop (mkF m 45 #[.val (.ref a), .val (.ref ka), .val (.ref ca), .val (.int (Int32.ofNat i))] [])) t := fun t q => k9_ t (Eq.mp (congrArg (fun z => Steps p.tables e below (s₁.setTop (mkF m 45 #[.val (.ref a), .val (.ref ka), .val (.ref ca), .val (.int z)] [])) t) (show (Int32.ofNat (i + 1)) = ((Int32.ofNat i) + (1 : Int32)) from (own_inc (by omega)))) q)
    exact ⟨_, h0, lc0, us, X0, e0, N0, hC, hF, Keep.refl _ _, k10_⟩
  · rw [own_it_p hca]
    obtain ⟨o1, o2, o3, o4⟩ := own_ok_spec hok hca
    obtain ⟨v1, v2⟩ := hv hca
    have k11_ : ∀ t, Steps p.tables e below (s₁.setTop (mkF m 57 #[.val (.ref a), .val (.ref ka), .val (.ref ca), .val (.int (Int32.ofNat i))] [])) t → Steps p.tables e below (s₁.setTop (mkF m 45 #[.val (.ref a), .val (.ref ka), .val (.ref ca), .val (.int (Int32.ofNat i))] [])) t := by
      intro t q
      refine k7_ _ ?_
      show Steps p.tables e below (s₁.setTop (mkF m 54 #[.val (.ref a), .val (.ref ka), .val (.ref ca), .val (.int (Int32.ofNat i))] [(.int (ks.getD i 0))])) _
      refine XS.ifNo X0.here hx rfl (hb hby d_prog_82_method_6_54) rfl ((if0 _ _).trans (flt hca).1) ?_
      show Steps p.tables e below (s₁.setTop (mkF m 57 #[.val (.ref a), .val (.ref ka), .val (.ref ca), .val (.int (Int32.ofNat i))] [])) _
      exact q
    have k12_ : ∀ t, Steps p.tables e below (s₁.setTop (mkF m 64 #[.val (.ref a), .val (.ref ka), .val (.ref ca), .val (.int (Int32.ofNat i))] [(.int (cs.getD i 0)), (.int (ks.getD i 0)), (.ref a)])) t → Steps p.tables e below (s₁.setTop (mkF m 45 #[.val (.ref a), .val (.ref ka), .val (.ref ca), .val (.int (Int32.ofNat i))] [])) t := by
      intro t q
      refine k11_ _ ?_
      show Steps p.tables e below (s₁.setTop (mkF m 57 #[.val (.ref a), .val (.ref ka), .val (.ref ca), .val (.int (Int32.ofNat i))] [])) _
      refine XS.aloadN X0.here hx rfl (hb hby d_prog_82_method_6_57) rfl rfl ?_
      show Steps p.tables e below (s₁.setTop (mkF m 58 #[.val (.ref a), .val (.ref ka), .val (.ref ca), .val (.int (Int32.ofNat i))] [(.ref a)])) _
      refine XS.aloadN X0.here hx rfl (hb hby d_prog_82_method_6_58) rfl rfl ?_
      show Steps p.tables e below (s₁.setTop (mkF m 59 #[.val (.ref a), .val (.ref ka), .val (.ref ca), .val (.int (Int32.ofNat i))] [(.ref ka), (.ref a)])) _
      refine XS.iloadN X0.here hx rfl (hb hby d_prog_82_method_6_59) rfl ?_
      show Steps p.tables e below (s₁.setTop (mkF m 60 #[.val (.ref a), .val (.ref ka), .val (.ref ca), .val (.int (Int32.ofNat i))] [(.int (Int32.ofNat i)), (.ref ka), (.ref a)])) _
      refine X0.iaload hx (j := (Int32.ofNat i)) (v := (.int (ks.getD i 0))) (by rw [e0]; exact Ar3.1) (State.isArrayOf_alike hZ.alike Ar3.2.1) Ar3.2.2 (inb_of S3 hr) (Has.at H3 (inb_of S3 hr) (own_gi _ (by omega))) (g := (mkF m 60 #[.val (.ref a), .val (.ref ka), .val (.ref ca), .val (.int (Int32.ofNat i))] [(.int (Int32.ofNat i)), (.ref ka), (.ref a)])) rfl rfl (hb hby d_prog_82_method_6_60) _ ?_
      show Steps p.tables e below (s₁.setTop (mkF m 61 #[.val (.ref a), .val (.ref ka), .val (.ref ca), .val (.int (Int32.ofNat i))] [(.int (ks.getD i 0)), (.ref a)])) _
      refine XS.aloadN X0.here hx rfl (hb hby d_prog_82_method_6_61) rfl rfl ?_
      show Steps p.tables e below (s₁.setTop (mkF m 62 #[.val (.ref a), .val (.ref ka), .val (.ref ca), .val (.int (Int32.ofNat i))] [(.ref ca), (.int (ks.getD i 0)), (.ref a)])) _
      refine XS.iloadN X0.here hx rfl (hb hby d_prog_82_method_6_62) rfl ?_
      show Steps p.tables e below (s₁.setTop (mkF m 63 #[.val (.ref a), .val (.ref ka), .val (.ref ca), .val (.int (Int32.ofNat i))] [(.int (Int32.ofNat i)), (.ref ca), (.int (ks.getD i 0)), (.ref a)])) _
      refine X0.iaload hx (j := (Int32.ofNat i)) (v := (.int (cs.getD i 0))) (by rw [e0]; exact Ar4.1) (State.isArrayOf_alike hZ.alike Ar4.2.1) Ar4.2.2 (inb_of S4 hr) (Has.at H4 (inb_of S4 hr) (own_gi _ (by omega))) (g := (mkF m 63 #[.val (.ref a), .val (.ref ka), .val (.ref ca), .val (.int (Int32.ofNat i))] [(.int (Int32.ofNat i)), (.ref ca), (.int (ks.getD i 0)), (.ref a)])) rfl rfl (hb hby d_prog_82_method_6_63) _ ?_
      show Steps p.tables e below (s₁.setTop (mkF m 64 #[.val (.ref a), .val (.ref ka), .val (.ref ca), .val (.int (Int32.ofNat i))] [(.int (cs.getD i 0)), (.int (ks.getD i 0)), (.ref a)])) _
      exact q
    obtain ⟨cq13, kq13, q13a, q13b, q13c⟩ := isOf hZ e0 hC.1
    obtain ⟨_, _, ⟨T13, L13, kk13, n13⟩, -, X13, ⟨Lc13, hQ13, l13, y13, z13⟩, st13⟩ := X0.virtualBack hx (y := (⟨"com/example/weir/weir/model/HeldTasks$Counts", "put", "(II)V"⟩ : MethodName)) (z := (⟨"com/example/weir/weir/model/HeldTasks$Counts", "put", "(II)V"⟩ : MethodName)) hown (mvT hZ (hw _ (List.mem_of_getElem? (i := 81) rfl))) (mvT hZ (hw _ (List.mem_of_getElem? (i := 52) rfl))) (notFace_of_selects (args := #[]) (mvT hZ (hw _ (List.mem_of_getElem? (i := 54) rfl)))) (mvT hZ (hw _ (List.mem_of_getElem? (i := 54) rfl))) (mvT hZ (hw _ (List.mem_of_getElem? (i := 53) rfl))) (by decide) (backOf (W := 0) (rmC l Z a0 hw [] a (ks.getD i 0) (cs.getD i 0) kb cb u us h0 n0 Zn hC o2 o1 o3 v2 o4) hZ (hw _ (List.mem_of_getElem? (i := 55) rfl)) (hw _ (List.mem_of_getElem? (i := 41) rfl)) (by decide) (by decide)) q13a q13c (g := (mkF m 64 #[.val (.ref a), .val (.ref ka), .val (.ref ca), .val (.int (Int32.ofNat i))] [(.int (cs.getD i 0)), (.int (ks.getD i 0)), (.ref a)])) rfl (by rw [hml]; rfl) (Steps.refl _) (argsL := [(.int (ks.getD i 0)), (.int (cs.getD i 0))]) (rest := []) (lenOf pd_90433 rfl) rfl (by show 2 * 0 + _ ≤ _; exact Nat.le_of_eq rfl) (hb hby d_prog_82_method_6_64) (fun _ _ => ⟨rfl, e0, (by decide : 2 + 0 ≤ _), (by decide : 16 + 0 ≤ _)⟩)
    dsimp only [Pt.U, Pt.locs, Pt.cells, Pt.slots] at X13 l13 y13 z13 st13 hQ13
    rw [l13, y13, z13] at X13
    obtain ⟨rfl, Nq13, KC, hC'⟩ := hQ13
    have N13 := Fr.app N0 Nq13
    have k14_ : ∀ t, Steps p.tables e below (T13.setTop (mkF m 67 #[.val (.ref a), .val (.ref ka), .val (.ref ca), .val (.int (Int32.ofNat i))] [])) t → Steps p.tables e below (s₁.setTop (mkF m 45 #[.val (.ref a), .val (.ref ka), .val (.ref ca), .val (.int (Int32.ofNat i))] [])) t := fun t q => k12_ t (st13.trans q)
    have k15_ : ∀ t, Steps p.tables e below (T13.setTop (mkF m 45 #[.val (.ref a), .val (.ref ka), .val (.ref ca), .val (.int ((Int32.ofNat i) + (1 : Int32)))] [])) t → Steps p.tables e below (s₁.setTop (mkF m 45 #[.val (.ref a), .val (.ref ka), .val (.ref ca), .val (.int (Int32.ofNat i))] [])) t := by
      intro t q
      refine k14_ _ ?_
      show Steps p.tables e below (T13.setTop (mkF m 67 #[.val (.ref a), .val (.ref ka), .val (.ref ca), .val (.int (Int32.ofNat i))] [])) _
      refine XS.iinc X13.here hx rfl (hb hby d_prog_82_method_6_67) rfl (l' := #[.val (.ref a), .val (.ref ka), .val (.ref ca), .val (.int ((Int32.ofNat i) + (1 : Int32)))]) rfl ?_
      show Steps p.tables e below (T13.setTop (mkF m 70 #[.val (.ref a), .val (.ref ka), .val (.ref ca), .val (.int ((Int32.ofNat i) + (1 : Int32)))] [])) _
      refine XS.goto X13.here hx rfl (pc0 := 70) (pc' := 45) rfl (hb hby d_prog_82_method_6_70) (by decide) (by decide) ?_
      show Steps p.tables e below (T13.setTop (mkF m 45 #[.val (.ref a), .val (.ref ka), .val (.ref ca), .val (.int ((Int32.ofNat i) + (1 : Int32)))] [])) _
      exact q
    have k16_ : ∀ t, Steps p.tables e below (T13.setTop (mkF m 45 #[.val (.ref a), .val (.ref ka), .val (.ref ca), .val (.int (Int32.ofNat (i + 1)))] [])) t → Steps p.tables e below (s₁.setTop (mkF m 45 #[.val (.ref a), .val (.ref ka), .val (.ref ca), .val (.int (Int32.ofNat i))] [])) t := fun t q => k15_ t (Eq.mp (congrArg (fun z => Steps p.tables e below (T13.setTop (mkF m 45 #[.val (.ref a), .val (.ref ka), .val (.ref ca), .val (.int z)] [])) t) (show (Int32.ofNat (i + 1)) = ((Int32.ofNat i) + (1 : Int32)) from (own_inc (by omega)))) q)
    exact ⟨_, _, _, _, X13, rfl, N13, hC', own_C_set hF hC.2.2.2.2.2.2.1 (own_rg (own_D0 u o2) (own_D1 u o2 _ o1).2.1) v1, KC, k16_⟩
def QW (Z : State) (a : Addr) (kb : Addr) (cb : Addr) (ks : List Int32) (cs : List Int32) (F : Int32 → Int32) (h0 : Heap) (n0 : Nat) (v : Option Value) (h : Heap) (L : List Loc) : Prop := v = none ∧ Fr n0 L ∧ ∃ kb' cb' cs', own_Cn Z n0 h a kb' cb' (own_gr ks) cs' ∧ own_C F (own_gr ks) cs' ∧ h0.size ≤ kb' ∧ h0.size ≤ cb' ∧ Keep h0 h [a]
theorem ef_W (m : MethodId) (x0 : Addr) : entryFrame m #[(.ref x0)] 4 = mkF m 0 #[.val (.ref x0), .unset, .unset, .unset] [] := by first | (simp [entryFrame, mkF, argsToLocals, Value.category]; done) | rfl
theorem d_prog_82_method_6_0 : decode prog_82_method_6_code 0 = .ok (.aload_n 0, 1) := by decide +kernel
theorem d_prog_82_method_6_1 : decode prog_82_method_6_code 1 = .ok (.getfield 7, 3) := by decide +kernel
theorem d_prog_82_method_6_4 : decode prog_82_method_6_code 4 = .ok (.astore_n 1, 1) := by decide +kernel
theorem d_prog_82_method_6_5 : decode prog_82_method_6_code 5 = .ok (.aload_n 0, 1) := by decide +kernel
theorem d_prog_82_method_6_6 : decode prog_82_method_6_code 6 = .ok (.getfield 13, 3) := by decide +kernel
theorem d_prog_82_method_6_9 : decode prog_82_method_6_code 9 = .ok (.astore_n 2, 1) := by decide +kernel
theorem d_prog_82_method_6_10 : decode prog_82_method_6_code 10 = .ok (.aload_n 0, 1) := by decide +kernel
theorem d_prog_82_method_6_11 : decode prog_82_method_6_code 11 = .ok (.iconst 2, 1) := by decide +kernel
theorem d_prog_82_method_6_12 : decode prog_82_method_6_code 12 = .ok (.aload_n 1, 1) := by decide +kernel
theorem d_prog_82_method_6_13 : decode prog_82_method_6_code 13 = .ok (.arraylength, 1) := by decide +kernel
theorem d_prog_82_method_6_14 : decode prog_82_method_6_code 14 = .ok (.imul, 1) := by decide +kernel
theorem d_prog_82_method_6_15 : decode prog_82_method_6_code 15 = .ok (.newarray .int, 2) := by decide +kernel
theorem d_prog_82_method_6_17 : decode prog_82_method_6_code 17 = .ok (.putfield 7, 3) := by decide +kernel
theorem d_prog_82_method_6_20 : decode prog_82_method_6_code 20 = .ok (.aload_n 0, 1) := by decide +kernel
theorem d_prog_82_method_6_21 : decode prog_82_method_6_code 21 = .ok (.getfield 7, 3) := by decide +kernel
theorem d_prog_82_method_6_24 : decode prog_82_method_6_code 24 = .ok (.iconst (-1), 1) := by decide +kernel
theorem pd_56142 : parseMethodDescriptor "([II)V" = some ⟨[(.array .int), .int], none⟩ := by decide +kernel
theorem d_prog_82_method_6_25 : decode prog_82_method_6_code 25 = .ok (.invokestatic 37, 3) := by decide +kernel
theorem d_prog_82_method_6_28 : decode prog_82_method_6_code 28 = .ok (.aload_n 0, 1) := by decide +kernel
theorem d_prog_82_method_6_29 : decode prog_82_method_6_code 29 = .ok (.iconst 2, 1) := by decide +kernel
theorem d_prog_82_method_6_30 : decode prog_82_method_6_code 30 = .ok (.aload_n 1, 1) := by decide +kernel
theorem d_prog_82_method_6_31 : decode prog_82_method_6_code 31 = .ok (.arraylength, 1) := by decide +kernel
theorem d_prog_82_method_6_32 : decode prog_82_method_6_code 32 = .ok (.imul, 1) := by decide +kernel
theorem d_prog_82_method_6_33 : decode prog_82_method_6_code 33 = .ok (.newarray .int, 2) := by decide +kernel
theorem d_prog_82_method_6_35 : decode prog_82_method_6_code 35 = .ok (.putfield 13, 3) := by decide +kernel
theorem d_prog_82_method_6_38 : decode prog_82_method_6_code 38 = .ok (.aload_n 0, 1) := by decide +kernel
theorem d_prog_82_method_6_39 : decode prog_82_method_6_code 39 = .ok (.iconst 0, 1) := by decide +kernel
theorem d_prog_82_method_6_40 : decode prog_82_method_6_code 40 = .ok (.putfield 24, 3) := by decide +kernel
theorem d_prog_82_method_6_43 : decode prog_82_method_6_code 43 = .ok (.iconst 0, 1) := by decide +kernel
theorem d_prog_82_method_6_44 : decode prog_82_method_6_code 44 = .ok (.istore_n 3, 1) := by decide +kernel
theorem d_prog_82_method_6_73 : decode prog_82_method_6_code 73 = .ok (.return_, 1) := by decide +kernel
set_option maxRecDepth 65536 in
set_option maxHeartbeats 40000000 in
theorem rmW (l : Launch) (Z : State) (a0 : Array Value) (hw : ∀ d ∈ tables_1, d.before a0 Z = true) (ws : List Jvm.Cond) (a : Addr) (kb : Addr) (cb : Addr) (ks : List Int32) (cs : List Int32) (F : Int32 → Int32) (h0 : Heap) (n0 : Nat) (Z0 : n0 ≤ h0.size) (hC : own_Cn Z n0 h0 a kb cb ks cs) (hl4 : ks.length = 4) (hgw : own_gw ks = true) (hF : own_C F ks cs) (hpos : ∀ i, i < 4 → ¬ ks.getD i 0 < 0 → 0 < cs.getD i 0) :
    MetFree l (⟨"com/example/weir/weir/model/HeldTasks$Counts", "grow", "()V"⟩ : MethodName) (head1 (Jvm.Cond.code (⟨"com/example/weir/weir/model/HeldTasks$Counts", "grow", "()V"⟩ : MethodName) prog_82_method_6_code 4 none :: ws) ({ frames := 2, cells := 2, slots := 16, locals := 30 } : Room)) (fun a_ U_ => a_ = #[(.ref a)] ∧ Z.Warmed39 U_.vm ∧ U_.heap = h0) (fun _ _ _ _ _ => True) (fun _ U_ o_ E_ => ∃ v_ L_, o_ = .returned v_ ∧ QW Z a kb cb ks cs F h0 n0 v_ E_.heap L_ ∧ FrameEnd U_ o_ E_ L_ ({ frames := 2, cells := 2, slots := 16, locals := 30 } : Room).cells ({ frames := 2, cells := 2, slots := 16, locals := 30 } : Room).slots) := by
  refine MetFree.of_bodySF (plainFor_of_name pn_HeldTasks_Counts) hisR ?_
  intro p e s m args below meth c s₁ Bd hml0 hP hK
  obtain ⟨rfl, hZ, hh⟩ := hP
  have hx := Bd.exec
  have hby := Bd.bytes
  have hml : c.maxLocals = 4 := hml0
  have hown : s.vm.findClass "com/example/weir/weir/model/HeldTasks$Counts" = some m.cls := findClass_of_methodNamed Bd.named
  have hnm := (name_of_methodNamed Bd.named Bd.method).1
  have X0 : Stand p l e ({ frames := 2, cells := 2, slots := 16, locals := 30 } : Room) s m #[(.ref a)] below meth c s₁ [] 0 0 := Stand.of_body Bd
  have e0 : s₁.heap = h0 := by rw [← hh, Bd.state]; rfl
  have N0 := Fr.nil n0
  have Zn := Z0
  have pre0 : ∀ t, Steps p.tables e below (s₁.setTop (mkF m 0 #[.val (.ref a), .unset, .unset, .unset] [])) t → Steps p.tables e below (s₁.setTop (entryFrame m #[(.ref a)] 4)) t := fun t q => castTop (ef_W m a) q
  have k0 : ∀ t, Steps p.tables e below (s₁.setTop (mkF m 0 #[.val (.ref a), .unset, .unset, .unset] [])) t → Steps p.tables e below (s₁.setTop (mkF m 0 #[.val (.ref a), .unset, .unset, .unset] [])) t := fun t q => q
  obtain ⟨EA, FK, FC, FS, ⟨kK, VK⟩, ⟨kC, VC⟩, hlen, ⟨n1, n2, n3⟩, ⟨g1, g2, g3⟩⟩ := id hC
  have KP := Keep.refl h0 [a]
  have hln := own_ln4 hl4
  obtain ⟨o0, o1, o2, o3⟩ := own_gw_eq hl4 hgw
  rw [hln] at VK VC
  have k1_ : ∀ t, Steps p.tables e below (s₁.setTop (mkF m 1 #[.val (.ref a), .unset, .unset, .unset] [(.ref a)])) t → Steps p.tables e below (s₁.setTop (mkF m 0 #[.val (.ref a), .unset, .unset, .unset] [])) t := by
    intro t q
    refine k0 _ ?_
    show Steps p.tables e below (s₁.setTop (mkF m 0 #[.val (.ref a), .unset, .unset, .unset] [])) _
    refine XS.aloadN X0.here hx rfl (hb hby d_prog_82_method_6_0) rfl rfl ?_
    show Steps p.tables e below (s₁.setTop (mkF m 1 #[.val (.ref a), .unset, .unset, .unset] [(.ref a)])) _
    exact q
  obtain ⟨T2, X2, e2, st2⟩ := getF X0 hx hZ hown (host := "") (Or.inl (hw _ (List.mem_of_getElem? (i := 46) rfl))) Via.refl e0 FK (g := (mkF m 1 #[.val (.ref a), .unset, .unset, .unset] [(.ref a)])) rfl rfl (hb hby d_prog_82_method_6_1)
  have k3_ : ∀ t, Steps p.tables e below (T2.setTop (mkF m 4 #[.val (.ref a), .unset, .unset, .unset] [(.ref kb)])) t → Steps p.tables e below (s₁.setTop (mkF m 0 #[.val (.ref a), .unset, .unset, .unset] [])) t := fun t q => k1_ t (st2 t q)
  have k4_ : ∀ t, Steps p.tables e below (T2.setTop (mkF m 6 #[.val (.ref a), .val (.ref kb), .unset, .unset] [(.ref a)])) t → Steps p.tables e below (s₁.setTop (mkF m 0 #[.val (.ref a), .unset, .unset, .unset] [])) t := by
    intro t q
    refine k3_ _ ?_
    show Steps p.tables e below (T2.setTop (mkF m 4 #[.val (.ref a), .unset, .unset, .unset] [(.ref kb)])) _
    refine XS.astoreN X2.here hx rfl (hb hby d_prog_82_method_6_4) rfl rfl (l' := #[.val (.ref a), .val (.ref kb), .unset, .unset]) rfl ?_
    show Steps p.tables e below (T2.setTop (mkF m 5 #[.val (.ref a), .val (.ref kb), .unset, .unset] [])) _
    refine XS.aloadN X2.here hx rfl (hb hby d_prog_82_method_6_5) rfl rfl ?_
    show Steps p.tables e below (T2.setTop (mkF m 6 #[.val (.ref a), .val (.ref kb), .unset, .unset] [(.ref a)])) _
    exact q
  obtain ⟨T5, X5, e5, st5⟩ := getF X2 hx hZ hown (host := "") (Or.inl (hw _ (List.mem_of_getElem? (i := 48) rfl))) Via.refl e2 FC (g := (mkF m 6 #[.val (.ref a), .val (.ref kb), .unset, .unset] [(.ref a)])) rfl rfl (hb hby d_prog_82_method_6_6)
  have k6_ : ∀ t, Steps p.tables e below (T5.setTop (mkF m 9 #[.val (.ref a), .val (.ref kb), .unset, .unset] [(.ref cb)])) t → Steps p.tables e below (s₁.setTop (mkF m 0 #[.val (.ref a), .unset, .unset, .unset] [])) t := fun t q => k4_ t (st5 t q)
  obtain ⟨cl7, Ar7, q7, S7, M7, H7, G7⟩ := id VK
  have k8_ : ∀ t, Steps p.tables e below (T5.setTop (mkF m 15 #[.val (.ref a), .val (.ref kb), .val (.ref cb), .unset] [(.int ((2 : Int32) * (4 : Int32))), (.ref a)])) t → Steps p.tables e below (s₁.setTop (mkF m 0 #[.val (.ref a), .unset, .unset, .unset] [])) t := by
    intro t q
    refine k6_ _ ?_
    show Steps p.tables e below (T5.setTop (mkF m 9 #[.val (.ref a), .val (.ref kb), .unset, .unset] [(.ref cb)])) _
    refine XS.astoreN X5.here hx rfl (hb hby d_prog_82_method_6_9) rfl rfl (l' := #[.val (.ref a), .val (.ref kb), .val (.ref cb), .unset]) rfl ?_
    show Steps p.tables e below (T5.setTop (mkF m 10 #[.val (.ref a), .val (.ref kb), .val (.ref cb), .unset] [])) _
    refine XS.aloadN X5.here hx rfl (hb hby d_prog_82_method_6_10) rfl rfl ?_
    show Steps p.tables e below (T5.setTop (mkF m 11 #[.val (.ref a), .val (.ref kb), .val (.ref cb), .unset] [(.ref a)])) _
    refine XS.iconst X5.here hx rfl (hb hby d_prog_82_method_6_11) ?_
    show Steps p.tables e below (T5.setTop (mkF m 12 #[.val (.ref a), .val (.ref kb), .val (.ref cb), .unset] [(.int (2 : Int32)), (.ref a)])) _
    refine XS.aloadN X5.here hx rfl (hb hby d_prog_82_method_6_12) rfl rfl ?_
    show Steps p.tables e below (T5.setTop (mkF m 13 #[.val (.ref a), .val (.ref kb), .val (.ref cb), .unset] [(.ref kb), (.int (2 : Int32)), (.ref a)])) _
    refine X5.arraylength hx (by rw [e5]; exact Ar7.1) (State.isArrayOf_alike hZ.alike Ar7.2.1) (g := (mkF m 13 #[.val (.ref a), .val (.ref kb), .val (.ref cb), .unset] [(.ref kb), (.int (2 : Int32)), (.ref a)])) rfl rfl (hb hby d_prog_82_method_6_13) _ ?_
    rw [len_of S7 M7]
    show Steps p.tables e below (T5.setTop (mkF m 14 #[.val (.ref a), .val (.ref kb), .val (.ref cb), .unset] [(.int (4 : Int32)), (.int (2 : Int32)), (.ref a)])) _
    refine XS.imul X5.here hx rfl (hb hby d_prog_82_method_6_14) rfl ?_
    show Steps p.tables e below (T5.setTop (mkF m 15 #[.val (.ref a), .val (.ref kb), .val (.ref cb), .unset] [(.int ((2 : Int32) * (4 : Int32))), (.ref a)])) _
    exact q
  have k9_ : ∀ t, Steps p.tables e below (T5.setTop (mkF m 15 #[.val (.ref a), .val (.ref kb), .val (.ref cb), .unset] [(.int (8 : Int32)), (.ref a)])) t → Steps p.tables e below (s₁.setTop (mkF m 0 #[.val (.ref a), .unset, .unset, .unset] [])) t := fun t q => k8_ t (Eq.mp (congrArg (fun z => Steps p.tables e below (T5.setTop (mkF m 15 #[.val (.ref a), .val (.ref kb), .val (.ref cb), .unset] [(.int z), (.ref a)])) t) (show (8 : Int32) = ((2 : Int32) * (4 : Int32)) from (by decide))) q)
  obtain ⟨T10, h10, c10, X10, e10, E10, A10, st10⟩ := newP X5 hx hZ (hw _ (List.mem_of_getElem? (i := 15) rfl)) e5 (g := (mkF m 15 #[.val (.ref a), .val (.ref kb), .val (.ref cb), .unset] [(.int (8 : Int32)), (.ref a)])) rfl (hb hby d_prog_82_method_6_15) rfl (by decide) (cap := 8) (by decide) (by decide) (by decide) (by decide)
  obtain ⟨b10, g10⟩ : ∃ z, z = h0.size := ⟨_, rfl⟩
  rw [← g10] at A10 st10
  have k11_ : ∀ t, Steps p.tables e below (T10.setTop (mkF m 17 #[.val (.ref a), .val (.ref kb), .val (.ref cb), .unset] [(.ref b10), (.ref a)])) t → Steps p.tables e below (s₁.setTop (mkF m 0 #[.val (.ref a), .unset, .unset, .unset] [])) t := fun t q => k9_ t (st10 t q)
  have ne_a_b10 : a ≠ b10 := Nat.ne_of_lt (Nat.lt_of_lt_of_le EA.lt (Nat.le_of_eq g10.symm))
  have ne_kb_b10 : kb ≠ b10 := Nat.ne_of_lt (Nat.lt_of_lt_of_le VK.lt (Nat.le_of_eq g10.symm))
  have ne_cb_b10 : cb ≠ b10 := Nat.ne_of_lt (Nat.lt_of_lt_of_le VC.lt (Nat.le_of_eq g10.symm))
  have g_b10 : n0 ≤ b10 := Nat.le_trans Zn (Nat.le_of_eq g10.symm)
  replace Zn := Nat.le_trans Zn E10.1
  replace EA := EA.ext E10
  replace FK := FK.ext E10
  replace FC := FC.ext E10
  replace FS := FS.ext E10
  replace VK := VK.ext E10
  replace VC := VC.ext E10
  have V_b10 : Arv Z h10 b10 c10 .int (8 : Int32) [(.int (0 : Int32)), (.int (0 : Int32)), (.int (0 : Int32)), (.int (0 : Int32)), (.int (0 : Int32)), (.int (0 : Int32)), (.int (0 : Int32)), (.int (0 : Int32))] (.int (0 : Int32)) := (Arv.new A10 (by decide)).pad (pad_rep [] (.int (0 : Int32)) 8)
  have z_b10 : h0.size ≤ b10 := by rw [g10]; exact KP.1
  replace KP := KP.ext E10
  obtain ⟨T12, h12, X12, e12, W12, st12⟩ := putF X10 hx hZ hown (host := "") (Or.inl (hw _ (List.mem_of_getElem? (i := 46) rfl))) Via.refl e10 FK EA (Or.inl (hw _ (List.mem_of_getElem? (i := 47) rfl))) (hw _ (List.mem_of_getElem? (i := 40) rfl)) (ty := (.array .int)) (by decide) rfl rfl (g := (mkF m 17 #[.val (.ref a), .val (.ref kb), .val (.ref cb), .unset] [(.ref b10), (.ref a)])) rfl rfl (hb hby d_prog_82_method_6_17)
  have k13_ : ∀ t, Steps p.tables e below (T12.setTop (mkF m 20 #[.val (.ref a), .val (.ref kb), .val (.ref cb), .unset] [])) t → Steps p.tables e below (s₁.setTop (mkF m 0 #[.val (.ref a), .unset, .unset, .unset] [])) t := fun t q => k11_ t (st12 t q)
  have N12 := Fr.snoc X12 N0 g1
  replace Zn := Nat.le_trans Zn (Keep.of_wr W12).1
  replace EA := EA.wr W12
  replace FC := FC.other W12 (Or.inr (slot_ne (Or.inl (hw _ (List.mem_of_getElem? (i := 49) rfl))) (Or.inl (hw _ (List.mem_of_getElem? (i := 47) rfl))) (by decide) (t := (.array .int)) (t' := (.array .int)) (by decide) (by decide)))
  replace FS := FS.other W12 (Or.inr (slot_ne (Or.inl (hw _ (List.mem_of_getElem? (i := 61) rfl))) (Or.inl (hw _ (List.mem_of_getElem? (i := 47) rfl))) (by decide) (t := .int) (t' := (.array .int)) (by decide) (by decide)))
  replace VK := VK.other W12 (Ne.symm n1)
  replace VC := VC.other W12 (Ne.symm n2)
  replace V_b10 := V_b10.other W12 (Ne.symm ne_a_b10)
  replace FK := FK.same W12
  replace KP := KP.wr W12 (Or.inl (List.mem_of_getElem? (i := 0) rfl))
  have k14_ : ∀ t, Steps p.tables e below (T12.setTop (mkF m 21 #[.val (.ref a), .val (.ref kb), .val (.ref cb), .unset] [(.ref a)])) t → Steps p.tables e below (s₁.setTop (mkF m 0 #[.val (.ref a), .unset, .unset, .unset] [])) t := by
    intro t q
    refine k13_ _ ?_
    show Steps p.tables e below (T12.setTop (mkF m 20 #[.val (.ref a), .val (.ref kb), .val (.ref cb), .unset] [])) _
    refine XS.aloadN X12.here hx rfl (hb hby d_prog_82_method_6_20) rfl rfl ?_
    show Steps p.tables e below (T12.setTop (mkF m 21 #[.val (.ref a), .val (.ref kb), .val (.ref cb), .unset] [(.ref a)])) _
    exact q
  obtain ⟨T15, X15, e15, st15⟩ := getF X12 hx hZ hown (host := "") (Or.inl (hw _ (List.mem_of_getElem? (i := 46) rfl))) Via.refl e12 FK (g := (mkF m 21 #[.val (.ref a), .val (.ref kb), .val (.ref cb), .unset] [(.ref a)])) rfl rfl (hb hby d_prog_82_method_6_21)
  have k16_ : ∀ t, Steps p.tables e below (T15.setTop (mkF m 24 #[.val (.ref a), .val (.ref kb), .val (.ref cb), .unset] [(.ref b10)])) t → Steps p.tables e below (s₁.setTop (mkF m 0 #[.val (.ref a), .unset, .unset, .unset] [])) t := fun t q => k14_ t (st15 t q)
  have k17_ : ∀ t, Steps p.tables e below (T15.setTop (mkF m 25 #[.val (.ref a), .val (.ref kb), .val (.ref cb), .unset] [(.int (-1 : Int32)), (.ref b10)])) t → Steps p.tables e below (s₁.setTop (mkF m 0 #[.val (.ref a), .unset, .unset, .unset] [])) t := by
    intro t q
    refine k16_ _ ?_
    show Steps p.tables e below (T15.setTop (mkF m 24 #[.val (.ref a), .val (.ref kb), .val (.ref cb), .unset] [(.ref b10)])) _
    refine XS.iconst X15.here hx rfl (hb hby d_prog_82_method_6_24) ?_
    show Steps p.tables e below (T15.setTop (mkF m 25 #[.val (.ref a), .val (.ref kb), .val (.ref cb), .unset] [(.int (-1 : Int32)), (.ref b10)])) _
    exact q
  obtain ⟨_, _, ⟨T18, L18, kk18, n18⟩, -, X18, ⟨Lc18, hQ18, l18, y18, z18⟩, st18⟩ := Jvm.LawKit.callS X15 hx (y := (⟨"java/util/Arrays", "fill", "([II)V"⟩ : MethodName)) hown (mvT hZ (hw _ (List.mem_of_getElem? (i := 77) rfl))) (mvT hZ (hw _ (List.mem_of_getElem? (i := 78) rfl))) (mvT hZ (hw _ (List.mem_of_getElem? (i := 79) rfl))) (mvT hZ (hw _ (List.mem_of_getElem? (i := 80) rfl))) (by decide) (backOf (W := 0) (rmF l Z a0 hw [] b10 (-1 : Int32) c10 h12 n0 Zn V_b10 g_b10) hZ (hw _ (List.mem_of_getElem? (i := 80) rfl)) (hw _ (List.mem_of_getElem? (i := 79) rfl)) (by decide) (by decide)) (g := (mkF m 25 #[.val (.ref a), .val (.ref kb), .val (.ref cb), .unset] [(.int (-1 : Int32)), (.ref b10)])) rfl (by rw [hml]; rfl) (argsL := [(.ref b10), (.int (-1 : Int32))]) (rest := []) (lenOf pd_56142 rfl) rfl (by show 2 * 0 + _ ≤ _; exact Nat.le_of_eq rfl) (hb hby d_prog_82_method_6_25) (fun _ _ => ⟨rfl, e15, (by decide : 0 + 1 + 0 ≤ _), (by decide : 0 + 8 + 0 ≤ _)⟩)
  dsimp only [Pt.U, Pt.locs, Pt.cells, Pt.slots] at X18 l18 y18 z18 st18 hQ18
  rw [l18, y18, z18] at X18
  obtain ⟨rfl, Nq18, KI, VI⟩ := hQ18
  have N18 := Fr.app N12 Nq18
  have k19_ : ∀ t, Steps p.tables e below (T18.setTop (mkF m 28 #[.val (.ref a), .val (.ref kb), .val (.ref cb), .unset] [])) t → Steps p.tables e below (s₁.setTop (mkF m 0 #[.val (.ref a), .unset, .unset, .unset] [])) t := fun t q => k17_ t (st18 t q)
  replace EA := EA.keep KI
  replace FK := FK.keep KI (own_notin1 ne_a_b10)
  replace FC := FC.keep KI (own_notin1 ne_a_b10)
  replace FS := FS.keep KI (own_notin1 ne_a_b10)
  replace VK := VK.keep KI (own_notin1 ne_kb_b10)
  replace VC := VC.keep KI (own_notin1 ne_cb_b10)
  replace V_b10 := VI
  replace Zn := Nat.le_trans Zn KI.1
  replace KP := KP.trans KI (fun x hx => Or.inr (by cases List.mem_singleton.mp hx; exact z_b10))
  obtain ⟨cl20, Ar20, q20, S20, M20, H20, G20⟩ := id VK
  have k21_ : ∀ t, Steps p.tables e below (T18.setTop (mkF m 33 #[.val (.ref a), .val (.ref kb), .val (.ref cb), .unset] [(.int ((2 : Int32) * (4 : Int32))), (.ref a)])) t → Steps p.tables e below (s₁.setTop (mkF m 0 #[.val (.ref a), .unset, .unset, .unset] [])) t := by
    intro t q
    refine k19_ _ ?_
    show Steps p.tables e below (T18.setTop (mkF m 28 #[.val (.ref a), .val (.ref kb), .val (.ref cb), .unset] [])) _
    refine XS.aloadN X18.here hx rfl (hb hby d_prog_82_method_6_28) rfl rfl ?_
    show Steps p.tables e below (T18.setTop (mkF m 29 #[.val (.ref a), .val (.ref kb), .val (.ref cb), .unset] [(.ref a)])) _
    refine XS.iconst X18.here hx rfl (hb hby d_prog_82_method_6_29) ?_
    show Steps p.tables e below (T18.setTop (mkF m 30 #[.val (.ref a), .val (.ref kb), .val (.ref cb), .unset] [(.int (2 : Int32)), (.ref a)])) _
    refine XS.aloadN X18.here hx rfl (hb hby d_prog_82_method_6_30) rfl rfl ?_
    show Steps p.tables e below (T18.setTop (mkF m 31 #[.val (.ref a), .val (.ref kb), .val (.ref cb), .unset] [(.ref kb), (.int (2 : Int32)), (.ref a)])) _
    refine X18.arraylength hx Ar20.1 (State.isArrayOf_alike hZ.alike Ar20.2.1) (g := (mkF m 31 #[.val (.ref a), .val (.ref kb), .val (.ref cb), .unset] [(.ref kb), (.int (2 : Int32)), (.ref a)])) rfl rfl (hb hby d_prog_82_method_6_31) _ ?_
    rw [len_of S20 M20]
    show Steps p.tables e below (T18.setTop (mkF m 32 #[.val (.ref a), .val (.ref kb), .val (.ref cb), .unset] [(.int (4 : Int32)), (.int (2 : Int32)), (.ref a)])) _
    refine XS.imul X18.here hx rfl (hb hby d_prog_82_method_6_32) rfl ?_
    show Steps p.tables e below (T18.setTop (mkF m 33 #[.val (.ref a), .val (.ref kb), .val (.ref cb), .unset] [(.int ((2 : Int32) * (4 : Int32))), (.ref a)])) _
    exact q
  have k22_ : ∀ t, Steps p.tables e below (T18.setTop (mkF m 33 #[.val (.ref a), .val (.ref kb), .val (.ref cb), .unset] [(.int (8 : Int32)), (.ref a)])) t → Steps p.tables e below (s₁.setTop (mkF m 0 #[.val (.ref a), .unset, .unset, .unset] [])) t := fun t q => k21_ t (Eq.mp (congrArg (fun z => Steps p.tables e below (T18.setTop (mkF m 33 #[.val (.ref a), .val (.ref kb), .val (.ref cb), .unset] [(.int z), (.ref a)])) t) (show (8 : Int32) = ((2 : Int32) * (4 : Int32)) from (by decide))) q)
  obtain ⟨T23, h23, c23, X23, e23, E23, A23, st23⟩ := newP X18 hx hZ (hw _ (List.mem_of_getElem? (i := 15) rfl)) rfl (g := (mkF m 33 #[.val (.ref a), .val (.ref kb), .val (.ref cb), .unset] [(.int (8 : Int32)), (.ref a)])) rfl (hb hby d_prog_82_method_6_33) rfl (by decide) (cap := 8) (by decide) (by decide) (by decide) (by decide)
  obtain ⟨b23, g23⟩ : ∃ z, z = T18.heap.size := ⟨_, rfl⟩
  rw [← g23] at A23 st23
  have k24_ : ∀ t, Steps p.tables e below (T23.setTop (mkF m 35 #[.val (.ref a), .val (.ref kb), .val (.ref cb), .unset] [(.ref b23), (.ref a)])) t → Steps p.tables e below (s₁.setTop (mkF m 0 #[.val (.ref a), .unset, .unset, .unset] [])) t := fun t q => k22_ t (st23 t q)
  have ne_a_b23 : a ≠ b23 := Nat.ne_of_lt (Nat.lt_of_lt_of_le EA.lt (Nat.le_of_eq g23.symm))
  have ne_kb_b23 : kb ≠ b23 := Nat.ne_of_lt (Nat.lt_of_lt_of_le VK.lt (Nat.le_of_eq g23.symm))
  have ne_cb_b23 : cb ≠ b23 := Nat.ne_of_lt (Nat.lt_of_lt_of_le VC.lt (Nat.le_of_eq g23.symm))
  have ne_b10_b23 : b10 ≠ b23 := Nat.ne_of_lt (Nat.lt_of_lt_of_le V_b10.lt (Nat.le_of_eq g23.symm))
  have g_b23 : n0 ≤ b23 := Nat.le_trans Zn (Nat.le_of_eq g23.symm)
  replace Zn := Nat.le_trans Zn E23.1
  replace EA := EA.ext E23
  replace FK := FK.ext E23
  replace FC := FC.ext E23
  replace FS := FS.ext E23
  replace VK := VK.ext E23
  replace VC := VC.ext E23
  replace V_b10 := V_b10.ext E23
  have V_b23 : Arv Z h23 b23 c23 .int (8 : Int32) [(.int (0 : Int32)), (.int (0 : Int32)), (.int (0 : Int32)), (.int (0 : Int32)), (.int (0 : Int32)), (.int (0 : Int32)), (.int (0 : Int32)), (.int (0 : Int32))] (.int (0 : Int32)) := (Arv.new A23 (by decide)).pad (pad_rep [] (.int (0 : Int32)) 8)
  have z_b23 : h0.size ≤ b23 := by rw [g23]; exact KP.1
  replace KP := KP.ext E23
  obtain ⟨T25, h25, X25, e25, W25, st25⟩ := putF X23 hx hZ hown (host := "") (Or.inl (hw _ (List.mem_of_getElem? (i := 48) rfl))) Via.refl e23 FC EA (Or.inl (hw _ (List.mem_of_getElem? (i := 49) rfl))) (hw _ (List.mem_of_getElem? (i := 40) rfl)) (ty := (.array .int)) (by decide) rfl rfl (g := (mkF m 35 #[.val (.ref a), .val (.ref kb), .val (.ref cb), .unset] [(.ref b23), (.ref a)])) rfl rfl (hb hby d_prog_82_method_6_35)
  have k26_ : ∀ t, Steps p.tables e below (T25.setTop (mkF m 38 #[.val (.ref a), .val (.ref kb), .val (.ref cb), .unset] [])) t → Steps p.tables e below (s₁.setTop (mkF m 0 #[.val (.ref a), .unset, .unset, .unset] [])) t := fun t q => k24_ t (st25 t q)
  have N25 := Fr.snoc X25 N18 g1
  replace Zn := Nat.le_trans Zn (Keep.of_wr W25).1
  replace EA := EA.wr W25
  replace FK := FK.other W25 (Or.inr (slot_ne (Or.inl (hw _ (List.mem_of_getElem? (i := 47) rfl))) (Or.inl (hw _ (List.mem_of_getElem? (i := 49) rfl))) (by decide) (t := (.array .int)) (t' := (.array .int)) (by decide) (by decide)))
  replace FS := FS.other W25 (Or.inr (slot_ne (Or.inl (hw _ (List.mem_of_getElem? (i := 61) rfl))) (Or.inl (hw _ (List.mem_of_getElem? (i := 49) rfl))) (by decide) (t := .int) (t' := (.array .int)) (by decide) (by decide)))
  replace VK := VK.other W25 (Ne.symm n1)
  replace VC := VC.other W25 (Ne.symm n2)
  replace V_b10 := V_b10.other W25 (Ne.symm ne_a_b10)
  replace V_b23 := V_b23.other W25 (Ne.symm ne_a_b23)
  replace FC := FC.same W25
  replace KP := KP.wr W25 (Or.inl (List.mem_of_getElem? (i := 0) rfl))
  have k27_ : ∀ t, Steps p.tables e below (T25.setTop (mkF m 40 #[.val (.ref a), .val (.ref kb), .val (.ref cb), .unset] [(.int (0 : Int32)), (.ref a)])) t → Steps p.tables e below (s₁.setTop (mkF m 0 #[.val (.ref a), .unset, .unset, .unset] [])) t := by
    intro t q
    refine k26_ _ ?_
    show Steps p.tables e below (T25.setTop (mkF m 38 #[.val (.ref a), .val (.ref kb), .val (.ref cb), .unset] [])) _
    refine XS.aloadN X25.here hx rfl (hb hby d_prog_82_method_6_38) rfl rfl ?_
    show Steps p.tables e below (T25.setTop (mkF m 39 #[.val (.ref a), .val (.ref kb), .val (.ref cb), .unset] [(.ref a)])) _
    refine XS.iconst X25.here hx rfl (hb hby d_prog_82_method_6_39) ?_
    show Steps p.tables e below (T25.setTop (mkF m 40 #[.val (.ref a), .val (.ref kb), .val (.ref cb), .unset] [(.int (0 : Int32)), (.ref a)])) _
    exact q
  obtain ⟨T28, h28, X28, e28, W28, st28⟩ := putF X25 hx hZ hown (host := "") (Or.inl (hw _ (List.mem_of_getElem? (i := 60) rfl))) Via.refl e25 FS EA (Or.inl (hw _ (List.mem_of_getElem? (i := 61) rfl))) (hw _ (List.mem_of_getElem? (i := 40) rfl)) (ty := .int) (by decide) rfl rfl (g := (mkF m 40 #[.val (.ref a), .val (.ref kb), .val (.ref cb), .unset] [(.int (0 : Int32)), (.ref a)])) rfl rfl (hb hby d_prog_82_method_6_40)
  have k29_ : ∀ t, Steps p.tables e below (T28.setTop (mkF m 43 #[.val (.ref a), .val (.ref kb), .val (.ref cb), .unset] [])) t → Steps p.tables e below (s₁.setTop (mkF m 0 #[.val (.ref a), .unset, .unset, .unset] [])) t := fun t q => k27_ t (st28 t q)
  have N28 := Fr.snoc X28 N25 g1
  replace Zn := Nat.le_trans Zn (Keep.of_wr W28).1
  replace EA := EA.wr W28
  replace FK := FK.other W28 (Or.inr (slot_ne (Or.inl (hw _ (List.mem_of_getElem? (i := 47) rfl))) (Or.inl (hw _ (List.mem_of_getElem? (i := 61) rfl))) (by decide) (t := (.array .int)) (t' := .int) (by decide) (by decide)))
  replace FC := FC.other W28 (Or.inr (slot_ne (Or.inl (hw _ (List.mem_of_getElem? (i := 49) rfl))) (Or.inl (hw _ (List.mem_of_getElem? (i := 61) rfl))) (by decide) (t := (.array .int)) (t' := .int) (by decide) (by decide)))
  replace VK := VK.other W28 (Ne.symm n1)
  replace VC := VC.other W28 (Ne.symm n2)
  replace V_b10 := V_b10.other W28 (Ne.symm ne_a_b10)
  replace V_b23 := V_b23.other W28 (Ne.symm ne_a_b23)
  replace FS := FS.same W28
  replace KP := KP.wr W28 (Or.inl (List.mem_of_getElem? (i := 0) rfl))
  have k30_ : ∀ t, Steps p.tables e below (T28.setTop (mkF m 45 #[.val (.ref a), .val (.ref kb), .val (.ref cb), .val (.int (0 : Int32))] [])) t → Steps p.tables e below (s₁.setTop (mkF m 0 #[.val (.ref a), .unset, .unset, .unset] [])) t := by
    intro t q
    refine k29_ _ ?_
    show Steps p.tables e below (T28.setTop (mkF m 43 #[.val (.ref a), .val (.ref kb), .val (.ref cb), .unset] [])) _
    refine XS.iconst X28.here hx rfl (hb hby d_prog_82_method_6_43) ?_
    show Steps p.tables e below (T28.setTop (mkF m 44 #[.val (.ref a), .val (.ref kb), .val (.ref cb), .unset] [(.int (0 : Int32))])) _
    refine XS.istoreN X28.here hx rfl (hb hby d_prog_82_method_6_44) rfl (l' := #[.val (.ref a), .val (.ref kb), .val (.ref cb), .val (.int (0 : Int32))]) rfl ?_
    show Steps p.tables e below (T28.setTop (mkF m 45 #[.val (.ref a), .val (.ref kb), .val (.ref cb), .val (.int (0 : Int32))] [])) _
    exact q
  have k31_ : ∀ t, Steps p.tables e below (T28.setTop (mkF m 45 #[.val (.ref a), .val (.ref kb), .val (.ref cb), .val (.int (Int32.ofNat 0))] [])) t → Steps p.tables e below (s₁.setTop (mkF m 0 #[.val (.ref a), .unset, .unset, .unset] [])) t := fun t q => k30_ t (Eq.mp (congrArg (fun z => Steps p.tables e below (T28.setTop (mkF m 45 #[.val (.ref a), .val (.ref kb), .val (.ref cb), .val (.int z)] [])) t) (show (Int32.ofNat 0) = (0 : Int32) from rfl)) q)
  have hsz : own_sz own_e8 = (0 : Int32) := by decide +kernel
  have C0 : own_Cn Z n0 h28 a b10 b23 own_e8 [0, 0, 0, 0, 0, 0, 0, 0] := ⟨EA, FK, FC, by rw [hsz]; exact FS, ⟨_, V_b10⟩, ⟨_, V_b23⟩, rfl, ⟨ne_a_b10, ne_a_b23, ne_b10_b23⟩, g1, g_b10, g_b23⟩
  have F0 := own_C_e8 F [0, 0, 0, 0, 0, 0, 0, 0]
  have hv : ∀ i, i < 4 → ¬ ks.getD i 0 < 0 → cs.getD i 0 = F (ks.getD i 0) ∧ 0 < cs.getD i 0 := fun i hi hn => ⟨hF i (by omega) hn, hpos i hi hn⟩
  obtain ⟨TG0, hG0, lG0, us1, XG0, eG0, NG0, C1, F1, KG0, sG0⟩ := grS Z a0 hw hx hZ hby hml hown n0 a kb cb b10 b23 ks cs _ _ F _ _ 0 _ _ _ (by decide) X28 e28 N28 Zn C0 VK VC o0 F0 (hv 0 (by decide))
  have k32_ : ∀ t, Steps p.tables e below (TG0.setTop (mkF m 45 #[.val (.ref a), .val (.ref kb), .val (.ref cb), .val (.int (Int32.ofNat (0 + 1)))] [])) t → Steps p.tables e below (s₁.setTop (mkF m 0 #[.val (.ref a), .unset, .unset, .unset] [])) t := fun t q => k31_ t (sG0 t q)
  replace VK := VK.keep KG0 (own_notin3 (Ne.symm n1) ne_kb_b10 ne_kb_b23)
  replace VC := VC.keep KG0 (own_notin3 (Ne.symm n2) ne_cb_b10 ne_cb_b23)
  replace Zn := Nat.le_trans Zn KG0.1
  replace KP := KP.trans KG0 (own_gk z_b10 z_b23)
  have k33_ : ∀ t, Steps p.tables e below (TG0.setTop (mkF m 45 #[.val (.ref a), .val (.ref kb), .val (.ref cb), .val (.int (Int32.ofNat 1))] [])) t → Steps p.tables e below (s₁.setTop (mkF m 0 #[.val (.ref a), .unset, .unset, .unset] [])) t := fun t q => k32_ t (Eq.mp (congrArg (fun z => Steps p.tables e below (TG0.setTop (mkF m 45 #[.val (.ref a), .val (.ref kb), .val (.ref cb), .val (.int z)] [])) t) (show (Int32.ofNat 1) = (Int32.ofNat (0 + 1)) from rfl)) q)
  obtain ⟨TG1, hG1, lG1, us2, XG1, eG1, NG1, C2, F2, KG1, sG1⟩ := grS Z a0 hw hx hZ hby hml hown n0 a kb cb b10 b23 ks cs _ _ F _ _ 1 _ _ _ (by decide) XG0 eG0 NG0 Zn C1 VK VC o1 F1 (hv 1 (by decide))
  have k34_ : ∀ t, Steps p.tables e below (TG1.setTop (mkF m 45 #[.val (.ref a), .val (.ref kb), .val (.ref cb), .val (.int (Int32.ofNat (1 + 1)))] [])) t → Steps p.tables e below (s₁.setTop (mkF m 0 #[.val (.ref a), .unset, .unset, .unset] [])) t := fun t q => k33_ t (sG1 t q)
  replace VK := VK.keep KG1 (own_notin3 (Ne.symm n1) ne_kb_b10 ne_kb_b23)
  replace VC := VC.keep KG1 (own_notin3 (Ne.symm n2) ne_cb_b10 ne_cb_b23)
  replace Zn := Nat.le_trans Zn KG1.1
  replace KP := KP.trans KG1 (own_gk z_b10 z_b23)
  have k35_ : ∀ t, Steps p.tables e below (TG1.setTop (mkF m 45 #[.val (.ref a), .val (.ref kb), .val (.ref cb), .val (.int (Int32.ofNat 2))] [])) t → Steps p.tables e below (s₁.setTop (mkF m 0 #[.val (.ref a), .unset, .unset, .unset] [])) t := fun t q => k34_ t (Eq.mp (congrArg (fun z => Steps p.tables e below (TG1.setTop (mkF m 45 #[.val (.ref a), .val (.ref kb), .val (.ref cb), .val (.int z)] [])) t) (show (Int32.ofNat 2) = (Int32.ofNat (1 + 1)) from rfl)) q)
  obtain ⟨TG2, hG2, lG2, us3, XG2, eG2, NG2, C3, F3, KG2, sG2⟩ := grS Z a0 hw hx hZ hby hml hown n0 a kb cb b10 b23 ks cs _ _ F _ _ 2 _ _ _ (by decide) XG1 eG1 NG1 Zn C2 VK VC o2 F2 (hv 2 (by decide))
  have k36_ : ∀ t, Steps p.tables e below (TG2.setTop (mkF m 45 #[.val (.ref a), .val (.ref kb), .val (.ref cb), .val (.int (Int32.ofNat (2 + 1)))] [])) t → Steps p.tables e below (s₁.setTop (mkF m 0 #[.val (.ref a), .unset, .unset, .unset] [])) t := fun t q => k35_ t (sG2 t q)
  replace VK := VK.keep KG2 (own_notin3 (Ne.symm n1) ne_kb_b10 ne_kb_b23)
  replace VC := VC.keep KG2 (own_notin3 (Ne.symm n2) ne_cb_b10 ne_cb_b23)
  replace Zn := Nat.le_trans Zn KG2.1
  replace KP := KP.trans KG2 (own_gk z_b10 z_b23)
  have k37_ : ∀ t, Steps p.tables e below (TG2.setTop (mkF m 45 #[.val (.ref a), .val (.ref kb), .val (.ref cb), .val (.int (Int32.ofNat 3))] [])) t → Steps p.tables e below (s₁.setTop (mkF m 0 #[.val (.ref a), .unset, .unset, .unset] [])) t := fun t q => k36_ t (Eq.mp (congrArg (fun z => Steps p.tables e below (TG2.setTop (mkF m 45 #[.val (.ref a), .val (.ref kb), .val (.ref cb), .val (.int z)] [])) t) (show (Int32.ofNat 3) = (Int32.ofNat (2 + 1)) from rfl)) q)
  obtain ⟨TG3, hG3, lG3, us4, XG3, eG3, NG3, C4, F4, KG3, sG3⟩ := grS Z a0 hw hx hZ hby hml hown n0 a kb cb b10 b23 ks cs _ _ F _ _ 3 _ _ _ (by decide) XG2 eG2 NG2 Zn C3 VK VC o3 F3 (hv 3 (by decide))
  have k38_ : ∀ t, Steps p.tables e below (TG3.setTop (mkF m 45 #[.val (.ref a), .val (.ref kb), .val (.ref cb), .val (.int (Int32.ofNat (3 + 1)))] [])) t → Steps p.tables e below (s₁.setTop (mkF m 0 #[.val (.ref a), .unset, .unset, .unset] [])) t := fun t q => k37_ t (sG3 t q)
  replace VK := VK.keep KG3 (own_notin3 (Ne.symm n1) ne_kb_b10 ne_kb_b23)
  replace VC := VC.keep KG3 (own_notin3 (Ne.symm n2) ne_cb_b10 ne_cb_b23)
  replace Zn := Nat.le_trans Zn KG3.1
  replace KP := KP.trans KG3 (own_gk z_b10 z_b23)
  have k39_ : ∀ t, Steps p.tables e below (TG3.setTop (mkF m 45 #[.val (.ref a), .val (.ref kb), .val (.ref cb), .val (.int (4 : Int32))] [])) t → Steps p.tables e below (s₁.setTop (mkF m 0 #[.val (.ref a), .unset, .unset, .unset] [])) t := fun t q => k38_ t (Eq.mp (congrArg (fun z => Steps p.tables e below (TG3.setTop (mkF m 45 #[.val (.ref a), .val (.ref kb), .val (.ref cb), .val (.int z)] [])) t) (show (4 : Int32) = (Int32.ofNat (3 + 1)) from rfl)) q)
  obtain ⟨cl40, Ar40, q40, S40, M40, H40, G40⟩ := id VK
  have k41_ : ∀ t, Steps p.tables e below (TG3.setTop (mkF m 48 #[.val (.ref a), .val (.ref kb), .val (.ref cb), .val (.int (4 : Int32))] [(.int (4 : Int32)), (.int (4 : Int32))])) t → Steps p.tables e below (s₁.setTop (mkF m 0 #[.val (.ref a), .unset, .unset, .unset] [])) t := by
    intro t q
    refine k39_ _ ?_
    show Steps p.tables e below (TG3.setTop (mkF m 45 #[.val (.ref a), .val (.ref kb), .val (.ref cb), .val (.int (4 : Int32))] [])) _
    refine XS.iloadN XG3.here hx rfl (hb hby d_prog_82_method_6_45) rfl ?_
    show Steps p.tables e below (TG3.setTop (mkF m 46 #[.val (.ref a), .val (.ref kb), .val (.ref cb), .val (.int (4 : Int32))] [(.int (4 : Int32))])) _
    refine XS.aloadN XG3.here hx rfl (hb hby d_prog_82_method_6_46) rfl rfl ?_
    show Steps p.tables e below (TG3.setTop (mkF m 47 #[.val (.ref a), .val (.ref kb), .val (.ref cb), .val (.int (4 : Int32))] [(.ref kb), (.int (4 : Int32))])) _
    refine XG3.arraylength hx (by rw [eG3]; exact Ar40.1) (State.isArrayOf_alike hZ.alike Ar40.2.1) (g := (mkF m 47 #[.val (.ref a), .val (.ref kb), .val (.ref cb), .val (.int (4 : Int32))] [(.ref kb), (.int (4 : Int32))])) rfl rfl (hb hby d_prog_82_method_6_47) _ ?_
    rw [len_of S40 M40]
    show Steps p.tables e below (TG3.setTop (mkF m 48 #[.val (.ref a), .val (.ref kb), .val (.ref cb), .val (.int (4 : Int32))] [(.int (4 : Int32)), (.int (4 : Int32))])) _
    exact q
  have k42_ : ∀ t, Steps p.tables e below (TG3.setTop (mkF m 73 #[.val (.ref a), .val (.ref kb), .val (.ref cb), .val (.int (4 : Int32))] [])) t → Steps p.tables e below (s₁.setTop (mkF m 0 #[.val (.ref a), .unset, .unset, .unset] [])) t := by
    intro t q
    refine k41_ _ ?_
    show Steps p.tables e below (TG3.setTop (mkF m 48 #[.val (.ref a), .val (.ref kb), .val (.ref cb), .val (.int (4 : Int32))] [(.int (4 : Int32)), (.int (4 : Int32))])) _
    refine XS.icmpYes XG3.here hx rfl (pc0 := 48) (pc' := 73) rfl (hb hby d_prog_82_method_6_48) rfl (flt (by decide)).2.1 (by decide) (by decide) ?_
    show Steps p.tables e below (TG3.setTop (mkF m 73 #[.val (.ref a), .val (.ref kb), .val (.ref cb), .val (.int (4 : Int32))] [])) _
    exact q
  rw [← own_gr_eq hl4] at C4 F4
  obtain ⟨fs, hr, hrun, hended, hW, hsame⟩ := XG3.leave (v := none) (fun _ => rfl)
  refine ⟨_, _, pre0 _ (k42_ _ ?_), hrun, hended, _, _, rfl, ?_, ⟨_, rfl⟩, hW, hsame.mono (by decide) (by decide)⟩
  · show Steps p.tables e below (TG3.setTop (mkF m 73 #[.val (.ref a), .val (.ref kb), .val (.ref cb), .val (.int (4 : Int32))] [])) _
    exact XG3.returnOut hx Bd.returns (hb hby d_prog_82_method_6_73) hr
  · show QW Z a kb cb ks cs F h0 n0 _ TG3.heap _
    rw [eG3]
    exact ⟨rfl, NG3, b10, b23, us4, C4, F4, z_b10, z_b23, KP⟩
theorem d_prog_82_method_5_24 : decode prog_82_method_5_code 24 = .ok (.aload_n 0, 1) := by decide +kernel
theorem d_prog_82_method_5_25 : decode prog_82_method_5_code 25 = .ok (.getfield 7, 3) := by decide +kernel
theorem d_prog_82_method_5_28 : decode prog_82_method_5_code 28 = .ok (.iload 4, 2) := by decide +kernel
theorem d_prog_82_method_5_30 : decode prog_82_method_5_code 30 = .ok (.iaload, 1) := by decide +kernel
theorem d_prog_82_method_5_31 : decode prog_82_method_5_code 31 = .ok (.ifCond .lt 116, 3) := by decide +kernel
theorem d_prog_82_method_5_34 : decode prog_82_method_5_code 34 = .ok (.aload_n 0, 1) := by decide +kernel
theorem d_prog_82_method_5_35 : decode prog_82_method_5_code 35 = .ok (.getfield 7, 3) := by decide +kernel
theorem d_prog_82_method_5_38 : decode prog_82_method_5_code 38 = .ok (.iload 4, 2) := by decide +kernel
theorem d_prog_82_method_5_40 : decode prog_82_method_5_code 40 = .ok (.iaload, 1) := by decide +kernel
theorem d_prog_82_method_5_41 : decode prog_82_method_5_code 41 = .ok (.iload_n 2, 1) := by decide +kernel
theorem d_prog_82_method_5_42 : decode prog_82_method_5_code 42 = .ok (.invokestatic 16, 3) := by decide +kernel
theorem d_prog_82_method_5_45 : decode prog_82_method_5_code 45 = .ok (.istore 5, 2) := by decide +kernel
theorem d_prog_82_method_5_47 : decode prog_82_method_5_code 47 = .ok (.iload_n 3, 1) := by decide +kernel
theorem d_prog_82_method_5_48 : decode prog_82_method_5_code 48 = .ok (.iload 4, 2) := by decide +kernel
theorem d_prog_82_method_5_50 : decode prog_82_method_5_code 50 = .ok (.if_icmp .gt 24, 3) := by decide +kernel
theorem d_prog_82_method_5_74 : decode prog_82_method_5_code 74 = .ok (.iload 5, 2) := by decide +kernel
theorem d_prog_82_method_5_76 : decode prog_82_method_5_code 76 = .ok (.iload_n 3, 1) := by decide +kernel
theorem d_prog_82_method_5_77 : decode prog_82_method_5_code 77 = .ok (.if_icmp .gt 14, 3) := by decide +kernel
theorem d_prog_82_method_5_91 : decode prog_82_method_5_code 91 = .ok (.iconst 0, 1) := by decide +kernel
theorem d_prog_82_method_5_80 : decode prog_82_method_5_code 80 = .ok (.iload 5, 2) := by decide +kernel
theorem d_prog_82_method_5_82 : decode prog_82_method_5_code 82 = .ok (.iload 4, 2) := by decide +kernel
theorem d_prog_82_method_5_84 : decode prog_82_method_5_code 84 = .ok (.if_icmp .le 7, 3) := by decide +kernel
theorem d_prog_82_method_5_87 : decode prog_82_method_5_code 87 = .ok (.iconst 1, 1) := by decide +kernel
theorem d_prog_82_method_5_88 : decode prog_82_method_5_code 88 = .ok (.goto 4, 3) := by decide +kernel
theorem d_prog_82_method_5_53 : decode prog_82_method_5_code 53 = .ok (.iload 5, 2) := by decide +kernel
theorem d_prog_82_method_5_55 : decode prog_82_method_5_code 55 = .ok (.iload_n 3, 1) := by decide +kernel
theorem d_prog_82_method_5_56 : decode prog_82_method_5_code 56 = .ok (.if_icmp .le 10, 3) := by decide +kernel
theorem d_prog_82_method_5_59 : decode prog_82_method_5_code 59 = .ok (.iload 5, 2) := by decide +kernel
theorem d_prog_82_method_5_61 : decode prog_82_method_5_code 61 = .ok (.iload 4, 2) := by decide +kernel
theorem d_prog_82_method_5_63 : decode prog_82_method_5_code 63 = .ok (.if_icmp .le 7, 3) := by decide +kernel
theorem d_prog_82_method_5_66 : decode prog_82_method_5_code 66 = .ok (.iconst 1, 1) := by decide +kernel
theorem d_prog_82_method_5_67 : decode prog_82_method_5_code 67 = .ok (.goto 25, 3) := by decide +kernel
theorem d_prog_82_method_5_70 : decode prog_82_method_5_code 70 = .ok (.iconst 0, 1) := by decide +kernel
theorem d_prog_82_method_5_71 : decode prog_82_method_5_code 71 = .ok (.goto 21, 3) := by decide +kernel
theorem d_prog_82_method_5_92 : decode prog_82_method_5_code 92 = .ok (.istore 6, 2) := by decide +kernel
theorem d_prog_82_method_5_94 : decode prog_82_method_5_code 94 = .ok (.iload 6, 2) := by decide +kernel
theorem d_prog_82_method_5_96 : decode prog_82_method_5_code 96 = .ok (.ifCond .eq 40, 3) := by decide +kernel
theorem d_prog_82_method_5_136 : decode prog_82_method_5_code 136 = .ok (.iload 4, 2) := by decide +kernel
theorem d_prog_82_method_5_138 : decode prog_82_method_5_code 138 = .ok (.iconst 1, 1) := by decide +kernel
theorem d_prog_82_method_5_139 : decode prog_82_method_5_code 139 = .ok (.iadd, 1) := by decide +kernel
theorem d_prog_82_method_5_140 : decode prog_82_method_5_code 140 = .ok (.iload_n 2, 1) := by decide +kernel
theorem d_prog_82_method_5_141 : decode prog_82_method_5_code 141 = .ok (.iand, 1) := by decide +kernel
theorem d_prog_82_method_5_142 : decode prog_82_method_5_code 142 = .ok (.istore 4, 2) := by decide +kernel
theorem d_prog_82_method_5_144 : decode prog_82_method_5_code 144 = .ok (.goto (-120), 3) := by decide +kernel
theorem d_prog_82_method_5_99 : decode prog_82_method_5_code 99 = .ok (.aload_n 0, 1) := by decide +kernel
theorem d_prog_82_method_5_100 : decode prog_82_method_5_code 100 = .ok (.getfield 7, 3) := by decide +kernel
theorem d_prog_82_method_5_103 : decode prog_82_method_5_code 103 = .ok (.iload_n 3, 1) := by decide +kernel
theorem d_prog_82_method_5_104 : decode prog_82_method_5_code 104 = .ok (.aload_n 0, 1) := by decide +kernel
theorem d_prog_82_method_5_105 : decode prog_82_method_5_code 105 = .ok (.getfield 7, 3) := by decide +kernel
theorem d_prog_82_method_5_108 : decode prog_82_method_5_code 108 = .ok (.iload 4, 2) := by decide +kernel
theorem d_prog_82_method_5_110 : decode prog_82_method_5_code 110 = .ok (.iaload, 1) := by decide +kernel
theorem d_prog_82_method_5_111 : decode prog_82_method_5_code 111 = .ok (.iastore, 1) := by decide +kernel
theorem d_prog_82_method_5_112 : decode prog_82_method_5_code 112 = .ok (.aload_n 0, 1) := by decide +kernel
theorem d_prog_82_method_5_113 : decode prog_82_method_5_code 113 = .ok (.getfield 13, 3) := by decide +kernel
theorem d_prog_82_method_5_116 : decode prog_82_method_5_code 116 = .ok (.iload_n 3, 1) := by decide +kernel
theorem d_prog_82_method_5_117 : decode prog_82_method_5_code 117 = .ok (.aload_n 0, 1) := by decide +kernel
theorem d_prog_82_method_5_118 : decode prog_82_method_5_code 118 = .ok (.getfield 13, 3) := by decide +kernel
theorem d_prog_82_method_5_121 : decode prog_82_method_5_code 121 = .ok (.iload 4, 2) := by decide +kernel
theorem d_prog_82_method_5_123 : decode prog_82_method_5_code 123 = .ok (.iaload, 1) := by decide +kernel
theorem d_prog_82_method_5_124 : decode prog_82_method_5_code 124 = .ok (.iastore, 1) := by decide +kernel
theorem d_prog_82_method_5_125 : decode prog_82_method_5_code 125 = .ok (.aload_n 0, 1) := by decide +kernel
theorem d_prog_82_method_5_126 : decode prog_82_method_5_code 126 = .ok (.getfield 7, 3) := by decide +kernel
theorem d_prog_82_method_5_129 : decode prog_82_method_5_code 129 = .ok (.iload 4, 2) := by decide +kernel
theorem d_prog_82_method_5_131 : decode prog_82_method_5_code 131 = .ok (.iconst (-1), 1) := by decide +kernel
theorem d_prog_82_method_5_132 : decode prog_82_method_5_code 132 = .ok (.iastore, 1) := by decide +kernel
theorem d_prog_82_method_5_133 : decode prog_82_method_5_code 133 = .ok (.iload 4, 2) := by decide +kernel
theorem d_prog_82_method_5_135 : decode prog_82_method_5_code 135 = .ok (.istore_n 3, 1) := by decide +kernel
set_option maxRecDepth 65536 in
set_option maxHeartbeats 40000000 in
theorem lpT {p : Program} {l : Launch} {e : Env}  {s : State} {m : MethodId} {args : Array Value} {below : List Frame} {meth : Method} {c : Code} (Z : State) (a0 : Array Value) (hw : ∀ d ∈ tables_1, d.before a0 Z = true) (hx : p.tables.exec = Jvm.exec) (hZ : Z.Warmed39 s.vm) (hby : c.code = prog_82_method_5_code) (hml : c.maxLocals = 7) (hown : s.vm.findClass "com/example/weir/weir/model/HeldTasks$Counts" = some m.cls) (n0 : Nat) (a kb cb : Addr) (sx : Int32) (u : List Int32) (F : Int32 → Int32) (kK kC : ClassId) (n1 : a ≠ kb) (n2 : a ≠ cb) (n3 : kb ≠ cb) (g2 : n0 ≤ kb) (g3 : n0 ≤ cb) : ∀ (nn : Nat) (ks cs : List Int32) (ee yy : Int32) (L5 L6 : Slot) (s₁ : State) (h0 : Heap) (lc0 : List Loc), Stand p l e ({ frames := 1, cells := 0, slots := 0, locals := 14 } : Room) s m args below meth c s₁ lc0 0 0 → s₁.heap = h0 → Fr n0 lc0 → n0 ≤ h0.size → Fld Z h0 a "com/example/weir/weir/model/HeldTasks$Counts" "keys" "[I" (.ref kb) → Fld Z h0 a "com/example/weir/weir/model/HeldTasks$Counts" "counts" "[I" (.ref cb) → Arv Z h0 kb kK .int (own_ln ks) (ks.map Value.int) (.int 0) → Arv Z h0 cb kC .int (own_ln ks) (cs.map Value.int) (.int 0) → (ks.length = 4 ∨ ks.length = 8) → cs.length = ks.length → own_C F ks cs → own_tk nn ks ee yy = some u → (¬ ee < 0 ∧ ee < own_ln ks) → (¬ yy < 0 ∧ yy < own_ln ks) → own_sp L5 → own_sp L6 → ∃ (T' : State) (h' : Heap) (lc' : List Loc) (cs' : List Int32) (M2 M3 M4 M5 M6 : Slot), Stand p l e ({ frames := 1, cells := 0, slots := 0, locals := 14 } : Room) s m args below meth c T' lc' 0 0 ∧ T'.heap = h' ∧ Fr n0 lc' ∧ Keep h0 h' [kb, cb] ∧ Arv Z h' kb kK .int (own_ln u) (u.map Value.int) (.int 0) ∧ Arv Z h' cb kC .int (own_ln u) (cs'.map Value.int) (.int 0) ∧ cs'.length = u.length ∧ own_C F u cs' ∧ ∀ t, Steps p.tables e below (T'.setTop (mkF m 147 #[.val (.ref a), .val (.int sx), M2, M3, M4, M5, M6] [])) t → Steps p.tables e below (s₁.setTop (mkF m 24 #[.val (.ref a), .val (.int sx), .val (.int (own_mk ks)), .val (.int ee), .val (.int yy), L5, L6] [])) t := by
  intro nn
  induction nn with
  | zero =>
    intro ks cs ee yy L5 L6 s₁ h0 lc0 X0 e0 N0 Zn FK FC VK VC l4 hlen hF htk he hy h5 h6
    have z : (none : Option (List Int32)) = some u := htk
    cases z
  | succ nn ih =>
    intro ks cs ee yy L5 L6 s₁ h0 lc0 X0 e0 N0 Zn FK FC VK VC l4 hlen hF htk he hy h5 h6
    have k0 : ∀ t, Steps p.tables e below (s₁.setTop (mkF m 24 #[.val (.ref a), .val (.int sx), .val (.int (own_mk ks)), .val (.int ee), .val (.int yy), L5, L6] [])) t → Steps p.tables e below (s₁.setTop (mkF m 24 #[.val (.ref a), .val (.int sx), .val (.int (own_mk ks)), .val (.int ee), .val (.int yy), L5, L6] [])) t := fun t q => q
    have k1_ : ∀ t, Steps p.tables e below (s₁.setTop (mkF m 25 #[.val (.ref a), .val (.int sx), .val (.int (own_mk ks)), .val (.int ee), .val (.int yy), L5, L6] [(.ref a)])) t → Steps p.tables e below (s₁.setTop (mkF m 24 #[.val (.ref a), .val (.int sx), .val (.int (own_mk ks)), .val (.int ee), .val (.int yy), L5, L6] [])) t := by
      intro t q
      refine k0 _ ?_
      show Steps p.tables e below (s₁.setTop (mkF m 24 #[.val (.ref a), .val (.int sx), .val (.int (own_mk ks)), .val (.int ee), .val (.int yy), L5, L6] [])) _
      refine XS.aloadN X0.here hx rfl (hb hby d_prog_82_method_5_24) rfl rfl ?_
      show Steps p.tables e below (s₁.setTop (mkF m 25 #[.val (.ref a), .val (.int sx), .val (.int (own_mk ks)), .val (.int ee), .val (.int yy), L5, L6] [(.ref a)])) _
      exact q
    obtain ⟨T2, X2, e2, st2⟩ := getF X0 hx hZ hown (host := "") (Or.inl (hw _ (List.mem_of_getElem? (i := 46) rfl))) Via.refl e0 FK (g := (mkF m 25 #[.val (.ref a), .val (.int sx), .val (.int (own_mk ks)), .val (.int ee), .val (.int yy), L5, L6] [(.ref a)])) rfl rfl (hb hby d_prog_82_method_5_25)
    have k3_ : ∀ t, Steps p.tables e below (T2.setTop (mkF m 28 #[.val (.ref a), .val (.int sx), .val (.int (own_mk ks)), .val (.int ee), .val (.int yy), L5, L6] [(.ref kb)])) t → Steps p.tables e below (s₁.setTop (mkF m 24 #[.val (.ref a), .val (.int sx), .val (.int (own_mk ks)), .val (.int ee), .val (.int yy), L5, L6] [])) t := fun t q => k1_ t (st2 t q)
    obtain ⟨cl4, Ar4, q4, S4, M4, H4, G4⟩ := id VK
    have k5_ : ∀ t, Steps p.tables e below (T2.setTop (mkF m 31 #[.val (.ref a), .val (.int sx), .val (.int (own_mk ks)), .val (.int ee), .val (.int yy), L5, L6] [(.int (own_g ks yy))])) t → Steps p.tables e below (s₁.setTop (mkF m 24 #[.val (.ref a), .val (.int sx), .val (.int (own_mk ks)), .val (.int ee), .val (.int yy), L5, L6] [])) t := by
      intro t q
      refine k3_ _ ?_
      show Steps p.tables e below (T2.setTop (mkF m 28 #[.val (.ref a), .val (.int sx), .val (.int (own_mk ks)), .val (.int ee), .val (.int yy), L5, L6] [(.ref kb)])) _
      refine XS.iload X2.here hx rfl (hb hby d_prog_82_method_5_28) rfl ?_
      show Steps p.tables e below (T2.setTop (mkF m 30 #[.val (.ref a), .val (.int sx), .val (.int (own_mk ks)), .val (.int ee), .val (.int yy), L5, L6] [(.int yy), (.ref kb)])) _
      refine X2.iaload hx (j := yy) (v := (.int (own_g ks yy))) (by rw [e2]; exact Ar4.1) (State.isArrayOf_alike hZ.alike Ar4.2.1) Ar4.2.2 (inb_of S4 hy) (Has.at H4 (inb_of S4 hy) (own_gd _ _)) (g := (mkF m 30 #[.val (.ref a), .val (.int sx), .val (.int (own_mk ks)), .val (.int ee), .val (.int yy), L5, L6] [(.int yy), (.ref kb)])) rfl rfl (hb hby d_prog_82_method_5_30) _ ?_
      show Steps p.tables e below (T2.setTop (mkF m 31 #[.val (.ref a), .val (.int sx), .val (.int (own_mk ks)), .val (.int ee), .val (.int yy), L5, L6] [(.int (own_g ks yy))])) _
      exact q
    by_cases hca : (own_g ks yy) < (0 : Int32)
    · rw [own_tk_0 hca] at htk
      have hu : u = ks := (Option.some.inj htk).symm
      rw [hu]
      have k6_ : ∀ t, Steps p.tables e below (T2.setTop (mkF m 147 #[.val (.ref a), .val (.int sx), .val (.int (own_mk ks)), .val (.int ee), .val (.int yy), L5, L6] [])) t → Steps p.tables e below (s₁.setTop (mkF m 24 #[.val (.ref a), .val (.int sx), .val (.int (own_mk ks)), .val (.int ee), .val (.int yy), L5, L6] [])) t := by
        intro t q
        refine k5_ _ ?_
        show Steps p.tables e below (T2.setTop (mkF m 31 #[.val (.ref a), .val (.int sx), .val (.int (own_mk ks)), .val (.int ee), .val (.int yy), L5, L6] [(.int (own_g ks yy))])) _
        refine XS.ifYes X2.here hx rfl (pc0 := 31) (pc' := 147) rfl (hb hby d_prog_82_method_5_31) rfl ((if0 _ _).trans (tlt hca).1) (by decide) (by decide) ?_
        show Steps p.tables e below (T2.setTop (mkF m 147 #[.val (.ref a), .val (.int sx), .val (.int (own_mk ks)), .val (.int ee), .val (.int yy), L5, L6] [])) _
        exact q
      exact ⟨_, h0, lc0, cs, _, _, _, _, _, X2, e2, N0, Keep.refl _ _, VK, VC, hlen, hF, k6_⟩
    · have k7_ : ∀ t, Steps p.tables e below (T2.setTop (mkF m 34 #[.val (.ref a), .val (.int sx), .val (.int (own_mk ks)), .val (.int ee), .val (.int yy), L5, L6] [])) t → Steps p.tables e below (s₁.setTop (mkF m 24 #[.val (.ref a), .val (.int sx), .val (.int (own_mk ks)), .val (.int ee), .val (.int yy), L5, L6] [])) t := by
        intro t q
        refine k5_ _ ?_
        show Steps p.tables e below (T2.setTop (mkF m 31 #[.val (.ref a), .val (.int sx), .val (.int (own_mk ks)), .val (.int ee), .val (.int yy), L5, L6] [(.int (own_g ks yy))])) _
        refine XS.ifNo X2.here hx rfl (hb hby d_prog_82_method_5_31) rfl ((if0 _ _).trans (flt hca).1) ?_
        show Steps p.tables e below (T2.setTop (mkF m 34 #[.val (.ref a), .val (.int sx), .val (.int (own_mk ks)), .val (.int ee), .val (.int yy), L5, L6] [])) _
        exact q
      have k8_ : ∀ t, Steps p.tables e below (T2.setTop (mkF m 35 #[.val (.ref a), .val (.int sx), .val (.int (own_mk ks)), .val (.int ee), .val (.int yy), L5, L6] [(.ref a)])) t → Steps p.tables e below (s₁.setTop (mkF m 24 #[.val (.ref a), .val (.int sx), .val (.int (own_mk ks)), .val (.int ee), .val (.int yy), L5, L6] [])) t := by
        intro t q
        refine k7_ _ ?_
        show Steps p.tables e below (T2.setTop (mkF m 34 #[.val (.ref a), .val (.int sx), .val (.int (own_mk ks)), .val (.int ee), .val (.int yy), L5, L6] [])) _
        refine XS.aloadN X2.here hx rfl (hb hby d_prog_82_method_5_34) rfl rfl ?_
        show Steps p.tables e below (T2.setTop (mkF m 35 #[.val (.ref a), .val (.int sx), .val (.int (own_mk ks)), .val (.int ee), .val (.int yy), L5, L6] [(.ref a)])) _
        exact q
      obtain ⟨T9, X9, e9, st9⟩ := getF X2 hx hZ hown (host := "") (Or.inl (hw _ (List.mem_of_getElem? (i := 46) rfl))) Via.refl e2 FK (g := (mkF m 35 #[.val (.ref a), .val (.int sx), .val (.int (own_mk ks)), .val (.int ee), .val (.int yy), L5, L6] [(.ref a)])) rfl rfl (hb hby d_prog_82_method_5_35)
      have k10_ : ∀ t, Steps p.tables e below (T9.setTop (mkF m 38 #[.val (.ref a), .val (.int sx), .val (.int (own_mk ks)), .val (.int ee), .val (.int yy), L5, L6] [(.ref kb)])) t → Steps p.tables e below (s₁.setTop (mkF m 24 #[.val (.ref a), .val (.int sx), .val (.int (own_mk ks)), .val (.int ee), .val (.int yy), L5, L6] [])) t := fun t q => k8_ t (st9 t q)
      obtain ⟨cl11, Ar11, q11, S11, M11, H11, G11⟩ := id VK
      have k12_ : ∀ t, Steps p.tables e below (T9.setTop (mkF m 42 #[.val (.ref a), .val (.int sx), .val (.int (own_mk ks)), .val (.int ee), .val (.int yy), L5, L6] [(.int (own_mk ks)), (.int (own_g ks yy))])) t → Steps p.tables e below (s₁.setTop (mkF m 24 #[.val (.ref a), .val (.int sx), .val (.int (own_mk ks)), .val (.int ee), .val (.int yy), L5, L6] [])) t := by
        intro t q
        refine k10_ _ ?_
        show Steps p.tables e below (T9.setTop (mkF m 38 #[.val (.ref a), .val (.int sx), .val (.int (own_mk ks)), .val (.int ee), .val (.int yy), L5, L6] [(.ref kb)])) _
        refine XS.iload X9.here hx rfl (hb hby d_prog_82_method_5_38) rfl ?_
        show Steps p.tables e below (T9.setTop (mkF m 40 #[.val (.ref a), .val (.int sx), .val (.int (own_mk ks)), .val (.int ee), .val (.int yy), L5, L6] [(.int yy), (.ref kb)])) _
        refine X9.iaload hx (j := yy) (v := (.int (own_g ks yy))) (by rw [e9]; exact Ar11.1) (State.isArrayOf_alike hZ.alike Ar11.2.1) Ar11.2.2 (inb_of S11 hy) (Has.at H11 (inb_of S11 hy) (own_gd _ _)) (g := (mkF m 40 #[.val (.ref a), .val (.int sx), .val (.int (own_mk ks)), .val (.int ee), .val (.int yy), L5, L6] [(.int yy), (.ref kb)])) rfl rfl (hb hby d_prog_82_method_5_40) _ ?_
        show Steps p.tables e below (T9.setTop (mkF m 41 #[.val (.ref a), .val (.int sx), .val (.int (own_mk ks)), .val (.int ee), .val (.int yy), L5, L6] [(.int (own_g ks yy))])) _
        refine XS.iloadN X9.here hx rfl (hb hby d_prog_82_method_5_41) rfl ?_
        show Steps p.tables e below (T9.setTop (mkF m 42 #[.val (.ref a), .val (.int sx), .val (.int (own_mk ks)), .val (.int ee), .val (.int yy), L5, L6] [(.int (own_mk ks)), (.int (own_g ks yy))])) _
        exact q
      obtain ⟨_, _, ⟨T13, L13, kk13, n13⟩, -, X13, ⟨Lc13, hQ13, l13, y13, z13⟩, st13⟩ := Jvm.LawKit.callS X9 hx (y := (⟨"com/example/weir/weir/model/HeldTasks$Counts", "home", "(II)I"⟩ : MethodName)) hown (mvT hZ (hw _ (List.mem_of_getElem? (i := 56) rfl))) (mvT hZ (hw _ (List.mem_of_getElem? (i := 57) rfl))) (mvT hZ (hw _ (List.mem_of_getElem? (i := 41) rfl))) (mvT hZ (hw _ (List.mem_of_getElem? (i := 58) rfl))) (by decide) (backOf (W := 0) (rmH l Z a0 hw [] (own_g ks yy) (own_mk ks) h0 n0 Zn) hZ (hw _ (List.mem_of_getElem? (i := 58) rfl)) (hw _ (List.mem_of_getElem? (i := 41) rfl)) (by decide) (by decide)) (g := (mkF m 42 #[.val (.ref a), .val (.int sx), .val (.int (own_mk ks)), .val (.int ee), .val (.int yy), L5, L6] [(.int (own_mk ks)), (.int (own_g ks yy))])) rfl (by rw [hml]; rfl) (argsL := [(.int (own_g ks yy)), (.int (own_mk ks))]) (rest := []) (lenOf pd_90420 rfl) rfl (by show 2 * 0 + _ ≤ _; exact Nat.le_of_eq rfl) (hb hby d_prog_82_method_5_42) (fun _ _ => ⟨rfl, e9, (by decide : 0 + 0 ≤ _), (by decide : 0 + 0 ≤ _)⟩)
      dsimp only [Pt.U, Pt.locs, Pt.cells, Pt.slots] at X13 l13 y13 z13 st13 hQ13
      rw [l13, y13, z13] at X13
      obtain ⟨rfl, Nq13, hq13⟩ := hQ13
      have N13 := Fr.app N0 Nq13
      have k14_ : ∀ t, Steps p.tables e below (T13.setTop (mkF m 45 #[.val (.ref a), .val (.int sx), .val (.int (own_mk ks)), .val (.int ee), .val (.int yy), L5, L6] [(.int (own_hm (own_g ks yy) (own_mk ks)))])) t → Steps p.tables e below (s₁.setTop (mkF m 24 #[.val (.ref a), .val (.int sx), .val (.int (own_mk ks)), .val (.int ee), .val (.int yy), L5, L6] [])) t := fun t q => k12_ t (st13 t q)
      have k15_ : ∀ t, Steps p.tables e below (T13.setTop (mkF m 50 #[.val (.ref a), .val (.int sx), .val (.int (own_mk ks)), .val (.int ee), .val (.int yy), .val (.int (own_hm (own_g ks yy) (own_mk ks))), L6] [(.int yy), (.int ee)])) t → Steps p.tables e below (s₁.setTop (mkF m 24 #[.val (.ref a), .val (.int sx), .val (.int (own_mk ks)), .val (.int ee), .val (.int yy), L5, L6] [])) t := by
        intro t q
        refine k14_ _ ?_
        show Steps p.tables e below (T13.setTop (mkF m 45 #[.val (.ref a), .val (.int sx), .val (.int (own_mk ks)), .val (.int ee), .val (.int yy), L5, L6] [(.int (own_hm (own_g ks yy) (own_mk ks)))])) _
        refine XS.istore X13.here hx rfl (hb hby d_prog_82_method_5_45) rfl (l' := #[.val (.ref a), .val (.int sx), .val (.int (own_mk ks)), .val (.int ee), .val (.int yy), .val (.int (own_hm (own_g ks yy) (own_mk ks))), L6]) (own_s5 h5) ?_
        show Steps p.tables e below (T13.setTop (mkF m 47 #[.val (.ref a), .val (.int sx), .val (.int (own_mk ks)), .val (.int ee), .val (.int yy), .val (.int (own_hm (own_g ks yy) (own_mk ks))), L6] [])) _
        refine XS.iloadN X13.here hx rfl (hb hby d_prog_82_method_5_47) rfl ?_
        show Steps p.tables e below (T13.setTop (mkF m 48 #[.val (.ref a), .val (.int sx), .val (.int (own_mk ks)), .val (.int ee), .val (.int yy), .val (.int (own_hm (own_g ks yy) (own_mk ks))), L6] [(.int ee)])) _
        refine XS.iload X13.here hx rfl (hb hby d_prog_82_method_5_48) rfl ?_
        show Steps p.tables e below (T13.setTop (mkF m 50 #[.val (.ref a), .val (.int sx), .val (.int (own_mk ks)), .val (.int ee), .val (.int yy), .val (.int (own_hm (own_g ks yy) (own_mk ks))), L6] [(.int yy), (.int ee)])) _
        exact q
      have k16_ : ∀ t, Steps p.tables e below (T13.setTop (mkF m 92 #[.val (.ref a), .val (.int sx), .val (.int (own_mk ks)), .val (.int ee), .val (.int yy), .val (.int (own_hm (own_g ks yy) (own_mk ks))), L6] [(.int (own_ps (own_hm (own_g ks yy) (own_mk ks)) ee yy))])) t → Steps p.tables e below (s₁.setTop (mkF m 24 #[.val (.ref a), .val (.int sx), .val (.int (own_mk ks)), .val (.int ee), .val (.int yy), L5, L6] [])) t := by
        intro t q
        refine k15_ _ ?_
        show Steps p.tables e below (T13.setTop (mkF m 50 #[.val (.ref a), .val (.int sx), .val (.int (own_mk ks)), .val (.int ee), .val (.int yy), .val (.int (own_hm (own_g ks yy) (own_mk ks))), L6] [(.int yy), (.int ee)])) _
        by_cases hc50 : yy < ee
        · refine XS.icmpYes X13.here hx rfl (pc0 := 50) (pc' := 74) rfl (hb hby d_prog_82_method_5_50) rfl (tlt hc50).2.2.1 (by decide) (by decide) ?_
          show Steps p.tables e below (T13.setTop (mkF m 74 #[.val (.ref a), .val (.int sx), .val (.int (own_mk ks)), .val (.int ee), .val (.int yy), .val (.int (own_hm (own_g ks yy) (own_mk ks))), L6] [])) _
          refine XS.iload X13.here hx rfl (hb hby d_prog_82_method_5_74) rfl ?_
          show Steps p.tables e below (T13.setTop (mkF m 76 #[.val (.ref a), .val (.int sx), .val (.int (own_mk ks)), .val (.int ee), .val (.int yy), .val (.int (own_hm (own_g ks yy) (own_mk ks))), L6] [(.int (own_hm (own_g ks yy) (own_mk ks)))])) _
          refine XS.iloadN X13.here hx rfl (hb hby d_prog_82_method_5_76) rfl ?_
          show Steps p.tables e below (T13.setTop (mkF m 77 #[.val (.ref a), .val (.int sx), .val (.int (own_mk ks)), .val (.int ee), .val (.int yy), .val (.int (own_hm (own_g ks yy) (own_mk ks))), L6] [(.int ee), (.int (own_hm (own_g ks yy) (own_mk ks)))])) _
          by_cases hc77 : ee < (own_hm (own_g ks yy) (own_mk ks))
          · refine XS.icmpYes X13.here hx rfl (pc0 := 77) (pc' := 91) rfl (hb hby d_prog_82_method_5_77) rfl (tlt hc77).2.2.1 (by decide) (by decide) ?_
            show Steps p.tables e below (T13.setTop (mkF m 91 #[.val (.ref a), .val (.int sx), .val (.int (own_mk ks)), .val (.int ee), .val (.int yy), .val (.int (own_hm (own_g ks yy) (own_mk ks))), L6] [])) _
            refine XS.iconst X13.here hx rfl (hb hby d_prog_82_method_5_91) ?_
            show Steps p.tables e below (T13.setTop (mkF m 92 #[.val (.ref a), .val (.int sx), .val (.int (own_mk ks)), .val (.int ee), .val (.int yy), .val (.int (own_hm (own_g ks yy) (own_mk ks))), L6] [(.int (0 : Int32))])) _
            have w0 : (own_ps (own_hm (own_g ks yy) (own_mk ks)) ee yy) = (0 : Int32) := by unfold own_ps; rw [if_pos hc50, if_pos hc77]
            replace q := Eq.mp (congrArg (fun z => Steps p.tables e below (T13.setTop (mkF m 92 #[.val (.ref a), .val (.int sx), .val (.int (own_mk ks)), .val (.int ee), .val (.int yy), .val (.int (own_hm (own_g ks yy) (own_mk ks))), L6] [(.int z)])) t) w0) q
            exact q
          · refine XS.icmpNo X13.here hx rfl (hb hby d_prog_82_method_5_77) rfl (flt hc77).2.2.1 ?_
            show Steps p.tables e below (T13.setTop (mkF m 80 #[.val (.ref a), .val (.int sx), .val (.int (own_mk ks)), .val (.int ee), .val (.int yy), .val (.int (own_hm (own_g ks yy) (own_mk ks))), L6] [])) _
            refine XS.iload X13.here hx rfl (hb hby d_prog_82_method_5_80) rfl ?_
            show Steps p.tables e below (T13.setTop (mkF m 82 #[.val (.ref a), .val (.int sx), .val (.int (own_mk ks)), .val (.int ee), .val (.int yy), .val (.int (own_hm (own_g ks yy) (own_mk ks))), L6] [(.int (own_hm (own_g ks yy) (own_mk ks)))])) _
            refine XS.iload X13.here hx rfl (hb hby d_prog_82_method_5_82) rfl ?_
            show Steps p.tables e below (T13.setTop (mkF m 84 #[.val (.ref a), .val (.int sx), .val (.int (own_mk ks)), .val (.int ee), .val (.int yy), .val (.int (own_hm (own_g ks yy) (own_mk ks))), L6] [(.int yy), (.int (own_hm (own_g ks yy) (own_mk ks)))])) _
            by_cases hc84 : yy < (own_hm (own_g ks yy) (own_mk ks))
            · refine XS.icmpNo X13.here hx rfl (hb hby d_prog_82_method_5_84) rfl (tlt hc84).2.2.2 ?_
              show Steps p.tables e below (T13.setTop (mkF m 87 #[.val (.ref a), .val (.int sx), .val (.int (own_mk ks)), .val (.int ee), .val (.int yy), .val (.int (own_hm (own_g ks yy) (own_mk ks))), L6] [])) _
              refine XS.iconst X13.here hx rfl (hb hby d_prog_82_method_5_87) ?_
              show Steps p.tables e below (T13.setTop (mkF m 88 #[.val (.ref a), .val (.int sx), .val (.int (own_mk ks)), .val (.int ee), .val (.int yy), .val (.int (own_hm (own_g ks yy) (own_mk ks))), L6] [(.int (1 : Int32))])) _
              refine XS.goto X13.here hx rfl (pc0 := 88) (pc' := 92) rfl (hb hby d_prog_82_method_5_88) (by decide) (by decide) ?_
              show Steps p.tables e below (T13.setTop (mkF m 92 #[.val (.ref a), .val (.int sx), .val (.int (own_mk ks)), .val (.int ee), .val (.int yy), .val (.int (own_hm (own_g ks yy) (own_mk ks))), L6] [(.int (1 : Int32))])) _
              have w0 : (own_ps (own_hm (own_g ks yy) (own_mk ks)) ee yy) = (1 : Int32) := by unfold own_ps; rw [if_pos hc50, if_neg hc77, if_pos hc84]
              replace q := Eq.mp (congrArg (fun z => Steps p.tables e below (T13.setTop (mkF m 92 #[.val (.ref a), .val (.int sx), .val (.int (own_mk ks)), .val (.int ee), .val (.int yy), .val (.int (own_hm (own_g ks yy) (own_mk ks))), L6] [(.int z)])) t) w0) q
              exact q
            · refine XS.icmpYes X13.here hx rfl (pc0 := 84) (pc' := 91) rfl (hb hby d_prog_82_method_5_84) rfl (flt hc84).2.2.2 (by decide) (by decide) ?_
              show Steps p.tables e below (T13.setTop (mkF m 91 #[.val (.ref a), .val (.int sx), .val (.int (own_mk ks)), .val (.int ee), .val (.int yy), .val (.int (own_hm (own_g ks yy) (own_mk ks))), L6] [])) _
              refine XS.iconst X13.here hx rfl (hb hby d_prog_82_method_5_91) ?_
              show Steps p.tables e below (T13.setTop (mkF m 92 #[.val (.ref a), .val (.int sx), .val (.int (own_mk ks)), .val (.int ee), .val (.int yy), .val (.int (own_hm (own_g ks yy) (own_mk ks))), L6] [(.int (0 : Int32))])) _
              have w0 : (own_ps (own_hm (own_g ks yy) (own_mk ks)) ee yy) = (0 : Int32) := by unfold own_ps; rw [if_pos hc50, if_neg hc77, if_neg hc84]
              replace q := Eq.mp (congrArg (fun z => Steps p.tables e below (T13.setTop (mkF m 92 #[.val (.ref a), .val (.int sx), .val (.int (own_mk ks)), .val (.int ee), .val (.int yy), .val (.int (own_hm (own_g ks yy) (own_mk ks))), L6] [(.int z)])) t) w0) q
              exact q
        · refine XS.icmpNo X13.here hx rfl (hb hby d_prog_82_method_5_50) rfl (flt hc50).2.2.1 ?_
          show Steps p.tables e below (T13.setTop (mkF m 53 #[.val (.ref a), .val (.int sx), .val (.int (own_mk ks)), .val (.int ee), .val (.int yy), .val (.int (own_hm (own_g ks yy) (own_mk ks))), L6] [])) _
          refine XS.iload X13.here hx rfl (hb hby d_prog_82_method_5_53) rfl ?_
          show Steps p.tables e below (T13.setTop (mkF m 55 #[.val (.ref a), .val (.int sx), .val (.int (own_mk ks)), .val (.int ee), .val (.int yy), .val (.int (own_hm (own_g ks yy) (own_mk ks))), L6] [(.int (own_hm (own_g ks yy) (own_mk ks)))])) _
          refine XS.iloadN X13.here hx rfl (hb hby d_prog_82_method_5_55) rfl ?_
          show Steps p.tables e below (T13.setTop (mkF m 56 #[.val (.ref a), .val (.int sx), .val (.int (own_mk ks)), .val (.int ee), .val (.int yy), .val (.int (own_hm (own_g ks yy) (own_mk ks))), L6] [(.int ee), (.int (own_hm (own_g ks yy) (own_mk ks)))])) _
          by_cases hc56 : ee < (own_hm (own_g ks yy) (own_mk ks))
          · refine XS.icmpNo X13.here hx rfl (hb hby d_prog_82_method_5_56) rfl (tlt hc56).2.2.2 ?_
            show Steps p.tables e below (T13.setTop (mkF m 59 #[.val (.ref a), .val (.int sx), .val (.int (own_mk ks)), .val (.int ee), .val (.int yy), .val (.int (own_hm (own_g ks yy) (own_mk ks))), L6] [])) _
            refine XS.iload X13.here hx rfl (hb hby d_prog_82_method_5_59) rfl ?_
            show Steps p.tables e below (T13.setTop (mkF m 61 #[.val (.ref a), .val (.int sx), .val (.int (own_mk ks)), .val (.int ee), .val (.int yy), .val (.int (own_hm (own_g ks yy) (own_mk ks))), L6] [(.int (own_hm (own_g ks yy) (own_mk ks)))])) _
            refine XS.iload X13.here hx rfl (hb hby d_prog_82_method_5_61) rfl ?_
            show Steps p.tables e below (T13.setTop (mkF m 63 #[.val (.ref a), .val (.int sx), .val (.int (own_mk ks)), .val (.int ee), .val (.int yy), .val (.int (own_hm (own_g ks yy) (own_mk ks))), L6] [(.int yy), (.int (own_hm (own_g ks yy) (own_mk ks)))])) _
            by_cases hc63 : yy < (own_hm (own_g ks yy) (own_mk ks))
            · refine XS.icmpNo X13.here hx rfl (hb hby d_prog_82_method_5_63) rfl (tlt hc63).2.2.2 ?_
              show Steps p.tables e below (T13.setTop (mkF m 66 #[.val (.ref a), .val (.int sx), .val (.int (own_mk ks)), .val (.int ee), .val (.int yy), .val (.int (own_hm (own_g ks yy) (own_mk ks))), L6] [])) _
              refine XS.iconst X13.here hx rfl (hb hby d_prog_82_method_5_66) ?_
              show Steps p.tables e below (T13.setTop (mkF m 67 #[.val (.ref a), .val (.int sx), .val (.int (own_mk ks)), .val (.int ee), .val (.int yy), .val (.int (own_hm (own_g ks yy) (own_mk ks))), L6] [(.int (1 : Int32))])) _
              refine XS.goto X13.here hx rfl (pc0 := 67) (pc' := 92) rfl (hb hby d_prog_82_method_5_67) (by decide) (by decide) ?_
              show Steps p.tables e below (T13.setTop (mkF m 92 #[.val (.ref a), .val (.int sx), .val (.int (own_mk ks)), .val (.int ee), .val (.int yy), .val (.int (own_hm (own_g ks yy) (own_mk ks))), L6] [(.int (1 : Int32))])) _
              have w0 : (own_ps (own_hm (own_g ks yy) (own_mk ks)) ee yy) = (1 : Int32) := by unfold own_ps; rw [if_neg hc50, if_pos hc56, if_pos hc63]
              replace q := Eq.mp (congrArg (fun z => Steps p.tables e below (T13.setTop (mkF m 92 #[.val (.ref a), .val (.int sx), .val (.int (own_mk ks)), .val (.int ee), .val (.int yy), .val (.int (own_hm (own_g ks yy) (own_mk ks))), L6] [(.int z)])) t) w0) q
              exact q
            · refine XS.icmpYes X13.here hx rfl (pc0 := 63) (pc' := 70) rfl (hb hby d_prog_82_method_5_63) rfl (flt hc63).2.2.2 (by decide) (by decide) ?_
              show Steps p.tables e below (T13.setTop (mkF m 70 #[.val (.ref a), .val (.int sx), .val (.int (own_mk ks)), .val (.int ee), .val (.int yy), .val (.int (own_hm (own_g ks yy) (own_mk ks))), L6] [])) _
              refine XS.iconst X13.here hx rfl (hb hby d_prog_82_method_5_70) ?_
              show Steps p.tables e below (T13.setTop (mkF m 71 #[.val (.ref a), .val (.int sx), .val (.int (own_mk ks)), .val (.int ee), .val (.int yy), .val (.int (own_hm (own_g ks yy) (own_mk ks))), L6] [(.int (0 : Int32))])) _
              refine XS.goto X13.here hx rfl (pc0 := 71) (pc' := 92) rfl (hb hby d_prog_82_method_5_71) (by decide) (by decide) ?_
              show Steps p.tables e below (T13.setTop (mkF m 92 #[.val (.ref a), .val (.int sx), .val (.int (own_mk ks)), .val (.int ee), .val (.int yy), .val (.int (own_hm (own_g ks yy) (own_mk ks))), L6] [(.int (0 : Int32))])) _
              have w0 : (own_ps (own_hm (own_g ks yy) (own_mk ks)) ee yy) = (0 : Int32) := by unfold own_ps; rw [if_neg hc50, if_pos hc56, if_neg hc63]
              replace q := Eq.mp (congrArg (fun z => Steps p.tables e below (T13.setTop (mkF m 92 #[.val (.ref a), .val (.int sx), .val (.int (own_mk ks)), .val (.int ee), .val (.int yy), .val (.int (own_hm (own_g ks yy) (own_mk ks))), L6] [(.int z)])) t) w0) q
              exact q
          · refine XS.icmpYes X13.here hx rfl (pc0 := 56) (pc' := 66) rfl (hb hby d_prog_82_method_5_56) rfl (flt hc56).2.2.2 (by decide) (by decide) ?_
            show Steps p.tables e below (T13.setTop (mkF m 66 #[.val (.ref a), .val (.int sx), .val (.int (own_mk ks)), .val (.int ee), .val (.int yy), .val (.int (own_hm (own_g ks yy) (own_mk ks))), L6] [])) _
            refine XS.iconst X13.here hx rfl (hb hby d_prog_82_method_5_66) ?_
            show Steps p.tables e below (T13.setTop (mkF m 67 #[.val (.ref a), .val (.int sx), .val (.int (own_mk ks)), .val (.int ee), .val (.int yy), .val (.int (own_hm (own_g ks yy) (own_mk ks))), L6] [(.int (1 : Int32))])) _
            refine XS.goto X13.here hx rfl (pc0 := 67) (pc' := 92) rfl (hb hby d_prog_82_method_5_67) (by decide) (by decide) ?_
            show Steps p.tables e below (T13.setTop (mkF m 92 #[.val (.ref a), .val (.int sx), .val (.int (own_mk ks)), .val (.int ee), .val (.int yy), .val (.int (own_hm (own_g ks yy) (own_mk ks))), L6] [(.int (1 : Int32))])) _
            have w0 : (own_ps (own_hm (own_g ks yy) (own_mk ks)) ee yy) = (1 : Int32) := by unfold own_ps; rw [if_neg hc50, if_neg hc56]
            replace q := Eq.mp (congrArg (fun z => Steps p.tables e below (T13.setTop (mkF m 92 #[.val (.ref a), .val (.int sx), .val (.int (own_mk ks)), .val (.int ee), .val (.int yy), .val (.int (own_hm (own_g ks yy) (own_mk ks))), L6] [(.int z)])) t) w0) q
            exact q
      have k17_ : ∀ t, Steps p.tables e below (T13.setTop (mkF m 96 #[.val (.ref a), .val (.int sx), .val (.int (own_mk ks)), .val (.int ee), .val (.int yy), .val (.int (own_hm (own_g ks yy) (own_mk ks))), .val (.int (own_ps (own_hm (own_g ks yy) (own_mk ks)) ee yy))] [(.int (own_ps (own_hm (own_g ks yy) (own_mk ks)) ee yy))])) t → Steps p.tables e below (s₁.setTop (mkF m 24 #[.val (.ref a), .val (.int sx), .val (.int (own_mk ks)), .val (.int ee), .val (.int yy), L5, L6] [])) t := by
        intro t q
        refine k16_ _ ?_
        show Steps p.tables e below (T13.setTop (mkF m 92 #[.val (.ref a), .val (.int sx), .val (.int (own_mk ks)), .val (.int ee), .val (.int yy), .val (.int (own_hm (own_g ks yy) (own_mk ks))), L6] [(.int (own_ps (own_hm (own_g ks yy) (own_mk ks)) ee yy))])) _
        refine XS.istore X13.here hx rfl (hb hby d_prog_82_method_5_92) rfl (l' := #[.val (.ref a), .val (.int sx), .val (.int (own_mk ks)), .val (.int ee), .val (.int yy), .val (.int (own_hm (own_g ks yy) (own_mk ks))), .val (.int (own_ps (own_hm (own_g ks yy) (own_mk ks)) ee yy))]) (own_s6 h6) ?_
        show Steps p.tables e below (T13.setTop (mkF m 94 #[.val (.ref a), .val (.int sx), .val (.int (own_mk ks)), .val (.int ee), .val (.int yy), .val (.int (own_hm (own_g ks yy) (own_mk ks))), .val (.int (own_ps (own_hm (own_g ks yy) (own_mk ks)) ee yy))] [])) _
        refine XS.iload X13.here hx rfl (hb hby d_prog_82_method_5_94) rfl ?_
        show Steps p.tables e below (T13.setTop (mkF m 96 #[.val (.ref a), .val (.int sx), .val (.int (own_mk ks)), .val (.int ee), .val (.int yy), .val (.int (own_hm (own_g ks yy) (own_mk ks))), .val (.int (own_ps (own_hm (own_g ks yy) (own_mk ks)) ee yy))] [(.int (own_ps (own_hm (own_g ks yy) (own_mk ks)) ee yy))])) _
        exact q
      by_cases hcb : (own_ps (own_hm (own_g ks yy) (own_mk ks)) ee yy) = (0 : Int32)
      · rw [own_tk_1 hca hcb] at htk
        have KP := Keep.refl h0 [kb, cb]
        have k18_ : ∀ t, Steps p.tables e below (T13.setTop (mkF m 136 #[.val (.ref a), .val (.int sx), .val (.int (own_mk ks)), .val (.int ee), .val (.int yy), .val (.int (own_hm (own_g ks yy) (own_mk ks))), .val (.int (own_ps (own_hm (own_g ks yy) (own_mk ks)) ee yy))] [])) t → Steps p.tables e below (s₁.setTop (mkF m 24 #[.val (.ref a), .val (.int sx), .val (.int (own_mk ks)), .val (.int ee), .val (.int yy), L5, L6] [])) t := by
          intro t q
          refine k17_ _ ?_
          show Steps p.tables e below (T13.setTop (mkF m 96 #[.val (.ref a), .val (.int sx), .val (.int (own_mk ks)), .val (.int ee), .val (.int yy), .val (.int (own_hm (own_g ks yy) (own_mk ks))), .val (.int (own_ps (own_hm (own_g ks yy) (own_mk ks)) ee yy))] [(.int (own_ps (own_hm (own_g ks yy) (own_mk ks)) ee yy))])) _
          refine XS.ifYes X13.here hx rfl (pc0 := 96) (pc' := 136) rfl (hb hby d_prog_82_method_5_96) rfl ((if0 _ _).trans (teq hcb).1) (by decide) (by decide) ?_
          show Steps p.tables e below (T13.setTop (mkF m 136 #[.val (.ref a), .val (.int sx), .val (.int (own_mk ks)), .val (.int ee), .val (.int yy), .val (.int (own_hm (own_g ks yy) (own_mk ks))), .val (.int (own_ps (own_hm (own_g ks yy) (own_mk ks)) ee yy))] [])) _
          exact q
        have k19_ : ∀ t, Steps p.tables e below (T13.setTop (mkF m 24 #[.val (.ref a), .val (.int sx), .val (.int (own_mk ks)), .val (.int ee), .val (.int ((yy + (1 : Int32)) &&& (own_mk ks))), .val (.int (own_hm (own_g ks yy) (own_mk ks))), .val (.int (own_ps (own_hm (own_g ks yy) (own_mk ks)) ee yy))] [])) t → Steps p.tables e below (s₁.setTop (mkF m 24 #[.val (.ref a), .val (.int sx), .val (.int (own_mk ks)), .val (.int ee), .val (.int yy), L5, L6] [])) t := by
          intro t q
          refine k18_ _ ?_
          show Steps p.tables e below (T13.setTop (mkF m 136 #[.val (.ref a), .val (.int sx), .val (.int (own_mk ks)), .val (.int ee), .val (.int yy), .val (.int (own_hm (own_g ks yy) (own_mk ks))), .val (.int (own_ps (own_hm (own_g ks yy) (own_mk ks)) ee yy))] [])) _
          refine XS.iload X13.here hx rfl (hb hby d_prog_82_method_5_136) rfl ?_
          show Steps p.tables e below (T13.setTop (mkF m 138 #[.val (.ref a), .val (.int sx), .val (.int (own_mk ks)), .val (.int ee), .val (.int yy), .val (.int (own_hm (own_g ks yy) (own_mk ks))), .val (.int (own_ps (own_hm (own_g ks yy) (own_mk ks)) ee yy))] [(.int yy)])) _
          refine XS.iconst X13.here hx rfl (hb hby d_prog_82_method_5_138) ?_
          show Steps p.tables e below (T13.setTop (mkF m 139 #[.val (.ref a), .val (.int sx), .val (.int (own_mk ks)), .val (.int ee), .val (.int yy), .val (.int (own_hm (own_g ks yy) (own_mk ks))), .val (.int (own_ps (own_hm (own_g ks yy) (own_mk ks)) ee yy))] [(.int (1 : Int32)), (.int yy)])) _
          refine XS.iadd X13.here hx rfl (hb hby d_prog_82_method_5_139) rfl ?_
          show Steps p.tables e below (T13.setTop (mkF m 140 #[.val (.ref a), .val (.int sx), .val (.int (own_mk ks)), .val (.int ee), .val (.int yy), .val (.int (own_hm (own_g ks yy) (own_mk ks))), .val (.int (own_ps (own_hm (own_g ks yy) (own_mk ks)) ee yy))] [(.int (yy + (1 : Int32)))])) _
          refine XS.iloadN X13.here hx rfl (hb hby d_prog_82_method_5_140) rfl ?_
          show Steps p.tables e below (T13.setTop (mkF m 141 #[.val (.ref a), .val (.int sx), .val (.int (own_mk ks)), .val (.int ee), .val (.int yy), .val (.int (own_hm (own_g ks yy) (own_mk ks))), .val (.int (own_ps (own_hm (own_g ks yy) (own_mk ks)) ee yy))] [(.int (own_mk ks)), (.int (yy + (1 : Int32)))])) _
          refine XS.iand X13.here hx rfl (hb hby d_prog_82_method_5_141) rfl ?_
          show Steps p.tables e below (T13.setTop (mkF m 142 #[.val (.ref a), .val (.int sx), .val (.int (own_mk ks)), .val (.int ee), .val (.int yy), .val (.int (own_hm (own_g ks yy) (own_mk ks))), .val (.int (own_ps (own_hm (own_g ks yy) (own_mk ks)) ee yy))] [(.int ((yy + (1 : Int32)) &&& (own_mk ks)))])) _
          refine XS.istore X13.here hx rfl (hb hby d_prog_82_method_5_142) rfl (l' := #[.val (.ref a), .val (.int sx), .val (.int (own_mk ks)), .val (.int ee), .val (.int ((yy + (1 : Int32)) &&& (own_mk ks))), .val (.int (own_hm (own_g ks yy) (own_mk ks))), .val (.int (own_ps (own_hm (own_g ks yy) (own_mk ks)) ee yy))]) rfl ?_
          show Steps p.tables e below (T13.setTop (mkF m 144 #[.val (.ref a), .val (.int sx), .val (.int (own_mk ks)), .val (.int ee), .val (.int ((yy + (1 : Int32)) &&& (own_mk ks))), .val (.int (own_hm (own_g ks yy) (own_mk ks))), .val (.int (own_ps (own_hm (own_g ks yy) (own_mk ks)) ee yy))] [])) _
          refine XS.goto X13.here hx rfl (pc0 := 144) (pc' := 24) rfl (hb hby d_prog_82_method_5_144) (by decide) (by decide) ?_
          show Steps p.tables e below (T13.setTop (mkF m 24 #[.val (.ref a), .val (.int sx), .val (.int (own_mk ks)), .val (.int ee), .val (.int ((yy + (1 : Int32)) &&& (own_mk ks))), .val (.int (own_hm (own_g ks yy) (own_mk ks))), .val (.int (own_ps (own_hm (own_g ks yy) (own_mk ks)) ee yy))] [])) _
          exact q
        have k20_ : ∀ t, Steps p.tables e below (T13.setTop (mkF m 24 #[.val (.ref a), .val (.int sx), .val (.int (own_mk ks)), .val (.int ee), .val (.int (own_nx ks yy)), .val (.int (own_hm (own_g ks yy) (own_mk ks))), .val (.int (own_ps (own_hm (own_g ks yy) (own_mk ks)) ee yy))] [])) t → Steps p.tables e below (s₁.setTop (mkF m 24 #[.val (.ref a), .val (.int sx), .val (.int (own_mk ks)), .val (.int ee), .val (.int yy), L5, L6] [])) t := fun t q => k19_ t (Eq.mp (congrArg (fun z => Steps p.tables e below (T13.setTop (mkF m 24 #[.val (.ref a), .val (.int sx), .val (.int (own_mk ks)), .val (.int ee), .val (.int z), .val (.int (own_hm (own_g ks yy) (own_mk ks))), .val (.int (own_ps (own_hm (own_g ks yy) (own_mk ks)) ee yy))] [])) t) (show (own_nx ks yy) = ((yy + (1 : Int32)) &&& (own_mk ks)) from rfl)) q)
        replace hy := own_nr l4 yy
        obtain ⟨T', h', lc', cs', M2, M3, M4, M5, M6, X', e', N', K', VK', VC', hl', hF', st'⟩ := ih ks cs ee (own_nx ks yy) (.val (.int (own_hm (own_g ks yy) (own_mk ks)))) (.val (.int (own_ps (own_hm (own_g ks yy) (own_mk ks)) ee yy))) _ h0 _ X13 hq13 N13 Zn FK FC VK VC l4 hlen hF htk he hy (Or.inr ⟨_, rfl⟩) (Or.inr ⟨_, rfl⟩)
        exact ⟨T', h', lc', cs', M2, M3, M4, M5, M6, X', e', N', KP.trans K' (fun x hx => Or.inl hx), VK', VC', hl', hF', fun t q => k20_ t (st' t q)⟩
      · rw [own_tk_2 hca hcb] at htk
        have KP := Keep.refl h0 [kb, cb]
        have k21_ : ∀ t, Steps p.tables e below (T13.setTop (mkF m 99 #[.val (.ref a), .val (.int sx), .val (.int (own_mk ks)), .val (.int ee), .val (.int yy), .val (.int (own_hm (own_g ks yy) (own_mk ks))), .val (.int (own_ps (own_hm (own_g ks yy) (own_mk ks)) ee yy))] [])) t → Steps p.tables e below (s₁.setTop (mkF m 24 #[.val (.ref a), .val (.int sx), .val (.int (own_mk ks)), .val (.int ee), .val (.int yy), L5, L6] [])) t := by
          intro t q
          refine k17_ _ ?_
          show Steps p.tables e below (T13.setTop (mkF m 96 #[.val (.ref a), .val (.int sx), .val (.int (own_mk ks)), .val (.int ee), .val (.int yy), .val (.int (own_hm (own_g ks yy) (own_mk ks))), .val (.int (own_ps (own_hm (own_g ks yy) (own_mk ks)) ee yy))] [(.int (own_ps (own_hm (own_g ks yy) (own_mk ks)) ee yy))])) _
          refine XS.ifNo X13.here hx rfl (hb hby d_prog_82_method_5_96) rfl ((if0 _ _).trans (feq hcb).1) ?_
          show Steps p.tables e below (T13.setTop (mkF m 99 #[.val (.ref a), .val (.int sx), .val (.int (own_mk ks)), .val (.int ee), .val (.int yy), .val (.int (own_hm (own_g ks yy) (own_mk ks))), .val (.int (own_ps (own_hm (own_g ks yy) (own_mk ks)) ee yy))] [])) _
          exact q
        have k22_ : ∀ t, Steps p.tables e below (T13.setTop (mkF m 100 #[.val (.ref a), .val (.int sx), .val (.int (own_mk ks)), .val (.int ee), .val (.int yy), .val (.int (own_hm (own_g ks yy) (own_mk ks))), .val (.int (own_ps (own_hm (own_g ks yy) (own_mk ks)) ee yy))] [(.ref a)])) t → Steps p.tables e below (s₁.setTop (mkF m 24 #[.val (.ref a), .val (.int sx), .val (.int (own_mk ks)), .val (.int ee), .val (.int yy), L5, L6] [])) t := by
          intro t q
          refine k21_ _ ?_
          show Steps p.tables e below (T13.setTop (mkF m 99 #[.val (.ref a), .val (.int sx), .val (.int (own_mk ks)), .val (.int ee), .val (.int yy), .val (.int (own_hm (own_g ks yy) (own_mk ks))), .val (.int (own_ps (own_hm (own_g ks yy) (own_mk ks)) ee yy))] [])) _
          refine XS.aloadN X13.here hx rfl (hb hby d_prog_82_method_5_99) rfl rfl ?_
          show Steps p.tables e below (T13.setTop (mkF m 100 #[.val (.ref a), .val (.int sx), .val (.int (own_mk ks)), .val (.int ee), .val (.int yy), .val (.int (own_hm (own_g ks yy) (own_mk ks))), .val (.int (own_ps (own_hm (own_g ks yy) (own_mk ks)) ee yy))] [(.ref a)])) _
          exact q
        obtain ⟨T23, X23, e23, st23⟩ := getF X13 hx hZ hown (host := "") (Or.inl (hw _ (List.mem_of_getElem? (i := 46) rfl))) Via.refl hq13 FK (g := (mkF m 100 #[.val (.ref a), .val (.int sx), .val (.int (own_mk ks)), .val (.int ee), .val (.int yy), .val (.int (own_hm (own_g ks yy) (own_mk ks))), .val (.int (own_ps (own_hm (own_g ks yy) (own_mk ks)) ee yy))] [(.ref a)])) rfl rfl (hb hby d_prog_82_method_5_100)
        have k24_ : ∀ t, Steps p.tables e below (T23.setTop (mkF m 103 #[.val (.ref a), .val (.int sx), .val (.int (own_mk ks)), .val (.int ee), .val (.int yy), .val (.int (own_hm (own_g ks yy) (own_mk ks))), .val (.int (own_ps (own_hm (own_g ks yy) (own_mk ks)) ee yy))] [(.ref kb)])) t → Steps p.tables e below (s₁.setTop (mkF m 24 #[.val (.ref a), .val (.int sx), .val (.int (own_mk ks)), .val (.int ee), .val (.int yy), L5, L6] [])) t := fun t q => k22_ t (st23 t q)
        have k25_ : ∀ t, Steps p.tables e below (T23.setTop (mkF m 105 #[.val (.ref a), .val (.int sx), .val (.int (own_mk ks)), .val (.int ee), .val (.int yy), .val (.int (own_hm (own_g ks yy) (own_mk ks))), .val (.int (own_ps (own_hm (own_g ks yy) (own_mk ks)) ee yy))] [(.ref a), (.int ee), (.ref kb)])) t → Steps p.tables e below (s₁.setTop (mkF m 24 #[.val (.ref a), .val (.int sx), .val (.int (own_mk ks)), .val (.int ee), .val (.int yy), L5, L6] [])) t := by
          intro t q
          refine k24_ _ ?_
          show Steps p.tables e below (T23.setTop (mkF m 103 #[.val (.ref a), .val (.int sx), .val (.int (own_mk ks)), .val (.int ee), .val (.int yy), .val (.int (own_hm (own_g ks yy) (own_mk ks))), .val (.int (own_ps (own_hm (own_g ks yy) (own_mk ks)) ee yy))] [(.ref kb)])) _
          refine XS.iloadN X23.here hx rfl (hb hby d_prog_82_method_5_103) rfl ?_
          show Steps p.tables e below (T23.setTop (mkF m 104 #[.val (.ref a), .val (.int sx), .val (.int (own_mk ks)), .val (.int ee), .val (.int yy), .val (.int (own_hm (own_g ks yy) (own_mk ks))), .val (.int (own_ps (own_hm (own_g ks yy) (own_mk ks)) ee yy))] [(.int ee), (.ref kb)])) _
          refine XS.aloadN X23.here hx rfl (hb hby d_prog_82_method_5_104) rfl rfl ?_
          show Steps p.tables e below (T23.setTop (mkF m 105 #[.val (.ref a), .val (.int sx), .val (.int (own_mk ks)), .val (.int ee), .val (.int yy), .val (.int (own_hm (own_g ks yy) (own_mk ks))), .val (.int (own_ps (own_hm (own_g ks yy) (own_mk ks)) ee yy))] [(.ref a), (.int ee), (.ref kb)])) _
          exact q
        obtain ⟨T26, X26, e26, st26⟩ := getF X23 hx hZ hown (host := "") (Or.inl (hw _ (List.mem_of_getElem? (i := 46) rfl))) Via.refl e23 FK (g := (mkF m 105 #[.val (.ref a), .val (.int sx), .val (.int (own_mk ks)), .val (.int ee), .val (.int yy), .val (.int (own_hm (own_g ks yy) (own_mk ks))), .val (.int (own_ps (own_hm (own_g ks yy) (own_mk ks)) ee yy))] [(.ref a), (.int ee), (.ref kb)])) rfl rfl (hb hby d_prog_82_method_5_105)
        have k27_ : ∀ t, Steps p.tables e below (T26.setTop (mkF m 108 #[.val (.ref a), .val (.int sx), .val (.int (own_mk ks)), .val (.int ee), .val (.int yy), .val (.int (own_hm (own_g ks yy) (own_mk ks))), .val (.int (own_ps (own_hm (own_g ks yy) (own_mk ks)) ee yy))] [(.ref kb), (.int ee), (.ref kb)])) t → Steps p.tables e below (s₁.setTop (mkF m 24 #[.val (.ref a), .val (.int sx), .val (.int (own_mk ks)), .val (.int ee), .val (.int yy), L5, L6] [])) t := fun t q => k25_ t (st26 t q)
        obtain ⟨cl28, Ar28, q28, S28, M28, H28, G28⟩ := id VK
        have k29_ : ∀ t, Steps p.tables e below (T26.setTop (mkF m 111 #[.val (.ref a), .val (.int sx), .val (.int (own_mk ks)), .val (.int ee), .val (.int yy), .val (.int (own_hm (own_g ks yy) (own_mk ks))), .val (.int (own_ps (own_hm (own_g ks yy) (own_mk ks)) ee yy))] [(.int (own_g ks yy)), (.int ee), (.ref kb)])) t → Steps p.tables e below (s₁.setTop (mkF m 24 #[.val (.ref a), .val (.int sx), .val (.int (own_mk ks)), .val (.int ee), .val (.int yy), L5, L6] [])) t := by
          intro t q
          refine k27_ _ ?_
          show Steps p.tables e below (T26.setTop (mkF m 108 #[.val (.ref a), .val (.int sx), .val (.int (own_mk ks)), .val (.int ee), .val (.int yy), .val (.int (own_hm (own_g ks yy) (own_mk ks))), .val (.int (own_ps (own_hm (own_g ks yy) (own_mk ks)) ee yy))] [(.ref kb), (.int ee), (.ref kb)])) _
          refine XS.iload X26.here hx rfl (hb hby d_prog_82_method_5_108) rfl ?_
          show Steps p.tables e below (T26.setTop (mkF m 110 #[.val (.ref a), .val (.int sx), .val (.int (own_mk ks)), .val (.int ee), .val (.int yy), .val (.int (own_hm (own_g ks yy) (own_mk ks))), .val (.int (own_ps (own_hm (own_g ks yy) (own_mk ks)) ee yy))] [(.int yy), (.ref kb), (.int ee), (.ref kb)])) _
          refine X26.iaload hx (j := yy) (v := (.int (own_g ks yy))) (by rw [e26]; exact Ar28.1) (State.isArrayOf_alike hZ.alike Ar28.2.1) Ar28.2.2 (inb_of S28 hy) (Has.at H28 (inb_of S28 hy) (own_gd _ _)) (g := (mkF m 110 #[.val (.ref a), .val (.int sx), .val (.int (own_mk ks)), .val (.int ee), .val (.int yy), .val (.int (own_hm (own_g ks yy) (own_mk ks))), .val (.int (own_ps (own_hm (own_g ks yy) (own_mk ks)) ee yy))] [(.int yy), (.ref kb), (.int ee), (.ref kb)])) rfl rfl (hb hby d_prog_82_method_5_110) _ ?_
          show Steps p.tables e below (T26.setTop (mkF m 111 #[.val (.ref a), .val (.int sx), .val (.int (own_mk ks)), .val (.int ee), .val (.int yy), .val (.int (own_hm (own_g ks yy) (own_mk ks))), .val (.int (own_ps (own_hm (own_g ks yy) (own_mk ks)) ee yy))] [(.int (own_g ks yy)), (.int ee), (.ref kb)])) _
          exact q
        obtain ⟨cl30, Ar30, q30, S30, M30, H30, G30⟩ := VK
        obtain ⟨T31, h31, X31, e31, W31, st31⟩ := stI X26 hx hZ e26 Ar30 (j := ee) (inb_of S30 he) (g := (mkF m 111 #[.val (.ref a), .val (.int sx), .val (.int (own_mk ks)), .val (.int ee), .val (.int yy), .val (.int (own_hm (own_g ks yy) (own_mk ks))), .val (.int (own_ps (own_hm (own_g ks yy) (own_mk ks)) ee yy))] [(.int (own_g ks yy)), (.int ee), (.ref kb)])) rfl rfl (hb hby d_prog_82_method_5_111)
        have k32_ : ∀ t, Steps p.tables e below (T31.setTop (mkF m 112 #[.val (.ref a), .val (.int sx), .val (.int (own_mk ks)), .val (.int ee), .val (.int yy), .val (.int (own_hm (own_g ks yy) (own_mk ks))), .val (.int (own_ps (own_hm (own_g ks yy) (own_mk ks)) ee yy))] [])) t → Steps p.tables e below (s₁.setTop (mkF m 24 #[.val (.ref a), .val (.int sx), .val (.int (own_mk ks)), .val (.int ee), .val (.int yy), L5, L6] [])) t := fun t q => k29_ t (st31 t q)
        have N31 := Fr.snoc X31 N13 g2
        replace Zn := Nat.le_trans Zn (Keep.of_wr W31).1
        replace FK := FK.other W31 (Or.inl n1)
        replace FC := FC.other W31 (Or.inl n1)
        replace VC := VC.other W31 (Ne.symm n3)
        have VK : Arv Z h31 kb kK .int (own_ln ks) ((ks.set (ee).toNatClampNeg (own_g ks yy)).map Value.int) (.int 0) := by rw [List.map_set]; exact Arv.set Ar30 q30 S30 M30 H30 G30 rfl W31 _ rfl (own_rgm l4 he)
        replace KP := KP.wr W31 (Or.inl (List.mem_of_getElem? (i := 0) rfl))
        have k33_ : ∀ t, Steps p.tables e below (T31.setTop (mkF m 113 #[.val (.ref a), .val (.int sx), .val (.int (own_mk ks)), .val (.int ee), .val (.int yy), .val (.int (own_hm (own_g ks yy) (own_mk ks))), .val (.int (own_ps (own_hm (own_g ks yy) (own_mk ks)) ee yy))] [(.ref a)])) t → Steps p.tables e below (s₁.setTop (mkF m 24 #[.val (.ref a), .val (.int sx), .val (.int (own_mk ks)), .val (.int ee), .val (.int yy), L5, L6] [])) t := by
          intro t q
          refine k32_ _ ?_
          show Steps p.tables e below (T31.setTop (mkF m 112 #[.val (.ref a), .val (.int sx), .val (.int (own_mk ks)), .val (.int ee), .val (.int yy), .val (.int (own_hm (own_g ks yy) (own_mk ks))), .val (.int (own_ps (own_hm (own_g ks yy) (own_mk ks)) ee yy))] [])) _
          refine XS.aloadN X31.here hx rfl (hb hby d_prog_82_method_5_112) rfl rfl ?_
          show Steps p.tables e below (T31.setTop (mkF m 113 #[.val (.ref a), .val (.int sx), .val (.int (own_mk ks)), .val (.int ee), .val (.int yy), .val (.int (own_hm (own_g ks yy) (own_mk ks))), .val (.int (own_ps (own_hm (own_g ks yy) (own_mk ks)) ee yy))] [(.ref a)])) _
          exact q
        obtain ⟨T34, X34, e34, st34⟩ := getF X31 hx hZ hown (host := "") (Or.inl (hw _ (List.mem_of_getElem? (i := 48) rfl))) Via.refl e31 FC (g := (mkF m 113 #[.val (.ref a), .val (.int sx), .val (.int (own_mk ks)), .val (.int ee), .val (.int yy), .val (.int (own_hm (own_g ks yy) (own_mk ks))), .val (.int (own_ps (own_hm (own_g ks yy) (own_mk ks)) ee yy))] [(.ref a)])) rfl rfl (hb hby d_prog_82_method_5_113)
        have k35_ : ∀ t, Steps p.tables e below (T34.setTop (mkF m 116 #[.val (.ref a), .val (.int sx), .val (.int (own_mk ks)), .val (.int ee), .val (.int yy), .val (.int (own_hm (own_g ks yy) (own_mk ks))), .val (.int (own_ps (own_hm (own_g ks yy) (own_mk ks)) ee yy))] [(.ref cb)])) t → Steps p.tables e below (s₁.setTop (mkF m 24 #[.val (.ref a), .val (.int sx), .val (.int (own_mk ks)), .val (.int ee), .val (.int yy), L5, L6] [])) t := fun t q => k33_ t (st34 t q)
        have k36_ : ∀ t, Steps p.tables e below (T34.setTop (mkF m 118 #[.val (.ref a), .val (.int sx), .val (.int (own_mk ks)), .val (.int ee), .val (.int yy), .val (.int (own_hm (own_g ks yy) (own_mk ks))), .val (.int (own_ps (own_hm (own_g ks yy) (own_mk ks)) ee yy))] [(.ref a), (.int ee), (.ref cb)])) t → Steps p.tables e below (s₁.setTop (mkF m 24 #[.val (.ref a), .val (.int sx), .val (.int (own_mk ks)), .val (.int ee), .val (.int yy), L5, L6] [])) t := by
          intro t q
          refine k35_ _ ?_
          show Steps p.tables e below (T34.setTop (mkF m 116 #[.val (.ref a), .val (.int sx), .val (.int (own_mk ks)), .val (.int ee), .val (.int yy), .val (.int (own_hm (own_g ks yy) (own_mk ks))), .val (.int (own_ps (own_hm (own_g ks yy) (own_mk ks)) ee yy))] [(.ref cb)])) _
          refine XS.iloadN X34.here hx rfl (hb hby d_prog_82_method_5_116) rfl ?_
          show Steps p.tables e below (T34.setTop (mkF m 117 #[.val (.ref a), .val (.int sx), .val (.int (own_mk ks)), .val (.int ee), .val (.int yy), .val (.int (own_hm (own_g ks yy) (own_mk ks))), .val (.int (own_ps (own_hm (own_g ks yy) (own_mk ks)) ee yy))] [(.int ee), (.ref cb)])) _
          refine XS.aloadN X34.here hx rfl (hb hby d_prog_82_method_5_117) rfl rfl ?_
          show Steps p.tables e below (T34.setTop (mkF m 118 #[.val (.ref a), .val (.int sx), .val (.int (own_mk ks)), .val (.int ee), .val (.int yy), .val (.int (own_hm (own_g ks yy) (own_mk ks))), .val (.int (own_ps (own_hm (own_g ks yy) (own_mk ks)) ee yy))] [(.ref a), (.int ee), (.ref cb)])) _
          exact q
        obtain ⟨T37, X37, e37, st37⟩ := getF X34 hx hZ hown (host := "") (Or.inl (hw _ (List.mem_of_getElem? (i := 48) rfl))) Via.refl e34 FC (g := (mkF m 118 #[.val (.ref a), .val (.int sx), .val (.int (own_mk ks)), .val (.int ee), .val (.int yy), .val (.int (own_hm (own_g ks yy) (own_mk ks))), .val (.int (own_ps (own_hm (own_g ks yy) (own_mk ks)) ee yy))] [(.ref a), (.int ee), (.ref cb)])) rfl rfl (hb hby d_prog_82_method_5_118)
        have k38_ : ∀ t, Steps p.tables e below (T37.setTop (mkF m 121 #[.val (.ref a), .val (.int sx), .val (.int (own_mk ks)), .val (.int ee), .val (.int yy), .val (.int (own_hm (own_g ks yy) (own_mk ks))), .val (.int (own_ps (own_hm (own_g ks yy) (own_mk ks)) ee yy))] [(.ref cb), (.int ee), (.ref cb)])) t → Steps p.tables e below (s₁.setTop (mkF m 24 #[.val (.ref a), .val (.int sx), .val (.int (own_mk ks)), .val (.int ee), .val (.int yy), L5, L6] [])) t := fun t q => k36_ t (st37 t q)
        obtain ⟨cl39, Ar39, q39, S39, M39, H39, G39⟩ := id VC
        have k40_ : ∀ t, Steps p.tables e below (T37.setTop (mkF m 124 #[.val (.ref a), .val (.int sx), .val (.int (own_mk ks)), .val (.int ee), .val (.int yy), .val (.int (own_hm (own_g ks yy) (own_mk ks))), .val (.int (own_ps (own_hm (own_g ks yy) (own_mk ks)) ee yy))] [(.int (own_g cs yy)), (.int ee), (.ref cb)])) t → Steps p.tables e below (s₁.setTop (mkF m 24 #[.val (.ref a), .val (.int sx), .val (.int (own_mk ks)), .val (.int ee), .val (.int yy), L5, L6] [])) t := by
          intro t q
          refine k38_ _ ?_
          show Steps p.tables e below (T37.setTop (mkF m 121 #[.val (.ref a), .val (.int sx), .val (.int (own_mk ks)), .val (.int ee), .val (.int yy), .val (.int (own_hm (own_g ks yy) (own_mk ks))), .val (.int (own_ps (own_hm (own_g ks yy) (own_mk ks)) ee yy))] [(.ref cb), (.int ee), (.ref cb)])) _
          refine XS.iload X37.here hx rfl (hb hby d_prog_82_method_5_121) rfl ?_
          show Steps p.tables e below (T37.setTop (mkF m 123 #[.val (.ref a), .val (.int sx), .val (.int (own_mk ks)), .val (.int ee), .val (.int yy), .val (.int (own_hm (own_g ks yy) (own_mk ks))), .val (.int (own_ps (own_hm (own_g ks yy) (own_mk ks)) ee yy))] [(.int yy), (.ref cb), (.int ee), (.ref cb)])) _
          refine X37.iaload hx (j := yy) (v := (.int (own_g cs yy))) (by rw [e37]; exact Ar39.1) (State.isArrayOf_alike hZ.alike Ar39.2.1) Ar39.2.2 (inb_of S39 hy) (Has.at H39 (inb_of S39 hy) (own_gd _ _)) (g := (mkF m 123 #[.val (.ref a), .val (.int sx), .val (.int (own_mk ks)), .val (.int ee), .val (.int yy), .val (.int (own_hm (own_g ks yy) (own_mk ks))), .val (.int (own_ps (own_hm (own_g ks yy) (own_mk ks)) ee yy))] [(.int yy), (.ref cb), (.int ee), (.ref cb)])) rfl rfl (hb hby d_prog_82_method_5_123) _ ?_
          show Steps p.tables e below (T37.setTop (mkF m 124 #[.val (.ref a), .val (.int sx), .val (.int (own_mk ks)), .val (.int ee), .val (.int yy), .val (.int (own_hm (own_g ks yy) (own_mk ks))), .val (.int (own_ps (own_hm (own_g ks yy) (own_mk ks)) ee yy))] [(.int (own_g cs yy)), (.int ee), (.ref cb)])) _
          exact q
        obtain ⟨cl41, Ar41, q41, S41, M41, H41, G41⟩ := VC
        obtain ⟨T42, h42, X42, e42, W42, st42⟩ := stI X37 hx hZ e37 Ar41 (j := ee) (inb_of S41 he) (g := (mkF m 124 #[.val (.ref a), .val (.int sx), .val (.int (own_mk ks)), .val (.int ee), .val (.int yy), .val (.int (own_hm (own_g ks yy) (own_mk ks))), .val (.int (own_ps (own_hm (own_g ks yy) (own_mk ks)) ee yy))] [(.int (own_g cs yy)), (.int ee), (.ref cb)])) rfl rfl (hb hby d_prog_82_method_5_124)
        have k43_ : ∀ t, Steps p.tables e below (T42.setTop (mkF m 125 #[.val (.ref a), .val (.int sx), .val (.int (own_mk ks)), .val (.int ee), .val (.int yy), .val (.int (own_hm (own_g ks yy) (own_mk ks))), .val (.int (own_ps (own_hm (own_g ks yy) (own_mk ks)) ee yy))] [])) t → Steps p.tables e below (s₁.setTop (mkF m 24 #[.val (.ref a), .val (.int sx), .val (.int (own_mk ks)), .val (.int ee), .val (.int yy), L5, L6] [])) t := fun t q => k40_ t (st42 t q)
        have N42 := Fr.snoc X42 N31 g3
        replace Zn := Nat.le_trans Zn (Keep.of_wr W42).1
        replace FK := FK.other W42 (Or.inl n2)
        replace FC := FC.other W42 (Or.inl n2)
        replace VK := VK.other W42 n3
        have VC : Arv Z h42 cb kC .int (own_ln ks) ((cs.set (ee).toNatClampNeg (own_g cs yy)).map Value.int) (.int 0) := by rw [List.map_set]; exact Arv.set Ar41 q41 S41 M41 H41 G41 rfl W42 _ rfl (by rw [List.length_map, hlen]; exact own_rg l4 he)
        replace KP := KP.wr W42 (Or.inl (List.mem_of_getElem? (i := 1) rfl))
        have k44_ : ∀ t, Steps p.tables e below (T42.setTop (mkF m 126 #[.val (.ref a), .val (.int sx), .val (.int (own_mk ks)), .val (.int ee), .val (.int yy), .val (.int (own_hm (own_g ks yy) (own_mk ks))), .val (.int (own_ps (own_hm (own_g ks yy) (own_mk ks)) ee yy))] [(.ref a)])) t → Steps p.tables e below (s₁.setTop (mkF m 24 #[.val (.ref a), .val (.int sx), .val (.int (own_mk ks)), .val (.int ee), .val (.int yy), L5, L6] [])) t := by
          intro t q
          refine k43_ _ ?_
          show Steps p.tables e below (T42.setTop (mkF m 125 #[.val (.ref a), .val (.int sx), .val (.int (own_mk ks)), .val (.int ee), .val (.int yy), .val (.int (own_hm (own_g ks yy) (own_mk ks))), .val (.int (own_ps (own_hm (own_g ks yy) (own_mk ks)) ee yy))] [])) _
          refine XS.aloadN X42.here hx rfl (hb hby d_prog_82_method_5_125) rfl rfl ?_
          show Steps p.tables e below (T42.setTop (mkF m 126 #[.val (.ref a), .val (.int sx), .val (.int (own_mk ks)), .val (.int ee), .val (.int yy), .val (.int (own_hm (own_g ks yy) (own_mk ks))), .val (.int (own_ps (own_hm (own_g ks yy) (own_mk ks)) ee yy))] [(.ref a)])) _
          exact q
        obtain ⟨T45, X45, e45, st45⟩ := getF X42 hx hZ hown (host := "") (Or.inl (hw _ (List.mem_of_getElem? (i := 46) rfl))) Via.refl e42 FK (g := (mkF m 126 #[.val (.ref a), .val (.int sx), .val (.int (own_mk ks)), .val (.int ee), .val (.int yy), .val (.int (own_hm (own_g ks yy) (own_mk ks))), .val (.int (own_ps (own_hm (own_g ks yy) (own_mk ks)) ee yy))] [(.ref a)])) rfl rfl (hb hby d_prog_82_method_5_126)
        have k46_ : ∀ t, Steps p.tables e below (T45.setTop (mkF m 129 #[.val (.ref a), .val (.int sx), .val (.int (own_mk ks)), .val (.int ee), .val (.int yy), .val (.int (own_hm (own_g ks yy) (own_mk ks))), .val (.int (own_ps (own_hm (own_g ks yy) (own_mk ks)) ee yy))] [(.ref kb)])) t → Steps p.tables e below (s₁.setTop (mkF m 24 #[.val (.ref a), .val (.int sx), .val (.int (own_mk ks)), .val (.int ee), .val (.int yy), L5, L6] [])) t := fun t q => k44_ t (st45 t q)
        have k47_ : ∀ t, Steps p.tables e below (T45.setTop (mkF m 132 #[.val (.ref a), .val (.int sx), .val (.int (own_mk ks)), .val (.int ee), .val (.int yy), .val (.int (own_hm (own_g ks yy) (own_mk ks))), .val (.int (own_ps (own_hm (own_g ks yy) (own_mk ks)) ee yy))] [(.int (-1 : Int32)), (.int yy), (.ref kb)])) t → Steps p.tables e below (s₁.setTop (mkF m 24 #[.val (.ref a), .val (.int sx), .val (.int (own_mk ks)), .val (.int ee), .val (.int yy), L5, L6] [])) t := by
          intro t q
          refine k46_ _ ?_
          show Steps p.tables e below (T45.setTop (mkF m 129 #[.val (.ref a), .val (.int sx), .val (.int (own_mk ks)), .val (.int ee), .val (.int yy), .val (.int (own_hm (own_g ks yy) (own_mk ks))), .val (.int (own_ps (own_hm (own_g ks yy) (own_mk ks)) ee yy))] [(.ref kb)])) _
          refine XS.iload X45.here hx rfl (hb hby d_prog_82_method_5_129) rfl ?_
          show Steps p.tables e below (T45.setTop (mkF m 131 #[.val (.ref a), .val (.int sx), .val (.int (own_mk ks)), .val (.int ee), .val (.int yy), .val (.int (own_hm (own_g ks yy) (own_mk ks))), .val (.int (own_ps (own_hm (own_g ks yy) (own_mk ks)) ee yy))] [(.int yy), (.ref kb)])) _
          refine XS.iconst X45.here hx rfl (hb hby d_prog_82_method_5_131) ?_
          show Steps p.tables e below (T45.setTop (mkF m 132 #[.val (.ref a), .val (.int sx), .val (.int (own_mk ks)), .val (.int ee), .val (.int yy), .val (.int (own_hm (own_g ks yy) (own_mk ks))), .val (.int (own_ps (own_hm (own_g ks yy) (own_mk ks)) ee yy))] [(.int (-1 : Int32)), (.int yy), (.ref kb)])) _
          exact q
        obtain ⟨cl48, Ar48, q48, S48, M48, H48, G48⟩ := VK
        obtain ⟨T49, h49, X49, e49, W49, st49⟩ := stI X45 hx hZ e45 Ar48 (j := yy) (inb_of S48 hy) (g := (mkF m 132 #[.val (.ref a), .val (.int sx), .val (.int (own_mk ks)), .val (.int ee), .val (.int yy), .val (.int (own_hm (own_g ks yy) (own_mk ks))), .val (.int (own_ps (own_hm (own_g ks yy) (own_mk ks)) ee yy))] [(.int (-1 : Int32)), (.int yy), (.ref kb)])) rfl rfl (hb hby d_prog_82_method_5_132)
        have k50_ : ∀ t, Steps p.tables e below (T49.setTop (mkF m 133 #[.val (.ref a), .val (.int sx), .val (.int (own_mk ks)), .val (.int ee), .val (.int yy), .val (.int (own_hm (own_g ks yy) (own_mk ks))), .val (.int (own_ps (own_hm (own_g ks yy) (own_mk ks)) ee yy))] [])) t → Steps p.tables e below (s₁.setTop (mkF m 24 #[.val (.ref a), .val (.int sx), .val (.int (own_mk ks)), .val (.int ee), .val (.int yy), L5, L6] [])) t := fun t q => k47_ t (st49 t q)
        have N49 := Fr.snoc X49 N42 g2
        replace Zn := Nat.le_trans Zn (Keep.of_wr W49).1
        replace FK := FK.other W49 (Or.inl n1)
        replace FC := FC.other W49 (Or.inl n1)
        replace VC := VC.other W49 (Ne.symm n3)
        have VK : Arv Z h49 kb kK .int (own_ln ks) (((ks.set (ee).toNatClampNeg (own_g ks yy)).set (yy).toNatClampNeg (-1 : Int32)).map Value.int) (.int 0) := by rw [List.map_set]; exact Arv.set Ar48 q48 S48 M48 H48 G48 rfl W49 _ rfl (by rw [List.length_map, List.length_set]; exact own_rg l4 hy)
        replace KP := KP.wr W49 (Or.inl (List.mem_of_getElem? (i := 0) rfl))
        have k51_ : ∀ t, Steps p.tables e below (T49.setTop (mkF m 24 #[.val (.ref a), .val (.int sx), .val (.int (own_mk ks)), .val (.int yy), .val (.int ((yy + (1 : Int32)) &&& (own_mk ks))), .val (.int (own_hm (own_g ks yy) (own_mk ks))), .val (.int (own_ps (own_hm (own_g ks yy) (own_mk ks)) ee yy))] [])) t → Steps p.tables e below (s₁.setTop (mkF m 24 #[.val (.ref a), .val (.int sx), .val (.int (own_mk ks)), .val (.int ee), .val (.int yy), L5, L6] [])) t := by
          intro t q
          refine k50_ _ ?_
          show Steps p.tables e below (T49.setTop (mkF m 133 #[.val (.ref a), .val (.int sx), .val (.int (own_mk ks)), .val (.int ee), .val (.int yy), .val (.int (own_hm (own_g ks yy) (own_mk ks))), .val (.int (own_ps (own_hm (own_g ks yy) (own_mk ks)) ee yy))] [])) _
          refine XS.iload X49.here hx rfl (hb hby d_prog_82_method_5_133) rfl ?_
          show Steps p.tables e below (T49.setTop (mkF m 135 #[.val (.ref a), .val (.int sx), .val (.int (own_mk ks)), .val (.int ee), .val (.int yy), .val (.int (own_hm (own_g ks yy) (own_mk ks))), .val (.int (own_ps (own_hm (own_g ks yy) (own_mk ks)) ee yy))] [(.int yy)])) _
          refine XS.istoreN X49.here hx rfl (hb hby d_prog_82_method_5_135) rfl (l' := #[.val (.ref a), .val (.int sx), .val (.int (own_mk ks)), .val (.int yy), .val (.int yy), .val (.int (own_hm (own_g ks yy) (own_mk ks))), .val (.int (own_ps (own_hm (own_g ks yy) (own_mk ks)) ee yy))]) rfl ?_
          show Steps p.tables e below (T49.setTop (mkF m 136 #[.val (.ref a), .val (.int sx), .val (.int (own_mk ks)), .val (.int yy), .val (.int yy), .val (.int (own_hm (own_g ks yy) (own_mk ks))), .val (.int (own_ps (own_hm (own_g ks yy) (own_mk ks)) ee yy))] [])) _
          refine XS.iload X49.here hx rfl (hb hby d_prog_82_method_5_136) rfl ?_
          show Steps p.tables e below (T49.setTop (mkF m 138 #[.val (.ref a), .val (.int sx), .val (.int (own_mk ks)), .val (.int yy), .val (.int yy), .val (.int (own_hm (own_g ks yy) (own_mk ks))), .val (.int (own_ps (own_hm (own_g ks yy) (own_mk ks)) ee yy))] [(.int yy)])) _
          refine XS.iconst X49.here hx rfl (hb hby d_prog_82_method_5_138) ?_
          show Steps p.tables e below (T49.setTop (mkF m 139 #[.val (.ref a), .val (.int sx), .val (.int (own_mk ks)), .val (.int yy), .val (.int yy), .val (.int (own_hm (own_g ks yy) (own_mk ks))), .val (.int (own_ps (own_hm (own_g ks yy) (own_mk ks)) ee yy))] [(.int (1 : Int32)), (.int yy)])) _
          refine XS.iadd X49.here hx rfl (hb hby d_prog_82_method_5_139) rfl ?_
          show Steps p.tables e below (T49.setTop (mkF m 140 #[.val (.ref a), .val (.int sx), .val (.int (own_mk ks)), .val (.int yy), .val (.int yy), .val (.int (own_hm (own_g ks yy) (own_mk ks))), .val (.int (own_ps (own_hm (own_g ks yy) (own_mk ks)) ee yy))] [(.int (yy + (1 : Int32)))])) _
          refine XS.iloadN X49.here hx rfl (hb hby d_prog_82_method_5_140) rfl ?_
          show Steps p.tables e below (T49.setTop (mkF m 141 #[.val (.ref a), .val (.int sx), .val (.int (own_mk ks)), .val (.int yy), .val (.int yy), .val (.int (own_hm (own_g ks yy) (own_mk ks))), .val (.int (own_ps (own_hm (own_g ks yy) (own_mk ks)) ee yy))] [(.int (own_mk ks)), (.int (yy + (1 : Int32)))])) _
          refine XS.iand X49.here hx rfl (hb hby d_prog_82_method_5_141) rfl ?_
          show Steps p.tables e below (T49.setTop (mkF m 142 #[.val (.ref a), .val (.int sx), .val (.int (own_mk ks)), .val (.int yy), .val (.int yy), .val (.int (own_hm (own_g ks yy) (own_mk ks))), .val (.int (own_ps (own_hm (own_g ks yy) (own_mk ks)) ee yy))] [(.int ((yy + (1 : Int32)) &&& (own_mk ks)))])) _
          refine XS.istore X49.here hx rfl (hb hby d_prog_82_method_5_142) rfl (l' := #[.val (.ref a), .val (.int sx), .val (.int (own_mk ks)), .val (.int yy), .val (.int ((yy + (1 : Int32)) &&& (own_mk ks))), .val (.int (own_hm (own_g ks yy) (own_mk ks))), .val (.int (own_ps (own_hm (own_g ks yy) (own_mk ks)) ee yy))]) rfl ?_
          show Steps p.tables e below (T49.setTop (mkF m 144 #[.val (.ref a), .val (.int sx), .val (.int (own_mk ks)), .val (.int yy), .val (.int ((yy + (1 : Int32)) &&& (own_mk ks))), .val (.int (own_hm (own_g ks yy) (own_mk ks))), .val (.int (own_ps (own_hm (own_g ks yy) (own_mk ks)) ee yy))] [])) _
          refine XS.goto X49.here hx rfl (pc0 := 144) (pc' := 24) rfl (hb hby d_prog_82_method_5_144) (by decide) (by decide) ?_
          show Steps p.tables e below (T49.setTop (mkF m 24 #[.val (.ref a), .val (.int sx), .val (.int (own_mk ks)), .val (.int yy), .val (.int ((yy + (1 : Int32)) &&& (own_mk ks))), .val (.int (own_hm (own_g ks yy) (own_mk ks))), .val (.int (own_ps (own_hm (own_g ks yy) (own_mk ks)) ee yy))] [])) _
          exact q
        have k52_ : ∀ t, Steps p.tables e below (T49.setTop (mkF m 24 #[.val (.ref a), .val (.int sx), .val (.int (own_mk ks)), .val (.int yy), .val (.int (own_nx ks yy)), .val (.int (own_hm (own_g ks yy) (own_mk ks))), .val (.int (own_ps (own_hm (own_g ks yy) (own_mk ks)) ee yy))] [])) t → Steps p.tables e below (s₁.setTop (mkF m 24 #[.val (.ref a), .val (.int sx), .val (.int (own_mk ks)), .val (.int ee), .val (.int yy), L5, L6] [])) t := fun t q => k51_ t (Eq.mp (congrArg (fun z => Steps p.tables e below (T49.setTop (mkF m 24 #[.val (.ref a), .val (.int sx), .val (.int (own_mk ks)), .val (.int yy), .val (.int z), .val (.int (own_hm (own_g ks yy) (own_mk ks))), .val (.int (own_ps (own_hm (own_g ks yy) (own_mk ks)) ee yy))] [])) t) (show (own_nx ks yy) = ((yy + (1 : Int32)) &&& (own_mk ks)) from rfl)) q)
        have k53_ : ∀ t, Steps p.tables e below (T49.setTop (mkF m 24 #[.val (.ref a), .val (.int sx), .val (.int (own_mk ((ks.set (ee).toNatClampNeg (own_g ks yy)).set (yy).toNatClampNeg (-1 : Int32)))), .val (.int yy), .val (.int (own_nx ks yy)), .val (.int (own_hm (own_g ks yy) (own_mk ks))), .val (.int (own_ps (own_hm (own_g ks yy) (own_mk ks)) ee yy))] [])) t → Steps p.tables e below (s₁.setTop (mkF m 24 #[.val (.ref a), .val (.int sx), .val (.int (own_mk ks)), .val (.int ee), .val (.int yy), L5, L6] [])) t := fun t q => k52_ t (Eq.mp (congrArg (fun z => Steps p.tables e below (T49.setTop (mkF m 24 #[.val (.ref a), .val (.int sx), .val (.int z), .val (.int yy), .val (.int (own_nx ks yy)), .val (.int (own_hm (own_g ks yy) (own_mk ks))), .val (.int (own_ps (own_hm (own_g ks yy) (own_mk ks)) ee yy))] [])) t) (show (own_mk ((ks.set (ee).toNatClampNeg (own_g ks yy)).set (yy).toNatClampNeg (-1 : Int32))) = (own_mk ks) from (by rw [own_mk_set, own_mk_set]))) q)
        have hF2 : own_C F ((ks.set (ee).toNatClampNeg (own_g ks yy)).set (yy).toNatClampNeg (-1 : Int32)) (cs.set (ee).toNatClampNeg (own_g cs yy)) := own_C_rm (own_C_set hF hlen (own_rg l4 he) (hF _ (own_rg l4 hy) hca)) (by rw [List.length_set]; exact own_rg l4 hy)
        have hlen2 : (cs.set (ee).toNatClampNeg (own_g cs yy)).length = ((ks.set (ee).toNatClampNeg (own_g ks yy)).set (yy).toNatClampNeg (-1 : Int32)).length := by rw [List.length_set, List.length_set, List.length_set]; exact hlen
        have l42 : ((ks.set (ee).toNatClampNeg (own_g ks yy)).set (yy).toNatClampNeg (-1 : Int32)).length = 4 ∨ ((ks.set (ee).toNatClampNeg (own_g ks yy)).set (yy).toNatClampNeg (-1 : Int32)).length = 8 := by rw [List.length_set, List.length_set]; exact l4
        have eln : own_ln ((ks.set (ee).toNatClampNeg (own_g ks yy)).set (yy).toNatClampNeg (-1 : Int32)) = own_ln ks := by rw [own_ln_set, own_ln_set]
        rw [← eln] at VK VC hy
        have hy2 : ¬ own_nx ks yy < 0 ∧ own_nx ks yy < own_ln ((ks.set (ee).toNatClampNeg (own_g ks yy)).set (yy).toNatClampNeg (-1 : Int32)) := by rw [eln]; exact own_nr l4 yy
        obtain ⟨T', h', lc', cs', M2, M3, M4, M5, M6, X', e', N', K', VK', VC', hl', hF', st'⟩ := ih ((ks.set (ee).toNatClampNeg (own_g ks yy)).set (yy).toNatClampNeg (-1 : Int32)) (cs.set (ee).toNatClampNeg (own_g cs yy)) yy (own_nx ks yy) (.val (.int (own_hm (own_g ks yy) (own_mk ks)))) (.val (.int (own_ps (own_hm (own_g ks yy) (own_mk ks)) ee yy))) _ h49 _ X49 e49 N49 Zn FK FC VK VC l42 hlen2 hF2 htk hy hy2 (Or.inr ⟨_, rfl⟩) (Or.inr ⟨_, rfl⟩)
        exact ⟨T', h', lc', cs', M2, M3, M4, M5, M6, X', e', N', KP.trans K' (fun x hx => Or.inl hx), VK', VC', hl', hF', fun t q => k53_ t (st' t q)⟩
def QT (Z : State) (a : Addr) (sx : Int32) (kb : Addr) (cb : Addr) (ks : List Int32) (cs : List Int32) (F : Int32 → Int32) (u : List Int32) (h0 : Heap) (n0 : Nat) (v : Option Value) (h : Heap) (L : List Loc) : Prop := v = none ∧ Fr n0 L ∧ Keep h0 h [a, kb, cb] ∧ ∃ cs', own_Cn Z n0 h a kb cb u cs' ∧ own_C F u cs'
theorem ef_T (m : MethodId) (x0 : Addr) (x1 : Int32) : entryFrame m #[(.ref x0), (.int x1)] 7 = mkF m 0 #[.val (.ref x0), .val (.int x1), .unset, .unset, .unset, .unset, .unset] [] := by first | (simp [entryFrame, mkF, argsToLocals, Value.category]; done) | rfl
theorem d_prog_82_method_5_0 : decode prog_82_method_5_code 0 = .ok (.aload_n 0, 1) := by decide +kernel
theorem d_prog_82_method_5_1 : decode prog_82_method_5_code 1 = .ok (.getfield 7, 3) := by decide +kernel
theorem d_prog_82_method_5_4 : decode prog_82_method_5_code 4 = .ok (.arraylength, 1) := by decide +kernel
theorem d_prog_82_method_5_5 : decode prog_82_method_5_code 5 = .ok (.iconst 1, 1) := by decide +kernel
theorem d_prog_82_method_5_6 : decode prog_82_method_5_code 6 = .ok (.isub, 1) := by decide +kernel
theorem d_prog_82_method_5_7 : decode prog_82_method_5_code 7 = .ok (.istore_n 2, 1) := by decide +kernel
theorem d_prog_82_method_5_8 : decode prog_82_method_5_code 8 = .ok (.iload_n 1, 1) := by decide +kernel
theorem d_prog_82_method_5_9 : decode prog_82_method_5_code 9 = .ok (.istore_n 3, 1) := by decide +kernel
theorem d_prog_82_method_5_10 : decode prog_82_method_5_code 10 = .ok (.aload_n 0, 1) := by decide +kernel
theorem d_prog_82_method_5_11 : decode prog_82_method_5_code 11 = .ok (.getfield 7, 3) := by decide +kernel
theorem d_prog_82_method_5_14 : decode prog_82_method_5_code 14 = .ok (.iload_n 3, 1) := by decide +kernel
theorem d_prog_82_method_5_15 : decode prog_82_method_5_code 15 = .ok (.iconst (-1), 1) := by decide +kernel
theorem d_prog_82_method_5_16 : decode prog_82_method_5_code 16 = .ok (.iastore, 1) := by decide +kernel
theorem d_prog_82_method_5_17 : decode prog_82_method_5_code 17 = .ok (.iload_n 3, 1) := by decide +kernel
theorem d_prog_82_method_5_18 : decode prog_82_method_5_code 18 = .ok (.iconst 1, 1) := by decide +kernel
theorem d_prog_82_method_5_19 : decode prog_82_method_5_code 19 = .ok (.iadd, 1) := by decide +kernel
theorem d_prog_82_method_5_20 : decode prog_82_method_5_code 20 = .ok (.iload_n 2, 1) := by decide +kernel
theorem d_prog_82_method_5_21 : decode prog_82_method_5_code 21 = .ok (.iand, 1) := by decide +kernel
theorem d_prog_82_method_5_22 : decode prog_82_method_5_code 22 = .ok (.istore 4, 2) := by decide +kernel
theorem d_prog_82_method_5_147 : decode prog_82_method_5_code 147 = .ok (.aload_n 0, 1) := by decide +kernel
theorem d_prog_82_method_5_148 : decode prog_82_method_5_code 148 = .ok (.dup, 1) := by decide +kernel
theorem d_prog_82_method_5_149 : decode prog_82_method_5_code 149 = .ok (.getfield 24, 3) := by decide +kernel
theorem d_prog_82_method_5_152 : decode prog_82_method_5_code 152 = .ok (.iconst 1, 1) := by decide +kernel
theorem d_prog_82_method_5_153 : decode prog_82_method_5_code 153 = .ok (.isub, 1) := by decide +kernel
theorem d_prog_82_method_5_154 : decode prog_82_method_5_code 154 = .ok (.putfield 24, 3) := by decide +kernel
theorem d_prog_82_method_5_157 : decode prog_82_method_5_code 157 = .ok (.return_, 1) := by decide +kernel
set_option maxRecDepth 65536 in
set_option maxHeartbeats 40000000 in
theorem rmT (l : Launch) (Z : State) (a0 : Array Value) (hw : ∀ d ∈ tables_1, d.before a0 Z = true) (ws : List Jvm.Cond) (a : Addr) (sx : Int32) (kb : Addr) (cb : Addr) (ks : List Int32) (cs : List Int32) (F : Int32 → Int32) (u : List Int32) (h0 : Heap) (n0 : Nat) (Z0 : n0 ≤ h0.size) (hC : own_Cn Z n0 h0 a kb cb ks cs) (l4 : ks.length = 4 ∨ ks.length = 8) (hr : ¬ sx < 0 ∧ sx < own_ln ks) (hF : own_C F ks cs) (htk : own_tk 9 (ks.set sx.toNatClampNeg (-1)) sx (own_nx ks sx) = some u) (hs : own_sz ks - (1 : Int32) = own_sz u) :
    MetFree l (⟨"com/example/weir/weir/model/HeldTasks$Counts", "takeOut", "(I)V"⟩ : MethodName) (head1 (Jvm.Cond.code (⟨"com/example/weir/weir/model/HeldTasks$Counts", "takeOut", "(I)V"⟩ : MethodName) prog_82_method_5_code 7 none :: ws) ({ frames := 1, cells := 0, slots := 0, locals := 14 } : Room)) (fun a_ U_ => a_ = #[(.ref a), (.int sx)] ∧ Z.Warmed39 U_.vm ∧ U_.heap = h0) (fun _ _ _ _ _ => True) (fun _ U_ o_ E_ => ∃ v_ L_, o_ = .returned v_ ∧ QT Z a sx kb cb ks cs F u h0 n0 v_ E_.heap L_ ∧ FrameEnd U_ o_ E_ L_ ({ frames := 1, cells := 0, slots := 0, locals := 14 } : Room).cells ({ frames := 1, cells := 0, slots := 0, locals := 14 } : Room).slots) := by
  refine MetFree.of_bodySF (plainFor_of_name pn_HeldTasks_Counts) hisR ?_
  intro p e s m args below meth c s₁ Bd hml0 hP hK
  obtain ⟨rfl, hZ, hh⟩ := hP
  have hx := Bd.exec
  have hby := Bd.bytes
  have hml : c.maxLocals = 7 := hml0
  have hown : s.vm.findClass "com/example/weir/weir/model/HeldTasks$Counts" = some m.cls := findClass_of_methodNamed Bd.named
  have hnm := (name_of_methodNamed Bd.named Bd.method).1
  have X0 : Stand p l e ({ frames := 1, cells := 0, slots := 0, locals := 14 } : Room) s m #[(.ref a), (.int sx)] below meth c s₁ [] 0 0 := Stand.of_body Bd
  have e0 : s₁.heap = h0 := by rw [← hh, Bd.state]; rfl
  have N0 := Fr.nil n0
  have Zn := Z0
  have pre0 : ∀ t, Steps p.tables e below (s₁.setTop (mkF m 0 #[.val (.ref a), .val (.int sx), .unset, .unset, .unset, .unset, .unset] [])) t → Steps p.tables e below (s₁.setTop (entryFrame m #[(.ref a), (.int sx)] 7)) t := fun t q => castTop (ef_T m a sx) q
  have k0 : ∀ t, Steps p.tables e below (s₁.setTop (mkF m 0 #[.val (.ref a), .val (.int sx), .unset, .unset, .unset, .unset, .unset] [])) t → Steps p.tables e below (s₁.setTop (mkF m 0 #[.val (.ref a), .val (.int sx), .unset, .unset, .unset, .unset, .unset] [])) t := fun t q => q
  obtain ⟨EA, FK, FC, FS, ⟨kK, VK⟩, ⟨kC, VC⟩, hlen, ⟨n1, n2, n3⟩, ⟨g1, g2, g3⟩⟩ := id hC
  have KP := Keep.refl h0 [a, kb, cb]
  have k1_ : ∀ t, Steps p.tables e below (s₁.setTop (mkF m 1 #[.val (.ref a), .val (.int sx), .unset, .unset, .unset, .unset, .unset] [(.ref a)])) t → Steps p.tables e below (s₁.setTop (mkF m 0 #[.val (.ref a), .val (.int sx), .unset, .unset, .unset, .unset, .unset] [])) t := by
    intro t q
    refine k0 _ ?_
    show Steps p.tables e below (s₁.setTop (mkF m 0 #[.val (.ref a), .val (.int sx), .unset, .unset, .unset, .unset, .unset] [])) _
    refine XS.aloadN X0.here hx rfl (hb hby d_prog_82_method_5_0) rfl rfl ?_
    show Steps p.tables e below (s₁.setTop (mkF m 1 #[.val (.ref a), .val (.int sx), .unset, .unset, .unset, .unset, .unset] [(.ref a)])) _
    exact q
  obtain ⟨T2, X2, e2, st2⟩ := getF X0 hx hZ hown (host := "") (Or.inl (hw _ (List.mem_of_getElem? (i := 46) rfl))) Via.refl e0 FK (g := (mkF m 1 #[.val (.ref a), .val (.int sx), .unset, .unset, .unset, .unset, .unset] [(.ref a)])) rfl rfl (hb hby d_prog_82_method_5_1)
  have k3_ : ∀ t, Steps p.tables e below (T2.setTop (mkF m 4 #[.val (.ref a), .val (.int sx), .unset, .unset, .unset, .unset, .unset] [(.ref kb)])) t → Steps p.tables e below (s₁.setTop (mkF m 0 #[.val (.ref a), .val (.int sx), .unset, .unset, .unset, .unset, .unset] [])) t := fun t q => k1_ t (st2 t q)
  obtain ⟨cl4, Ar4, q4, S4, M4, H4, G4⟩ := id VK
  have k5_ : ∀ t, Steps p.tables e below (T2.setTop (mkF m 8 #[.val (.ref a), .val (.int sx), .val (.int ((own_ln ks) - (1 : Int32))), .unset, .unset, .unset, .unset] [])) t → Steps p.tables e below (s₁.setTop (mkF m 0 #[.val (.ref a), .val (.int sx), .unset, .unset, .unset, .unset, .unset] [])) t := by
    intro t q
    refine k3_ _ ?_
    show Steps p.tables e below (T2.setTop (mkF m 4 #[.val (.ref a), .val (.int sx), .unset, .unset, .unset, .unset, .unset] [(.ref kb)])) _
    refine X2.arraylength hx (by rw [e2]; exact Ar4.1) (State.isArrayOf_alike hZ.alike Ar4.2.1) (g := (mkF m 4 #[.val (.ref a), .val (.int sx), .unset, .unset, .unset, .unset, .unset] [(.ref kb)])) rfl rfl (hb hby d_prog_82_method_5_4) _ ?_
    rw [len_of S4 M4]
    show Steps p.tables e below (T2.setTop (mkF m 5 #[.val (.ref a), .val (.int sx), .unset, .unset, .unset, .unset, .unset] [(.int (own_ln ks))])) _
    refine XS.iconst X2.here hx rfl (hb hby d_prog_82_method_5_5) ?_
    show Steps p.tables e below (T2.setTop (mkF m 6 #[.val (.ref a), .val (.int sx), .unset, .unset, .unset, .unset, .unset] [(.int (1 : Int32)), (.int (own_ln ks))])) _
    refine XS.isub X2.here hx rfl (hb hby d_prog_82_method_5_6) rfl ?_
    show Steps p.tables e below (T2.setTop (mkF m 7 #[.val (.ref a), .val (.int sx), .unset, .unset, .unset, .unset, .unset] [(.int ((own_ln ks) - (1 : Int32)))])) _
    refine XS.istoreN X2.here hx rfl (hb hby d_prog_82_method_5_7) rfl (l' := #[.val (.ref a), .val (.int sx), .val (.int ((own_ln ks) - (1 : Int32))), .unset, .unset, .unset, .unset]) rfl ?_
    show Steps p.tables e below (T2.setTop (mkF m 8 #[.val (.ref a), .val (.int sx), .val (.int ((own_ln ks) - (1 : Int32))), .unset, .unset, .unset, .unset] [])) _
    exact q
  have k6_ : ∀ t, Steps p.tables e below (T2.setTop (mkF m 8 #[.val (.ref a), .val (.int sx), .val (.int (own_mk ks)), .unset, .unset, .unset, .unset] [])) t → Steps p.tables e below (s₁.setTop (mkF m 0 #[.val (.ref a), .val (.int sx), .unset, .unset, .unset, .unset, .unset] [])) t := fun t q => k5_ t (Eq.mp (congrArg (fun z => Steps p.tables e below (T2.setTop (mkF m 8 #[.val (.ref a), .val (.int sx), .val (.int z), .unset, .unset, .unset, .unset] [])) t) (show (own_mk ks) = ((own_ln ks) - (1 : Int32)) from rfl)) q)
  have k7_ : ∀ t, Steps p.tables e below (T2.setTop (mkF m 11 #[.val (.ref a), .val (.int sx), .val (.int (own_mk ks)), .val (.int sx), .unset, .unset, .unset] [(.ref a)])) t → Steps p.tables e below (s₁.setTop (mkF m 0 #[.val (.ref a), .val (.int sx), .unset, .unset, .unset, .unset, .unset] [])) t := by
    intro t q
    refine k6_ _ ?_
    show Steps p.tables e below (T2.setTop (mkF m 8 #[.val (.ref a), .val (.int sx), .val (.int (own_mk ks)), .unset, .unset, .unset, .unset] [])) _
    refine XS.iloadN X2.here hx rfl (hb hby d_prog_82_method_5_8) rfl ?_
    show Steps p.tables e below (T2.setTop (mkF m 9 #[.val (.ref a), .val (.int sx), .val (.int (own_mk ks)), .unset, .unset, .unset, .unset] [(.int sx)])) _
    refine XS.istoreN X2.here hx rfl (hb hby d_prog_82_method_5_9) rfl (l' := #[.val (.ref a), .val (.int sx), .val (.int (own_mk ks)), .val (.int sx), .unset, .unset, .unset]) rfl ?_
    show Steps p.tables e below (T2.setTop (mkF m 10 #[.val (.ref a), .val (.int sx), .val (.int (own_mk ks)), .val (.int sx), .unset, .unset, .unset] [])) _
    refine XS.aloadN X2.here hx rfl (hb hby d_prog_82_method_5_10) rfl rfl ?_
    show Steps p.tables e below (T2.setTop (mkF m 11 #[.val (.ref a), .val (.int sx), .val (.int (own_mk ks)), .val (.int sx), .unset, .unset, .unset] [(.ref a)])) _
    exact q
  obtain ⟨T8, X8, e8, st8⟩ := getF X2 hx hZ hown (host := "") (Or.inl (hw _ (List.mem_of_getElem? (i := 46) rfl))) Via.refl e2 FK (g := (mkF m 11 #[.val (.ref a), .val (.int sx), .val (.int (own_mk ks)), .val (.int sx), .unset, .unset, .unset] [(.ref a)])) rfl rfl (hb hby d_prog_82_method_5_11)
  have k9_ : ∀ t, Steps p.tables e below (T8.setTop (mkF m 14 #[.val (.ref a), .val (.int sx), .val (.int (own_mk ks)), .val (.int sx), .unset, .unset, .unset] [(.ref kb)])) t → Steps p.tables e below (s₁.setTop (mkF m 0 #[.val (.ref a), .val (.int sx), .unset, .unset, .unset, .unset, .unset] [])) t := fun t q => k7_ t (st8 t q)
  have k10_ : ∀ t, Steps p.tables e below (T8.setTop (mkF m 16 #[.val (.ref a), .val (.int sx), .val (.int (own_mk ks)), .val (.int sx), .unset, .unset, .unset] [(.int (-1 : Int32)), (.int sx), (.ref kb)])) t → Steps p.tables e below (s₁.setTop (mkF m 0 #[.val (.ref a), .val (.int sx), .unset, .unset, .unset, .unset, .unset] [])) t := by
    intro t q
    refine k9_ _ ?_
    show Steps p.tables e below (T8.setTop (mkF m 14 #[.val (.ref a), .val (.int sx), .val (.int (own_mk ks)), .val (.int sx), .unset, .unset, .unset] [(.ref kb)])) _
    refine XS.iloadN X8.here hx rfl (hb hby d_prog_82_method_5_14) rfl ?_
    show Steps p.tables e below (T8.setTop (mkF m 15 #[.val (.ref a), .val (.int sx), .val (.int (own_mk ks)), .val (.int sx), .unset, .unset, .unset] [(.int sx), (.ref kb)])) _
    refine XS.iconst X8.here hx rfl (hb hby d_prog_82_method_5_15) ?_
    show Steps p.tables e below (T8.setTop (mkF m 16 #[.val (.ref a), .val (.int sx), .val (.int (own_mk ks)), .val (.int sx), .unset, .unset, .unset] [(.int (-1 : Int32)), (.int sx), (.ref kb)])) _
    exact q
  obtain ⟨cl11, Ar11, q11, S11, M11, H11, G11⟩ := VK
  obtain ⟨T12, h12, X12, e12, W12, st12⟩ := stI X8 hx hZ e8 Ar11 (j := sx) (inb_of S11 hr) (g := (mkF m 16 #[.val (.ref a), .val (.int sx), .val (.int (own_mk ks)), .val (.int sx), .unset, .unset, .unset] [(.int (-1 : Int32)), (.int sx), (.ref kb)])) rfl rfl (hb hby d_prog_82_method_5_16)
  have k13_ : ∀ t, Steps p.tables e below (T12.setTop (mkF m 17 #[.val (.ref a), .val (.int sx), .val (.int (own_mk ks)), .val (.int sx), .unset, .unset, .unset] [])) t → Steps p.tables e below (s₁.setTop (mkF m 0 #[.val (.ref a), .val (.int sx), .unset, .unset, .unset, .unset, .unset] [])) t := fun t q => k10_ t (st12 t q)
  have N12 := Fr.snoc X12 N0 g2
  replace Zn := Nat.le_trans Zn (Keep.of_wr W12).1
  replace EA := EA.wr W12
  replace FK := FK.other W12 (Or.inl n1)
  replace FC := FC.other W12 (Or.inl n1)
  replace FS := FS.other W12 (Or.inl n1)
  replace VC := VC.other W12 (Ne.symm n3)
  have VK : Arv Z h12 kb kK .int (own_ln ks) ((ks.set (sx).toNatClampNeg (-1 : Int32)).map Value.int) (.int 0) := by rw [List.map_set]; exact Arv.set Ar11 q11 S11 M11 H11 G11 rfl W12 _ rfl (own_rgm l4 hr)
  replace KP := KP.wr W12 (Or.inl (List.mem_of_getElem? (i := 1) rfl))
  have k14_ : ∀ t, Steps p.tables e below (T12.setTop (mkF m 24 #[.val (.ref a), .val (.int sx), .val (.int (own_mk ks)), .val (.int sx), .val (.int ((sx + (1 : Int32)) &&& (own_mk ks))), .unset, .unset] [])) t → Steps p.tables e below (s₁.setTop (mkF m 0 #[.val (.ref a), .val (.int sx), .unset, .unset, .unset, .unset, .unset] [])) t := by
    intro t q
    refine k13_ _ ?_
    show Steps p.tables e below (T12.setTop (mkF m 17 #[.val (.ref a), .val (.int sx), .val (.int (own_mk ks)), .val (.int sx), .unset, .unset, .unset] [])) _
    refine XS.iloadN X12.here hx rfl (hb hby d_prog_82_method_5_17) rfl ?_
    show Steps p.tables e below (T12.setTop (mkF m 18 #[.val (.ref a), .val (.int sx), .val (.int (own_mk ks)), .val (.int sx), .unset, .unset, .unset] [(.int sx)])) _
    refine XS.iconst X12.here hx rfl (hb hby d_prog_82_method_5_18) ?_
    show Steps p.tables e below (T12.setTop (mkF m 19 #[.val (.ref a), .val (.int sx), .val (.int (own_mk ks)), .val (.int sx), .unset, .unset, .unset] [(.int (1 : Int32)), (.int sx)])) _
    refine XS.iadd X12.here hx rfl (hb hby d_prog_82_method_5_19) rfl ?_
    show Steps p.tables e below (T12.setTop (mkF m 20 #[.val (.ref a), .val (.int sx), .val (.int (own_mk ks)), .val (.int sx), .unset, .unset, .unset] [(.int (sx + (1 : Int32)))])) _
    refine XS.iloadN X12.here hx rfl (hb hby d_prog_82_method_5_20) rfl ?_
    show Steps p.tables e below (T12.setTop (mkF m 21 #[.val (.ref a), .val (.int sx), .val (.int (own_mk ks)), .val (.int sx), .unset, .unset, .unset] [(.int (own_mk ks)), (.int (sx + (1 : Int32)))])) _
    refine XS.iand X12.here hx rfl (hb hby d_prog_82_method_5_21) rfl ?_
    show Steps p.tables e below (T12.setTop (mkF m 22 #[.val (.ref a), .val (.int sx), .val (.int (own_mk ks)), .val (.int sx), .unset, .unset, .unset] [(.int ((sx + (1 : Int32)) &&& (own_mk ks)))])) _
    refine XS.istore X12.here hx rfl (hb hby d_prog_82_method_5_22) rfl (l' := #[.val (.ref a), .val (.int sx), .val (.int (own_mk ks)), .val (.int sx), .val (.int ((sx + (1 : Int32)) &&& (own_mk ks))), .unset, .unset]) rfl ?_
    show Steps p.tables e below (T12.setTop (mkF m 24 #[.val (.ref a), .val (.int sx), .val (.int (own_mk ks)), .val (.int sx), .val (.int ((sx + (1 : Int32)) &&& (own_mk ks))), .unset, .unset] [])) _
    exact q
  have k15_ : ∀ t, Steps p.tables e below (T12.setTop (mkF m 24 #[.val (.ref a), .val (.int sx), .val (.int (own_mk ks)), .val (.int sx), .val (.int (own_nx ks sx)), .unset, .unset] [])) t → Steps p.tables e below (s₁.setTop (mkF m 0 #[.val (.ref a), .val (.int sx), .unset, .unset, .unset, .unset, .unset] [])) t := fun t q => k14_ t (Eq.mp (congrArg (fun z => Steps p.tables e below (T12.setTop (mkF m 24 #[.val (.ref a), .val (.int sx), .val (.int (own_mk ks)), .val (.int sx), .val (.int z), .unset, .unset] [])) t) (show (own_nx ks sx) = ((sx + (1 : Int32)) &&& (own_mk ks)) from rfl)) q)
  have k16_ : ∀ t, Steps p.tables e below (T12.setTop (mkF m 24 #[.val (.ref a), .val (.int sx), .val (.int (own_mk (ks.set (sx).toNatClampNeg (-1 : Int32)))), .val (.int sx), .val (.int (own_nx ks sx)), .unset, .unset] [])) t → Steps p.tables e below (s₁.setTop (mkF m 0 #[.val (.ref a), .val (.int sx), .unset, .unset, .unset, .unset, .unset] [])) t := fun t q => k15_ t (Eq.mp (congrArg (fun z => Steps p.tables e below (T12.setTop (mkF m 24 #[.val (.ref a), .val (.int sx), .val (.int z), .val (.int sx), .val (.int (own_nx ks sx)), .unset, .unset] [])) t) (show (own_mk (ks.set (sx).toNatClampNeg (-1 : Int32))) = (own_mk ks) from (own_mk_set _ _ _))) q)
  have eln : own_ln (ks.set (sx).toNatClampNeg (-1 : Int32)) = own_ln ks := own_ln_set _ _ _
  rw [← eln] at VK VC hr
  have hF1 : own_C F (ks.set (sx).toNatClampNeg (-1 : Int32)) cs := own_C_rm hF (own_rg l4 (by rw [← eln]; exact hr))
  have hy : ¬ own_nx ks sx < 0 ∧ own_nx ks sx < own_ln (ks.set (sx).toNatClampNeg (-1 : Int32)) := by rw [eln]; exact own_nr l4 sx
  obtain ⟨T', h', lc', cs', M2, M3, M4, M5, M6, X', e', N', K', VK', VC', hl', hF', st'⟩ := lpT Z a0 hw hx hZ hby hml hown n0 a kb cb sx u F kK kC n1 n2 n3 g2 g3 9 (ks.set (sx).toNatClampNeg (-1 : Int32)) cs sx (own_nx ks sx) .unset .unset _ h12 _ X12 e12 N12 Zn FK FC VK VC (by rw [List.length_set]; exact l4) (by rw [List.length_set]; exact hlen) hF1 htk hr hy (Or.inl rfl) (Or.inl rfl)
  have k17_ : ∀ t, Steps p.tables e below (T'.setTop (mkF m 147 #[.val (.ref a), .val (.int sx), M2, M3, M4, M5, M6] [])) t → Steps p.tables e below (s₁.setTop (mkF m 0 #[.val (.ref a), .val (.int sx), .unset, .unset, .unset, .unset, .unset] [])) t := fun t q => k16_ t (st' t q)
  replace EA := EA.keep K'
  replace FK := FK.keep K' (own_notin2 n1 n2)
  replace FC := FC.keep K' (own_notin2 n1 n2)
  replace FS := FS.keep K' (own_notin2 n1 n2)
  replace KP := KP.trans K' (fun x hx => Or.inl (List.mem_cons_of_mem _ hx))
  replace VK := VK'
  replace VC := VC'
  replace Zn := Nat.le_trans Zn K'.1
  have k18_ : ∀ t, Steps p.tables e below (T'.setTop (mkF m 149 #[.val (.ref a), .val (.int sx), M2, M3, M4, M5, M6] [(.ref a), (.ref a)])) t → Steps p.tables e below (s₁.setTop (mkF m 0 #[.val (.ref a), .val (.int sx), .unset, .unset, .unset, .unset, .unset] [])) t := by
    intro t q
    refine k17_ _ ?_
    show Steps p.tables e below (T'.setTop (mkF m 147 #[.val (.ref a), .val (.int sx), M2, M3, M4, M5, M6] [])) _
    refine XS.aloadN X'.here hx rfl (hb hby d_prog_82_method_5_147) rfl rfl ?_
    show Steps p.tables e below (T'.setTop (mkF m 148 #[.val (.ref a), .val (.int sx), M2, M3, M4, M5, M6] [(.ref a)])) _
    refine XS.dup X'.here hx rfl (hb hby d_prog_82_method_5_148) rfl rfl ?_
    show Steps p.tables e below (T'.setTop (mkF m 149 #[.val (.ref a), .val (.int sx), M2, M3, M4, M5, M6] [(.ref a), (.ref a)])) _
    exact q
  obtain ⟨T19, X19, e19, st19⟩ := getF X' hx hZ hown (host := "") (Or.inl (hw _ (List.mem_of_getElem? (i := 60) rfl))) Via.refl e' FS (g := (mkF m 149 #[.val (.ref a), .val (.int sx), M2, M3, M4, M5, M6] [(.ref a), (.ref a)])) rfl rfl (hb hby d_prog_82_method_5_149)
  have k20_ : ∀ t, Steps p.tables e below (T19.setTop (mkF m 152 #[.val (.ref a), .val (.int sx), M2, M3, M4, M5, M6] [(.int (own_sz ks)), (.ref a)])) t → Steps p.tables e below (s₁.setTop (mkF m 0 #[.val (.ref a), .val (.int sx), .unset, .unset, .unset, .unset, .unset] [])) t := fun t q => k18_ t (st19 t q)
  have k21_ : ∀ t, Steps p.tables e below (T19.setTop (mkF m 154 #[.val (.ref a), .val (.int sx), M2, M3, M4, M5, M6] [(.int ((own_sz ks) - (1 : Int32))), (.ref a)])) t → Steps p.tables e below (s₁.setTop (mkF m 0 #[.val (.ref a), .val (.int sx), .unset, .unset, .unset, .unset, .unset] [])) t := by
    intro t q
    refine k20_ _ ?_
    show Steps p.tables e below (T19.setTop (mkF m 152 #[.val (.ref a), .val (.int sx), M2, M3, M4, M5, M6] [(.int (own_sz ks)), (.ref a)])) _
    refine XS.iconst X19.here hx rfl (hb hby d_prog_82_method_5_152) ?_
    show Steps p.tables e below (T19.setTop (mkF m 153 #[.val (.ref a), .val (.int sx), M2, M3, M4, M5, M6] [(.int (1 : Int32)), (.int (own_sz ks)), (.ref a)])) _
    refine XS.isub X19.here hx rfl (hb hby d_prog_82_method_5_153) rfl ?_
    show Steps p.tables e below (T19.setTop (mkF m 154 #[.val (.ref a), .val (.int sx), M2, M3, M4, M5, M6] [(.int ((own_sz ks) - (1 : Int32))), (.ref a)])) _
    exact q
  obtain ⟨T22, h22, X22, e22, W22, st22⟩ := putF X19 hx hZ hown (host := "") (Or.inl (hw _ (List.mem_of_getElem? (i := 60) rfl))) Via.refl e19 FS EA (Or.inl (hw _ (List.mem_of_getElem? (i := 61) rfl))) (hw _ (List.mem_of_getElem? (i := 40) rfl)) (ty := .int) (by decide) rfl rfl (g := (mkF m 154 #[.val (.ref a), .val (.int sx), M2, M3, M4, M5, M6] [(.int ((own_sz ks) - (1 : Int32))), (.ref a)])) rfl rfl (hb hby d_prog_82_method_5_154)
  have k23_ : ∀ t, Steps p.tables e below (T22.setTop (mkF m 157 #[.val (.ref a), .val (.int sx), M2, M3, M4, M5, M6] [])) t → Steps p.tables e below (s₁.setTop (mkF m 0 #[.val (.ref a), .val (.int sx), .unset, .unset, .unset, .unset, .unset] [])) t := fun t q => k21_ t (st22 t q)
  have N22 := Fr.snoc X22 N' g1
  replace Zn := Nat.le_trans Zn (Keep.of_wr W22).1
  replace EA := EA.wr W22
  replace FK := FK.other W22 (Or.inr (slot_ne (Or.inl (hw _ (List.mem_of_getElem? (i := 47) rfl))) (Or.inl (hw _ (List.mem_of_getElem? (i := 61) rfl))) (by decide) (t := (.array .int)) (t' := .int) (by decide) (by decide)))
  replace FC := FC.other W22 (Or.inr (slot_ne (Or.inl (hw _ (List.mem_of_getElem? (i := 49) rfl))) (Or.inl (hw _ (List.mem_of_getElem? (i := 61) rfl))) (by decide) (t := (.array .int)) (t' := .int) (by decide) (by decide)))
  replace VK := VK.other W22 (Ne.symm n1)
  replace VC := VC.other W22 (Ne.symm n2)
  replace FS := FS.same W22
  replace KP := KP.wr W22 (Or.inl (List.mem_of_getElem? (i := 0) rfl))
  rw [hs] at FS
  obtain ⟨fs, hr, hrun, hended, hW, hsame⟩ := X22.leave (v := none) (fun _ => rfl)
  refine ⟨_, _, pre0 _ (k23_ _ ?_), hrun, hended, _, _, rfl, ?_, ⟨_, rfl⟩, hW, hsame.mono (by decide) (by decide)⟩
  · show Steps p.tables e below (T22.setTop (mkF m 157 #[.val (.ref a), .val (.int sx), M2, M3, M4, M5, M6] [])) _
    exact X22.returnOut hx Bd.returns (hb hby d_prog_82_method_5_157) hr
  · show QT Z a sx kb cb ks cs F u h0 n0 _ T22.heap _
    rw [e22]
    exact ⟨rfl, N22, KP, cs', ⟨EA, FK, FC, FS, ⟨kK, VK⟩, ⟨kC, VC⟩, hl', ⟨n1, n2, n3⟩, g1, g2, g3⟩, hF'⟩
def QP (Z : State) (a : Addr) (ky : Int32) (ct : Int32) (kb : Addr) (cb : Addr) (ks : List Int32) (cs : List Int32) (F : Int32 → Int32) (h0 : Heap) (n0 : Nat) (v : Option Value) (h : Heap) (L : List Loc) : Prop := v = none ∧ Fr n0 L ∧ ∃ kb' cb' ks' cs', own_Cn Z n0 h a kb' cb' ks' cs' ∧ own_Ct (own_up F ky ct) ks' cs' ∧ Keep h0 h [a, kb, cb] ∧ ((kb' = kb ∧ cb' = cb) ∨ (h0.size ≤ kb' ∧ h0.size ≤ cb'))
theorem ef_P (m : MethodId) (x0 : Addr) (x1 : Int32) (x2 : Int32) : entryFrame m #[(.ref x0), (.int x1), (.int x2)] 5 = mkF m 0 #[.val (.ref x0), .val (.int x1), .val (.int x2), .unset, .unset] [] := by first | (simp [entryFrame, mkF, argsToLocals, Value.category]; done) | rfl
theorem d_prog_82_method_3_58 : decode prog_82_method_3_code 58 = .ok (.iload_n 2, 1) := by decide +kernel
theorem d_prog_82_method_3_59 : decode prog_82_method_3_code 59 = .ok (.ifCond .le 14, 3) := by decide +kernel
theorem d_prog_82_method_3_62 : decode prog_82_method_3_code 62 = .ok (.aload_n 0, 1) := by decide +kernel
theorem d_prog_82_method_3_63 : decode prog_82_method_3_code 63 = .ok (.getfield 13, 3) := by decide +kernel
theorem d_prog_82_method_3_66 : decode prog_82_method_3_code 66 = .ok (.iload 4, 2) := by decide +kernel
theorem d_prog_82_method_3_68 : decode prog_82_method_3_code 68 = .ok (.iload_n 2, 1) := by decide +kernel
theorem d_prog_82_method_3_69 : decode prog_82_method_3_code 69 = .ok (.iastore, 1) := by decide +kernel
theorem d_prog_82_method_3_70 : decode prog_82_method_3_code 70 = .ok (.goto 60, 3) := by decide +kernel
theorem d_prog_82_method_3_73 : decode prog_82_method_3_code 73 = .ok (.aload_n 0, 1) := by decide +kernel
theorem d_prog_82_method_3_74 : decode prog_82_method_3_code 74 = .ok (.iload 4, 2) := by decide +kernel
theorem pd_27776 : parseMethodDescriptor "(I)V" = some ⟨[.int], none⟩ := by decide +kernel
theorem d_prog_82_method_3_76 : decode prog_82_method_3_code 76 = .ok (.invokevirtual 20, 3) := by decide +kernel
theorem d_prog_82_method_3_79 : decode prog_82_method_3_code 79 = .ok (.goto 51, 3) := by decide +kernel
theorem d_prog_82_method_3_126 : decode prog_82_method_3_code 126 = .ok (.aload_n 0, 1) := by decide +kernel
theorem pd_48334 : parseMethodDescriptor "()V" = some ⟨[], none⟩ := by decide +kernel
theorem d_prog_82_method_3_127 : decode prog_82_method_3_code 127 = .ok (.invokevirtual 28, 3) := by decide +kernel
set_option maxRecDepth 65536 in
set_option maxHeartbeats 40000000 in
theorem rmP (l : Launch) (Z : State) (a0 : Array Value) (hw : ∀ d ∈ tables_1, d.before a0 Z = true) (ws : List Jvm.Cond) (a : Addr) (ky : Int32) (ct : Int32) (kb : Addr) (cb : Addr) (ks : List Int32) (cs : List Int32) (F : Int32 → Int32) (h0 : Heap) (n0 : Nat) (Z0 : n0 ≤ h0.size) (hC : own_Cn Z n0 h0 a kb cb ks cs) (hT : own_Ct F ks cs) (hk : ky ∈ own_K) (hn : ¬ ct < 0) (hp : (0 : Int32) < ct ∨ 0 < F ky) :
    MetFree l (⟨"com/example/weir/weir/model/HeldTasks$Counts", "put", "(II)V"⟩ : MethodName) (head1 (Jvm.Cond.code (⟨"com/example/weir/weir/model/HeldTasks$Counts", "put", "(II)V"⟩ : MethodName) prog_82_method_3_code 5 none :: ws) ({ frames := 3, cells := 2, slots := 16, locals := 45 } : Room)) (fun a_ U_ => a_ = #[(.ref a), (.int ky), (.int ct)] ∧ Z.Warmed39 U_.vm ∧ U_.heap = h0) (fun _ _ _ _ _ => True) (fun _ U_ o_ E_ => ∃ v_ L_, o_ = .returned v_ ∧ QP Z a ky ct kb cb ks cs F h0 n0 v_ E_.heap L_ ∧ FrameEnd U_ o_ E_ L_ ({ frames := 3, cells := 2, slots := 16, locals := 45 } : Room).cells ({ frames := 3, cells := 2, slots := 16, locals := 45 } : Room).slots) := by
  refine MetFree.of_bodySF (plainFor_of_name pn_HeldTasks_Counts) hisR ?_
  intro p e s m args below meth c s₁ Bd hml0 hP hK
  obtain ⟨rfl, hZ, hh⟩ := hP
  have hx := Bd.exec
  have hby := Bd.bytes
  have hml : c.maxLocals = 5 := hml0
  have hown : s.vm.findClass "com/example/weir/weir/model/HeldTasks$Counts" = some m.cls := findClass_of_methodNamed Bd.named
  have hnm := (name_of_methodNamed Bd.named Bd.method).1
  have X0 : Stand p l e ({ frames := 3, cells := 2, slots := 16, locals := 45 } : Room) s m #[(.ref a), (.int ky), (.int ct)] below meth c s₁ [] 0 0 := Stand.of_body Bd
  have e0 : s₁.heap = h0 := by rw [← hh, Bd.state]; rfl
  have N0 := Fr.nil n0
  have Zn := Z0
  have pre0 : ∀ t, Steps p.tables e below (s₁.setTop (mkF m 0 #[.val (.ref a), .val (.int ky), .val (.int ct), .unset, .unset] [])) t → Steps p.tables e below (s₁.setTop (entryFrame m #[(.ref a), (.int ky), (.int ct)] 5)) t := fun t q => castTop (ef_P m a ky ct) q
  have k0 : ∀ t, Steps p.tables e below (s₁.setTop (mkF m 0 #[.val (.ref a), .val (.int ky), .val (.int ct), .unset, .unset] [])) t → Steps p.tables e below (s₁.setTop (mkF m 0 #[.val (.ref a), .val (.int ky), .val (.int ct), .unset, .unset] [])) t := fun t q => q
  obtain ⟨EA, FK, FC, FS, ⟨kK, VK⟩, ⟨kC, VC⟩, hlen, ⟨n1, n2, n3⟩, ⟨g1, g2, g3⟩⟩ := id hC
  have l4 := own_D0 ks hT.1
  obtain ⟨d1, d2, d3, d4⟩ := own_D1 ks hT.1 ky hk
  have KP := Keep.refl h0 [a, kb, cb]
  have k1_ : ∀ t, Steps p.tables e below (s₁.setTop (mkF m 1 #[.val (.ref a), .val (.int ky), .val (.int ct), .unset, .unset] [(.ref a)])) t → Steps p.tables e below (s₁.setTop (mkF m 0 #[.val (.ref a), .val (.int ky), .val (.int ct), .unset, .unset] [])) t := by
    intro t q
    refine k0 _ ?_
    show Steps p.tables e below (s₁.setTop (mkF m 0 #[.val (.ref a), .val (.int ky), .val (.int ct), .unset, .unset] [])) _
    refine XS.aloadN X0.here hx rfl (hb hby d_prog_82_method_3_0) rfl rfl ?_
    show Steps p.tables e below (s₁.setTop (mkF m 1 #[.val (.ref a), .val (.int ky), .val (.int ct), .unset, .unset] [(.ref a)])) _
    exact q
  obtain ⟨T2, X2, e2, st2⟩ := getF X0 hx hZ hown (host := "") (Or.inl (hw _ (List.mem_of_getElem? (i := 46) rfl))) Via.refl e0 FK (g := (mkF m 1 #[.val (.ref a), .val (.int ky), .val (.int ct), .unset, .unset] [(.ref a)])) rfl rfl (hb hby d_prog_82_method_3_1)
  have k3_ : ∀ t, Steps p.tables e below (T2.setTop (mkF m 4 #[.val (.ref a), .val (.int ky), .val (.int ct), .unset, .unset] [(.ref kb)])) t → Steps p.tables e below (s₁.setTop (mkF m 0 #[.val (.ref a), .val (.int ky), .val (.int ct), .unset, .unset] [])) t := fun t q => k1_ t (st2 t q)
  obtain ⟨cl4, Ar4, q4, S4, M4, H4, G4⟩ := id VK
  have k5_ : ∀ t, Steps p.tables e below (T2.setTop (mkF m 8 #[.val (.ref a), .val (.int ky), .val (.int ct), .val (.int ((own_ln ks) - (1 : Int32))), .unset] [])) t → Steps p.tables e below (s₁.setTop (mkF m 0 #[.val (.ref a), .val (.int ky), .val (.int ct), .unset, .unset] [])) t := by
    intro t q
    refine k3_ _ ?_
    show Steps p.tables e below (T2.setTop (mkF m 4 #[.val (.ref a), .val (.int ky), .val (.int ct), .unset, .unset] [(.ref kb)])) _
    refine X2.arraylength hx (by rw [e2]; exact Ar4.1) (State.isArrayOf_alike hZ.alike Ar4.2.1) (g := (mkF m 4 #[.val (.ref a), .val (.int ky), .val (.int ct), .unset, .unset] [(.ref kb)])) rfl rfl (hb hby d_prog_82_method_3_4) _ ?_
    rw [len_of S4 M4]
    show Steps p.tables e below (T2.setTop (mkF m 5 #[.val (.ref a), .val (.int ky), .val (.int ct), .unset, .unset] [(.int (own_ln ks))])) _
    refine XS.iconst X2.here hx rfl (hb hby d_prog_82_method_3_5) ?_
    show Steps p.tables e below (T2.setTop (mkF m 6 #[.val (.ref a), .val (.int ky), .val (.int ct), .unset, .unset] [(.int (1 : Int32)), (.int (own_ln ks))])) _
    refine XS.isub X2.here hx rfl (hb hby d_prog_82_method_3_6) rfl ?_
    show Steps p.tables e below (T2.setTop (mkF m 7 #[.val (.ref a), .val (.int ky), .val (.int ct), .unset, .unset] [(.int ((own_ln ks) - (1 : Int32)))])) _
    refine XS.istoreN X2.here hx rfl (hb hby d_prog_82_method_3_7) rfl (l' := #[.val (.ref a), .val (.int ky), .val (.int ct), .val (.int ((own_ln ks) - (1 : Int32))), .unset]) rfl ?_
    show Steps p.tables e below (T2.setTop (mkF m 8 #[.val (.ref a), .val (.int ky), .val (.int ct), .val (.int ((own_ln ks) - (1 : Int32))), .unset] [])) _
    exact q
  have k6_ : ∀ t, Steps p.tables e below (T2.setTop (mkF m 8 #[.val (.ref a), .val (.int ky), .val (.int ct), .val (.int (own_mk ks)), .unset] [])) t → Steps p.tables e below (s₁.setTop (mkF m 0 #[.val (.ref a), .val (.int ky), .val (.int ct), .unset, .unset] [])) t := fun t q => k5_ t (Eq.mp (congrArg (fun z => Steps p.tables e below (T2.setTop (mkF m 8 #[.val (.ref a), .val (.int ky), .val (.int ct), .val (.int z), .unset] [])) t) (show (own_mk ks) = ((own_ln ks) - (1 : Int32)) from rfl)) q)
  have k7_ : ∀ t, Steps p.tables e below (T2.setTop (mkF m 10 #[.val (.ref a), .val (.int ky), .val (.int ct), .val (.int (own_mk ks)), .unset] [(.int (own_mk ks)), (.int ky)])) t → Steps p.tables e below (s₁.setTop (mkF m 0 #[.val (.ref a), .val (.int ky), .val (.int ct), .unset, .unset] [])) t := by
    intro t q
    refine k6_ _ ?_
    show Steps p.tables e below (T2.setTop (mkF m 8 #[.val (.ref a), .val (.int ky), .val (.int ct), .val (.int (own_mk ks)), .unset] [])) _
    refine XS.iloadN X2.here hx rfl (hb hby d_prog_82_method_3_8) rfl ?_
    show Steps p.tables e below (T2.setTop (mkF m 9 #[.val (.ref a), .val (.int ky), .val (.int ct), .val (.int (own_mk ks)), .unset] [(.int ky)])) _
    refine XS.iloadN X2.here hx rfl (hb hby d_prog_82_method_3_9) rfl ?_
    show Steps p.tables e below (T2.setTop (mkF m 10 #[.val (.ref a), .val (.int ky), .val (.int ct), .val (.int (own_mk ks)), .unset] [(.int (own_mk ks)), (.int ky)])) _
    exact q
  obtain ⟨_, _, ⟨T8, L8, kk8, n8⟩, -, X8, ⟨Lc8, hQ8, l8, y8, z8⟩, st8⟩ := Jvm.LawKit.callS X2 hx (y := (⟨"com/example/weir/weir/model/HeldTasks$Counts", "home", "(II)I"⟩ : MethodName)) hown (mvT hZ (hw _ (List.mem_of_getElem? (i := 56) rfl))) (mvT hZ (hw _ (List.mem_of_getElem? (i := 57) rfl))) (mvT hZ (hw _ (List.mem_of_getElem? (i := 41) rfl))) (mvT hZ (hw _ (List.mem_of_getElem? (i := 58) rfl))) (by decide) (backOf (W := 0) (rmH l Z a0 hw [] ky (own_mk ks) h0 n0 Zn) hZ (hw _ (List.mem_of_getElem? (i := 58) rfl)) (hw _ (List.mem_of_getElem? (i := 41) rfl)) (by decide) (by decide)) (g := (mkF m 10 #[.val (.ref a), .val (.int ky), .val (.int ct), .val (.int (own_mk ks)), .unset] [(.int (own_mk ks)), (.int ky)])) rfl (by rw [hml]; rfl) (argsL := [(.int ky), (.int (own_mk ks))]) (rest := []) (lenOf pd_90420 rfl) rfl (by show 2 * 0 + _ ≤ _; exact Nat.le_of_eq rfl) (hb hby d_prog_82_method_3_10) (fun _ _ => ⟨rfl, e2, (by decide : 0 + 0 ≤ _), (by decide : 0 + 0 ≤ _)⟩)
  dsimp only [Pt.U, Pt.locs, Pt.cells, Pt.slots] at X8 l8 y8 z8 st8 hQ8
  rw [l8, y8, z8] at X8
  obtain ⟨rfl, Nq8, hq8⟩ := hQ8
  have N8 := Fr.app N0 Nq8
  have k9_ : ∀ t, Steps p.tables e below (T8.setTop (mkF m 13 #[.val (.ref a), .val (.int ky), .val (.int ct), .val (.int (own_mk ks)), .unset] [(.int (own_hm ky (own_mk ks)))])) t → Steps p.tables e below (s₁.setTop (mkF m 0 #[.val (.ref a), .val (.int ky), .val (.int ct), .unset, .unset] [])) t := fun t q => k7_ t (st8 t q)
  have k10_ : ∀ t, Steps p.tables e below (T8.setTop (mkF m 15 #[.val (.ref a), .val (.int ky), .val (.int ct), .val (.int (own_mk ks)), .val (.int (own_hm ky (own_mk ks)))] [])) t → Steps p.tables e below (s₁.setTop (mkF m 0 #[.val (.ref a), .val (.int ky), .val (.int ct), .unset, .unset] [])) t := by
    intro t q
    refine k9_ _ ?_
    show Steps p.tables e below (T8.setTop (mkF m 13 #[.val (.ref a), .val (.int ky), .val (.int ct), .val (.int (own_mk ks)), .unset] [(.int (own_hm ky (own_mk ks)))])) _
    refine XS.istore X8.here hx rfl (hb hby d_prog_82_method_3_13) rfl (l' := #[.val (.ref a), .val (.int ky), .val (.int ct), .val (.int (own_mk ks)), .val (.int (own_hm ky (own_mk ks)))]) rfl ?_
    show Steps p.tables e below (T8.setTop (mkF m 15 #[.val (.ref a), .val (.int ky), .val (.int ct), .val (.int (own_mk ks)), .val (.int (own_hm ky (own_mk ks)))] [])) _
    exact q
  obtain ⟨TA, XA, eA, stA⟩ := lpP Z a0 hw hx hZ hby hml hown n0 a kb ky ct ks l4 h0 FK kK VK _ _ _ 3 (own_hm ky (own_mk ks)) _ X8 hq8 d1 d4
  have k11_ : ∀ t, Steps p.tables e below (TA.setTop (mkF m 47 #[.val (.ref a), .val (.int ky), .val (.int ct), .val (.int (own_mk ks)), .val (.int (own_sl ks ky))] [])) t → Steps p.tables e below (s₁.setTop (mkF m 0 #[.val (.ref a), .val (.int ky), .val (.int ct), .unset, .unset] [])) t := fun t q => k10_ t (stA t q)
  have k12_ : ∀ t, Steps p.tables e below (TA.setTop (mkF m 48 #[.val (.ref a), .val (.int ky), .val (.int ct), .val (.int (own_mk ks)), .val (.int (own_sl ks ky))] [(.ref a)])) t → Steps p.tables e below (s₁.setTop (mkF m 0 #[.val (.ref a), .val (.int ky), .val (.int ct), .unset, .unset] [])) t := by
    intro t q
    refine k11_ _ ?_
    show Steps p.tables e below (TA.setTop (mkF m 47 #[.val (.ref a), .val (.int ky), .val (.int ct), .val (.int (own_mk ks)), .val (.int (own_sl ks ky))] [])) _
    refine XS.aloadN XA.here hx rfl (hb hby d_prog_82_method_3_47) rfl rfl ?_
    show Steps p.tables e below (TA.setTop (mkF m 48 #[.val (.ref a), .val (.int ky), .val (.int ct), .val (.int (own_mk ks)), .val (.int (own_sl ks ky))] [(.ref a)])) _
    exact q
  obtain ⟨T13, X13, e13, st13⟩ := getF XA hx hZ hown (host := "") (Or.inl (hw _ (List.mem_of_getElem? (i := 46) rfl))) Via.refl eA FK (g := (mkF m 48 #[.val (.ref a), .val (.int ky), .val (.int ct), .val (.int (own_mk ks)), .val (.int (own_sl ks ky))] [(.ref a)])) rfl rfl (hb hby d_prog_82_method_3_48)
  have k14_ : ∀ t, Steps p.tables e below (T13.setTop (mkF m 51 #[.val (.ref a), .val (.int ky), .val (.int ct), .val (.int (own_mk ks)), .val (.int (own_sl ks ky))] [(.ref kb)])) t → Steps p.tables e below (s₁.setTop (mkF m 0 #[.val (.ref a), .val (.int ky), .val (.int ct), .unset, .unset] [])) t := fun t q => k12_ t (st13 t q)
  obtain ⟨cl15, Ar15, q15, S15, M15, H15, G15⟩ := id VK
  have k16_ : ∀ t, Steps p.tables e below (T13.setTop (mkF m 55 #[.val (.ref a), .val (.int ky), .val (.int ct), .val (.int (own_mk ks)), .val (.int (own_sl ks ky))] [(.int ky), (.int (own_g ks (own_sl ks ky)))])) t → Steps p.tables e below (s₁.setTop (mkF m 0 #[.val (.ref a), .val (.int ky), .val (.int ct), .unset, .unset] [])) t := by
    intro t q
    refine k14_ _ ?_
    show Steps p.tables e below (T13.setTop (mkF m 51 #[.val (.ref a), .val (.int ky), .val (.int ct), .val (.int (own_mk ks)), .val (.int (own_sl ks ky))] [(.ref kb)])) _
    refine XS.iload X13.here hx rfl (hb hby d_prog_82_method_3_51) rfl ?_
    show Steps p.tables e below (T13.setTop (mkF m 53 #[.val (.ref a), .val (.int ky), .val (.int ct), .val (.int (own_mk ks)), .val (.int (own_sl ks ky))] [(.int (own_sl ks ky)), (.ref kb)])) _
    refine X13.iaload hx (j := (own_sl ks ky)) (v := (.int (own_g ks (own_sl ks ky)))) (by rw [e13]; exact Ar15.1) (State.isArrayOf_alike hZ.alike Ar15.2.1) Ar15.2.2 (inb_of S15 d2) (Has.at H15 (inb_of S15 d2) (own_gd _ _)) (g := (mkF m 53 #[.val (.ref a), .val (.int ky), .val (.int ct), .val (.int (own_mk ks)), .val (.int (own_sl ks ky))] [(.int (own_sl ks ky)), (.ref kb)])) rfl rfl (hb hby d_prog_82_method_3_53) _ ?_
    show Steps p.tables e below (T13.setTop (mkF m 54 #[.val (.ref a), .val (.int ky), .val (.int ct), .val (.int (own_mk ks)), .val (.int (own_sl ks ky))] [(.int (own_g ks (own_sl ks ky)))])) _
    refine XS.iloadN X13.here hx rfl (hb hby d_prog_82_method_3_54) rfl ?_
    show Steps p.tables e below (T13.setTop (mkF m 55 #[.val (.ref a), .val (.int ky), .val (.int ct), .val (.int (own_mk ks)), .val (.int (own_sl ks ky))] [(.int ky), (.int (own_g ks (own_sl ks ky)))])) _
    exact q
  by_cases hca : (own_g ks (own_sl ks ky)) = ky
  · have k17_ : ∀ t, Steps p.tables e below (T13.setTop (mkF m 58 #[.val (.ref a), .val (.int ky), .val (.int ct), .val (.int (own_mk ks)), .val (.int (own_sl ks ky))] [])) t → Steps p.tables e below (s₁.setTop (mkF m 0 #[.val (.ref a), .val (.int ky), .val (.int ct), .unset, .unset] [])) t := by
      intro t q
      refine k16_ _ ?_
      show Steps p.tables e below (T13.setTop (mkF m 55 #[.val (.ref a), .val (.int ky), .val (.int ct), .val (.int (own_mk ks)), .val (.int (own_sl ks ky))] [(.int ky), (.int (own_g ks (own_sl ks ky)))])) _
      refine XS.icmpNo X13.here hx rfl (hb hby d_prog_82_method_3_55) rfl (teq hca).2 ?_
      show Steps p.tables e below (T13.setTop (mkF m 58 #[.val (.ref a), .val (.int ky), .val (.int ct), .val (.int (own_mk ks)), .val (.int (own_sl ks ky))] [])) _
      exact q
    have k18_ : ∀ t, Steps p.tables e below (T13.setTop (mkF m 59 #[.val (.ref a), .val (.int ky), .val (.int ct), .val (.int (own_mk ks)), .val (.int (own_sl ks ky))] [(.int ct)])) t → Steps p.tables e below (s₁.setTop (mkF m 0 #[.val (.ref a), .val (.int ky), .val (.int ct), .unset, .unset] [])) t := by
      intro t q
      refine k17_ _ ?_
      show Steps p.tables e below (T13.setTop (mkF m 58 #[.val (.ref a), .val (.int ky), .val (.int ct), .val (.int (own_mk ks)), .val (.int (own_sl ks ky))] [])) _
      refine XS.iloadN X13.here hx rfl (hb hby d_prog_82_method_3_58) rfl ?_
      show Steps p.tables e below (T13.setTop (mkF m 59 #[.val (.ref a), .val (.int ky), .val (.int ct), .val (.int (own_mk ks)), .val (.int (own_sl ks ky))] [(.int ct)])) _
      exact q
    by_cases hcb : (0 : Int32) < ct
    · have k19_ : ∀ t, Steps p.tables e below (T13.setTop (mkF m 62 #[.val (.ref a), .val (.int ky), .val (.int ct), .val (.int (own_mk ks)), .val (.int (own_sl ks ky))] [])) t → Steps p.tables e below (s₁.setTop (mkF m 0 #[.val (.ref a), .val (.int ky), .val (.int ct), .unset, .unset] [])) t := by
        intro t q
        refine k18_ _ ?_
        show Steps p.tables e below (T13.setTop (mkF m 59 #[.val (.ref a), .val (.int ky), .val (.int ct), .val (.int (own_mk ks)), .val (.int (own_sl ks ky))] [(.int ct)])) _
        refine XS.ifNo X13.here hx rfl (hb hby d_prog_82_method_3_59) rfl ((if0 _ _).trans (tlt hcb).2.2.2) ?_
        show Steps p.tables e below (T13.setTop (mkF m 62 #[.val (.ref a), .val (.int ky), .val (.int ct), .val (.int (own_mk ks)), .val (.int (own_sl ks ky))] [])) _
        exact q
      have k20_ : ∀ t, Steps p.tables e below (T13.setTop (mkF m 63 #[.val (.ref a), .val (.int ky), .val (.int ct), .val (.int (own_mk ks)), .val (.int (own_sl ks ky))] [(.ref a)])) t → Steps p.tables e below (s₁.setTop (mkF m 0 #[.val (.ref a), .val (.int ky), .val (.int ct), .unset, .unset] [])) t := by
        intro t q
        refine k19_ _ ?_
        show Steps p.tables e below (T13.setTop (mkF m 62 #[.val (.ref a), .val (.int ky), .val (.int ct), .val (.int (own_mk ks)), .val (.int (own_sl ks ky))] [])) _
        refine XS.aloadN X13.here hx rfl (hb hby d_prog_82_method_3_62) rfl rfl ?_
        show Steps p.tables e below (T13.setTop (mkF m 63 #[.val (.ref a), .val (.int ky), .val (.int ct), .val (.int (own_mk ks)), .val (.int (own_sl ks ky))] [(.ref a)])) _
        exact q
      obtain ⟨T21, X21, e21, st21⟩ := getF X13 hx hZ hown (host := "") (Or.inl (hw _ (List.mem_of_getElem? (i := 48) rfl))) Via.refl e13 FC (g := (mkF m 63 #[.val (.ref a), .val (.int ky), .val (.int ct), .val (.int (own_mk ks)), .val (.int (own_sl ks ky))] [(.ref a)])) rfl rfl (hb hby d_prog_82_method_3_63)
      have k22_ : ∀ t, Steps p.tables e below (T21.setTop (mkF m 66 #[.val (.ref a), .val (.int ky), .val (.int ct), .val (.int (own_mk ks)), .val (.int (own_sl ks ky))] [(.ref cb)])) t → Steps p.tables e below (s₁.setTop (mkF m 0 #[.val (.ref a), .val (.int ky), .val (.int ct), .unset, .unset] [])) t := fun t q => k20_ t (st21 t q)
      have k23_ : ∀ t, Steps p.tables e below (T21.setTop (mkF m 69 #[.val (.ref a), .val (.int ky), .val (.int ct), .val (.int (own_mk ks)), .val (.int (own_sl ks ky))] [(.int ct), (.int (own_sl ks ky)), (.ref cb)])) t → Steps p.tables e below (s₁.setTop (mkF m 0 #[.val (.ref a), .val (.int ky), .val (.int ct), .unset, .unset] [])) t := by
        intro t q
        refine k22_ _ ?_
        show Steps p.tables e below (T21.setTop (mkF m 66 #[.val (.ref a), .val (.int ky), .val (.int ct), .val (.int (own_mk ks)), .val (.int (own_sl ks ky))] [(.ref cb)])) _
        refine XS.iload X21.here hx rfl (hb hby d_prog_82_method_3_66) rfl ?_
        show Steps p.tables e below (T21.setTop (mkF m 68 #[.val (.ref a), .val (.int ky), .val (.int ct), .val (.int (own_mk ks)), .val (.int (own_sl ks ky))] [(.int (own_sl ks ky)), (.ref cb)])) _
        refine XS.iloadN X21.here hx rfl (hb hby d_prog_82_method_3_68) rfl ?_
        show Steps p.tables e below (T21.setTop (mkF m 69 #[.val (.ref a), .val (.int ky), .val (.int ct), .val (.int (own_mk ks)), .val (.int (own_sl ks ky))] [(.int ct), (.int (own_sl ks ky)), (.ref cb)])) _
        exact q
      obtain ⟨cl24, Ar24, q24, S24, M24, H24, G24⟩ := VC
      obtain ⟨T25, h25, X25, e25, W25, st25⟩ := stI X21 hx hZ e21 Ar24 (j := (own_sl ks ky)) (inb_of S24 d2) (g := (mkF m 69 #[.val (.ref a), .val (.int ky), .val (.int ct), .val (.int (own_mk ks)), .val (.int (own_sl ks ky))] [(.int ct), (.int (own_sl ks ky)), (.ref cb)])) rfl rfl (hb hby d_prog_82_method_3_69)
      have k26_ : ∀ t, Steps p.tables e below (T25.setTop (mkF m 70 #[.val (.ref a), .val (.int ky), .val (.int ct), .val (.int (own_mk ks)), .val (.int (own_sl ks ky))] [])) t → Steps p.tables e below (s₁.setTop (mkF m 0 #[.val (.ref a), .val (.int ky), .val (.int ct), .unset, .unset] [])) t := fun t q => k23_ t (st25 t q)
      have N25 := Fr.snoc X25 N8 g3
      replace Zn := Nat.le_trans Zn (Keep.of_wr W25).1
      replace EA := EA.wr W25
      replace FK := FK.other W25 (Or.inl n2)
      replace FC := FC.other W25 (Or.inl n2)
      replace FS := FS.other W25 (Or.inl n2)
      replace VK := VK.other W25 n3
      have VC : Arv Z h25 cb kC .int (own_ln ks) ((cs.set ((own_sl ks ky)).toNatClampNeg ct).map Value.int) (.int 0) := by rw [List.map_set]; exact Arv.set Ar24 q24 S24 M24 H24 G24 rfl W25 _ rfl (by rw [List.length_map, hlen]; exact own_rg l4 d2)
      replace KP := KP.wr W25 (Or.inl (List.mem_of_getElem? (i := 2) rfl))
      have k27_ : ∀ t, Steps p.tables e below (T25.setTop (mkF m 130 #[.val (.ref a), .val (.int ky), .val (.int ct), .val (.int (own_mk ks)), .val (.int (own_sl ks ky))] [])) t → Steps p.tables e below (s₁.setTop (mkF m 0 #[.val (.ref a), .val (.int ky), .val (.int ct), .unset, .unset] [])) t := by
        intro t q
        refine k26_ _ ?_
        show Steps p.tables e below (T25.setTop (mkF m 70 #[.val (.ref a), .val (.int ky), .val (.int ct), .val (.int (own_mk ks)), .val (.int (own_sl ks ky))] [])) _
        refine XS.goto X25.here hx rfl (pc0 := 70) (pc' := 130) rfl (hb hby d_prog_82_method_3_70) (by decide) (by decide) ?_
        show Steps p.tables e below (T25.setTop (mkF m 130 #[.val (.ref a), .val (.int ky), .val (.int ct), .val (.int (own_mk ks)), .val (.int (own_sl ks ky))] [])) _
        exact q
      obtain ⟨fs, hr, hrun, hended, hW, hsame⟩ := X25.leave (v := none) (fun _ => rfl)
      refine ⟨_, _, pre0 _ (k27_ _ ?_), hrun, hended, _, _, rfl, ?_, ⟨_, rfl⟩, hW, hsame.mono (by decide) (by decide)⟩
      · show Steps p.tables e below (T25.setTop (mkF m 130 #[.val (.ref a), .val (.int ky), .val (.int ct), .val (.int (own_mk ks)), .val (.int (own_sl ks ky))] [])) _
        exact X25.returnOut hx Bd.returns (hb hby d_prog_82_method_3_130) hr
      · show QP Z a ky ct kb cb ks cs F h0 n0 _ T25.heap _
        rw [e25]
        exact ⟨rfl, N25, kb, cb, ks, _, ⟨EA, FK, FC, FS, ⟨kK, VK⟩, ⟨kC, VC⟩, by rw [List.length_set]; exact hlen, ⟨n1, n2, n3⟩, g1, g2, g3⟩, own_Ct_set hT hk hlen hca hcb, KP, Or.inl ⟨rfl, rfl⟩⟩
    · obtain ⟨u, htk, u1, u2, u3, u4, u5, u6⟩ := own_tb_spec (own_D3 ks hT.1 ky hk hca)
      have k28_ : ∀ t, Steps p.tables e below (T13.setTop (mkF m 73 #[.val (.ref a), .val (.int ky), .val (.int ct), .val (.int (own_mk ks)), .val (.int (own_sl ks ky))] [])) t → Steps p.tables e below (s₁.setTop (mkF m 0 #[.val (.ref a), .val (.int ky), .val (.int ct), .unset, .unset] [])) t := by
        intro t q
        refine k18_ _ ?_
        show Steps p.tables e below (T13.setTop (mkF m 59 #[.val (.ref a), .val (.int ky), .val (.int ct), .val (.int (own_mk ks)), .val (.int (own_sl ks ky))] [(.int ct)])) _
        refine XS.ifYes X13.here hx rfl (pc0 := 59) (pc' := 73) rfl (hb hby d_prog_82_method_3_59) rfl ((if0 _ _).trans (flt hcb).2.2.2) (by decide) (by decide) ?_
        show Steps p.tables e below (T13.setTop (mkF m 73 #[.val (.ref a), .val (.int ky), .val (.int ct), .val (.int (own_mk ks)), .val (.int (own_sl ks ky))] [])) _
        exact q
      have k29_ : ∀ t, Steps p.tables e below (T13.setTop (mkF m 76 #[.val (.ref a), .val (.int ky), .val (.int ct), .val (.int (own_mk ks)), .val (.int (own_sl ks ky))] [(.int (own_sl ks ky)), (.ref a)])) t → Steps p.tables e below (s₁.setTop (mkF m 0 #[.val (.ref a), .val (.int ky), .val (.int ct), .unset, .unset] [])) t := by
        intro t q
        refine k28_ _ ?_
        show Steps p.tables e below (T13.setTop (mkF m 73 #[.val (.ref a), .val (.int ky), .val (.int ct), .val (.int (own_mk ks)), .val (.int (own_sl ks ky))] [])) _
        refine XS.aloadN X13.here hx rfl (hb hby d_prog_82_method_3_73) rfl rfl ?_
        show Steps p.tables e below (T13.setTop (mkF m 74 #[.val (.ref a), .val (.int ky), .val (.int ct), .val (.int (own_mk ks)), .val (.int (own_sl ks ky))] [(.ref a)])) _
        refine XS.iload X13.here hx rfl (hb hby d_prog_82_method_3_74) rfl ?_
        show Steps p.tables e below (T13.setTop (mkF m 76 #[.val (.ref a), .val (.int ky), .val (.int ct), .val (.int (own_mk ks)), .val (.int (own_sl ks ky))] [(.int (own_sl ks ky)), (.ref a)])) _
        exact q
      obtain ⟨cq30, kq30, oq30⟩ := Exa.cell EA
      obtain ⟨_, _, ⟨T30, L30, kk30, n30⟩, -, X30, ⟨Lc30, hQ30, l30, y30, z30⟩, st30⟩ := X13.privateBack hx (y := (⟨"com/example/weir/weir/model/HeldTasks$Counts", "takeOut", "(I)V"⟩ : MethodName)) hown (mvT hZ (hw _ (List.mem_of_getElem? (i := 69) rfl))) (mvT hZ (hw _ (List.mem_of_getElem? (i := 70) rfl))) (own_sel (y := (⟨"com/example/weir/weir/model/HeldTasks$Counts", "takeOut", "(I)V"⟩ : MethodName)) hZ (hw _ (List.mem_of_getElem? (i := 40) rfl)) (hw _ (List.mem_of_getElem? (i := 71) rfl)) (hw _ (List.mem_of_getElem? (i := 70) rfl)) (by decide)) (Cond.privateMethod_at (args := #[]) (mvP hZ (hw _ (List.mem_of_getElem? (i := 71) rfl)))) (mvT hZ (hw _ (List.mem_of_getElem? (i := 72) rfl))) (by decide) (backOf (W := 0) (rmT l Z a0 hw [] a (own_sl ks ky) kb cb ks cs F u h0 n0 Zn hC l4 d2 hT.2.1 htk u3) hZ (hw _ (List.mem_of_getElem? (i := 72) rfl)) (hw _ (List.mem_of_getElem? (i := 41) rfl)) (by decide) (by decide)) (g := (mkF m 76 #[.val (.ref a), .val (.int ky), .val (.int ct), .val (.int (own_mk ks)), .val (.int (own_sl ks ky))] [(.int (own_sl ks ky)), (.ref a)])) rfl (by rw [hml]; rfl) (Steps.refl _) (a := a) (cell := cq30) (by rw [e13]; exact kq30) oq30 (argsL := [(.int (own_sl ks ky))]) (rest := []) (lenOf pd_27776 rfl) rfl (by show 2 * 0 + _ ≤ _; exact Nat.le_of_eq rfl) (hb hby d_prog_82_method_3_76) (fun _ _ => ⟨rfl, e13, (by decide : 0 + 0 + 0 ≤ _), (by decide : 0 + 0 + 0 ≤ _)⟩)
      dsimp only [Pt.U, Pt.locs, Pt.cells, Pt.slots] at X30 l30 y30 z30 st30 hQ30
      rw [l30, y30, z30] at X30
      obtain ⟨rfl, Nq30, KT, cs', hC', hF'⟩ := hQ30
      have N30 := Fr.app N8 Nq30
      have k31_ : ∀ t, Steps p.tables e below (T30.setTop (mkF m 79 #[.val (.ref a), .val (.int ky), .val (.int ct), .val (.int (own_mk ks)), .val (.int (own_sl ks ky))] [])) t → Steps p.tables e below (s₁.setTop (mkF m 0 #[.val (.ref a), .val (.int ky), .val (.int ct), .unset, .unset] [])) t := fun t q => k29_ t (st30.trans q)
      have k32_ : ∀ t, Steps p.tables e below (T30.setTop (mkF m 130 #[.val (.ref a), .val (.int ky), .val (.int ct), .val (.int (own_mk ks)), .val (.int (own_sl ks ky))] [])) t → Steps p.tables e below (s₁.setTop (mkF m 0 #[.val (.ref a), .val (.int ky), .val (.int ct), .unset, .unset] [])) t := by
        intro t q
        refine k31_ _ ?_
        show Steps p.tables e below (T30.setTop (mkF m 79 #[.val (.ref a), .val (.int ky), .val (.int ct), .val (.int (own_mk ks)), .val (.int (own_sl ks ky))] [])) _
        refine XS.goto X30.here hx rfl (pc0 := 79) (pc' := 130) rfl (hb hby d_prog_82_method_3_79) (by decide) (by decide) ?_
        show Steps p.tables e below (T30.setTop (mkF m 130 #[.val (.ref a), .val (.int ky), .val (.int ct), .val (.int (own_mk ks)), .val (.int (own_sl ks ky))] [])) _
        exact q
      obtain ⟨fs, hr, hrun, hended, hW, hsame⟩ := X30.leave (v := none) (fun _ => rfl)
      refine ⟨_, _, pre0 _ (k32_ _ ?_), hrun, hended, _, _, rfl, ?_, ⟨_, rfl⟩, hW, hsame.mono (by decide) (by decide)⟩
      · show Steps p.tables e below (T30.setTop (mkF m 130 #[.val (.ref a), .val (.int ky), .val (.int ct), .val (.int (own_mk ks)), .val (.int (own_sl ks ky))] [])) _
        exact X30.returnOut hx Bd.returns (hb hby d_prog_82_method_3_130) hr
      · show QP Z a ky ct kb cb ks cs F h0 n0 _ T30.heap _
        exact ⟨rfl, N30, kb, cb, u, cs', hC', by rw [own_z hn hcb]; exact own_Ct_tk hT u1 u4 u5 u6 hF', KT, Or.inl ⟨rfl, rfl⟩⟩
  · have hct : (0 : Int32) < ct := hp.resolve_right (fun z => hca (own_Ct_pos hT hk z))
    have k33_ : ∀ t, Steps p.tables e below (T13.setTop (mkF m 82 #[.val (.ref a), .val (.int ky), .val (.int ct), .val (.int (own_mk ks)), .val (.int (own_sl ks ky))] [])) t → Steps p.tables e below (s₁.setTop (mkF m 0 #[.val (.ref a), .val (.int ky), .val (.int ct), .unset, .unset] [])) t := by
      intro t q
      refine k16_ _ ?_
      show Steps p.tables e below (T13.setTop (mkF m 55 #[.val (.ref a), .val (.int ky), .val (.int ct), .val (.int (own_mk ks)), .val (.int (own_sl ks ky))] [(.int ky), (.int (own_g ks (own_sl ks ky)))])) _
      refine XS.icmpYes X13.here hx rfl (pc0 := 55) (pc' := 82) rfl (hb hby d_prog_82_method_3_55) rfl (feq hca).2 (by decide) (by decide) ?_
      show Steps p.tables e below (T13.setTop (mkF m 82 #[.val (.ref a), .val (.int ky), .val (.int ct), .val (.int (own_mk ks)), .val (.int (own_sl ks ky))] [])) _
      exact q
    have k34_ : ∀ t, Steps p.tables e below (T13.setTop (mkF m 83 #[.val (.ref a), .val (.int ky), .val (.int ct), .val (.int (own_mk ks)), .val (.int (own_sl ks ky))] [(.int ct)])) t → Steps p.tables e below (s₁.setTop (mkF m 0 #[.val (.ref a), .val (.int ky), .val (.int ct), .unset, .unset] [])) t := by
      intro t q
      refine k33_ _ ?_
      show Steps p.tables e below (T13.setTop (mkF m 82 #[.val (.ref a), .val (.int ky), .val (.int ct), .val (.int (own_mk ks)), .val (.int (own_sl ks ky))] [])) _
      refine XS.iloadN X13.here hx rfl (hb hby d_prog_82_method_3_82) rfl ?_
      show Steps p.tables e below (T13.setTop (mkF m 83 #[.val (.ref a), .val (.int ky), .val (.int ct), .val (.int (own_mk ks)), .val (.int (own_sl ks ky))] [(.int ct)])) _
      exact q
    have k35_ : ∀ t, Steps p.tables e below (T13.setTop (mkF m 86 #[.val (.ref a), .val (.int ky), .val (.int ct), .val (.int (own_mk ks)), .val (.int (own_sl ks ky))] [])) t → Steps p.tables e below (s₁.setTop (mkF m 0 #[.val (.ref a), .val (.int ky), .val (.int ct), .unset, .unset] [])) t := by
      intro t q
      refine k34_ _ ?_
      show Steps p.tables e below (T13.setTop (mkF m 83 #[.val (.ref a), .val (.int ky), .val (.int ct), .val (.int (own_mk ks)), .val (.int (own_sl ks ky))] [(.int ct)])) _
      refine XS.ifNo X13.here hx rfl (hb hby d_prog_82_method_3_83) rfl ((if0 _ _).trans (tlt hct).2.2.2) ?_
      show Steps p.tables e below (T13.setTop (mkF m 86 #[.val (.ref a), .val (.int ky), .val (.int ct), .val (.int (own_mk ks)), .val (.int (own_sl ks ky))] [])) _
      exact q
    have k36_ : ∀ t, Steps p.tables e below (T13.setTop (mkF m 87 #[.val (.ref a), .val (.int ky), .val (.int ct), .val (.int (own_mk ks)), .val (.int (own_sl ks ky))] [(.ref a)])) t → Steps p.tables e below (s₁.setTop (mkF m 0 #[.val (.ref a), .val (.int ky), .val (.int ct), .unset, .unset] [])) t := by
      intro t q
      refine k35_ _ ?_
      show Steps p.tables e below (T13.setTop (mkF m 86 #[.val (.ref a), .val (.int ky), .val (.int ct), .val (.int (own_mk ks)), .val (.int (own_sl ks ky))] [])) _
      refine XS.aloadN X13.here hx rfl (hb hby d_prog_82_method_3_86) rfl rfl ?_
      show Steps p.tables e below (T13.setTop (mkF m 87 #[.val (.ref a), .val (.int ky), .val (.int ct), .val (.int (own_mk ks)), .val (.int (own_sl ks ky))] [(.ref a)])) _
      exact q
    obtain ⟨T37, X37, e37, st37⟩ := getF X13 hx hZ hown (host := "") (Or.inl (hw _ (List.mem_of_getElem? (i := 46) rfl))) Via.refl e13 FK (g := (mkF m 87 #[.val (.ref a), .val (.int ky), .val (.int ct), .val (.int (own_mk ks)), .val (.int (own_sl ks ky))] [(.ref a)])) rfl rfl (hb hby d_prog_82_method_3_87)
    have k38_ : ∀ t, Steps p.tables e below (T37.setTop (mkF m 90 #[.val (.ref a), .val (.int ky), .val (.int ct), .val (.int (own_mk ks)), .val (.int (own_sl ks ky))] [(.ref kb)])) t → Steps p.tables e below (s₁.setTop (mkF m 0 #[.val (.ref a), .val (.int ky), .val (.int ct), .unset, .unset] [])) t := fun t q => k36_ t (st37 t q)
    have k39_ : ∀ t, Steps p.tables e below (T37.setTop (mkF m 93 #[.val (.ref a), .val (.int ky), .val (.int ct), .val (.int (own_mk ks)), .val (.int (own_sl ks ky))] [(.int ky), (.int (own_sl ks ky)), (.ref kb)])) t → Steps p.tables e below (s₁.setTop (mkF m 0 #[.val (.ref a), .val (.int ky), .val (.int ct), .unset, .unset] [])) t := by
      intro t q
      refine k38_ _ ?_
      show Steps p.tables e below (T37.setTop (mkF m 90 #[.val (.ref a), .val (.int ky), .val (.int ct), .val (.int (own_mk ks)), .val (.int (own_sl ks ky))] [(.ref kb)])) _
      refine XS.iload X37.here hx rfl (hb hby d_prog_82_method_3_90) rfl ?_
      show Steps p.tables e below (T37.setTop (mkF m 92 #[.val (.ref a), .val (.int ky), .val (.int ct), .val (.int (own_mk ks)), .val (.int (own_sl ks ky))] [(.int (own_sl ks ky)), (.ref kb)])) _
      refine XS.iloadN X37.here hx rfl (hb hby d_prog_82_method_3_92) rfl ?_
      show Steps p.tables e below (T37.setTop (mkF m 93 #[.val (.ref a), .val (.int ky), .val (.int ct), .val (.int (own_mk ks)), .val (.int (own_sl ks ky))] [(.int ky), (.int (own_sl ks ky)), (.ref kb)])) _
      exact q
    obtain ⟨cl40, Ar40, q40, S40, M40, H40, G40⟩ := VK
    obtain ⟨T41, h41, X41, e41, W41, st41⟩ := stI X37 hx hZ e37 Ar40 (j := (own_sl ks ky)) (inb_of S40 d2) (g := (mkF m 93 #[.val (.ref a), .val (.int ky), .val (.int ct), .val (.int (own_mk ks)), .val (.int (own_sl ks ky))] [(.int ky), (.int (own_sl ks ky)), (.ref kb)])) rfl rfl (hb hby d_prog_82_method_3_93)
    have k42_ : ∀ t, Steps p.tables e below (T41.setTop (mkF m 94 #[.val (.ref a), .val (.int ky), .val (.int ct), .val (.int (own_mk ks)), .val (.int (own_sl ks ky))] [])) t → Steps p.tables e below (s₁.setTop (mkF m 0 #[.val (.ref a), .val (.int ky), .val (.int ct), .unset, .unset] [])) t := fun t q => k39_ t (st41 t q)
    have N41 := Fr.snoc X41 N8 g2
    replace Zn := Nat.le_trans Zn (Keep.of_wr W41).1
    replace EA := EA.wr W41
    replace FK := FK.other W41 (Or.inl n1)
    replace FC := FC.other W41 (Or.inl n1)
    replace FS := FS.other W41 (Or.inl n1)
    replace VC := VC.other W41 (Ne.symm n3)
    have VK : Arv Z h41 kb kK .int (own_ln ks) ((ks.set ((own_sl ks ky)).toNatClampNeg ky).map Value.int) (.int 0) := by rw [List.map_set]; exact Arv.set Ar40 q40 S40 M40 H40 G40 rfl W41 _ rfl (own_rgm l4 d2)
    replace KP := KP.wr W41 (Or.inl (List.mem_of_getElem? (i := 1) rfl))
    have k43_ : ∀ t, Steps p.tables e below (T41.setTop (mkF m 95 #[.val (.ref a), .val (.int ky), .val (.int ct), .val (.int (own_mk ks)), .val (.int (own_sl ks ky))] [(.ref a)])) t → Steps p.tables e below (s₁.setTop (mkF m 0 #[.val (.ref a), .val (.int ky), .val (.int ct), .unset, .unset] [])) t := by
      intro t q
      refine k42_ _ ?_
      show Steps p.tables e below (T41.setTop (mkF m 94 #[.val (.ref a), .val (.int ky), .val (.int ct), .val (.int (own_mk ks)), .val (.int (own_sl ks ky))] [])) _
      refine XS.aloadN X41.here hx rfl (hb hby d_prog_82_method_3_94) rfl rfl ?_
      show Steps p.tables e below (T41.setTop (mkF m 95 #[.val (.ref a), .val (.int ky), .val (.int ct), .val (.int (own_mk ks)), .val (.int (own_sl ks ky))] [(.ref a)])) _
      exact q
    obtain ⟨T44, X44, e44, st44⟩ := getF X41 hx hZ hown (host := "") (Or.inl (hw _ (List.mem_of_getElem? (i := 48) rfl))) Via.refl e41 FC (g := (mkF m 95 #[.val (.ref a), .val (.int ky), .val (.int ct), .val (.int (own_mk ks)), .val (.int (own_sl ks ky))] [(.ref a)])) rfl rfl (hb hby d_prog_82_method_3_95)
    have k45_ : ∀ t, Steps p.tables e below (T44.setTop (mkF m 98 #[.val (.ref a), .val (.int ky), .val (.int ct), .val (.int (own_mk ks)), .val (.int (own_sl ks ky))] [(.ref cb)])) t → Steps p.tables e below (s₁.setTop (mkF m 0 #[.val (.ref a), .val (.int ky), .val (.int ct), .unset, .unset] [])) t := fun t q => k43_ t (st44 t q)
    have k46_ : ∀ t, Steps p.tables e below (T44.setTop (mkF m 101 #[.val (.ref a), .val (.int ky), .val (.int ct), .val (.int (own_mk ks)), .val (.int (own_sl ks ky))] [(.int ct), (.int (own_sl ks ky)), (.ref cb)])) t → Steps p.tables e below (s₁.setTop (mkF m 0 #[.val (.ref a), .val (.int ky), .val (.int ct), .unset, .unset] [])) t := by
      intro t q
      refine k45_ _ ?_
      show Steps p.tables e below (T44.setTop (mkF m 98 #[.val (.ref a), .val (.int ky), .val (.int ct), .val (.int (own_mk ks)), .val (.int (own_sl ks ky))] [(.ref cb)])) _
      refine XS.iload X44.here hx rfl (hb hby d_prog_82_method_3_98) rfl ?_
      show Steps p.tables e below (T44.setTop (mkF m 100 #[.val (.ref a), .val (.int ky), .val (.int ct), .val (.int (own_mk ks)), .val (.int (own_sl ks ky))] [(.int (own_sl ks ky)), (.ref cb)])) _
      refine XS.iloadN X44.here hx rfl (hb hby d_prog_82_method_3_100) rfl ?_
      show Steps p.tables e below (T44.setTop (mkF m 101 #[.val (.ref a), .val (.int ky), .val (.int ct), .val (.int (own_mk ks)), .val (.int (own_sl ks ky))] [(.int ct), (.int (own_sl ks ky)), (.ref cb)])) _
      exact q
    obtain ⟨cl47, Ar47, q47, S47, M47, H47, G47⟩ := VC
    obtain ⟨T48, h48, X48, e48, W48, st48⟩ := stI X44 hx hZ e44 Ar47 (j := (own_sl ks ky)) (inb_of S47 d2) (g := (mkF m 101 #[.val (.ref a), .val (.int ky), .val (.int ct), .val (.int (own_mk ks)), .val (.int (own_sl ks ky))] [(.int ct), (.int (own_sl ks ky)), (.ref cb)])) rfl rfl (hb hby d_prog_82_method_3_101)
    have k49_ : ∀ t, Steps p.tables e below (T48.setTop (mkF m 102 #[.val (.ref a), .val (.int ky), .val (.int ct), .val (.int (own_mk ks)), .val (.int (own_sl ks ky))] [])) t → Steps p.tables e below (s₁.setTop (mkF m 0 #[.val (.ref a), .val (.int ky), .val (.int ct), .unset, .unset] [])) t := fun t q => k46_ t (st48 t q)
    have N48 := Fr.snoc X48 N41 g3
    replace Zn := Nat.le_trans Zn (Keep.of_wr W48).1
    replace EA := EA.wr W48
    replace FK := FK.other W48 (Or.inl n2)
    replace FC := FC.other W48 (Or.inl n2)
    replace FS := FS.other W48 (Or.inl n2)
    replace VK := VK.other W48 n3
    have VC : Arv Z h48 cb kC .int (own_ln ks) ((cs.set ((own_sl ks ky)).toNatClampNeg ct).map Value.int) (.int 0) := by rw [List.map_set]; exact Arv.set Ar47 q47 S47 M47 H47 G47 rfl W48 _ rfl (by rw [List.length_map, hlen]; exact own_rg l4 d2)
    replace KP := KP.wr W48 (Or.inl (List.mem_of_getElem? (i := 2) rfl))
    have k50_ : ∀ t, Steps p.tables e below (T48.setTop (mkF m 104 #[.val (.ref a), .val (.int ky), .val (.int ct), .val (.int (own_mk ks)), .val (.int (own_sl ks ky))] [(.ref a), (.ref a)])) t → Steps p.tables e below (s₁.setTop (mkF m 0 #[.val (.ref a), .val (.int ky), .val (.int ct), .unset, .unset] [])) t := by
      intro t q
      refine k49_ _ ?_
      show Steps p.tables e below (T48.setTop (mkF m 102 #[.val (.ref a), .val (.int ky), .val (.int ct), .val (.int (own_mk ks)), .val (.int (own_sl ks ky))] [])) _
      refine XS.aloadN X48.here hx rfl (hb hby d_prog_82_method_3_102) rfl rfl ?_
      show Steps p.tables e below (T48.setTop (mkF m 103 #[.val (.ref a), .val (.int ky), .val (.int ct), .val (.int (own_mk ks)), .val (.int (own_sl ks ky))] [(.ref a)])) _
      refine XS.dup X48.here hx rfl (hb hby d_prog_82_method_3_103) rfl rfl ?_
      show Steps p.tables e below (T48.setTop (mkF m 104 #[.val (.ref a), .val (.int ky), .val (.int ct), .val (.int (own_mk ks)), .val (.int (own_sl ks ky))] [(.ref a), (.ref a)])) _
      exact q
    obtain ⟨T51, X51, e51, st51⟩ := getF X48 hx hZ hown (host := "") (Or.inl (hw _ (List.mem_of_getElem? (i := 60) rfl))) Via.refl e48 FS (g := (mkF m 104 #[.val (.ref a), .val (.int ky), .val (.int ct), .val (.int (own_mk ks)), .val (.int (own_sl ks ky))] [(.ref a), (.ref a)])) rfl rfl (hb hby d_prog_82_method_3_104)
    have k52_ : ∀ t, Steps p.tables e below (T51.setTop (mkF m 107 #[.val (.ref a), .val (.int ky), .val (.int ct), .val (.int (own_mk ks)), .val (.int (own_sl ks ky))] [(.int (own_sz ks)), (.ref a)])) t → Steps p.tables e below (s₁.setTop (mkF m 0 #[.val (.ref a), .val (.int ky), .val (.int ct), .unset, .unset] [])) t := fun t q => k50_ t (st51 t q)
    have k53_ : ∀ t, Steps p.tables e below (T51.setTop (mkF m 109 #[.val (.ref a), .val (.int ky), .val (.int ct), .val (.int (own_mk ks)), .val (.int (own_sl ks ky))] [(.int ((own_sz ks) + (1 : Int32))), (.ref a)])) t → Steps p.tables e below (s₁.setTop (mkF m 0 #[.val (.ref a), .val (.int ky), .val (.int ct), .unset, .unset] [])) t := by
      intro t q
      refine k52_ _ ?_
      show Steps p.tables e below (T51.setTop (mkF m 107 #[.val (.ref a), .val (.int ky), .val (.int ct), .val (.int (own_mk ks)), .val (.int (own_sl ks ky))] [(.int (own_sz ks)), (.ref a)])) _
      refine XS.iconst X51.here hx rfl (hb hby d_prog_82_method_3_107) ?_
      show Steps p.tables e below (T51.setTop (mkF m 108 #[.val (.ref a), .val (.int ky), .val (.int ct), .val (.int (own_mk ks)), .val (.int (own_sl ks ky))] [(.int (1 : Int32)), (.int (own_sz ks)), (.ref a)])) _
      refine XS.iadd X51.here hx rfl (hb hby d_prog_82_method_3_108) rfl ?_
      show Steps p.tables e below (T51.setTop (mkF m 109 #[.val (.ref a), .val (.int ky), .val (.int ct), .val (.int (own_mk ks)), .val (.int (own_sl ks ky))] [(.int ((own_sz ks) + (1 : Int32))), (.ref a)])) _
      exact q
    obtain ⟨T54, h54, X54, e54, W54, st54⟩ := putF X51 hx hZ hown (host := "") (Or.inl (hw _ (List.mem_of_getElem? (i := 60) rfl))) Via.refl e51 FS EA (Or.inl (hw _ (List.mem_of_getElem? (i := 61) rfl))) (hw _ (List.mem_of_getElem? (i := 40) rfl)) (ty := .int) (by decide) rfl rfl (g := (mkF m 109 #[.val (.ref a), .val (.int ky), .val (.int ct), .val (.int (own_mk ks)), .val (.int (own_sl ks ky))] [(.int ((own_sz ks) + (1 : Int32))), (.ref a)])) rfl rfl (hb hby d_prog_82_method_3_109)
    have k55_ : ∀ t, Steps p.tables e below (T54.setTop (mkF m 112 #[.val (.ref a), .val (.int ky), .val (.int ct), .val (.int (own_mk ks)), .val (.int (own_sl ks ky))] [])) t → Steps p.tables e below (s₁.setTop (mkF m 0 #[.val (.ref a), .val (.int ky), .val (.int ct), .unset, .unset] [])) t := fun t q => k53_ t (st54 t q)
    have N54 := Fr.snoc X54 N48 g1
    replace Zn := Nat.le_trans Zn (Keep.of_wr W54).1
    replace EA := EA.wr W54
    replace FK := FK.other W54 (Or.inr (slot_ne (Or.inl (hw _ (List.mem_of_getElem? (i := 47) rfl))) (Or.inl (hw _ (List.mem_of_getElem? (i := 61) rfl))) (by decide) (t := (.array .int)) (t' := .int) (by decide) (by decide)))
    replace FC := FC.other W54 (Or.inr (slot_ne (Or.inl (hw _ (List.mem_of_getElem? (i := 49) rfl))) (Or.inl (hw _ (List.mem_of_getElem? (i := 61) rfl))) (by decide) (t := (.array .int)) (t' := .int) (by decide) (by decide)))
    replace VK := VK.other W54 (Ne.symm n1)
    replace VC := VC.other W54 (Ne.symm n2)
    replace FS := FS.same W54
    replace KP := KP.wr W54 (Or.inl (List.mem_of_getElem? (i := 0) rfl))
    have k56_ : ∀ t, Steps p.tables e below (T54.setTop (mkF m 114 #[.val (.ref a), .val (.int ky), .val (.int ct), .val (.int (own_mk ks)), .val (.int (own_sl ks ky))] [(.ref a), (.int (2 : Int32))])) t → Steps p.tables e below (s₁.setTop (mkF m 0 #[.val (.ref a), .val (.int ky), .val (.int ct), .unset, .unset] [])) t := by
      intro t q
      refine k55_ _ ?_
      show Steps p.tables e below (T54.setTop (mkF m 112 #[.val (.ref a), .val (.int ky), .val (.int ct), .val (.int (own_mk ks)), .val (.int (own_sl ks ky))] [])) _
      refine XS.iconst X54.here hx rfl (hb hby d_prog_82_method_3_112) ?_
      show Steps p.tables e below (T54.setTop (mkF m 113 #[.val (.ref a), .val (.int ky), .val (.int ct), .val (.int (own_mk ks)), .val (.int (own_sl ks ky))] [(.int (2 : Int32))])) _
      refine XS.aloadN X54.here hx rfl (hb hby d_prog_82_method_3_113) rfl rfl ?_
      show Steps p.tables e below (T54.setTop (mkF m 114 #[.val (.ref a), .val (.int ky), .val (.int ct), .val (.int (own_mk ks)), .val (.int (own_sl ks ky))] [(.ref a), (.int (2 : Int32))])) _
      exact q
    obtain ⟨T57, X57, e57, st57⟩ := getF X54 hx hZ hown (host := "") (Or.inl (hw _ (List.mem_of_getElem? (i := 60) rfl))) Via.refl e54 FS (g := (mkF m 114 #[.val (.ref a), .val (.int ky), .val (.int ct), .val (.int (own_mk ks)), .val (.int (own_sl ks ky))] [(.ref a), (.int (2 : Int32))])) rfl rfl (hb hby d_prog_82_method_3_114)
    have k58_ : ∀ t, Steps p.tables e below (T57.setTop (mkF m 117 #[.val (.ref a), .val (.int ky), .val (.int ct), .val (.int (own_mk ks)), .val (.int (own_sl ks ky))] [(.int ((own_sz ks) + (1 : Int32))), (.int (2 : Int32))])) t → Steps p.tables e below (s₁.setTop (mkF m 0 #[.val (.ref a), .val (.int ky), .val (.int ct), .unset, .unset] [])) t := fun t q => k56_ t (st57 t q)
    have k59_ : ∀ t, Steps p.tables e below (T57.setTop (mkF m 119 #[.val (.ref a), .val (.int ky), .val (.int ct), .val (.int (own_mk ks)), .val (.int (own_sl ks ky))] [(.ref a), (.int ((2 : Int32) * ((own_sz ks) + (1 : Int32))))])) t → Steps p.tables e below (s₁.setTop (mkF m 0 #[.val (.ref a), .val (.int ky), .val (.int ct), .unset, .unset] [])) t := by
      intro t q
      refine k58_ _ ?_
      show Steps p.tables e below (T57.setTop (mkF m 117 #[.val (.ref a), .val (.int ky), .val (.int ct), .val (.int (own_mk ks)), .val (.int (own_sl ks ky))] [(.int ((own_sz ks) + (1 : Int32))), (.int (2 : Int32))])) _
      refine XS.imul X57.here hx rfl (hb hby d_prog_82_method_3_117) rfl ?_
      show Steps p.tables e below (T57.setTop (mkF m 118 #[.val (.ref a), .val (.int ky), .val (.int ct), .val (.int (own_mk ks)), .val (.int (own_sl ks ky))] [(.int ((2 : Int32) * ((own_sz ks) + (1 : Int32))))])) _
      refine XS.aloadN X57.here hx rfl (hb hby d_prog_82_method_3_118) rfl rfl ?_
      show Steps p.tables e below (T57.setTop (mkF m 119 #[.val (.ref a), .val (.int ky), .val (.int ct), .val (.int (own_mk ks)), .val (.int (own_sl ks ky))] [(.ref a), (.int ((2 : Int32) * ((own_sz ks) + (1 : Int32))))])) _
      exact q
    obtain ⟨T60, X60, e60, st60⟩ := getF X57 hx hZ hown (host := "") (Or.inl (hw _ (List.mem_of_getElem? (i := 46) rfl))) Via.refl e57 FK (g := (mkF m 119 #[.val (.ref a), .val (.int ky), .val (.int ct), .val (.int (own_mk ks)), .val (.int (own_sl ks ky))] [(.ref a), (.int ((2 : Int32) * ((own_sz ks) + (1 : Int32))))])) rfl rfl (hb hby d_prog_82_method_3_119)
    have k61_ : ∀ t, Steps p.tables e below (T60.setTop (mkF m 122 #[.val (.ref a), .val (.int ky), .val (.int ct), .val (.int (own_mk ks)), .val (.int (own_sl ks ky))] [(.ref kb), (.int ((2 : Int32) * ((own_sz ks) + (1 : Int32))))])) t → Steps p.tables e below (s₁.setTop (mkF m 0 #[.val (.ref a), .val (.int ky), .val (.int ct), .unset, .unset] [])) t := fun t q => k59_ t (st60 t q)
    obtain ⟨cl62, Ar62, q62, S62, M62, H62, G62⟩ := id VK
    have k63_ : ∀ t, Steps p.tables e below (T60.setTop (mkF m 123 #[.val (.ref a), .val (.int ky), .val (.int ct), .val (.int (own_mk ks)), .val (.int (own_sl ks ky))] [(.int (own_ln ks)), (.int ((2 : Int32) * ((own_sz ks) + (1 : Int32))))])) t → Steps p.tables e below (s₁.setTop (mkF m 0 #[.val (.ref a), .val (.int ky), .val (.int ct), .unset, .unset] [])) t := by
      intro t q
      refine k61_ _ ?_
      show Steps p.tables e below (T60.setTop (mkF m 122 #[.val (.ref a), .val (.int ky), .val (.int ct), .val (.int (own_mk ks)), .val (.int (own_sl ks ky))] [(.ref kb), (.int ((2 : Int32) * ((own_sz ks) + (1 : Int32))))])) _
      refine X60.arraylength hx (by rw [e60]; exact Ar62.1) (State.isArrayOf_alike hZ.alike Ar62.2.1) (g := (mkF m 122 #[.val (.ref a), .val (.int ky), .val (.int ct), .val (.int (own_mk ks)), .val (.int (own_sl ks ky))] [(.ref kb), (.int ((2 : Int32) * ((own_sz ks) + (1 : Int32))))])) rfl rfl (hb hby d_prog_82_method_3_122) _ ?_
      rw [len_of S62 M62]
      show Steps p.tables e below (T60.setTop (mkF m 123 #[.val (.ref a), .val (.int ky), .val (.int ct), .val (.int (own_mk ks)), .val (.int (own_sl ks ky))] [(.int (own_ln ks)), (.int ((2 : Int32) * ((own_sz ks) + (1 : Int32))))])) _
      exact q
    by_cases hcc : (own_ln ks) < ((2 : Int32) * ((own_sz ks) + (1 : Int32)))
    · obtain ⟨a1, a2, a3, a4, a5⟩ := (own_D2 ks hT.1 ky hk hca).2.2 hcc
      have hC1 : own_Cn Z n0 h54 a kb cb (own_in ks ky) (cs.set (own_sl ks ky).toNatClampNeg ct) := ⟨EA, FK, FC, by rw [← (own_D2 ks hT.1 ky hk hca).1.1]; exact FS, ⟨kK, by rw [own_ln_in]; exact VK⟩, ⟨kC, by rw [own_ln_in]; exact VC⟩, own_len_in hlen, ⟨n1, n2, n3⟩, g1, g2, g3⟩
      have hF1 : own_C (own_up F ky ct) (own_in ks ky) (cs.set (own_sl ks ky).toNatClampNeg ct) := own_Ct_C hT hk hlen hca
      have hpos : ∀ i, i < 4 → ¬ (own_in ks ky).getD i 0 < 0 → 0 < (cs.set (own_sl ks ky).toNatClampNeg ct).getD i 0 := fun i hi hn' => by rw [hF1 i (by omega) hn']; exact (own_Ct_23 hT hk hca hct).2 _ (own_mem (by omega)) hn'
      have k64_ : ∀ t, Steps p.tables e below (T60.setTop (mkF m 126 #[.val (.ref a), .val (.int ky), .val (.int ct), .val (.int (own_mk ks)), .val (.int (own_sl ks ky))] [])) t → Steps p.tables e below (s₁.setTop (mkF m 0 #[.val (.ref a), .val (.int ky), .val (.int ct), .unset, .unset] [])) t := by
        intro t q
        refine k63_ _ ?_
        show Steps p.tables e below (T60.setTop (mkF m 123 #[.val (.ref a), .val (.int ky), .val (.int ct), .val (.int (own_mk ks)), .val (.int (own_sl ks ky))] [(.int (own_ln ks)), (.int ((2 : Int32) * ((own_sz ks) + (1 : Int32))))])) _
        refine XS.icmpNo X60.here hx rfl (hb hby d_prog_82_method_3_123) rfl (tlt hcc).2.2.2 ?_
        show Steps p.tables e below (T60.setTop (mkF m 126 #[.val (.ref a), .val (.int ky), .val (.int ct), .val (.int (own_mk ks)), .val (.int (own_sl ks ky))] [])) _
        exact q
      have k65_ : ∀ t, Steps p.tables e below (T60.setTop (mkF m 127 #[.val (.ref a), .val (.int ky), .val (.int ct), .val (.int (own_mk ks)), .val (.int (own_sl ks ky))] [(.ref a)])) t → Steps p.tables e below (s₁.setTop (mkF m 0 #[.val (.ref a), .val (.int ky), .val (.int ct), .unset, .unset] [])) t := by
        intro t q
        refine k64_ _ ?_
        show Steps p.tables e below (T60.setTop (mkF m 126 #[.val (.ref a), .val (.int ky), .val (.int ct), .val (.int (own_mk ks)), .val (.int (own_sl ks ky))] [])) _
        refine XS.aloadN X60.here hx rfl (hb hby d_prog_82_method_3_126) rfl rfl ?_
        show Steps p.tables e below (T60.setTop (mkF m 127 #[.val (.ref a), .val (.int ky), .val (.int ct), .val (.int (own_mk ks)), .val (.int (own_sl ks ky))] [(.ref a)])) _
        exact q
      obtain ⟨cq66, kq66, oq66⟩ := Exa.cell EA
      obtain ⟨_, _, ⟨T66, L66, kk66, n66⟩, -, X66, ⟨Lc66, hQ66, l66, y66, z66⟩, st66⟩ := X60.privateBack hx (y := (⟨"com/example/weir/weir/model/HeldTasks$Counts", "grow", "()V"⟩ : MethodName)) hown (mvT hZ (hw _ (List.mem_of_getElem? (i := 73) rfl))) (mvT hZ (hw _ (List.mem_of_getElem? (i := 74) rfl))) (own_sel (y := (⟨"com/example/weir/weir/model/HeldTasks$Counts", "grow", "()V"⟩ : MethodName)) hZ (hw _ (List.mem_of_getElem? (i := 40) rfl)) (hw _ (List.mem_of_getElem? (i := 75) rfl)) (hw _ (List.mem_of_getElem? (i := 74) rfl)) (by decide)) (Cond.privateMethod_at (args := #[]) (mvP hZ (hw _ (List.mem_of_getElem? (i := 75) rfl)))) (mvT hZ (hw _ (List.mem_of_getElem? (i := 76) rfl))) (by decide) (backOf (W := 0) (rmW l Z a0 hw [] a kb cb (own_in ks ky) (cs.set (own_sl ks ky).toNatClampNeg ct) (own_up F ky ct) h54 n0 Zn hC1 a1 a2 hF1 hpos) hZ (hw _ (List.mem_of_getElem? (i := 76) rfl)) (hw _ (List.mem_of_getElem? (i := 41) rfl)) (by decide) (by decide)) (g := (mkF m 127 #[.val (.ref a), .val (.int ky), .val (.int ct), .val (.int (own_mk ks)), .val (.int (own_sl ks ky))] [(.ref a)])) rfl (by rw [hml]; rfl) (Steps.refl _) (a := a) (cell := cq66) (by rw [e60]; exact kq66) oq66 (argsL := []) (rest := []) (lenOf pd_48334 rfl) rfl (by show 2 * 0 + _ ≤ _; exact Nat.le_of_eq rfl) (hb hby d_prog_82_method_3_127) (fun _ _ => ⟨rfl, e60, (by decide : 0 + 0 + 2 ≤ _), (by decide : 0 + 0 + 16 ≤ _)⟩)
      dsimp only [Pt.U, Pt.locs, Pt.cells, Pt.slots] at X66 l66 y66 z66 st66 hQ66
      rw [l66, y66, z66] at X66
      obtain ⟨rfl, Nq66, kb', cb', cs', hC', hF', z1, z2, KW⟩ := hQ66
      have N66 := Fr.app N54 Nq66
      have k67_ : ∀ t, Steps p.tables e below (T66.setTop (mkF m 130 #[.val (.ref a), .val (.int ky), .val (.int ct), .val (.int (own_mk ks)), .val (.int (own_sl ks ky))] [])) t → Steps p.tables e below (s₁.setTop (mkF m 0 #[.val (.ref a), .val (.int ky), .val (.int ct), .unset, .unset] [])) t := fun t q => k65_ t (st66.trans q)
      obtain ⟨fs, hr, hrun, hended, hW, hsame⟩ := X66.leave (v := none) (fun _ => rfl)
      refine ⟨_, _, pre0 _ (k67_ _ ?_), hrun, hended, _, _, rfl, ?_, ⟨_, rfl⟩, hW, hsame.mono (by decide) (by decide)⟩
      · show Steps p.tables e below (T66.setTop (mkF m 130 #[.val (.ref a), .val (.int ky), .val (.int ct), .val (.int (own_mk ks)), .val (.int (own_sl ks ky))] [])) _
        exact X66.returnOut hx Bd.returns (hb hby d_prog_82_method_3_130) hr
      · show QP Z a ky ct kb cb ks cs F h0 n0 _ T66.heap _
        exact ⟨rfl, N66, kb', cb', _, cs', hC', own_Ct_gr hT hk hca hct hcc hF', KP.trans KW (fun x hx => Or.inl (by cases List.mem_singleton.mp hx; exact List.mem_of_getElem? (i := 0) rfl)), Or.inr ⟨Nat.le_trans KP.1 z1, Nat.le_trans KP.1 z2⟩⟩
    · have k68_ : ∀ t, Steps p.tables e below (T60.setTop (mkF m 130 #[.val (.ref a), .val (.int ky), .val (.int ct), .val (.int (own_mk ks)), .val (.int (own_sl ks ky))] [])) t → Steps p.tables e below (s₁.setTop (mkF m 0 #[.val (.ref a), .val (.int ky), .val (.int ct), .unset, .unset] [])) t := by
        intro t q
        refine k63_ _ ?_
        show Steps p.tables e below (T60.setTop (mkF m 123 #[.val (.ref a), .val (.int ky), .val (.int ct), .val (.int (own_mk ks)), .val (.int (own_sl ks ky))] [(.int (own_ln ks)), (.int ((2 : Int32) * ((own_sz ks) + (1 : Int32))))])) _
        refine XS.icmpYes X60.here hx rfl (pc0 := 123) (pc' := 130) rfl (hb hby d_prog_82_method_3_123) rfl (flt hcc).2.2.2 (by decide) (by decide) ?_
        show Steps p.tables e below (T60.setTop (mkF m 130 #[.val (.ref a), .val (.int ky), .val (.int ct), .val (.int (own_mk ks)), .val (.int (own_sl ks ky))] [])) _
        exact q
      obtain ⟨fs, hr, hrun, hended, hW, hsame⟩ := X60.leave (v := none) (fun _ => rfl)
      refine ⟨_, _, pre0 _ (k68_ _ ?_), hrun, hended, _, _, rfl, ?_, ⟨_, rfl⟩, hW, hsame.mono (by decide) (by decide)⟩
      · show Steps p.tables e below (T60.setTop (mkF m 130 #[.val (.ref a), .val (.int ky), .val (.int ct), .val (.int (own_mk ks)), .val (.int (own_sl ks ky))] [])) _
        exact X60.returnOut hx Bd.returns (hb hby d_prog_82_method_3_130) hr
      · show QP Z a ky ct kb cb ks cs F h0 n0 _ T60.heap _
        rw [e60]
        exact ⟨rfl, N54, kb, cb, _, _, ⟨EA, FK, FC, by rw [← (own_D2 ks hT.1 ky hk hca).1.1]; exact FS, ⟨kK, by rw [own_ln_in]; exact VK⟩, ⟨kC, by rw [own_ln_in]; exact VC⟩, own_len_in hlen, ⟨n1, n2, n3⟩, g1, g2, g3⟩, own_Ct_in hT hk hlen hca hct hcc, KP, Or.inl ⟨rfl, rfl⟩⟩
def QN (Z : State) (oh : Addr) (h0 : Heap) (n0 : Nat) (v : Option Value) (h : Heap) (L : List Loc) : Prop := v = none ∧ Fr n0 L ∧ ∃ nb pb kn kp, Exa Z h oh "com/example/weir/weir/model/HeldTasks" ∧ Fld Z h oh "com/example/weir/weir/model/HeldTasks" "byNode" "[Lcom/example/weir/weir/model/HeldTasks$Counts;" (.ref nb) ∧ Fld Z h oh "com/example/weir/weir/model/HeldTasks" "byPlace" "[Lcom/example/weir/weir/model/HeldTasks$Counts;" (.ref pb) ∧ Arv Z h nb kn (.object "com/example/weir/weir/model/HeldTasks$Counts") 2 [.null, .null] .null ∧ Ovr Z kn "com/example/weir/weir/model/HeldTasks$Counts" ∧ Arv Z h pb kp (.object "com/example/weir/weir/model/HeldTasks$Counts") 4 [.null, .null, .null, .null] .null ∧ Ovr Z kp "com/example/weir/weir/model/HeldTasks$Counts" ∧ h0.size ≤ nb ∧ h0.size ≤ pb ∧ nb ≠ pb ∧ h0.size ≤ h.size
theorem ef_N (m : MethodId) (x0 : Addr) (x1 : Int32) (x2 : Int32) : entryFrame m #[(.ref x0), (.int x1), (.int x2)] 3 = mkF m 0 #[.val (.ref x0), .val (.int x1), .val (.int x2)] [] := by first | (simp [entryFrame, mkF, argsToLocals, Value.category]; done) | rfl
theorem pn_HeldTasks : plainName "com/example/weir/weir/model/HeldTasks" = true := by first | (simp [plainName, overriddenIn]; done) | decide +kernel
theorem d_prog_81_method_1_0 : decode prog_81_method_1_code 0 = .ok (.aload_n 0, 1) := by decide +kernel
theorem d_prog_81_method_1_1 : decode prog_81_method_1_code 1 = .ok (.invokespecial 1, 3) := by decide +kernel
theorem d_prog_81_method_1_4 : decode prog_81_method_1_code 4 = .ok (.aload_n 0, 1) := by decide +kernel
theorem d_prog_81_method_1_5 : decode prog_81_method_1_code 5 = .ok (.iload_n 1, 1) := by decide +kernel
theorem d_prog_81_method_1_6 : decode prog_81_method_1_code 6 = .ok (.anewarray 7, 3) := by decide +kernel
theorem d_prog_81_method_1_9 : decode prog_81_method_1_code 9 = .ok (.putfield 9, 3) := by decide +kernel
theorem d_prog_81_method_1_12 : decode prog_81_method_1_code 12 = .ok (.aload_n 0, 1) := by decide +kernel
theorem d_prog_81_method_1_13 : decode prog_81_method_1_code 13 = .ok (.iload_n 2, 1) := by decide +kernel
theorem d_prog_81_method_1_14 : decode prog_81_method_1_code 14 = .ok (.anewarray 7, 3) := by decide +kernel
theorem d_prog_81_method_1_17 : decode prog_81_method_1_code 17 = .ok (.putfield 15, 3) := by decide +kernel
theorem d_prog_81_method_1_20 : decode prog_81_method_1_code 20 = .ok (.return_, 1) := by decide +kernel
set_option maxRecDepth 65536 in
set_option maxHeartbeats 40000000 in
theorem rmN (l : Launch) (Z : State) (a0 : Array Value) (hw : ∀ d ∈ tables_1, d.before a0 Z = true) (ws : List Jvm.Cond) (oh : Addr) (h0 : Heap) (n0 : Nat) (Z0 : n0 ≤ h0.size) (EA : Exa Z h0 oh "com/example/weir/weir/model/HeldTasks") (FN : Fld Z h0 oh "com/example/weir/weir/model/HeldTasks" "byNode" "[Lcom/example/weir/weir/model/HeldTasks$Counts;" .null) (FP : Fld Z h0 oh "com/example/weir/weir/model/HeldTasks" "byPlace" "[Lcom/example/weir/weir/model/HeldTasks$Counts;" .null) (ga : n0 ≤ oh) :
    MetFree l (⟨"com/example/weir/weir/model/HeldTasks", "<init>", "(II)V"⟩ : MethodName) (head1 (Jvm.Cond.code (⟨"com/example/weir/weir/model/HeldTasks", "<init>", "(II)V"⟩ : MethodName) prog_81_method_1_code 3 none :: ws) ({ frames := 1, cells := 2, slots := 6, locals := 12 } : Room)) (fun a_ U_ => a_ = #[(.ref oh), (.int (2 : Int32)), (.int (4 : Int32))] ∧ Z.Warmed39 U_.vm ∧ U_.heap = h0) (fun _ _ _ _ _ => True) (fun _ U_ o_ E_ => ∃ v_ L_, o_ = .returned v_ ∧ QN Z oh h0 n0 v_ E_.heap L_ ∧ FrameEnd U_ o_ E_ L_ ({ frames := 1, cells := 2, slots := 6, locals := 12 } : Room).cells ({ frames := 1, cells := 2, slots := 6, locals := 12 } : Room).slots) := by
  refine MetFree.of_bodySF (plainFor_of_name pn_HeldTasks) hisR ?_
  intro p e s m args below meth c s₁ Bd hml0 hP hK
  obtain ⟨rfl, hZ, hh⟩ := hP
  have hx := Bd.exec
  have hby := Bd.bytes
  have hml : c.maxLocals = 3 := hml0
  have hown : s.vm.findClass "com/example/weir/weir/model/HeldTasks" = some m.cls := findClass_of_methodNamed Bd.named
  have hnm := (name_of_methodNamed Bd.named Bd.method).1
  have X0 : Stand p l e ({ frames := 1, cells := 2, slots := 6, locals := 12 } : Room) s m #[(.ref oh), (.int (2 : Int32)), (.int (4 : Int32))] below meth c s₁ [] 0 0 := Stand.of_body Bd
  have e0 : s₁.heap = h0 := by rw [← hh, Bd.state]; rfl
  have N0 := Fr.nil n0
  have Zn := Z0
  have pre0 : ∀ t, Steps p.tables e below (s₁.setTop (mkF m 0 #[.val (.ref oh), .val (.int (2 : Int32)), .val (.int (4 : Int32))] [])) t → Steps p.tables e below (s₁.setTop (entryFrame m #[(.ref oh), (.int (2 : Int32)), (.int (4 : Int32))] 3)) t := fun t q => castTop (ef_N m oh (2 : Int32) (4 : Int32)) q
  have k0 : ∀ t, Steps p.tables e below (s₁.setTop (mkF m 0 #[.val (.ref oh), .val (.int (2 : Int32)), .val (.int (4 : Int32))] [])) t → Steps p.tables e below (s₁.setTop (mkF m 0 #[.val (.ref oh), .val (.int (2 : Int32)), .val (.int (4 : Int32))] [])) t := fun t q => q
  have k1_ : ∀ t, Steps p.tables e below (s₁.setTop (mkF m 1 #[.val (.ref oh), .val (.int (2 : Int32)), .val (.int (4 : Int32))] [(.ref oh)])) t → Steps p.tables e below (s₁.setTop (mkF m 0 #[.val (.ref oh), .val (.int (2 : Int32)), .val (.int (4 : Int32))] [])) t := by
    intro t q
    refine k0 _ ?_
    show Steps p.tables e below (s₁.setTop (mkF m 0 #[.val (.ref oh), .val (.int (2 : Int32)), .val (.int (4 : Int32))] [])) _
    refine XS.aloadN X0.here hx rfl (hb hby d_prog_81_method_1_0) rfl rfl ?_
    show Steps p.tables e below (s₁.setTop (mkF m 1 #[.val (.ref oh), .val (.int (2 : Int32)), .val (.int (4 : Int32))] [(.ref oh)])) _
    exact q
  obtain ⟨T2, X2, e2, st2⟩ := initO X0 hx hZ hown (hw _ (List.mem_of_getElem? (i := 6) rfl)) (hw _ (List.mem_of_getElem? (i := 7) rfl)) (hw _ (List.mem_of_getElem? (i := 8) rfl)) e0 (g := (mkF m 1 #[.val (.ref oh), .val (.int (2 : Int32)), .val (.int (4 : Int32))] [(.ref oh)])) rfl (by rw [hml]; rfl) rfl (hb hby d_prog_81_method_1_1) (by decide) (W := 0) (by show 2 * 0 + _ ≤ _; exact Nat.le_of_eq rfl) (by decide)
  have k3_ : ∀ t, Steps p.tables e below (T2.setTop (mkF m 4 #[.val (.ref oh), .val (.int (2 : Int32)), .val (.int (4 : Int32))] [])) t → Steps p.tables e below (s₁.setTop (mkF m 0 #[.val (.ref oh), .val (.int (2 : Int32)), .val (.int (4 : Int32))] [])) t := fun t q => k1_ t (st2 t q)
  have SZ := Nat.le_refl h0.size
  have k4_ : ∀ t, Steps p.tables e below (T2.setTop (mkF m 6 #[.val (.ref oh), .val (.int (2 : Int32)), .val (.int (4 : Int32))] [(.int (2 : Int32)), (.ref oh)])) t → Steps p.tables e below (s₁.setTop (mkF m 0 #[.val (.ref oh), .val (.int (2 : Int32)), .val (.int (4 : Int32))] [])) t := by
    intro t q
    refine k3_ _ ?_
    show Steps p.tables e below (T2.setTop (mkF m 4 #[.val (.ref oh), .val (.int (2 : Int32)), .val (.int (4 : Int32))] [])) _
    refine XS.aloadN X2.here hx rfl (hb hby d_prog_81_method_1_4) rfl rfl ?_
    show Steps p.tables e below (T2.setTop (mkF m 5 #[.val (.ref oh), .val (.int (2 : Int32)), .val (.int (4 : Int32))] [(.ref oh)])) _
    refine XS.iloadN X2.here hx rfl (hb hby d_prog_81_method_1_5) rfl ?_
    show Steps p.tables e below (T2.setTop (mkF m 6 #[.val (.ref oh), .val (.int (2 : Int32)), .val (.int (4 : Int32))] [(.int (2 : Int32)), (.ref oh)])) _
    exact q
  obtain ⟨T5, h5, c5, X5, e5, E5, A5, O5, st5⟩ := newR X2 hx hZ hown (hw _ (List.mem_of_getElem? (i := 9) rfl)) (hw _ (List.mem_of_getElem? (i := 10) rfl)) e2 (g := (mkF m 6 #[.val (.ref oh), .val (.int (2 : Int32)), .val (.int (4 : Int32))] [(.int (2 : Int32)), (.ref oh)])) rfl (hb hby d_prog_81_method_1_6) rfl (by decide) (cap := 2) (by decide) (by decide) (by decide) (by decide)
  obtain ⟨b5, g5⟩ : ∃ z, z = h0.size := ⟨_, rfl⟩
  rw [← g5] at A5 st5
  have k6_ : ∀ t, Steps p.tables e below (T5.setTop (mkF m 9 #[.val (.ref oh), .val (.int (2 : Int32)), .val (.int (4 : Int32))] [(.ref b5), (.ref oh)])) t → Steps p.tables e below (s₁.setTop (mkF m 0 #[.val (.ref oh), .val (.int (2 : Int32)), .val (.int (4 : Int32))] [])) t := fun t q => k4_ t (st5 t q)
  have ne_oh_b5 : oh ≠ b5 := Nat.ne_of_lt (Nat.lt_of_lt_of_le EA.lt (Nat.le_of_eq g5.symm))
  have g_b5 : n0 ≤ b5 := Nat.le_trans Zn (Nat.le_of_eq g5.symm)
  replace Zn := Nat.le_trans Zn E5.1
  replace EA := EA.ext E5
  replace FN := FN.ext E5
  replace FP := FP.ext E5
  have V_b5 : Arv Z h5 b5 c5 (.object "com/example/weir/weir/model/HeldTasks$Counts") (2 : Int32) [.null, .null] .null := (Arv.new A5 (by decide)).pad (pad_rep [] .null 2)
  have z_b5 : h0.size ≤ b5 := by rw [g5]; exact SZ
  replace SZ := Nat.le_trans SZ E5.1
  obtain ⟨T7, h7, X7, e7, W7, st7⟩ := putF X5 hx hZ hown (host := "") (Or.inl (hw _ (List.mem_of_getElem? (i := 11) rfl))) Via.refl e5 FN EA (Or.inr ⟨(hw _ (List.mem_of_getElem? (i := 12) rfl)), rfl, hnm⟩) (hw _ (List.mem_of_getElem? (i := 1) rfl)) (ty := (.array (.object "com/example/weir/weir/model/HeldTasks$Counts"))) (by decide) rfl rfl (g := (mkF m 9 #[.val (.ref oh), .val (.int (2 : Int32)), .val (.int (4 : Int32))] [(.ref b5), (.ref oh)])) rfl rfl (hb hby d_prog_81_method_1_9)
  have k8_ : ∀ t, Steps p.tables e below (T7.setTop (mkF m 12 #[.val (.ref oh), .val (.int (2 : Int32)), .val (.int (4 : Int32))] [])) t → Steps p.tables e below (s₁.setTop (mkF m 0 #[.val (.ref oh), .val (.int (2 : Int32)), .val (.int (4 : Int32))] [])) t := fun t q => k6_ t (st7 t q)
  have N7 := Fr.snoc X7 N0 ga
  replace Zn := Nat.le_trans Zn (Keep.of_wr W7).1
  replace EA := EA.wr W7
  replace FP := FP.other W7 (Or.inr (slot_ne (Or.inr (hw _ (List.mem_of_getElem? (i := 14) rfl))) (Or.inr (hw _ (List.mem_of_getElem? (i := 12) rfl))) (by decide) (t := (.array (.object "com/example/weir/weir/model/HeldTasks$Counts"))) (t' := (.array (.object "com/example/weir/weir/model/HeldTasks$Counts"))) (by decide) (by decide)))
  replace V_b5 := V_b5.other W7 (Ne.symm ne_oh_b5)
  replace FN := FN.same W7
  replace SZ := Nat.le_trans SZ (Keep.of_wr W7).1
  have k9_ : ∀ t, Steps p.tables e below (T7.setTop (mkF m 14 #[.val (.ref oh), .val (.int (2 : Int32)), .val (.int (4 : Int32))] [(.int (4 : Int32)), (.ref oh)])) t → Steps p.tables e below (s₁.setTop (mkF m 0 #[.val (.ref oh), .val (.int (2 : Int32)), .val (.int (4 : Int32))] [])) t := by
    intro t q
    refine k8_ _ ?_
    show Steps p.tables e below (T7.setTop (mkF m 12 #[.val (.ref oh), .val (.int (2 : Int32)), .val (.int (4 : Int32))] [])) _
    refine XS.aloadN X7.here hx rfl (hb hby d_prog_81_method_1_12) rfl rfl ?_
    show Steps p.tables e below (T7.setTop (mkF m 13 #[.val (.ref oh), .val (.int (2 : Int32)), .val (.int (4 : Int32))] [(.ref oh)])) _
    refine XS.iloadN X7.here hx rfl (hb hby d_prog_81_method_1_13) rfl ?_
    show Steps p.tables e below (T7.setTop (mkF m 14 #[.val (.ref oh), .val (.int (2 : Int32)), .val (.int (4 : Int32))] [(.int (4 : Int32)), (.ref oh)])) _
    exact q
  obtain ⟨T10, h10, c10, X10, e10, E10, A10, O10, st10⟩ := newR X7 hx hZ hown (hw _ (List.mem_of_getElem? (i := 9) rfl)) (hw _ (List.mem_of_getElem? (i := 10) rfl)) e7 (g := (mkF m 14 #[.val (.ref oh), .val (.int (2 : Int32)), .val (.int (4 : Int32))] [(.int (4 : Int32)), (.ref oh)])) rfl (hb hby d_prog_81_method_1_14) rfl (by decide) (cap := 4) (by decide) (by decide) (by decide) (by decide)
  obtain ⟨b10, g10⟩ : ∃ z, z = h7.size := ⟨_, rfl⟩
  rw [← g10] at A10 st10
  have k11_ : ∀ t, Steps p.tables e below (T10.setTop (mkF m 17 #[.val (.ref oh), .val (.int (2 : Int32)), .val (.int (4 : Int32))] [(.ref b10), (.ref oh)])) t → Steps p.tables e below (s₁.setTop (mkF m 0 #[.val (.ref oh), .val (.int (2 : Int32)), .val (.int (4 : Int32))] [])) t := fun t q => k9_ t (st10 t q)
  have ne_oh_b10 : oh ≠ b10 := Nat.ne_of_lt (Nat.lt_of_lt_of_le EA.lt (Nat.le_of_eq g10.symm))
  have ne_b5_b10 : b5 ≠ b10 := Nat.ne_of_lt (Nat.lt_of_lt_of_le V_b5.lt (Nat.le_of_eq g10.symm))
  have g_b10 : n0 ≤ b10 := Nat.le_trans Zn (Nat.le_of_eq g10.symm)
  replace Zn := Nat.le_trans Zn E10.1
  replace EA := EA.ext E10
  replace FN := FN.ext E10
  replace FP := FP.ext E10
  replace V_b5 := V_b5.ext E10
  have V_b10 : Arv Z h10 b10 c10 (.object "com/example/weir/weir/model/HeldTasks$Counts") (4 : Int32) [.null, .null, .null, .null] .null := (Arv.new A10 (by decide)).pad (pad_rep [] .null 4)
  have z_b10 : h0.size ≤ b10 := by rw [g10]; exact SZ
  replace SZ := Nat.le_trans SZ E10.1
  obtain ⟨T12, h12, X12, e12, W12, st12⟩ := putF X10 hx hZ hown (host := "") (Or.inl (hw _ (List.mem_of_getElem? (i := 13) rfl))) Via.refl e10 FP EA (Or.inr ⟨(hw _ (List.mem_of_getElem? (i := 14) rfl)), rfl, hnm⟩) (hw _ (List.mem_of_getElem? (i := 1) rfl)) (ty := (.array (.object "com/example/weir/weir/model/HeldTasks$Counts"))) (by decide) rfl rfl (g := (mkF m 17 #[.val (.ref oh), .val (.int (2 : Int32)), .val (.int (4 : Int32))] [(.ref b10), (.ref oh)])) rfl rfl (hb hby d_prog_81_method_1_17)
  have k13_ : ∀ t, Steps p.tables e below (T12.setTop (mkF m 20 #[.val (.ref oh), .val (.int (2 : Int32)), .val (.int (4 : Int32))] [])) t → Steps p.tables e below (s₁.setTop (mkF m 0 #[.val (.ref oh), .val (.int (2 : Int32)), .val (.int (4 : Int32))] [])) t := fun t q => k11_ t (st12 t q)
  have N12 := Fr.snoc X12 N7 ga
  replace Zn := Nat.le_trans Zn (Keep.of_wr W12).1
  replace EA := EA.wr W12
  replace FN := FN.other W12 (Or.inr (slot_ne (Or.inr (hw _ (List.mem_of_getElem? (i := 12) rfl))) (Or.inr (hw _ (List.mem_of_getElem? (i := 14) rfl))) (by decide) (t := (.array (.object "com/example/weir/weir/model/HeldTasks$Counts"))) (t' := (.array (.object "com/example/weir/weir/model/HeldTasks$Counts"))) (by decide) (by decide)))
  replace V_b5 := V_b5.other W12 (Ne.symm ne_oh_b5)
  replace V_b10 := V_b10.other W12 (Ne.symm ne_oh_b10)
  replace FP := FP.same W12
  replace SZ := Nat.le_trans SZ (Keep.of_wr W12).1
  obtain ⟨fs, hr, hrun, hended, hW, hsame⟩ := X12.leave (v := none) (fun _ => rfl)
  refine ⟨_, _, pre0 _ (k13_ _ ?_), hrun, hended, _, _, rfl, ?_, ⟨_, rfl⟩, hW, hsame.mono (by decide) (by decide)⟩
  · show Steps p.tables e below (T12.setTop (mkF m 20 #[.val (.ref oh), .val (.int (2 : Int32)), .val (.int (4 : Int32))] [])) _
    exact X12.returnOut hx Bd.returns (hb hby d_prog_81_method_1_20) hr
  · show QN Z oh h0 n0 _ T12.heap _
    rw [e12]
    exact ⟨rfl, N12, b5, b10, _, _, EA, FN, FP, V_b5, O5, V_b10, O10, z_b5, z_b10, ne_b5_b10, SZ⟩
def QHg (Z : State) (oh : Addr) (nb : Addr) (pb : Addr) (O : Nat → Option own_Ob) (w : Addr → Nat) (G : Nat → Int32 → Int32) (ii : Nat) (jj : Nat) (h0 : Heap) (n0 : Nat) (v : Option Value) (h : Heap) (L : List Loc) : Prop := v = some (.int (G ii (Int32.ofNat jj))) ∧ Fr n0 L ∧ h = h0
theorem ef_Hg (m : MethodId) (x0 : Addr) (x1 : Int32) (x2 : Int32) : entryFrame m #[(.ref x0), (.int x1), (.int x2)] 4 = mkF m 0 #[.val (.ref x0), .val (.int x1), .val (.int x2), .unset] [] := by first | (simp [entryFrame, mkF, argsToLocals, Value.category]; done) | rfl
theorem d_prog_81_method_3_0 : decode prog_81_method_3_code 0 = .ok (.aload_n 0, 1) := by decide +kernel
theorem d_prog_81_method_3_1 : decode prog_81_method_3_code 1 = .ok (.getfield 9, 3) := by decide +kernel
theorem d_prog_81_method_3_4 : decode prog_81_method_3_code 4 = .ok (.iload_n 1, 1) := by decide +kernel
theorem d_prog_81_method_3_5 : decode prog_81_method_3_code 5 = .ok (.aaload, 1) := by decide +kernel
theorem d_prog_81_method_3_6 : decode prog_81_method_3_code 6 = .ok (.astore_n 3, 1) := by decide +kernel
theorem d_prog_81_method_3_7 : decode prog_81_method_3_code 7 = .ok (.aload_n 3, 1) := by decide +kernel
theorem d_prog_81_method_3_8 : decode prog_81_method_3_code 8 = .ok (.ifnonnull 7, 3) := by decide +kernel
theorem d_prog_81_method_3_11 : decode prog_81_method_3_code 11 = .ok (.iconst 0, 1) := by decide +kernel
theorem d_prog_81_method_3_12 : decode prog_81_method_3_code 12 = .ok (.goto 8, 3) := by decide +kernel
theorem d_prog_81_method_3_20 : decode prog_81_method_3_code 20 = .ok (.ireturn, 1) := by decide +kernel
theorem d_prog_81_method_3_15 : decode prog_81_method_3_code 15 = .ok (.aload_n 3, 1) := by decide +kernel
theorem d_prog_81_method_3_16 : decode prog_81_method_3_code 16 = .ok (.iload_n 2, 1) := by decide +kernel
theorem pd_27763 : parseMethodDescriptor "(I)I" = some ⟨[.int], some .int⟩ := by decide +kernel
theorem d_prog_81_method_3_17 : decode prog_81_method_3_code 17 = .ok (.invokevirtual 25, 3) := by decide +kernel
set_option maxRecDepth 65536 in
set_option maxHeartbeats 40000000 in
theorem rmHg (l : Launch) (Z : State) (a0 : Array Value) (hw : ∀ d ∈ tables_1, d.before a0 Z = true) (ws : List Jvm.Cond) (oh : Addr) (nb : Addr) (pb : Addr) (O : Nat → Option own_Ob) (w : Addr → Nat) (G : Nat → Int32 → Int32) (ii : Nat) (jj : Nat) (h0 : Heap) (n0 : Nat) (Z0 : n0 ≤ h0.size) (hI : own_I Z n0 h0 oh nb pb O w G) (hi : ii < 2) (hj : jj < 4) :
    MetFree l (⟨"com/example/weir/weir/model/HeldTasks", "get", "(II)I"⟩ : MethodName) (head1 (Jvm.Cond.code (⟨"com/example/weir/weir/model/HeldTasks", "get", "(II)I"⟩ : MethodName) prog_81_method_3_code 4 (some .int) :: ws) ({ frames := 2, cells := 0, slots := 0, locals := 29 } : Room)) (fun a_ U_ => a_ = #[(.ref oh), (.int (Int32.ofNat ii)), (.int (Int32.ofNat jj))] ∧ Z.Warmed39 U_.vm ∧ U_.heap = h0) (fun _ _ _ _ _ => True) (fun _ U_ o_ E_ => ∃ v_ L_, o_ = .returned v_ ∧ QHg Z oh nb pb O w G ii jj h0 n0 v_ E_.heap L_ ∧ FrameEnd U_ o_ E_ L_ ({ frames := 2, cells := 0, slots := 0, locals := 29 } : Room).cells ({ frames := 2, cells := 0, slots := 0, locals := 29 } : Room).slots) := by
  refine MetFree.of_bodySF (plainFor_of_name pn_HeldTasks) hisR ?_
  intro p e s m args below meth c s₁ Bd hml0 hP hK
  obtain ⟨rfl, hZ, hh⟩ := hP
  have hx := Bd.exec
  have hby := Bd.bytes
  have hml : c.maxLocals = 4 := hml0
  have hown : s.vm.findClass "com/example/weir/weir/model/HeldTasks" = some m.cls := findClass_of_methodNamed Bd.named
  have hnm := (name_of_methodNamed Bd.named Bd.method).1
  have X0 : Stand p l e ({ frames := 2, cells := 0, slots := 0, locals := 29 } : Room) s m #[(.ref oh), (.int (Int32.ofNat ii)), (.int (Int32.ofNat jj))] below meth c s₁ [] 0 0 := Stand.of_body Bd
  have e0 : s₁.heap = h0 := by rw [← hh, Bd.state]; rfl
  have N0 := Fr.nil n0
  have Zn := Z0
  have pre0 : ∀ t, Steps p.tables e below (s₁.setTop (mkF m 0 #[.val (.ref oh), .val (.int (Int32.ofNat ii)), .val (.int (Int32.ofNat jj)), .unset] [])) t → Steps p.tables e below (s₁.setTop (entryFrame m #[(.ref oh), (.int (Int32.ofNat ii)), (.int (Int32.ofNat jj))] 4)) t := fun t q => castTop (ef_Hg m oh (Int32.ofNat ii) (Int32.ofNat jj)) q
  have k0 : ∀ t, Steps p.tables e below (s₁.setTop (mkF m 0 #[.val (.ref oh), .val (.int (Int32.ofNat ii)), .val (.int (Int32.ofNat jj)), .unset] [])) t → Steps p.tables e below (s₁.setTop (mkF m 0 #[.val (.ref oh), .val (.int (Int32.ofNat ii)), .val (.int (Int32.ofNat jj)), .unset] [])) t := fun t q => q
  obtain ⟨EH, FN, FP, ⟨kn, VN, ON⟩, ⟨kp, VP, OP⟩, HO, HG, ⟨w6, w7, w8⟩, ⟨g6, g7, g8⟩⟩ := id hI
  have k1_ : ∀ t, Steps p.tables e below (s₁.setTop (mkF m 1 #[.val (.ref oh), .val (.int (Int32.ofNat ii)), .val (.int (Int32.ofNat jj)), .unset] [(.ref oh)])) t → Steps p.tables e below (s₁.setTop (mkF m 0 #[.val (.ref oh), .val (.int (Int32.ofNat ii)), .val (.int (Int32.ofNat jj)), .unset] [])) t := by
    intro t q
    refine k0 _ ?_
    show Steps p.tables e below (s₁.setTop (mkF m 0 #[.val (.ref oh), .val (.int (Int32.ofNat ii)), .val (.int (Int32.ofNat jj)), .unset] [])) _
    refine XS.aloadN X0.here hx rfl (hb hby d_prog_81_method_3_0) rfl rfl ?_
    show Steps p.tables e below (s₁.setTop (mkF m 1 #[.val (.ref oh), .val (.int (Int32.ofNat ii)), .val (.int (Int32.ofNat jj)), .unset] [(.ref oh)])) _
    exact q
  obtain ⟨T2, X2, e2, st2⟩ := getF X0 hx hZ hown (host := "") (Or.inl (hw _ (List.mem_of_getElem? (i := 11) rfl))) Via.refl e0 FN (g := (mkF m 1 #[.val (.ref oh), .val (.int (Int32.ofNat ii)), .val (.int (Int32.ofNat jj)), .unset] [(.ref oh)])) rfl rfl (hb hby d_prog_81_method_3_1)
  have k3_ : ∀ t, Steps p.tables e below (T2.setTop (mkF m 4 #[.val (.ref oh), .val (.int (Int32.ofNat ii)), .val (.int (Int32.ofNat jj)), .unset] [(.ref nb)])) t → Steps p.tables e below (s₁.setTop (mkF m 0 #[.val (.ref oh), .val (.int (Int32.ofNat ii)), .val (.int (Int32.ofNat jj)), .unset] [])) t := fun t q => k1_ t (st2 t q)
  cases hO : O ii with
  | none =>
    obtain ⟨cl4, Ar4, q4, S4, M4, H4, G4⟩ := id VN
    have k5_ : ∀ t, Steps p.tables e below (T2.setTop (mkF m 8 #[.val (.ref oh), .val (.int (Int32.ofNat ii)), .val (.int (Int32.ofNat jj)), .val .null] [.null])) t → Steps p.tables e below (s₁.setTop (mkF m 0 #[.val (.ref oh), .val (.int (Int32.ofNat ii)), .val (.int (Int32.ofNat jj)), .unset] [])) t := by
      intro t q
      refine k3_ _ ?_
      show Steps p.tables e below (T2.setTop (mkF m 4 #[.val (.ref oh), .val (.int (Int32.ofNat ii)), .val (.int (Int32.ofNat jj)), .unset] [(.ref nb)])) _
      refine XS.iloadN X2.here hx rfl (hb hby d_prog_81_method_3_4) rfl ?_
      show Steps p.tables e below (T2.setTop (mkF m 5 #[.val (.ref oh), .val (.int (Int32.ofNat ii)), .val (.int (Int32.ofNat jj)), .unset] [(.int (Int32.ofNat ii)), (.ref nb)])) _
      refine X2.aaload hx (j := (Int32.ofNat ii)) (v := .null) (by rw [e2]; exact Ar4.1) (State.isArrayOf_alike hZ.alike Ar4.2.1) rfl Ar4.2.2 (inb_of S4 (own_lt2 hi)) (Has.at H4 (inb_of S4 (own_lt2 hi)) ((own_g2 hi).trans (congrArg own_v hO))) (g := (mkF m 5 #[.val (.ref oh), .val (.int (Int32.ofNat ii)), .val (.int (Int32.ofNat jj)), .unset] [(.int (Int32.ofNat ii)), (.ref nb)])) rfl rfl (hb hby d_prog_81_method_3_5) _ ?_
      show Steps p.tables e below (T2.setTop (mkF m 6 #[.val (.ref oh), .val (.int (Int32.ofNat ii)), .val (.int (Int32.ofNat jj)), .unset] [.null])) _
      refine XS.astoreN X2.here hx rfl (hb hby d_prog_81_method_3_6) rfl rfl (l' := #[.val (.ref oh), .val (.int (Int32.ofNat ii)), .val (.int (Int32.ofNat jj)), .val .null]) rfl ?_
      show Steps p.tables e below (T2.setTop (mkF m 7 #[.val (.ref oh), .val (.int (Int32.ofNat ii)), .val (.int (Int32.ofNat jj)), .val .null] [])) _
      refine XS.aloadN X2.here hx rfl (hb hby d_prog_81_method_3_7) rfl rfl ?_
      show Steps p.tables e below (T2.setTop (mkF m 8 #[.val (.ref oh), .val (.int (Int32.ofNat ii)), .val (.int (Int32.ofNat jj)), .val .null] [.null])) _
      exact q
    have k6_ : ∀ t, Steps p.tables e below (T2.setTop (mkF m 11 #[.val (.ref oh), .val (.int (Int32.ofNat ii)), .val (.int (Int32.ofNat jj)), .val .null] [])) t → Steps p.tables e below (s₁.setTop (mkF m 0 #[.val (.ref oh), .val (.int (Int32.ofNat ii)), .val (.int (Int32.ofNat jj)), .unset] [])) t := by
      intro t q
      refine k5_ _ ?_
      show Steps p.tables e below (T2.setTop (mkF m 8 #[.val (.ref oh), .val (.int (Int32.ofNat ii)), .val (.int (Int32.ofNat jj)), .val .null] [.null])) _
      refine XT.ifnonnullNo X2.here hx rfl (hb hby d_prog_81_method_3_8) rfl ?_
      show Steps p.tables e below (T2.setTop (mkF m 11 #[.val (.ref oh), .val (.int (Int32.ofNat ii)), .val (.int (Int32.ofNat jj)), .val .null] [])) _
      exact q
    have k7_ : ∀ t, Steps p.tables e below (T2.setTop (mkF m 20 #[.val (.ref oh), .val (.int (Int32.ofNat ii)), .val (.int (Int32.ofNat jj)), .val .null] [(.int (0 : Int32))])) t → Steps p.tables e below (s₁.setTop (mkF m 0 #[.val (.ref oh), .val (.int (Int32.ofNat ii)), .val (.int (Int32.ofNat jj)), .unset] [])) t := by
      intro t q
      refine k6_ _ ?_
      show Steps p.tables e below (T2.setTop (mkF m 11 #[.val (.ref oh), .val (.int (Int32.ofNat ii)), .val (.int (Int32.ofNat jj)), .val .null] [])) _
      refine XS.iconst X2.here hx rfl (hb hby d_prog_81_method_3_11) ?_
      show Steps p.tables e below (T2.setTop (mkF m 12 #[.val (.ref oh), .val (.int (Int32.ofNat ii)), .val (.int (Int32.ofNat jj)), .val .null] [(.int (0 : Int32))])) _
      refine XS.goto X2.here hx rfl (pc0 := 12) (pc' := 20) rfl (hb hby d_prog_81_method_3_12) (by decide) (by decide) ?_
      show Steps p.tables e below (T2.setTop (mkF m 20 #[.val (.ref oh), .val (.int (Int32.ofNat ii)), .val (.int (Int32.ofNat jj)), .val .null] [(.int (0 : Int32))])) _
      exact q
    obtain ⟨fs, hr, hrun, hended, hW, hsame⟩ := X2.leave (v := some (.int (0 : Int32))) (fun h => by rw [Bd.returns] at h; cases h)
    refine ⟨_, _, pre0 _ (k7_ _ ?_), hrun, hended, _, _, rfl, ?_, ⟨_, rfl⟩, hW, hsame.mono (by decide) (by decide)⟩
    · show Steps p.tables e below (T2.setTop (mkF m 20 #[.val (.ref oh), .val (.int (Int32.ofNat ii)), .val (.int (Int32.ofNat jj)), .val .null] [(.int (0 : Int32))])) _
      exact retI X2 hx Bd.returns (hb hby d_prog_81_method_3_20) hr
    · show QHg Z oh nb pb O w G ii jj h0 n0 _ T2.heap _
      rw [e2]
      exact ⟨by rw [HG ii (by omega) hO], N0, rfl⟩
  | some bb =>
    obtain ⟨a, kb, cb, ks, cs⟩ := bb
    obtain ⟨hC, hT, -⟩ := HO ii _ (by omega) hO
    replace hC : own_Cn Z n0 h0 a kb cb ks cs := hC
    replace hT : own_Ct (G ii) ks cs := hT
    obtain ⟨cl8, Ar8, q8, S8, M8, H8, G8⟩ := id VN
    have k9_ : ∀ t, Steps p.tables e below (T2.setTop (mkF m 8 #[.val (.ref oh), .val (.int (Int32.ofNat ii)), .val (.int (Int32.ofNat jj)), .val (.ref a)] [(.ref a)])) t → Steps p.tables e below (s₁.setTop (mkF m 0 #[.val (.ref oh), .val (.int (Int32.ofNat ii)), .val (.int (Int32.ofNat jj)), .unset] [])) t := by
      intro t q
      refine k3_ _ ?_
      show Steps p.tables e below (T2.setTop (mkF m 4 #[.val (.ref oh), .val (.int (Int32.ofNat ii)), .val (.int (Int32.ofNat jj)), .unset] [(.ref nb)])) _
      refine XS.iloadN X2.here hx rfl (hb hby d_prog_81_method_3_4) rfl ?_
      show Steps p.tables e below (T2.setTop (mkF m 5 #[.val (.ref oh), .val (.int (Int32.ofNat ii)), .val (.int (Int32.ofNat jj)), .unset] [(.int (Int32.ofNat ii)), (.ref nb)])) _
      refine X2.aaload hx (j := (Int32.ofNat ii)) (v := (.ref a)) (by rw [e2]; exact Ar8.1) (State.isArrayOf_alike hZ.alike Ar8.2.1) rfl Ar8.2.2 (inb_of S8 (own_lt2 hi)) (Has.at H8 (inb_of S8 (own_lt2 hi)) ((own_g2 hi).trans (congrArg own_v hO))) (g := (mkF m 5 #[.val (.ref oh), .val (.int (Int32.ofNat ii)), .val (.int (Int32.ofNat jj)), .unset] [(.int (Int32.ofNat ii)), (.ref nb)])) rfl rfl (hb hby d_prog_81_method_3_5) _ ?_
      show Steps p.tables e below (T2.setTop (mkF m 6 #[.val (.ref oh), .val (.int (Int32.ofNat ii)), .val (.int (Int32.ofNat jj)), .unset] [(.ref a)])) _
      refine XS.astoreN X2.here hx rfl (hb hby d_prog_81_method_3_6) rfl rfl (l' := #[.val (.ref oh), .val (.int (Int32.ofNat ii)), .val (.int (Int32.ofNat jj)), .val (.ref a)]) rfl ?_
      show Steps p.tables e below (T2.setTop (mkF m 7 #[.val (.ref oh), .val (.int (Int32.ofNat ii)), .val (.int (Int32.ofNat jj)), .val (.ref a)] [])) _
      refine XS.aloadN X2.here hx rfl (hb hby d_prog_81_method_3_7) rfl rfl ?_
      show Steps p.tables e below (T2.setTop (mkF m 8 #[.val (.ref oh), .val (.int (Int32.ofNat ii)), .val (.int (Int32.ofNat jj)), .val (.ref a)] [(.ref a)])) _
      exact q
    have k10_ : ∀ t, Steps p.tables e below (T2.setTop (mkF m 15 #[.val (.ref oh), .val (.int (Int32.ofNat ii)), .val (.int (Int32.ofNat jj)), .val (.ref a)] [])) t → Steps p.tables e below (s₁.setTop (mkF m 0 #[.val (.ref oh), .val (.int (Int32.ofNat ii)), .val (.int (Int32.ofNat jj)), .unset] [])) t := by
      intro t q
      refine k9_ _ ?_
      show Steps p.tables e below (T2.setTop (mkF m 8 #[.val (.ref oh), .val (.int (Int32.ofNat ii)), .val (.int (Int32.ofNat jj)), .val (.ref a)] [(.ref a)])) _
      refine XT.ifnonnullYes X2.here hx rfl (pc0 := 8) (pc' := 15) rfl (hb hby d_prog_81_method_3_8) rfl (by decide) (by decide) ?_
      show Steps p.tables e below (T2.setTop (mkF m 15 #[.val (.ref oh), .val (.int (Int32.ofNat ii)), .val (.int (Int32.ofNat jj)), .val (.ref a)] [])) _
      exact q
    have k11_ : ∀ t, Steps p.tables e below (T2.setTop (mkF m 17 #[.val (.ref oh), .val (.int (Int32.ofNat ii)), .val (.int (Int32.ofNat jj)), .val (.ref a)] [(.int (Int32.ofNat jj)), (.ref a)])) t → Steps p.tables e below (s₁.setTop (mkF m 0 #[.val (.ref oh), .val (.int (Int32.ofNat ii)), .val (.int (Int32.ofNat jj)), .unset] [])) t := by
      intro t q
      refine k10_ _ ?_
      show Steps p.tables e below (T2.setTop (mkF m 15 #[.val (.ref oh), .val (.int (Int32.ofNat ii)), .val (.int (Int32.ofNat jj)), .val (.ref a)] [])) _
      refine XS.aloadN X2.here hx rfl (hb hby d_prog_81_method_3_15) rfl rfl ?_
      show Steps p.tables e below (T2.setTop (mkF m 16 #[.val (.ref oh), .val (.int (Int32.ofNat ii)), .val (.int (Int32.ofNat jj)), .val (.ref a)] [(.ref a)])) _
      refine XS.iloadN X2.here hx rfl (hb hby d_prog_81_method_3_16) rfl ?_
      show Steps p.tables e below (T2.setTop (mkF m 17 #[.val (.ref oh), .val (.int (Int32.ofNat ii)), .val (.int (Int32.ofNat jj)), .val (.ref a)] [(.int (Int32.ofNat jj)), (.ref a)])) _
      exact q
    obtain ⟨cq12, kq12, q12a, q12b, q12c⟩ := isOf hZ e2 hC.1
    obtain ⟨_, _, ⟨T12, L12, kk12, n12⟩, -, X12, ⟨Lc12, hQ12, l12, y12, z12⟩, st12⟩ := X2.virtualBack hx (y := (⟨"com/example/weir/weir/model/HeldTasks$Counts", "get", "(I)I"⟩ : MethodName)) (z := (⟨"com/example/weir/weir/model/HeldTasks$Counts", "get", "(I)I"⟩ : MethodName)) hown (mvT hZ (hw _ (List.mem_of_getElem? (i := 62) rfl))) (mvT hZ (hw _ (List.mem_of_getElem? (i := 63) rfl))) (notFace_of_selects (args := #[]) (mvT hZ (hw _ (List.mem_of_getElem? (i := 65) rfl)))) (mvT hZ (hw _ (List.mem_of_getElem? (i := 65) rfl))) (mvT hZ (hw _ (List.mem_of_getElem? (i := 64) rfl))) (by decide) (backOf (W := 0) (rmG l Z a0 hw [] a (Int32.ofNat jj) kb cb ks cs (G ii) h0 n0 Zn hC hT (own_oK hj)) hZ (hw _ (List.mem_of_getElem? (i := 66) rfl)) (hw _ (List.mem_of_getElem? (i := 41) rfl)) (by decide) (by decide)) q12a q12c (g := (mkF m 17 #[.val (.ref oh), .val (.int (Int32.ofNat ii)), .val (.int (Int32.ofNat jj)), .val (.ref a)] [(.int (Int32.ofNat jj)), (.ref a)])) rfl (by rw [hml]; rfl) (Steps.refl _) (argsL := [(.int (Int32.ofNat jj))]) (rest := []) (lenOf pd_27763 rfl) rfl (by show 2 * 0 + _ ≤ _; exact Nat.le_of_eq rfl) (hb hby d_prog_81_method_3_17) (fun _ _ => ⟨rfl, e2, (by decide : 0 + 0 ≤ _), (by decide : 0 + 0 ≤ _)⟩)
    dsimp only [Pt.U, Pt.locs, Pt.cells, Pt.slots] at X12 l12 y12 z12 st12 hQ12
    rw [l12, y12, z12] at X12
    obtain ⟨rfl, Nq12, hq12⟩ := hQ12
    have N12 := Fr.app N0 Nq12
    have k13_ : ∀ t, Steps p.tables e below (T12.setTop (mkF m 20 #[.val (.ref oh), .val (.int (Int32.ofNat ii)), .val (.int (Int32.ofNat jj)), .val (.ref a)] [(.int (G ii (Int32.ofNat jj)))])) t → Steps p.tables e below (s₁.setTop (mkF m 0 #[.val (.ref oh), .val (.int (Int32.ofNat ii)), .val (.int (Int32.ofNat jj)), .unset] [])) t := fun t q => k11_ t (st12.trans q)
    obtain ⟨fs, hr, hrun, hended, hW, hsame⟩ := X12.leave (v := some (.int (G ii (Int32.ofNat jj)))) (fun h => by rw [Bd.returns] at h; cases h)
    refine ⟨_, _, pre0 _ (k13_ _ ?_), hrun, hended, _, _, rfl, ?_, ⟨_, rfl⟩, hW, hsame.mono (by decide) (by decide)⟩
    · show Steps p.tables e below (T12.setTop (mkF m 20 #[.val (.ref oh), .val (.int (Int32.ofNat ii)), .val (.int (Int32.ofNat jj)), .val (.ref a)] [(.int (G ii (Int32.ofNat jj)))])) _
      exact retI X12 hx Bd.returns (hb hby d_prog_81_method_3_20) hr
    · show QHg Z oh nb pb O w G ii jj h0 n0 _ T12.heap _
      rw [hq12]
      exact ⟨rfl, N12, rfl⟩
theorem d_prog_81_method_10_20 : decode prog_81_method_10_code 20 = .ok (.aload_n 0, 1) := by decide +kernel
theorem d_prog_81_method_10_21 : decode prog_81_method_10_code 21 = .ok (.getfield 9, 3) := by decide +kernel
theorem d_prog_81_method_10_24 : decode prog_81_method_10_code 24 = .ok (.iload_n 1, 1) := by decide +kernel
theorem d_prog_81_method_10_25 : decode prog_81_method_10_code 25 = .ok (.aaload, 1) := by decide +kernel
theorem d_prog_81_method_10_26 : decode prog_81_method_10_code 26 = .ok (.ifnonnull 16, 3) := by decide +kernel
theorem d_prog_81_method_10_29 : decode prog_81_method_10_code 29 = .ok (.aload_n 0, 1) := by decide +kernel
theorem d_prog_81_method_10_30 : decode prog_81_method_10_code 30 = .ok (.getfield 9, 3) := by decide +kernel
theorem d_prog_81_method_10_33 : decode prog_81_method_10_code 33 = .ok (.iload_n 1, 1) := by decide +kernel
theorem d_prog_81_method_10_34 : decode prog_81_method_10_code 34 = .ok (.new 7, 3) := by decide +kernel
theorem d_prog_81_method_10_37 : decode prog_81_method_10_code 37 = .ok (.dup, 1) := by decide +kernel
theorem d_prog_81_method_10_38 : decode prog_81_method_10_code 38 = .ok (.invokespecial 63, 3) := by decide +kernel
theorem d_prog_81_method_10_41 : decode prog_81_method_10_code 41 = .ok (.aastore, 1) := by decide +kernel
set_option maxRecDepth 65536 in
set_option maxHeartbeats 40000000 in
theorem enN {p : Program} {l : Launch} {e : Env}  {s : State} {m : MethodId} {args : Array Value} {below : List Frame} {meth : Method} {c : Code} (Z : State) (a0 : Array Value) (hw : ∀ d ∈ tables_1, d.before a0 Z = true) (hx : p.tables.exec = Jvm.exec) (hZ : Z.Warmed39 s.vm) (hby : c.code = prog_81_method_10_code) (hml : c.maxLocals = 4) (hown : s.vm.findClass "com/example/weir/weir/model/HeldTasks" = some m.cls) (n0 : Nat) (oh : Addr) (nb : Addr) (pb : Addr) (O : Nat → Option own_Ob) (w : Addr → Nat) (G : Nat → Int32 → Int32) (ii jj : Nat) (tx : Int32) (s₁ : State) (h0 : Heap) (lc0 : List Loc) (hi : ii < 2) (hj : jj < 4) (X0 : Stand p l e ({ frames := 4, cells := 10, slots := 54, locals := 61 } : Room) s m args below meth c s₁ lc0 0 0) (e0 : s₁.heap = h0) (N0 : Fr n0 lc0) (Zn : n0 ≤ h0.size) (hI : own_I Z n0 h0 oh nb pb O w G) : ∃ (T' : State) (h' : Heap) (lc' : List Loc) (O' : Nat → Option own_Ob) (w' : Addr → Nat), Stand p l e ({ frames := 4, cells := 10, slots := 54, locals := 61 } : Room) s m args below meth c T' lc' 3 11 ∧ T'.heap = h' ∧ Fr n0 lc' ∧ own_I Z n0 h' oh nb pb O' w' G ∧ (∃ b, O' ii = some b) ∧ (∀ y b, O y = some b → O' y = some b) ∧ own_Kw h0 h' w w' ∧ ∀ t, Steps p.tables e below (T'.setTop (mkF m 42 #[.val (.ref oh), .val (.int (Int32.ofNat ii)), .val (.int (Int32.ofNat jj)), .val (.int tx)] [])) t → Steps p.tables e below (s₁.setTop (mkF m 20 #[.val (.ref oh), .val (.int (Int32.ofNat ii)), .val (.int (Int32.ofNat jj)), .val (.int tx)] [])) t := by
  have k0 : ∀ t, Steps p.tables e below (s₁.setTop (mkF m 20 #[.val (.ref oh), .val (.int (Int32.ofNat ii)), .val (.int (Int32.ofNat jj)), .val (.int tx)] [])) t → Steps p.tables e below (s₁.setTop (mkF m 20 #[.val (.ref oh), .val (.int (Int32.ofNat ii)), .val (.int (Int32.ofNat jj)), .val (.int tx)] [])) t := fun t q => q
  obtain ⟨EH, FN, FP, ⟨kn, VN, ON⟩, ⟨kp, VP, OP⟩, HO, HG, ⟨w6, w7, w8⟩, ⟨g6, g7, g8⟩⟩ := id hI
  have lN := VN.lt
  have lP := VP.lt
  have k1_ : ∀ t, Steps p.tables e below (s₁.setTop (mkF m 21 #[.val (.ref oh), .val (.int (Int32.ofNat ii)), .val (.int (Int32.ofNat jj)), .val (.int tx)] [(.ref oh)])) t → Steps p.tables e below (s₁.setTop (mkF m 20 #[.val (.ref oh), .val (.int (Int32.ofNat ii)), .val (.int (Int32.ofNat jj)), .val (.int tx)] [])) t := by
    intro t q
    refine k0 _ ?_
    show Steps p.tables e below (s₁.setTop (mkF m 20 #[.val (.ref oh), .val (.int (Int32.ofNat ii)), .val (.int (Int32.ofNat jj)), .val (.int tx)] [])) _
    refine XS.aloadN X0.here hx rfl (hb hby d_prog_81_method_10_20) rfl rfl ?_
    show Steps p.tables e below (s₁.setTop (mkF m 21 #[.val (.ref oh), .val (.int (Int32.ofNat ii)), .val (.int (Int32.ofNat jj)), .val (.int tx)] [(.ref oh)])) _
    exact q
  obtain ⟨T2, X2, e2, st2⟩ := getF X0 hx hZ hown (host := "") (Or.inl (hw _ (List.mem_of_getElem? (i := 11) rfl))) Via.refl e0 FN (g := (mkF m 21 #[.val (.ref oh), .val (.int (Int32.ofNat ii)), .val (.int (Int32.ofNat jj)), .val (.int tx)] [(.ref oh)])) rfl rfl (hb hby d_prog_81_method_10_21)
  have k3_ : ∀ t, Steps p.tables e below (T2.setTop (mkF m 24 #[.val (.ref oh), .val (.int (Int32.ofNat ii)), .val (.int (Int32.ofNat jj)), .val (.int tx)] [(.ref nb)])) t → Steps p.tables e below (s₁.setTop (mkF m 20 #[.val (.ref oh), .val (.int (Int32.ofNat ii)), .val (.int (Int32.ofNat jj)), .val (.int tx)] [])) t := fun t q => k1_ t (st2 t q)
  cases hO : O ii with
  | some bb =>
    obtain ⟨a, kb, cb, ks, cs⟩ := bb
    obtain ⟨cl4, Ar4, q4, S4, M4, H4, G4⟩ := id VN
    have k5_ : ∀ t, Steps p.tables e below (T2.setTop (mkF m 26 #[.val (.ref oh), .val (.int (Int32.ofNat ii)), .val (.int (Int32.ofNat jj)), .val (.int tx)] [(.ref a)])) t → Steps p.tables e below (s₁.setTop (mkF m 20 #[.val (.ref oh), .val (.int (Int32.ofNat ii)), .val (.int (Int32.ofNat jj)), .val (.int tx)] [])) t := by
      intro t q
      refine k3_ _ ?_
      show Steps p.tables e below (T2.setTop (mkF m 24 #[.val (.ref oh), .val (.int (Int32.ofNat ii)), .val (.int (Int32.ofNat jj)), .val (.int tx)] [(.ref nb)])) _
      refine XS.iloadN X2.here hx rfl (hb hby d_prog_81_method_10_24) rfl ?_
      show Steps p.tables e below (T2.setTop (mkF m 25 #[.val (.ref oh), .val (.int (Int32.ofNat ii)), .val (.int (Int32.ofNat jj)), .val (.int tx)] [(.int (Int32.ofNat ii)), (.ref nb)])) _
      refine X2.aaload hx (j := (Int32.ofNat ii)) (v := (.ref a)) (by rw [e2]; exact Ar4.1) (State.isArrayOf_alike hZ.alike Ar4.2.1) rfl Ar4.2.2 (inb_of S4 (own_lt2 hi)) (Has.at H4 (inb_of S4 (own_lt2 hi)) ((own_g2 hi).trans (congrArg own_v hO))) (g := (mkF m 25 #[.val (.ref oh), .val (.int (Int32.ofNat ii)), .val (.int (Int32.ofNat jj)), .val (.int tx)] [(.int (Int32.ofNat ii)), (.ref nb)])) rfl rfl (hb hby d_prog_81_method_10_25) _ ?_
      show Steps p.tables e below (T2.setTop (mkF m 26 #[.val (.ref oh), .val (.int (Int32.ofNat ii)), .val (.int (Int32.ofNat jj)), .val (.int tx)] [(.ref a)])) _
      exact q
    have k6_ : ∀ t, Steps p.tables e below (T2.setTop (mkF m 42 #[.val (.ref oh), .val (.int (Int32.ofNat ii)), .val (.int (Int32.ofNat jj)), .val (.int tx)] [])) t → Steps p.tables e below (s₁.setTop (mkF m 20 #[.val (.ref oh), .val (.int (Int32.ofNat ii)), .val (.int (Int32.ofNat jj)), .val (.int tx)] [])) t := by
      intro t q
      refine k5_ _ ?_
      show Steps p.tables e below (T2.setTop (mkF m 26 #[.val (.ref oh), .val (.int (Int32.ofNat ii)), .val (.int (Int32.ofNat jj)), .val (.int tx)] [(.ref a)])) _
      refine XT.ifnonnullYes X2.here hx rfl (pc0 := 26) (pc' := 42) rfl (hb hby d_prog_81_method_10_26) rfl (by decide) (by decide) ?_
      show Steps p.tables e below (T2.setTop (mkF m 42 #[.val (.ref oh), .val (.int (Int32.ofNat ii)), .val (.int (Int32.ofNat jj)), .val (.int tx)] [])) _
      exact q
    exact ⟨_, h0, lc0, O, w, X2.more (by decide) (by decide), e2, N0, hI, ⟨_, hO⟩, fun _ _ z => z, own_Kw_refl, k6_⟩
  | none =>
    obtain ⟨cl7, Ar7, q7, S7, M7, H7, G7⟩ := id VN
    have k8_ : ∀ t, Steps p.tables e below (T2.setTop (mkF m 26 #[.val (.ref oh), .val (.int (Int32.ofNat ii)), .val (.int (Int32.ofNat jj)), .val (.int tx)] [.null])) t → Steps p.tables e below (s₁.setTop (mkF m 20 #[.val (.ref oh), .val (.int (Int32.ofNat ii)), .val (.int (Int32.ofNat jj)), .val (.int tx)] [])) t := by
      intro t q
      refine k3_ _ ?_
      show Steps p.tables e below (T2.setTop (mkF m 24 #[.val (.ref oh), .val (.int (Int32.ofNat ii)), .val (.int (Int32.ofNat jj)), .val (.int tx)] [(.ref nb)])) _
      refine XS.iloadN X2.here hx rfl (hb hby d_prog_81_method_10_24) rfl ?_
      show Steps p.tables e below (T2.setTop (mkF m 25 #[.val (.ref oh), .val (.int (Int32.ofNat ii)), .val (.int (Int32.ofNat jj)), .val (.int tx)] [(.int (Int32.ofNat ii)), (.ref nb)])) _
      refine X2.aaload hx (j := (Int32.ofNat ii)) (v := .null) (by rw [e2]; exact Ar7.1) (State.isArrayOf_alike hZ.alike Ar7.2.1) rfl Ar7.2.2 (inb_of S7 (own_lt2 hi)) (Has.at H7 (inb_of S7 (own_lt2 hi)) ((own_g2 hi).trans (congrArg own_v hO))) (g := (mkF m 25 #[.val (.ref oh), .val (.int (Int32.ofNat ii)), .val (.int (Int32.ofNat jj)), .val (.int tx)] [(.int (Int32.ofNat ii)), (.ref nb)])) rfl rfl (hb hby d_prog_81_method_10_25) _ ?_
      show Steps p.tables e below (T2.setTop (mkF m 26 #[.val (.ref oh), .val (.int (Int32.ofNat ii)), .val (.int (Int32.ofNat jj)), .val (.int tx)] [.null])) _
      exact q
    have k9_ : ∀ t, Steps p.tables e below (T2.setTop (mkF m 29 #[.val (.ref oh), .val (.int (Int32.ofNat ii)), .val (.int (Int32.ofNat jj)), .val (.int tx)] [])) t → Steps p.tables e below (s₁.setTop (mkF m 20 #[.val (.ref oh), .val (.int (Int32.ofNat ii)), .val (.int (Int32.ofNat jj)), .val (.int tx)] [])) t := by
      intro t q
      refine k8_ _ ?_
      show Steps p.tables e below (T2.setTop (mkF m 26 #[.val (.ref oh), .val (.int (Int32.ofNat ii)), .val (.int (Int32.ofNat jj)), .val (.int tx)] [.null])) _
      refine XT.ifnonnullNo X2.here hx rfl (hb hby d_prog_81_method_10_26) rfl ?_
      show Steps p.tables e below (T2.setTop (mkF m 29 #[.val (.ref oh), .val (.int (Int32.ofNat ii)), .val (.int (Int32.ofNat jj)), .val (.int tx)] [])) _
      exact q
    have k10_ : ∀ t, Steps p.tables e below (T2.setTop (mkF m 30 #[.val (.ref oh), .val (.int (Int32.ofNat ii)), .val (.int (Int32.ofNat jj)), .val (.int tx)] [(.ref oh)])) t → Steps p.tables e below (s₁.setTop (mkF m 20 #[.val (.ref oh), .val (.int (Int32.ofNat ii)), .val (.int (Int32.ofNat jj)), .val (.int tx)] [])) t := by
      intro t q
      refine k9_ _ ?_
      show Steps p.tables e below (T2.setTop (mkF m 29 #[.val (.ref oh), .val (.int (Int32.ofNat ii)), .val (.int (Int32.ofNat jj)), .val (.int tx)] [])) _
      refine XS.aloadN X2.here hx rfl (hb hby d_prog_81_method_10_29) rfl rfl ?_
      show Steps p.tables e below (T2.setTop (mkF m 30 #[.val (.ref oh), .val (.int (Int32.ofNat ii)), .val (.int (Int32.ofNat jj)), .val (.int tx)] [(.ref oh)])) _
      exact q
    obtain ⟨T11, X11, e11, st11⟩ := getF X2 hx hZ hown (host := "") (Or.inl (hw _ (List.mem_of_getElem? (i := 11) rfl))) Via.refl e2 FN (g := (mkF m 30 #[.val (.ref oh), .val (.int (Int32.ofNat ii)), .val (.int (Int32.ofNat jj)), .val (.int tx)] [(.ref oh)])) rfl rfl (hb hby d_prog_81_method_10_30)
    have k12_ : ∀ t, Steps p.tables e below (T11.setTop (mkF m 33 #[.val (.ref oh), .val (.int (Int32.ofNat ii)), .val (.int (Int32.ofNat jj)), .val (.int tx)] [(.ref nb)])) t → Steps p.tables e below (s₁.setTop (mkF m 20 #[.val (.ref oh), .val (.int (Int32.ofNat ii)), .val (.int (Int32.ofNat jj)), .val (.int tx)] [])) t := fun t q => k10_ t (st11 t q)
    have k13_ : ∀ t, Steps p.tables e below (T11.setTop (mkF m 34 #[.val (.ref oh), .val (.int (Int32.ofNat ii)), .val (.int (Int32.ofNat jj)), .val (.int tx)] [(.int (Int32.ofNat ii)), (.ref nb)])) t → Steps p.tables e below (s₁.setTop (mkF m 20 #[.val (.ref oh), .val (.int (Int32.ofNat ii)), .val (.int (Int32.ofNat jj)), .val (.int tx)] [])) t := by
      intro t q
      refine k12_ _ ?_
      show Steps p.tables e below (T11.setTop (mkF m 33 #[.val (.ref oh), .val (.int (Int32.ofNat ii)), .val (.int (Int32.ofNat jj)), .val (.int tx)] [(.ref nb)])) _
      refine XS.iloadN X11.here hx rfl (hb hby d_prog_81_method_10_33) rfl ?_
      show Steps p.tables e below (T11.setTop (mkF m 34 #[.val (.ref oh), .val (.int (Int32.ofNat ii)), .val (.int (Int32.ofNat jj)), .val (.int tx)] [(.int (Int32.ofNat ii)), (.ref nb)])) _
      exact q
    obtain ⟨T14, h14, X14, e14, E14, A14, D14, -, st14⟩ := newO X11 hx hZ hown (hw _ (List.mem_of_getElem? (i := 9) rfl)) (hw _ (List.mem_of_getElem? (i := 40) rfl)) (hw _ (List.mem_of_getElem? (i := 41) rfl)) e11 (g := (mkF m 34 #[.val (.ref oh), .val (.int (Int32.ofNat ii)), .val (.int (Int32.ofNat jj)), .val (.int tx)] [(.int (Int32.ofNat ii)), (.ref nb)])) rfl (hb hby d_prog_81_method_10_34) (by decide) (by decide)
    obtain ⟨b14, g14⟩ : ∃ z, z = h0.size := ⟨_, rfl⟩
    rw [← g14] at A14 D14 st14
    have k15_ : ∀ t, Steps p.tables e below (T14.setTop (mkF m 37 #[.val (.ref oh), .val (.int (Int32.ofNat ii)), .val (.int (Int32.ofNat jj)), .val (.int tx)] [(.ref b14), (.int (Int32.ofNat ii)), (.ref nb)])) t → Steps p.tables e below (s₁.setTop (mkF m 20 #[.val (.ref oh), .val (.int (Int32.ofNat ii)), .val (.int (Int32.ofNat jj)), .val (.int tx)] [])) t := fun t q => k13_ t (st14 t q)
    have ne_oh_b14 : oh ≠ b14 := Nat.ne_of_lt (Nat.lt_of_lt_of_le FN.lt (Nat.le_of_eq g14.symm))
    have ne_nb_b14 : nb ≠ b14 := Nat.ne_of_lt (Nat.lt_of_lt_of_le VN.lt (Nat.le_of_eq g14.symm))
    have g_b14 : n0 ≤ b14 := Nat.le_trans Zn (Nat.le_of_eq g14.symm)
    replace Zn := Nat.le_trans Zn E14.1
    replace FN := FN.ext E14
    replace FP := FP.ext E14
    replace VN := VN.ext E14
    have KP := (Keep.refl h0 [nb]).ext E14
    have zb : h0.size ≤ b14 := Nat.le_of_eq g14.symm
    have F_keys : Fld Z h14 b14 "com/example/weir/weir/model/HeldTasks$Counts" "keys" "[I" .null := D14 (Or.inl (hw _ (List.mem_of_getElem? (i := 47) rfl))) (ty := (.array .int)) (by decide)
    have F_counts : Fld Z h14 b14 "com/example/weir/weir/model/HeldTasks$Counts" "counts" "[I" .null := D14 (Or.inl (hw _ (List.mem_of_getElem? (i := 49) rfl))) (ty := (.array .int)) (by decide)
    have F_size : Fld Z h14 b14 "com/example/weir/weir/model/HeldTasks$Counts" "size" "I" (.int (0 : Int32)) := D14 (Or.inl (hw _ (List.mem_of_getElem? (i := 61) rfl))) (ty := .int) (by decide)
    have k16_ : ∀ t, Steps p.tables e below (T14.setTop (mkF m 38 #[.val (.ref oh), .val (.int (Int32.ofNat ii)), .val (.int (Int32.ofNat jj)), .val (.int tx)] [(.ref b14), (.ref b14), (.int (Int32.ofNat ii)), (.ref nb)])) t → Steps p.tables e below (s₁.setTop (mkF m 20 #[.val (.ref oh), .val (.int (Int32.ofNat ii)), .val (.int (Int32.ofNat jj)), .val (.int tx)] [])) t := by
      intro t q
      refine k15_ _ ?_
      show Steps p.tables e below (T14.setTop (mkF m 37 #[.val (.ref oh), .val (.int (Int32.ofNat ii)), .val (.int (Int32.ofNat jj)), .val (.int tx)] [(.ref b14), (.int (Int32.ofNat ii)), (.ref nb)])) _
      refine XS.dup X14.here hx rfl (hb hby d_prog_81_method_10_37) rfl rfl ?_
      show Steps p.tables e below (T14.setTop (mkF m 38 #[.val (.ref oh), .val (.int (Int32.ofNat ii)), .val (.int (Int32.ofNat jj)), .val (.int tx)] [(.ref b14), (.ref b14), (.int (Int32.ofNat ii)), (.ref nb)])) _
      exact q
    obtain ⟨_, _, ⟨T17, L17, kk17, n17⟩, -, X17, ⟨Lc17, hQ17, l17, y17, z17⟩, st17⟩ := own_specialR X14 hx hZ (y := (⟨"com/example/weir/weir/model/HeldTasks$Counts", "<init>", "()V"⟩ : MethodName)) rfl hown (hw _ (List.mem_of_getElem? (i := 42) rfl)) (mvT hZ (hw _ (List.mem_of_getElem? (i := 43) rfl))) (mvT hZ (hw _ (List.mem_of_getElem? (i := 44) rfl))) (by decide) (backOf (W := 3) (rmI l Z a0 hw [] b14 h14 n0 Zn A14 F_keys F_counts F_size g_b14) hZ (hw _ (List.mem_of_getElem? (i := 44) rfl)) (hw _ (List.mem_of_getElem? (i := 41) rfl)) (by decide) (by decide)) (g := (mkF m 38 #[.val (.ref oh), .val (.int (Int32.ofNat ii)), .val (.int (Int32.ofNat jj)), .val (.int tx)] [(.ref b14), (.ref b14), (.int (Int32.ofNat ii)), (.ref nb)])) rfl (by rw [hml]; rfl) (Steps.refl _) (a := b14) (argsL := []) (rest := [(.ref b14), (.int (Int32.ofNat ii)), (.ref nb)]) (lenOf pd_48334 rfl) rfl (by show 2 * 0 + _ ≤ _; exact Nat.le_of_eq rfl) (hb hby d_prog_81_method_10_38) (fun _ _ => ⟨rfl, e14, (by decide : 0 + 1 + 2 ≤ _), (by decide : 0 + 3 + 8 ≤ _)⟩)
    dsimp only [Pt.U, Pt.locs, Pt.cells, Pt.slots] at X17 l17 y17 z17 st17 hQ17
    rw [l17, y17, z17] at X17
    obtain ⟨rfl, Nq17, kb, cb, CN, z2, z3, KI⟩ := hQ17
    have N17 := Fr.app N0 Nq17
    have k18_ : ∀ t, Steps p.tables e below (T17.setTop (mkF m 41 #[.val (.ref oh), .val (.int (Int32.ofNat ii)), .val (.int (Int32.ofNat jj)), .val (.int tx)] [(.ref b14), (.int (Int32.ofNat ii)), (.ref nb)])) t → Steps p.tables e below (s₁.setTop (mkF m 20 #[.val (.ref oh), .val (.int (Int32.ofNat ii)), .val (.int (Int32.ofNat jj)), .val (.int tx)] [])) t := fun t q => k16_ t (st17.trans q)
    have ne_ab := ne_nb_b14
    replace VN := VN.keep KI (own_notin1 ne_ab)
    replace KP := KP.trans KI (fun x hx => Or.inr (by cases List.mem_singleton.mp hx; exact zb))
    have lA : nb < h0.size := (show nb < h0.size from lN)
    have y2 : h0.size ≤ kb := Nat.le_trans (Keep.ext (Keep.refl h0 []) E14).1 z2
    have y3 : h0.size ≤ cb := Nat.le_trans (Keep.ext (Keep.refl h0 []) E14).1 z3
    obtain ⟨cl19, Ar19, q19, S19, M19, H19, G19⟩ := VN
    obtain ⟨T20, h20, X20, e20, W20, st20⟩ := stR X17 hx hZ rfl Ar19 (j := (Int32.ofNat ii)) (inb_of S19 (own_lt2 hi)) rfl (Sto.ofV Ar19 q19 ON (Ins.self CN.1)) (g := (mkF m 41 #[.val (.ref oh), .val (.int (Int32.ofNat ii)), .val (.int (Int32.ofNat jj)), .val (.int tx)] [(.ref b14), (.int (Int32.ofNat ii)), (.ref nb)])) rfl rfl (hb hby d_prog_81_method_10_41)
    have k21_ : ∀ t, Steps p.tables e below (T20.setTop (mkF m 42 #[.val (.ref oh), .val (.int (Int32.ofNat ii)), .val (.int (Int32.ofNat jj)), .val (.int tx)] [])) t → Steps p.tables e below (s₁.setTop (mkF m 20 #[.val (.ref oh), .val (.int (Int32.ofNat ii)), .val (.int (Int32.ofNat jj)), .val (.int tx)] [])) t := fun t q => k18_ t (st20 t q)
    have N20 := Fr.snoc X20 N17 g7
    have V1 := Arv.set Ar19 q19 S19 M19 H19 G19 rfl W20 ii (own_ci (by omega)) (show ii < 2 from hi)
    replace KP := KP.wr W20 (Or.inl (List.mem_of_getElem? (i := 0) rfl))
    have CN1 := own_Cn_keep CN (Keep.of_wr W20) (own_notin1 (Ne.symm ne_ab)) (own_notin1 (Ne.symm (Nat.ne_of_lt (Nat.lt_of_lt_of_le lA y2)))) (own_notin1 (Ne.symm (Nat.ne_of_lt (Nat.lt_of_lt_of_le lA y3))))
    obtain ⟨I1, K1⟩ := own_I_newN hI hi hO KP CN1 zb y2 y3 V1 ON
    exact ⟨_, _, _, _, _, X20, e20, N20, I1, ⟨_, own_uo_s rfl⟩, fun y b hy => by rw [own_uo_n (fun z => by rw [z, hO] at hy; cases hy)]; exact hy, K1, k21_⟩
theorem d_prog_81_method_10_42 : decode prog_81_method_10_code 42 = .ok (.aload_n 0, 1) := by decide +kernel
theorem d_prog_81_method_10_43 : decode prog_81_method_10_code 43 = .ok (.getfield 15, 3) := by decide +kernel
theorem d_prog_81_method_10_46 : decode prog_81_method_10_code 46 = .ok (.iload_n 2, 1) := by decide +kernel
theorem d_prog_81_method_10_47 : decode prog_81_method_10_code 47 = .ok (.aaload, 1) := by decide +kernel
theorem d_prog_81_method_10_48 : decode prog_81_method_10_code 48 = .ok (.ifnonnull 16, 3) := by decide +kernel
theorem d_prog_81_method_10_51 : decode prog_81_method_10_code 51 = .ok (.aload_n 0, 1) := by decide +kernel
theorem d_prog_81_method_10_52 : decode prog_81_method_10_code 52 = .ok (.getfield 15, 3) := by decide +kernel
theorem d_prog_81_method_10_55 : decode prog_81_method_10_code 55 = .ok (.iload_n 2, 1) := by decide +kernel
theorem d_prog_81_method_10_56 : decode prog_81_method_10_code 56 = .ok (.new 7, 3) := by decide +kernel
theorem d_prog_81_method_10_59 : decode prog_81_method_10_code 59 = .ok (.dup, 1) := by decide +kernel
theorem d_prog_81_method_10_60 : decode prog_81_method_10_code 60 = .ok (.invokespecial 63, 3) := by decide +kernel
theorem d_prog_81_method_10_63 : decode prog_81_method_10_code 63 = .ok (.aastore, 1) := by decide +kernel
set_option maxRecDepth 65536 in
set_option maxHeartbeats 40000000 in
theorem enP {p : Program} {l : Launch} {e : Env}  {s : State} {m : MethodId} {args : Array Value} {below : List Frame} {meth : Method} {c : Code} (Z : State) (a0 : Array Value) (hw : ∀ d ∈ tables_1, d.before a0 Z = true) (hx : p.tables.exec = Jvm.exec) (hZ : Z.Warmed39 s.vm) (hby : c.code = prog_81_method_10_code) (hml : c.maxLocals = 4) (hown : s.vm.findClass "com/example/weir/weir/model/HeldTasks" = some m.cls) (n0 : Nat) (oh : Addr) (nb : Addr) (pb : Addr) (O : Nat → Option own_Ob) (w : Addr → Nat) (G : Nat → Int32 → Int32) (ii jj : Nat) (tx : Int32) (s₁ : State) (h0 : Heap) (lc0 : List Loc) (hi : ii < 2) (hj : jj < 4) (X0 : Stand p l e ({ frames := 4, cells := 10, slots := 54, locals := 61 } : Room) s m args below meth c s₁ lc0 3 11) (e0 : s₁.heap = h0) (N0 : Fr n0 lc0) (Zn : n0 ≤ h0.size) (hI : own_I Z n0 h0 oh nb pb O w G) : ∃ (T' : State) (h' : Heap) (lc' : List Loc) (O' : Nat → Option own_Ob) (w' : Addr → Nat), Stand p l e ({ frames := 4, cells := 10, slots := 54, locals := 61 } : Room) s m args below meth c T' lc' 6 22 ∧ T'.heap = h' ∧ Fr n0 lc' ∧ own_I Z n0 h' oh nb pb O' w' G ∧ (∃ b, O' (2 + jj) = some b) ∧ (∀ y b, O y = some b → O' y = some b) ∧ own_Kw h0 h' w w' ∧ ∀ t, Steps p.tables e below (T'.setTop (mkF m 64 #[.val (.ref oh), .val (.int (Int32.ofNat ii)), .val (.int (Int32.ofNat jj)), .val (.int tx)] [])) t → Steps p.tables e below (s₁.setTop (mkF m 42 #[.val (.ref oh), .val (.int (Int32.ofNat ii)), .val (.int (Int32.ofNat jj)), .val (.int tx)] [])) t := by
  have k0 : ∀ t, Steps p.tables e below (s₁.setTop (mkF m 42 #[.val (.ref oh), .val (.int (Int32.ofNat ii)), .val (.int (Int32.ofNat jj)), .val (.int tx)] [])) t → Steps p.tables e below (s₁.setTop (mkF m 42 #[.val (.ref oh), .val (.int (Int32.ofNat ii)), .val (.int (Int32.ofNat jj)), .val (.int tx)] [])) t := fun t q => q
  obtain ⟨EH, FN, FP, ⟨kn, VN, ON⟩, ⟨kp, VP, OP⟩, HO, HG, ⟨w6, w7, w8⟩, ⟨g6, g7, g8⟩⟩ := id hI
  have lN := VN.lt
  have lP := VP.lt
  have k1_ : ∀ t, Steps p.tables e below (s₁.setTop (mkF m 43 #[.val (.ref oh), .val (.int (Int32.ofNat ii)), .val (.int (Int32.ofNat jj)), .val (.int tx)] [(.ref oh)])) t → Steps p.tables e below (s₁.setTop (mkF m 42 #[.val (.ref oh), .val (.int (Int32.ofNat ii)), .val (.int (Int32.ofNat jj)), .val (.int tx)] [])) t := by
    intro t q
    refine k0 _ ?_
    show Steps p.tables e below (s₁.setTop (mkF m 42 #[.val (.ref oh), .val (.int (Int32.ofNat ii)), .val (.int (Int32.ofNat jj)), .val (.int tx)] [])) _
    refine XS.aloadN X0.here hx rfl (hb hby d_prog_81_method_10_42) rfl rfl ?_
    show Steps p.tables e below (s₁.setTop (mkF m 43 #[.val (.ref oh), .val (.int (Int32.ofNat ii)), .val (.int (Int32.ofNat jj)), .val (.int tx)] [(.ref oh)])) _
    exact q
  obtain ⟨T2, X2, e2, st2⟩ := getF X0 hx hZ hown (host := "") (Or.inl (hw _ (List.mem_of_getElem? (i := 13) rfl))) Via.refl e0 FP (g := (mkF m 43 #[.val (.ref oh), .val (.int (Int32.ofNat ii)), .val (.int (Int32.ofNat jj)), .val (.int tx)] [(.ref oh)])) rfl rfl (hb hby d_prog_81_method_10_43)
  have k3_ : ∀ t, Steps p.tables e below (T2.setTop (mkF m 46 #[.val (.ref oh), .val (.int (Int32.ofNat ii)), .val (.int (Int32.ofNat jj)), .val (.int tx)] [(.ref pb)])) t → Steps p.tables e below (s₁.setTop (mkF m 42 #[.val (.ref oh), .val (.int (Int32.ofNat ii)), .val (.int (Int32.ofNat jj)), .val (.int tx)] [])) t := fun t q => k1_ t (st2 t q)
  cases hO : O (2 + jj) with
  | some bb =>
    obtain ⟨a, kb, cb, ks, cs⟩ := bb
    obtain ⟨cl4, Ar4, q4, S4, M4, H4, G4⟩ := id VP
    have k5_ : ∀ t, Steps p.tables e below (T2.setTop (mkF m 48 #[.val (.ref oh), .val (.int (Int32.ofNat ii)), .val (.int (Int32.ofNat jj)), .val (.int tx)] [(.ref a)])) t → Steps p.tables e below (s₁.setTop (mkF m 42 #[.val (.ref oh), .val (.int (Int32.ofNat ii)), .val (.int (Int32.ofNat jj)), .val (.int tx)] [])) t := by
      intro t q
      refine k3_ _ ?_
      show Steps p.tables e below (T2.setTop (mkF m 46 #[.val (.ref oh), .val (.int (Int32.ofNat ii)), .val (.int (Int32.ofNat jj)), .val (.int tx)] [(.ref pb)])) _
      refine XS.iloadN X2.here hx rfl (hb hby d_prog_81_method_10_46) rfl ?_
      show Steps p.tables e below (T2.setTop (mkF m 47 #[.val (.ref oh), .val (.int (Int32.ofNat ii)), .val (.int (Int32.ofNat jj)), .val (.int tx)] [(.int (Int32.ofNat jj)), (.ref pb)])) _
      refine X2.aaload hx (j := (Int32.ofNat jj)) (v := (.ref a)) (by rw [e2]; exact Ar4.1) (State.isArrayOf_alike hZ.alike Ar4.2.1) rfl Ar4.2.2 (inb_of S4 (own_lt4 hj)) (Has.at H4 (inb_of S4 (own_lt4 hj)) ((own_g4 hj).trans (congrArg own_v hO))) (g := (mkF m 47 #[.val (.ref oh), .val (.int (Int32.ofNat ii)), .val (.int (Int32.ofNat jj)), .val (.int tx)] [(.int (Int32.ofNat jj)), (.ref pb)])) rfl rfl (hb hby d_prog_81_method_10_47) _ ?_
      show Steps p.tables e below (T2.setTop (mkF m 48 #[.val (.ref oh), .val (.int (Int32.ofNat ii)), .val (.int (Int32.ofNat jj)), .val (.int tx)] [(.ref a)])) _
      exact q
    have k6_ : ∀ t, Steps p.tables e below (T2.setTop (mkF m 64 #[.val (.ref oh), .val (.int (Int32.ofNat ii)), .val (.int (Int32.ofNat jj)), .val (.int tx)] [])) t → Steps p.tables e below (s₁.setTop (mkF m 42 #[.val (.ref oh), .val (.int (Int32.ofNat ii)), .val (.int (Int32.ofNat jj)), .val (.int tx)] [])) t := by
      intro t q
      refine k5_ _ ?_
      show Steps p.tables e below (T2.setTop (mkF m 48 #[.val (.ref oh), .val (.int (Int32.ofNat ii)), .val (.int (Int32.ofNat jj)), .val (.int tx)] [(.ref a)])) _
      refine XT.ifnonnullYes X2.here hx rfl (pc0 := 48) (pc' := 64) rfl (hb hby d_prog_81_method_10_48) rfl (by decide) (by decide) ?_
      show Steps p.tables e below (T2.setTop (mkF m 64 #[.val (.ref oh), .val (.int (Int32.ofNat ii)), .val (.int (Int32.ofNat jj)), .val (.int tx)] [])) _
      exact q
    exact ⟨_, h0, lc0, O, w, X2.more (by decide) (by decide), e2, N0, hI, ⟨_, hO⟩, fun _ _ z => z, own_Kw_refl, k6_⟩
  | none =>
    obtain ⟨cl7, Ar7, q7, S7, M7, H7, G7⟩ := id VP
    have k8_ : ∀ t, Steps p.tables e below (T2.setTop (mkF m 48 #[.val (.ref oh), .val (.int (Int32.ofNat ii)), .val (.int (Int32.ofNat jj)), .val (.int tx)] [.null])) t → Steps p.tables e below (s₁.setTop (mkF m 42 #[.val (.ref oh), .val (.int (Int32.ofNat ii)), .val (.int (Int32.ofNat jj)), .val (.int tx)] [])) t := by
      intro t q
      refine k3_ _ ?_
      show Steps p.tables e below (T2.setTop (mkF m 46 #[.val (.ref oh), .val (.int (Int32.ofNat ii)), .val (.int (Int32.ofNat jj)), .val (.int tx)] [(.ref pb)])) _
      refine XS.iloadN X2.here hx rfl (hb hby d_prog_81_method_10_46) rfl ?_
      show Steps p.tables e below (T2.setTop (mkF m 47 #[.val (.ref oh), .val (.int (Int32.ofNat ii)), .val (.int (Int32.ofNat jj)), .val (.int tx)] [(.int (Int32.ofNat jj)), (.ref pb)])) _
      refine X2.aaload hx (j := (Int32.ofNat jj)) (v := .null) (by rw [e2]; exact Ar7.1) (State.isArrayOf_alike hZ.alike Ar7.2.1) rfl Ar7.2.2 (inb_of S7 (own_lt4 hj)) (Has.at H7 (inb_of S7 (own_lt4 hj)) ((own_g4 hj).trans (congrArg own_v hO))) (g := (mkF m 47 #[.val (.ref oh), .val (.int (Int32.ofNat ii)), .val (.int (Int32.ofNat jj)), .val (.int tx)] [(.int (Int32.ofNat jj)), (.ref pb)])) rfl rfl (hb hby d_prog_81_method_10_47) _ ?_
      show Steps p.tables e below (T2.setTop (mkF m 48 #[.val (.ref oh), .val (.int (Int32.ofNat ii)), .val (.int (Int32.ofNat jj)), .val (.int tx)] [.null])) _
      exact q
    have k9_ : ∀ t, Steps p.tables e below (T2.setTop (mkF m 51 #[.val (.ref oh), .val (.int (Int32.ofNat ii)), .val (.int (Int32.ofNat jj)), .val (.int tx)] [])) t → Steps p.tables e below (s₁.setTop (mkF m 42 #[.val (.ref oh), .val (.int (Int32.ofNat ii)), .val (.int (Int32.ofNat jj)), .val (.int tx)] [])) t := by
      intro t q
      refine k8_ _ ?_
      show Steps p.tables e below (T2.setTop (mkF m 48 #[.val (.ref oh), .val (.int (Int32.ofNat ii)), .val (.int (Int32.ofNat jj)), .val (.int tx)] [.null])) _
      refine XT.ifnonnullNo X2.here hx rfl (hb hby d_prog_81_method_10_48) rfl ?_
      show Steps p.tables e below (T2.setTop (mkF m 51 #[.val (.ref oh), .val (.int (Int32.ofNat ii)), .val (.int (Int32.ofNat jj)), .val (.int tx)] [])) _
      exact q
    have k10_ : ∀ t, Steps p.tables e below (T2.setTop (mkF m 52 #[.val (.ref oh), .val (.int (Int32.ofNat ii)), .val (.int (Int32.ofNat jj)), .val (.int tx)] [(.ref oh)])) t → Steps p.tables e below (s₁.setTop (mkF m 42 #[.val (.ref oh), .val (.int (Int32.ofNat ii)), .val (.int (Int32.ofNat jj)), .val (.int tx)] [])) t := by
      intro t q
      refine k9_ _ ?_
      show Steps p.tables e below (T2.setTop (mkF m 51 #[.val (.ref oh), .val (.int (Int32.ofNat ii)), .val (.int (Int32.ofNat jj)), .val (.int tx)] [])) _
      refine XS.aloadN X2.here hx rfl (hb hby d_prog_81_method_10_51) rfl rfl ?_
      show Steps p.tables e below (T2.setTop (mkF m 52 #[.val (.ref oh), .val (.int (Int32.ofNat ii)), .val (.int (Int32.ofNat jj)), .val (.int tx)] [(.ref oh)])) _
      exact q
    obtain ⟨T11, X11, e11, st11⟩ := getF X2 hx hZ hown (host := "") (Or.inl (hw _ (List.mem_of_getElem? (i := 13) rfl))) Via.refl e2 FP (g := (mkF m 52 #[.val (.ref oh), .val (.int (Int32.ofNat ii)), .val (.int (Int32.ofNat jj)), .val (.int tx)] [(.ref oh)])) rfl rfl (hb hby d_prog_81_method_10_52)
    have k12_ : ∀ t, Steps p.tables e below (T11.setTop (mkF m 55 #[.val (.ref oh), .val (.int (Int32.ofNat ii)), .val (.int (Int32.ofNat jj)), .val (.int tx)] [(.ref pb)])) t → Steps p.tables e below (s₁.setTop (mkF m 42 #[.val (.ref oh), .val (.int (Int32.ofNat ii)), .val (.int (Int32.ofNat jj)), .val (.int tx)] [])) t := fun t q => k10_ t (st11 t q)
    have k13_ : ∀ t, Steps p.tables e below (T11.setTop (mkF m 56 #[.val (.ref oh), .val (.int (Int32.ofNat ii)), .val (.int (Int32.ofNat jj)), .val (.int tx)] [(.int (Int32.ofNat jj)), (.ref pb)])) t → Steps p.tables e below (s₁.setTop (mkF m 42 #[.val (.ref oh), .val (.int (Int32.ofNat ii)), .val (.int (Int32.ofNat jj)), .val (.int tx)] [])) t := by
      intro t q
      refine k12_ _ ?_
      show Steps p.tables e below (T11.setTop (mkF m 55 #[.val (.ref oh), .val (.int (Int32.ofNat ii)), .val (.int (Int32.ofNat jj)), .val (.int tx)] [(.ref pb)])) _
      refine XS.iloadN X11.here hx rfl (hb hby d_prog_81_method_10_55) rfl ?_
      show Steps p.tables e below (T11.setTop (mkF m 56 #[.val (.ref oh), .val (.int (Int32.ofNat ii)), .val (.int (Int32.ofNat jj)), .val (.int tx)] [(.int (Int32.ofNat jj)), (.ref pb)])) _
      exact q
    obtain ⟨T14, h14, X14, e14, E14, A14, D14, -, st14⟩ := newO X11 hx hZ hown (hw _ (List.mem_of_getElem? (i := 9) rfl)) (hw _ (List.mem_of_getElem? (i := 40) rfl)) (hw _ (List.mem_of_getElem? (i := 41) rfl)) e11 (g := (mkF m 56 #[.val (.ref oh), .val (.int (Int32.ofNat ii)), .val (.int (Int32.ofNat jj)), .val (.int tx)] [(.int (Int32.ofNat jj)), (.ref pb)])) rfl (hb hby d_prog_81_method_10_56) (by decide) (by decide)
    obtain ⟨b14, g14⟩ : ∃ z, z = h0.size := ⟨_, rfl⟩
    rw [← g14] at A14 D14 st14
    have k15_ : ∀ t, Steps p.tables e below (T14.setTop (mkF m 59 #[.val (.ref oh), .val (.int (Int32.ofNat ii)), .val (.int (Int32.ofNat jj)), .val (.int tx)] [(.ref b14), (.int (Int32.ofNat jj)), (.ref pb)])) t → Steps p.tables e below (s₁.setTop (mkF m 42 #[.val (.ref oh), .val (.int (Int32.ofNat ii)), .val (.int (Int32.ofNat jj)), .val (.int tx)] [])) t := fun t q => k13_ t (st14 t q)
    have ne_oh_b14 : oh ≠ b14 := Nat.ne_of_lt (Nat.lt_of_lt_of_le FN.lt (Nat.le_of_eq g14.symm))
    have ne_pb_b14 : pb ≠ b14 := Nat.ne_of_lt (Nat.lt_of_lt_of_le VP.lt (Nat.le_of_eq g14.symm))
    have g_b14 : n0 ≤ b14 := Nat.le_trans Zn (Nat.le_of_eq g14.symm)
    replace Zn := Nat.le_trans Zn E14.1
    replace FN := FN.ext E14
    replace FP := FP.ext E14
    replace VP := VP.ext E14
    have KP := (Keep.refl h0 [pb]).ext E14
    have zb : h0.size ≤ b14 := Nat.le_of_eq g14.symm
    have F_keys : Fld Z h14 b14 "com/example/weir/weir/model/HeldTasks$Counts" "keys" "[I" .null := D14 (Or.inl (hw _ (List.mem_of_getElem? (i := 47) rfl))) (ty := (.array .int)) (by decide)
    have F_counts : Fld Z h14 b14 "com/example/weir/weir/model/HeldTasks$Counts" "counts" "[I" .null := D14 (Or.inl (hw _ (List.mem_of_getElem? (i := 49) rfl))) (ty := (.array .int)) (by decide)
    have F_size : Fld Z h14 b14 "com/example/weir/weir/model/HeldTasks$Counts" "size" "I" (.int (0 : Int32)) := D14 (Or.inl (hw _ (List.mem_of_getElem? (i := 61) rfl))) (ty := .int) (by decide)
    have k16_ : ∀ t, Steps p.tables e below (T14.setTop (mkF m 60 #[.val (.ref oh), .val (.int (Int32.ofNat ii)), .val (.int (Int32.ofNat jj)), .val (.int tx)] [(.ref b14), (.ref b14), (.int (Int32.ofNat jj)), (.ref pb)])) t → Steps p.tables e below (s₁.setTop (mkF m 42 #[.val (.ref oh), .val (.int (Int32.ofNat ii)), .val (.int (Int32.ofNat jj)), .val (.int tx)] [])) t := by
      intro t q
      refine k15_ _ ?_
      show Steps p.tables e below (T14.setTop (mkF m 59 #[.val (.ref oh), .val (.int (Int32.ofNat ii)), .val (.int (Int32.ofNat jj)), .val (.int tx)] [(.ref b14), (.int (Int32.ofNat jj)), (.ref pb)])) _
      refine XS.dup X14.here hx rfl (hb hby d_prog_81_method_10_59) rfl rfl ?_
      show Steps p.tables e below (T14.setTop (mkF m 60 #[.val (.ref oh), .val (.int (Int32.ofNat ii)), .val (.int (Int32.ofNat jj)), .val (.int tx)] [(.ref b14), (.ref b14), (.int (Int32.ofNat jj)), (.ref pb)])) _
      exact q
    obtain ⟨_, _, ⟨T17, L17, kk17, n17⟩, -, X17, ⟨Lc17, hQ17, l17, y17, z17⟩, st17⟩ := own_specialR X14 hx hZ (y := (⟨"com/example/weir/weir/model/HeldTasks$Counts", "<init>", "()V"⟩ : MethodName)) rfl hown (hw _ (List.mem_of_getElem? (i := 42) rfl)) (mvT hZ (hw _ (List.mem_of_getElem? (i := 43) rfl))) (mvT hZ (hw _ (List.mem_of_getElem? (i := 44) rfl))) (by decide) (backOf (W := 3) (rmI l Z a0 hw [] b14 h14 n0 Zn A14 F_keys F_counts F_size g_b14) hZ (hw _ (List.mem_of_getElem? (i := 44) rfl)) (hw _ (List.mem_of_getElem? (i := 41) rfl)) (by decide) (by decide)) (g := (mkF m 60 #[.val (.ref oh), .val (.int (Int32.ofNat ii)), .val (.int (Int32.ofNat jj)), .val (.int tx)] [(.ref b14), (.ref b14), (.int (Int32.ofNat jj)), (.ref pb)])) rfl (by rw [hml]; rfl) (Steps.refl _) (a := b14) (argsL := []) (rest := [(.ref b14), (.int (Int32.ofNat jj)), (.ref pb)]) (lenOf pd_48334 rfl) rfl (by show 2 * 0 + _ ≤ _; exact Nat.le_of_eq rfl) (hb hby d_prog_81_method_10_60) (fun _ _ => ⟨rfl, e14, (by decide : 3 + 1 + 2 ≤ _), (by decide : 11 + 3 + 8 ≤ _)⟩)
    dsimp only [Pt.U, Pt.locs, Pt.cells, Pt.slots] at X17 l17 y17 z17 st17 hQ17
    rw [l17, y17, z17] at X17
    obtain ⟨rfl, Nq17, kb, cb, CN, z2, z3, KI⟩ := hQ17
    have N17 := Fr.app N0 Nq17
    have k18_ : ∀ t, Steps p.tables e below (T17.setTop (mkF m 63 #[.val (.ref oh), .val (.int (Int32.ofNat ii)), .val (.int (Int32.ofNat jj)), .val (.int tx)] [(.ref b14), (.int (Int32.ofNat jj)), (.ref pb)])) t → Steps p.tables e below (s₁.setTop (mkF m 42 #[.val (.ref oh), .val (.int (Int32.ofNat ii)), .val (.int (Int32.ofNat jj)), .val (.int tx)] [])) t := fun t q => k16_ t (st17.trans q)
    have ne_ab := ne_pb_b14
    replace VP := VP.keep KI (own_notin1 ne_ab)
    replace KP := KP.trans KI (fun x hx => Or.inr (by cases List.mem_singleton.mp hx; exact zb))
    have lA : pb < h0.size := (show pb < h0.size from lP)
    have y2 : h0.size ≤ kb := Nat.le_trans (Keep.ext (Keep.refl h0 []) E14).1 z2
    have y3 : h0.size ≤ cb := Nat.le_trans (Keep.ext (Keep.refl h0 []) E14).1 z3
    obtain ⟨cl19, Ar19, q19, S19, M19, H19, G19⟩ := VP
    obtain ⟨T20, h20, X20, e20, W20, st20⟩ := stR X17 hx hZ rfl Ar19 (j := (Int32.ofNat jj)) (inb_of S19 (own_lt4 hj)) rfl (Sto.ofV Ar19 q19 OP (Ins.self CN.1)) (g := (mkF m 63 #[.val (.ref oh), .val (.int (Int32.ofNat ii)), .val (.int (Int32.ofNat jj)), .val (.int tx)] [(.ref b14), (.int (Int32.ofNat jj)), (.ref pb)])) rfl rfl (hb hby d_prog_81_method_10_63)
    have k21_ : ∀ t, Steps p.tables e below (T20.setTop (mkF m 64 #[.val (.ref oh), .val (.int (Int32.ofNat ii)), .val (.int (Int32.ofNat jj)), .val (.int tx)] [])) t → Steps p.tables e below (s₁.setTop (mkF m 42 #[.val (.ref oh), .val (.int (Int32.ofNat ii)), .val (.int (Int32.ofNat jj)), .val (.int tx)] [])) t := fun t q => k18_ t (st20 t q)
    have N20 := Fr.snoc X20 N17 g8
    have V1 := Arv.set Ar19 q19 S19 M19 H19 G19 rfl W20 jj (own_ci (by omega)) (show jj < 4 from hj)
    replace KP := KP.wr W20 (Or.inl (List.mem_of_getElem? (i := 0) rfl))
    have CN1 := own_Cn_keep CN (Keep.of_wr W20) (own_notin1 (Ne.symm ne_ab)) (own_notin1 (Ne.symm (Nat.ne_of_lt (Nat.lt_of_lt_of_le lA y2)))) (own_notin1 (Ne.symm (Nat.ne_of_lt (Nat.lt_of_lt_of_le lA y3))))
    obtain ⟨I1, K1⟩ := own_I_newP hI hj hO KP CN1 zb y2 y3 V1 OP
    exact ⟨_, _, _, _, _, X20, e20, N20, I1, ⟨_, own_uo_s rfl⟩, fun y b hy => by rw [own_uo_n (fun z => by rw [z, hO] at hy; cases hy)]; exact hy, K1, k21_⟩
def QU (Z : State) (oh : Addr) (nb : Addr) (pb : Addr) (O : Nat → Option own_Ob) (w : Addr → Nat) (G : Nat → Int32 → Int32) (ii : Nat) (jj : Nat) (tx : Int32) (h0 : Heap) (n0 : Nat) (v : Option Value) (h : Heap) (L : List Loc) : Prop := v = none ∧ Fr n0 L ∧ ∃ O' w', own_I Z n0 h oh nb pb O' w' (own_G2 G ii jj tx) ∧ own_Kw h0 h w w'
theorem ef_U (m : MethodId) (x0 : Addr) (x1 : Int32) (x2 : Int32) (x3 : Int32) : entryFrame m #[(.ref x0), (.int x1), (.int x2), (.int x3)] 4 = mkF m 0 #[.val (.ref x0), .val (.int x1), .val (.int x2), .val (.int x3)] [] := by first | (simp [entryFrame, mkF, argsToLocals, Value.category]; done) | rfl
theorem d_prog_81_method_10_0 : decode prog_81_method_10_code 0 = .ok (.iload_n 3, 1) := by decide +kernel
theorem d_prog_81_method_10_1 : decode prog_81_method_10_code 1 = .ok (.ifCond .ge 19, 3) := by decide +kernel
theorem d_prog_81_method_10_64 : decode prog_81_method_10_code 64 = .ok (.aload_n 0, 1) := by decide +kernel
theorem d_prog_81_method_10_65 : decode prog_81_method_10_code 65 = .ok (.getfield 9, 3) := by decide +kernel
theorem d_prog_81_method_10_68 : decode prog_81_method_10_code 68 = .ok (.iload_n 1, 1) := by decide +kernel
theorem d_prog_81_method_10_69 : decode prog_81_method_10_code 69 = .ok (.aaload, 1) := by decide +kernel
theorem d_prog_81_method_10_70 : decode prog_81_method_10_code 70 = .ok (.iload_n 2, 1) := by decide +kernel
theorem d_prog_81_method_10_71 : decode prog_81_method_10_code 71 = .ok (.iload_n 3, 1) := by decide +kernel
theorem d_prog_81_method_10_72 : decode prog_81_method_10_code 72 = .ok (.invokevirtual 64, 3) := by decide +kernel
theorem d_prog_81_method_10_75 : decode prog_81_method_10_code 75 = .ok (.aload_n 0, 1) := by decide +kernel
theorem d_prog_81_method_10_76 : decode prog_81_method_10_code 76 = .ok (.getfield 15, 3) := by decide +kernel
theorem d_prog_81_method_10_79 : decode prog_81_method_10_code 79 = .ok (.iload_n 2, 1) := by decide +kernel
theorem d_prog_81_method_10_80 : decode prog_81_method_10_code 80 = .ok (.aaload, 1) := by decide +kernel
theorem d_prog_81_method_10_81 : decode prog_81_method_10_code 81 = .ok (.iload_n 1, 1) := by decide +kernel
theorem d_prog_81_method_10_82 : decode prog_81_method_10_code 82 = .ok (.iload_n 3, 1) := by decide +kernel
theorem d_prog_81_method_10_83 : decode prog_81_method_10_code 83 = .ok (.invokevirtual 64, 3) := by decide +kernel
theorem d_prog_81_method_10_86 : decode prog_81_method_10_code 86 = .ok (.return_, 1) := by decide +kernel
set_option maxRecDepth 65536 in
set_option maxHeartbeats 40000000 in
theorem rmU (l : Launch) (Z : State) (a0 : Array Value) (hw : ∀ d ∈ tables_1, d.before a0 Z = true) (ws : List Jvm.Cond) (oh : Addr) (nb : Addr) (pb : Addr) (O : Nat → Option own_Ob) (w : Addr → Nat) (G : Nat → Int32 → Int32) (ii : Nat) (jj : Nat) (tx : Int32) (h0 : Heap) (n0 : Nat) (Z0 : n0 ≤ h0.size) (hI : own_I Z n0 h0 oh nb pb O w G) (hi : ii < 2) (hj : jj < 4) (hn : ¬ tx < 0) (hp : (0 : Int32) < tx ∨ 0 < G ii (Int32.ofNat jj)) (hp2 : (0 : Int32) < tx ∨ 0 < G (2 + jj) (Int32.ofNat ii)) :
    MetFree l (⟨"com/example/weir/weir/model/HeldTasks", "put", "(III)V"⟩ : MethodName) (head1 (Jvm.Cond.code (⟨"com/example/weir/weir/model/HeldTasks", "put", "(III)V"⟩ : MethodName) prog_81_method_10_code 4 none :: ws) ({ frames := 4, cells := 10, slots := 54, locals := 61 } : Room)) (fun a_ U_ => a_ = #[(.ref oh), (.int (Int32.ofNat ii)), (.int (Int32.ofNat jj)), (.int tx)] ∧ Z.Warmed39 U_.vm ∧ U_.heap = h0) (fun _ _ _ _ _ => True) (fun _ U_ o_ E_ => ∃ v_ L_, o_ = .returned v_ ∧ QU Z oh nb pb O w G ii jj tx h0 n0 v_ E_.heap L_ ∧ FrameEnd U_ o_ E_ L_ ({ frames := 4, cells := 10, slots := 54, locals := 61 } : Room).cells ({ frames := 4, cells := 10, slots := 54, locals := 61 } : Room).slots) := by
  refine MetFree.of_bodySF (plainFor_of_name pn_HeldTasks) hisR ?_
  intro p e s m args below meth c s₁ Bd hml0 hP hK
  obtain ⟨rfl, hZ, hh⟩ := hP
  have hx := Bd.exec
  have hby := Bd.bytes
  have hml : c.maxLocals = 4 := hml0
  have hown : s.vm.findClass "com/example/weir/weir/model/HeldTasks" = some m.cls := findClass_of_methodNamed Bd.named
  have hnm := (name_of_methodNamed Bd.named Bd.method).1
  have X0 : Stand p l e ({ frames := 4, cells := 10, slots := 54, locals := 61 } : Room) s m #[(.ref oh), (.int (Int32.ofNat ii)), (.int (Int32.ofNat jj)), (.int tx)] below meth c s₁ [] 0 0 := Stand.of_body Bd
  have e0 : s₁.heap = h0 := by rw [← hh, Bd.state]; rfl
  have N0 := Fr.nil n0
  have Zn := Z0
  have pre0 : ∀ t, Steps p.tables e below (s₁.setTop (mkF m 0 #[.val (.ref oh), .val (.int (Int32.ofNat ii)), .val (.int (Int32.ofNat jj)), .val (.int tx)] [])) t → Steps p.tables e below (s₁.setTop (entryFrame m #[(.ref oh), (.int (Int32.ofNat ii)), (.int (Int32.ofNat jj)), (.int tx)] 4)) t := fun t q => castTop (ef_U m oh (Int32.ofNat ii) (Int32.ofNat jj) tx) q
  have k0 : ∀ t, Steps p.tables e below (s₁.setTop (mkF m 0 #[.val (.ref oh), .val (.int (Int32.ofNat ii)), .val (.int (Int32.ofNat jj)), .val (.int tx)] [])) t → Steps p.tables e below (s₁.setTop (mkF m 0 #[.val (.ref oh), .val (.int (Int32.ofNat ii)), .val (.int (Int32.ofNat jj)), .val (.int tx)] [])) t := fun t q => q
  have k1_ : ∀ t, Steps p.tables e below (s₁.setTop (mkF m 1 #[.val (.ref oh), .val (.int (Int32.ofNat ii)), .val (.int (Int32.ofNat jj)), .val (.int tx)] [(.int tx)])) t → Steps p.tables e below (s₁.setTop (mkF m 0 #[.val (.ref oh), .val (.int (Int32.ofNat ii)), .val (.int (Int32.ofNat jj)), .val (.int tx)] [])) t := by
    intro t q
    refine k0 _ ?_
    show Steps p.tables e below (s₁.setTop (mkF m 0 #[.val (.ref oh), .val (.int (Int32.ofNat ii)), .val (.int (Int32.ofNat jj)), .val (.int tx)] [])) _
    refine XS.iloadN X0.here hx rfl (hb hby d_prog_81_method_10_0) rfl ?_
    show Steps p.tables e below (s₁.setTop (mkF m 1 #[.val (.ref oh), .val (.int (Int32.ofNat ii)), .val (.int (Int32.ofNat jj)), .val (.int tx)] [(.int tx)])) _
    exact q
  have k2_ : ∀ t, Steps p.tables e below (s₁.setTop (mkF m 20 #[.val (.ref oh), .val (.int (Int32.ofNat ii)), .val (.int (Int32.ofNat jj)), .val (.int tx)] [])) t → Steps p.tables e below (s₁.setTop (mkF m 0 #[.val (.ref oh), .val (.int (Int32.ofNat ii)), .val (.int (Int32.ofNat jj)), .val (.int tx)] [])) t := by
    intro t q
    refine k1_ _ ?_
    show Steps p.tables e below (s₁.setTop (mkF m 1 #[.val (.ref oh), .val (.int (Int32.ofNat ii)), .val (.int (Int32.ofNat jj)), .val (.int tx)] [(.int tx)])) _
    refine XS.ifYes X0.here hx rfl (pc0 := 1) (pc' := 20) rfl (hb hby d_prog_81_method_10_1) rfl ((if0 _ _).trans (flt hn).2.1) (by decide) (by decide) ?_
    show Steps p.tables e below (s₁.setTop (mkF m 20 #[.val (.ref oh), .val (.int (Int32.ofNat ii)), .val (.int (Int32.ofNat jj)), .val (.int tx)] [])) _
    exact q
  obtain ⟨TA, hA, lA, OA, wA, XA, eA, NA, IA, ⟨bA, oA⟩, mA, KA, stA⟩ := enN Z a0 hw hx hZ hby hml hown n0 oh nb pb O w G ii jj tx _ _ _ hi hj X0 e0 N0 Zn hI
  have k3_ : ∀ t, Steps p.tables e below (TA.setTop (mkF m 42 #[.val (.ref oh), .val (.int (Int32.ofNat ii)), .val (.int (Int32.ofNat jj)), .val (.int tx)] [])) t → Steps p.tables e below (s₁.setTop (mkF m 0 #[.val (.ref oh), .val (.int (Int32.ofNat ii)), .val (.int (Int32.ofNat jj)), .val (.int tx)] [])) t := fun t q => k2_ t (stA t q)
  replace Zn := Nat.le_trans Zn KA.1
  obtain ⟨TB, hB, lB, OB, wB, XB, eB, NB, IB, ⟨bB, oB⟩, mB, KB, stB⟩ := enP Z a0 hw hx hZ hby hml hown n0 oh nb pb OA wA G ii jj tx _ _ _ hi hj XA eA NA Zn IA
  have k4_ : ∀ t, Steps p.tables e below (TB.setTop (mkF m 64 #[.val (.ref oh), .val (.int (Int32.ofNat ii)), .val (.int (Int32.ofNat jj)), .val (.int tx)] [])) t → Steps p.tables e below (s₁.setTop (mkF m 0 #[.val (.ref oh), .val (.int (Int32.ofNat ii)), .val (.int (Int32.ofNat jj)), .val (.int tx)] [])) t := fun t q => k3_ t (stB t q)
  replace Zn := Nat.le_trans Zn KB.1
  replace oA := mB ii bA oA
  replace KA := own_Kw_trans KA KB
  obtain ⟨a1, kb1, cb1, ks1, cs1⟩ := bA
  obtain ⟨a2, kb2, cb2, ks2, cs2⟩ := bB
  obtain ⟨EH, FN, FP, ⟨kn, VN, ON⟩, ⟨kp, VP, OP⟩, HO, HG, ⟨w6, w7, w8⟩, ⟨g6, g7, g8⟩⟩ := id IB
  obtain ⟨C1, T1, -⟩ := HO ii _ (by omega) oA
  replace C1 : own_Cn Z n0 hB a1 kb1 cb1 ks1 cs1 := C1
  replace T1 : own_Ct (G ii) ks1 cs1 := T1
  have k5_ : ∀ t, Steps p.tables e below (TB.setTop (mkF m 65 #[.val (.ref oh), .val (.int (Int32.ofNat ii)), .val (.int (Int32.ofNat jj)), .val (.int tx)] [(.ref oh)])) t → Steps p.tables e below (s₁.setTop (mkF m 0 #[.val (.ref oh), .val (.int (Int32.ofNat ii)), .val (.int (Int32.ofNat jj)), .val (.int tx)] [])) t := by
    intro t q
    refine k4_ _ ?_
    show Steps p.tables e below (TB.setTop (mkF m 64 #[.val (.ref oh), .val (.int (Int32.ofNat ii)), .val (.int (Int32.ofNat jj)), .val (.int tx)] [])) _
    refine XS.aloadN XB.here hx rfl (hb hby d_prog_81_method_10_64) rfl rfl ?_
    show Steps p.tables e below (TB.setTop (mkF m 65 #[.val (.ref oh), .val (.int (Int32.ofNat ii)), .val (.int (Int32.ofNat jj)), .val (.int tx)] [(.ref oh)])) _
    exact q
  obtain ⟨T6, X6, e6, st6⟩ := getF XB hx hZ hown (host := "") (Or.inl (hw _ (List.mem_of_getElem? (i := 11) rfl))) Via.refl eB FN (g := (mkF m 65 #[.val (.ref oh), .val (.int (Int32.ofNat ii)), .val (.int (Int32.ofNat jj)), .val (.int tx)] [(.ref oh)])) rfl rfl (hb hby d_prog_81_method_10_65)
  have k7_ : ∀ t, Steps p.tables e below (T6.setTop (mkF m 68 #[.val (.ref oh), .val (.int (Int32.ofNat ii)), .val (.int (Int32.ofNat jj)), .val (.int tx)] [(.ref nb)])) t → Steps p.tables e below (s₁.setTop (mkF m 0 #[.val (.ref oh), .val (.int (Int32.ofNat ii)), .val (.int (Int32.ofNat jj)), .val (.int tx)] [])) t := fun t q => k5_ t (st6 t q)
  obtain ⟨cl8, Ar8, q8, S8, M8, H8, G8⟩ := id VN
  have k9_ : ∀ t, Steps p.tables e below (T6.setTop (mkF m 72 #[.val (.ref oh), .val (.int (Int32.ofNat ii)), .val (.int (Int32.ofNat jj)), .val (.int tx)] [(.int tx), (.int (Int32.ofNat jj)), (.ref a1)])) t → Steps p.tables e below (s₁.setTop (mkF m 0 #[.val (.ref oh), .val (.int (Int32.ofNat ii)), .val (.int (Int32.ofNat jj)), .val (.int tx)] [])) t := by
    intro t q
    refine k7_ _ ?_
    show Steps p.tables e below (T6.setTop (mkF m 68 #[.val (.ref oh), .val (.int (Int32.ofNat ii)), .val (.int (Int32.ofNat jj)), .val (.int tx)] [(.ref nb)])) _
    refine XS.iloadN X6.here hx rfl (hb hby d_prog_81_method_10_68) rfl ?_
    show Steps p.tables e below (T6.setTop (mkF m 69 #[.val (.ref oh), .val (.int (Int32.ofNat ii)), .val (.int (Int32.ofNat jj)), .val (.int tx)] [(.int (Int32.ofNat ii)), (.ref nb)])) _
    refine X6.aaload hx (j := (Int32.ofNat ii)) (v := (.ref a1)) (by rw [e6]; exact Ar8.1) (State.isArrayOf_alike hZ.alike Ar8.2.1) rfl Ar8.2.2 (inb_of S8 (own_lt2 hi)) (Has.at H8 (inb_of S8 (own_lt2 hi)) ((own_g2 hi).trans (congrArg own_v oA))) (g := (mkF m 69 #[.val (.ref oh), .val (.int (Int32.ofNat ii)), .val (.int (Int32.ofNat jj)), .val (.int tx)] [(.int (Int32.ofNat ii)), (.ref nb)])) rfl rfl (hb hby d_prog_81_method_10_69) _ ?_
    show Steps p.tables e below (T6.setTop (mkF m 70 #[.val (.ref oh), .val (.int (Int32.ofNat ii)), .val (.int (Int32.ofNat jj)), .val (.int tx)] [(.ref a1)])) _
    refine XS.iloadN X6.here hx rfl (hb hby d_prog_81_method_10_70) rfl ?_
    show Steps p.tables e below (T6.setTop (mkF m 71 #[.val (.ref oh), .val (.int (Int32.ofNat ii)), .val (.int (Int32.ofNat jj)), .val (.int tx)] [(.int (Int32.ofNat jj)), (.ref a1)])) _
    refine XS.iloadN X6.here hx rfl (hb hby d_prog_81_method_10_71) rfl ?_
    show Steps p.tables e below (T6.setTop (mkF m 72 #[.val (.ref oh), .val (.int (Int32.ofNat ii)), .val (.int (Int32.ofNat jj)), .val (.int tx)] [(.int tx), (.int (Int32.ofNat jj)), (.ref a1)])) _
    exact q
  obtain ⟨cq10, kq10, q10a, q10b, q10c⟩ := isOf hZ e6 C1.1
  obtain ⟨_, _, ⟨T10, L10, kk10, n10⟩, -, X10, ⟨Lc10, hQ10, l10, y10, z10⟩, st10⟩ := X6.virtualBack hx (y := (⟨"com/example/weir/weir/model/HeldTasks$Counts", "put", "(II)V"⟩ : MethodName)) (z := (⟨"com/example/weir/weir/model/HeldTasks$Counts", "put", "(II)V"⟩ : MethodName)) hown (mvT hZ (hw _ (List.mem_of_getElem? (i := 51) rfl))) (mvT hZ (hw _ (List.mem_of_getElem? (i := 52) rfl))) (notFace_of_selects (args := #[]) (mvT hZ (hw _ (List.mem_of_getElem? (i := 54) rfl)))) (mvT hZ (hw _ (List.mem_of_getElem? (i := 54) rfl))) (mvT hZ (hw _ (List.mem_of_getElem? (i := 53) rfl))) (by decide) (backOf (W := 0) (rmP l Z a0 hw [] a1 (Int32.ofNat jj) tx kb1 cb1 ks1 cs1 (G ii) hB n0 Zn C1 T1 (own_oK hj) hn hp) hZ (hw _ (List.mem_of_getElem? (i := 55) rfl)) (hw _ (List.mem_of_getElem? (i := 41) rfl)) (by decide) (by decide)) q10a q10c (g := (mkF m 72 #[.val (.ref oh), .val (.int (Int32.ofNat ii)), .val (.int (Int32.ofNat jj)), .val (.int tx)] [(.int tx), (.int (Int32.ofNat jj)), (.ref a1)])) rfl (by rw [hml]; rfl) (Steps.refl _) (argsL := [(.int (Int32.ofNat jj)), (.int tx)]) (rest := []) (lenOf pd_90433 rfl) rfl (by show 2 * 0 + _ ≤ _; exact Nat.le_of_eq rfl) (hb hby d_prog_81_method_10_72) (fun _ _ => ⟨rfl, e6, (by decide : 6 + 2 ≤ _), (by decide : 22 + 16 ≤ _)⟩)
  dsimp only [Pt.U, Pt.locs, Pt.cells, Pt.slots] at X10 l10 y10 z10 st10 hQ10
  rw [l10, y10, z10] at X10
  obtain ⟨rfl, Nq10, kb3, cb3, ks3, cs3, C3, T3, K3, f3⟩ := hQ10
  have N10 := Fr.app NB Nq10
  have k11_ : ∀ t, Steps p.tables e below (T10.setTop (mkF m 75 #[.val (.ref oh), .val (.int (Int32.ofNat ii)), .val (.int (Int32.ofNat jj)), .val (.int tx)] [])) t → Steps p.tables e below (s₁.setTop (mkF m 0 #[.val (.ref oh), .val (.int (Int32.ofNat ii)), .val (.int (Int32.ofNat jj)), .val (.int tx)] [])) t := fun t q => k9_ t (st10.trans q)
  replace Zn := Nat.le_trans Zn K3.1
  obtain ⟨I1, KW1⟩ := own_I_put IB (by omega) oA K3 C3 T3 f3
  have oB1 : own_uo OB ii (some (a1, kb3, cb3, ks3, cs3)) (2 + jj) = some (a2, kb2, cb2, ks2, cs2) := by rw [own_uo_n (by omega)]; exact oB
  obtain ⟨EH1, FN1, FP1, ⟨kn1, VN1, ON1⟩, ⟨kp1, VP1, OP1⟩, HO1, HG1, ⟨w61, w71, w81⟩, ⟨g61, g71, g81⟩⟩ := id I1
  obtain ⟨C2, T2, -⟩ := HO1 (2 + jj) _ (by omega) oB1
  replace C2 : own_Cn Z n0 T10.heap a2 kb2 cb2 ks2 cs2 := C2
  replace T2 : own_Ct (own_uG G ii (Int32.ofNat jj) tx (2 + jj)) ks2 cs2 := T2
  have eG : own_uG G ii (Int32.ofNat jj) tx (2 + jj) = G (2 + jj) := own_uG_n (by omega)
  have oKi : (Int32.ofNat ii) ∈ own_K := own_oK (Nat.lt_of_lt_of_le hi (by decide))
  have k12_ : ∀ t, Steps p.tables e below (T10.setTop (mkF m 76 #[.val (.ref oh), .val (.int (Int32.ofNat ii)), .val (.int (Int32.ofNat jj)), .val (.int tx)] [(.ref oh)])) t → Steps p.tables e below (s₁.setTop (mkF m 0 #[.val (.ref oh), .val (.int (Int32.ofNat ii)), .val (.int (Int32.ofNat jj)), .val (.int tx)] [])) t := by
    intro t q
    refine k11_ _ ?_
    show Steps p.tables e below (T10.setTop (mkF m 75 #[.val (.ref oh), .val (.int (Int32.ofNat ii)), .val (.int (Int32.ofNat jj)), .val (.int tx)] [])) _
    refine XS.aloadN X10.here hx rfl (hb hby d_prog_81_method_10_75) rfl rfl ?_
    show Steps p.tables e below (T10.setTop (mkF m 76 #[.val (.ref oh), .val (.int (Int32.ofNat ii)), .val (.int (Int32.ofNat jj)), .val (.int tx)] [(.ref oh)])) _
    exact q
  obtain ⟨T13, X13, e13, st13⟩ := getF X10 hx hZ hown (host := "") (Or.inl (hw _ (List.mem_of_getElem? (i := 13) rfl))) Via.refl rfl FP1 (g := (mkF m 76 #[.val (.ref oh), .val (.int (Int32.ofNat ii)), .val (.int (Int32.ofNat jj)), .val (.int tx)] [(.ref oh)])) rfl rfl (hb hby d_prog_81_method_10_76)
  have k14_ : ∀ t, Steps p.tables e below (T13.setTop (mkF m 79 #[.val (.ref oh), .val (.int (Int32.ofNat ii)), .val (.int (Int32.ofNat jj)), .val (.int tx)] [(.ref pb)])) t → Steps p.tables e below (s₁.setTop (mkF m 0 #[.val (.ref oh), .val (.int (Int32.ofNat ii)), .val (.int (Int32.ofNat jj)), .val (.int tx)] [])) t := fun t q => k12_ t (st13 t q)
  obtain ⟨cl15, Ar15, q15, S15, M15, H15, G15⟩ := id VP1
  have k16_ : ∀ t, Steps p.tables e below (T13.setTop (mkF m 83 #[.val (.ref oh), .val (.int (Int32.ofNat ii)), .val (.int (Int32.ofNat jj)), .val (.int tx)] [(.int tx), (.int (Int32.ofNat ii)), (.ref a2)])) t → Steps p.tables e below (s₁.setTop (mkF m 0 #[.val (.ref oh), .val (.int (Int32.ofNat ii)), .val (.int (Int32.ofNat jj)), .val (.int tx)] [])) t := by
    intro t q
    refine k14_ _ ?_
    show Steps p.tables e below (T13.setTop (mkF m 79 #[.val (.ref oh), .val (.int (Int32.ofNat ii)), .val (.int (Int32.ofNat jj)), .val (.int tx)] [(.ref pb)])) _
    refine XS.iloadN X13.here hx rfl (hb hby d_prog_81_method_10_79) rfl ?_
    show Steps p.tables e below (T13.setTop (mkF m 80 #[.val (.ref oh), .val (.int (Int32.ofNat ii)), .val (.int (Int32.ofNat jj)), .val (.int tx)] [(.int (Int32.ofNat jj)), (.ref pb)])) _
    refine X13.aaload hx (j := (Int32.ofNat jj)) (v := (.ref a2)) (by rw [e13]; exact Ar15.1) (State.isArrayOf_alike hZ.alike Ar15.2.1) rfl Ar15.2.2 (inb_of S15 (own_lt4 hj)) (Has.at H15 (inb_of S15 (own_lt4 hj)) ((own_g4 (O := own_uo OB ii (some (a1, kb3, cb3, ks3, cs3))) hj).trans (congrArg own_v oB1))) (g := (mkF m 80 #[.val (.ref oh), .val (.int (Int32.ofNat ii)), .val (.int (Int32.ofNat jj)), .val (.int tx)] [(.int (Int32.ofNat jj)), (.ref pb)])) rfl rfl (hb hby d_prog_81_method_10_80) _ ?_
    show Steps p.tables e below (T13.setTop (mkF m 81 #[.val (.ref oh), .val (.int (Int32.ofNat ii)), .val (.int (Int32.ofNat jj)), .val (.int tx)] [(.ref a2)])) _
    refine XS.iloadN X13.here hx rfl (hb hby d_prog_81_method_10_81) rfl ?_
    show Steps p.tables e below (T13.setTop (mkF m 82 #[.val (.ref oh), .val (.int (Int32.ofNat ii)), .val (.int (Int32.ofNat jj)), .val (.int tx)] [(.int (Int32.ofNat ii)), (.ref a2)])) _
    refine XS.iloadN X13.here hx rfl (hb hby d_prog_81_method_10_82) rfl ?_
    show Steps p.tables e below (T13.setTop (mkF m 83 #[.val (.ref oh), .val (.int (Int32.ofNat ii)), .val (.int (Int32.ofNat jj)), .val (.int tx)] [(.int tx), (.int (Int32.ofNat ii)), (.ref a2)])) _
    exact q
  obtain ⟨cq17, kq17, q17a, q17b, q17c⟩ := isOf hZ e13 C2.1
  obtain ⟨_, _, ⟨T17, L17, kk17, n17⟩, -, X17, ⟨Lc17, hQ17, l17, y17, z17⟩, st17⟩ := X13.virtualBack hx (y := (⟨"com/example/weir/weir/model/HeldTasks$Counts", "put", "(II)V"⟩ : MethodName)) (z := (⟨"com/example/weir/weir/model/HeldTasks$Counts", "put", "(II)V"⟩ : MethodName)) hown (mvT hZ (hw _ (List.mem_of_getElem? (i := 51) rfl))) (mvT hZ (hw _ (List.mem_of_getElem? (i := 52) rfl))) (notFace_of_selects (args := #[]) (mvT hZ (hw _ (List.mem_of_getElem? (i := 54) rfl)))) (mvT hZ (hw _ (List.mem_of_getElem? (i := 54) rfl))) (mvT hZ (hw _ (List.mem_of_getElem? (i := 53) rfl))) (by decide) (backOf (W := 0) (rmP l Z a0 hw [] a2 (Int32.ofNat ii) tx kb2 cb2 ks2 cs2 (own_uG G ii (Int32.ofNat jj) tx (2 + jj)) T10.heap n0 Zn C2 T2 oKi hn (by rw [eG]; exact hp2)) hZ (hw _ (List.mem_of_getElem? (i := 55) rfl)) (hw _ (List.mem_of_getElem? (i := 41) rfl)) (by decide) (by decide)) q17a q17c (g := (mkF m 83 #[.val (.ref oh), .val (.int (Int32.ofNat ii)), .val (.int (Int32.ofNat jj)), .val (.int tx)] [(.int tx), (.int (Int32.ofNat ii)), (.ref a2)])) rfl (by rw [hml]; rfl) (Steps.refl _) (argsL := [(.int (Int32.ofNat ii)), (.int tx)]) (rest := []) (lenOf pd_90433 rfl) rfl (by show 2 * 0 + _ ≤ _; exact Nat.le_of_eq rfl) (hb hby d_prog_81_method_10_83) (fun _ _ => ⟨rfl, e13, (by decide : 6 + 2 + 2 ≤ _), (by decide : 22 + 16 + 16 ≤ _)⟩)
  dsimp only [Pt.U, Pt.locs, Pt.cells, Pt.slots] at X17 l17 y17 z17 st17 hQ17
  rw [l17, y17, z17] at X17
  obtain ⟨rfl, Nq17, kb4, cb4, ks4, cs4, C4, T4, K4, f4⟩ := hQ17
  have N17 := Fr.app N10 Nq17
  have k18_ : ∀ t, Steps p.tables e below (T17.setTop (mkF m 86 #[.val (.ref oh), .val (.int (Int32.ofNat ii)), .val (.int (Int32.ofNat jj)), .val (.int tx)] [])) t → Steps p.tables e below (s₁.setTop (mkF m 0 #[.val (.ref oh), .val (.int (Int32.ofNat ii)), .val (.int (Int32.ofNat jj)), .val (.int tx)] [])) t := fun t q => k16_ t (st17.trans q)
  obtain ⟨I2, KW2⟩ := own_I_put I1 (by omega) oB1 K4 C4 T4 f4
  obtain ⟨fs, hr, hrun, hended, hW, hsame⟩ := X17.leave (v := none) (fun _ => rfl)
  refine ⟨_, _, pre0 _ (k18_ _ ?_), hrun, hended, _, _, rfl, ?_, ⟨_, rfl⟩, hW, hsame.mono (by decide) (by decide)⟩
  · show Steps p.tables e below (T17.setTop (mkF m 86 #[.val (.ref oh), .val (.int (Int32.ofNat ii)), .val (.int (Int32.ofNat jj)), .val (.int tx)] [])) _
    exact X17.returnOut hx Bd.returns (hb hby d_prog_81_method_10_86) hr
  · show QU Z oh nb pb O w G ii jj tx h0 n0 _ T17.heap _
    exact ⟨rfl, N17, _, _, I2, own_Kw_trans KA (own_Kw_trans KW1 KW2)⟩
def QAd (Z : State) (oh : Addr) (nb : Addr) (pb : Addr) (O : Nat → Option own_Ob) (w : Addr → Nat) (G : Nat → Int32 → Int32) (ii : Nat) (jj : Nat) (tx : Int32) (h0 : Heap) (n0 : Nat) (v : Option Value) (h : Heap) (L : List Loc) : Prop := v = none ∧ Fr n0 L ∧ ∃ O' w', own_I Z n0 h oh nb pb O' w' (own_G2 G ii jj ((G ii (Int32.ofNat jj)) + tx)) ∧ own_Kw h0 h w w'
theorem ef_Ad (m : MethodId) (x0 : Addr) (x1 : Int32) (x2 : Int32) (x3 : Int32) : entryFrame m #[(.ref x0), (.int x1), (.int x2), (.int x3)] 4 = mkF m 0 #[.val (.ref x0), .val (.int x1), .val (.int x2), .val (.int x3)] [] := by first | (simp [entryFrame, mkF, argsToLocals, Value.category]; done) | rfl
theorem d_prog_81_method_4_0 : decode prog_81_method_4_code 0 = .ok (.iload_n 3, 1) := by decide +kernel
theorem d_prog_81_method_4_1 : decode prog_81_method_4_code 1 = .ok (.ifCond .eq 17, 3) := by decide +kernel
theorem d_prog_81_method_4_18 : decode prog_81_method_4_code 18 = .ok (.return_, 1) := by decide +kernel
theorem d_prog_81_method_4_4 : decode prog_81_method_4_code 4 = .ok (.aload_n 0, 1) := by decide +kernel
theorem d_prog_81_method_4_5 : decode prog_81_method_4_code 5 = .ok (.iload_n 1, 1) := by decide +kernel
theorem d_prog_81_method_4_6 : decode prog_81_method_4_code 6 = .ok (.iload_n 2, 1) := by decide +kernel
theorem d_prog_81_method_4_7 : decode prog_81_method_4_code 7 = .ok (.aload_n 0, 1) := by decide +kernel
theorem d_prog_81_method_4_8 : decode prog_81_method_4_code 8 = .ok (.iload_n 1, 1) := by decide +kernel
theorem d_prog_81_method_4_9 : decode prog_81_method_4_code 9 = .ok (.iload_n 2, 1) := by decide +kernel
theorem d_prog_81_method_4_10 : decode prog_81_method_4_code 10 = .ok (.invokevirtual 29, 3) := by decide +kernel
theorem d_prog_81_method_4_13 : decode prog_81_method_4_code 13 = .ok (.iload_n 3, 1) := by decide +kernel
theorem d_prog_81_method_4_14 : decode prog_81_method_4_code 14 = .ok (.iadd, 1) := by decide +kernel
theorem pd_32812 : parseMethodDescriptor "(III)V" = some ⟨[.int, .int, .int], none⟩ := by decide +kernel
theorem d_prog_81_method_4_15 : decode prog_81_method_4_code 15 = .ok (.invokevirtual 32, 3) := by decide +kernel
set_option maxRecDepth 65536 in
set_option maxHeartbeats 40000000 in
theorem rmAd (l : Launch) (Z : State) (a0 : Array Value) (hw : ∀ d ∈ tables_1, d.before a0 Z = true) (ws : List Jvm.Cond) (oh : Addr) (nb : Addr) (pb : Addr) (O : Nat → Option own_Ob) (w : Addr → Nat) (G : Nat → Int32 → Int32) (ii : Nat) (jj : Nat) (tx : Int32) (h0 : Heap) (n0 : Nat) (Z0 : n0 ≤ h0.size) (hI : own_I Z n0 h0 oh nb pb O w G) (hi : ii < 2) (hj : jj < 4) (hc : G (2 + jj) (Int32.ofNat ii) = G ii (Int32.ofNat jj)) (ht : tx = 0 ∨ (¬ ((G ii (Int32.ofNat jj)) + tx) < 0 ∧ (0 < (G ii (Int32.ofNat jj)) + tx ∨ 0 < (G ii (Int32.ofNat jj))))) :
    MetFree l (⟨"com/example/weir/weir/model/HeldTasks", "add", "(III)V"⟩ : MethodName) (head1 (Jvm.Cond.code (⟨"com/example/weir/weir/model/HeldTasks", "add", "(III)V"⟩ : MethodName) prog_81_method_4_code 4 none :: ws) ({ frames := 5, cells := 10, slots := 54, locals := 76 } : Room)) (fun a_ U_ => a_ = #[(.ref oh), (.int (Int32.ofNat ii)), (.int (Int32.ofNat jj)), (.int tx)] ∧ Z.Warmed39 U_.vm ∧ U_.heap = h0) (fun _ _ _ _ _ => True) (fun _ U_ o_ E_ => ∃ v_ L_, o_ = .returned v_ ∧ QAd Z oh nb pb O w G ii jj tx h0 n0 v_ E_.heap L_ ∧ FrameEnd U_ o_ E_ L_ ({ frames := 5, cells := 10, slots := 54, locals := 76 } : Room).cells ({ frames := 5, cells := 10, slots := 54, locals := 76 } : Room).slots) := by
  refine MetFree.of_bodySF (plainFor_of_name pn_HeldTasks) hisR ?_
  intro p e s m args below meth c s₁ Bd hml0 hP hK
  obtain ⟨rfl, hZ, hh⟩ := hP
  have hx := Bd.exec
  have hby := Bd.bytes
  have hml : c.maxLocals = 4 := hml0
  have hown : s.vm.findClass "com/example/weir/weir/model/HeldTasks" = some m.cls := findClass_of_methodNamed Bd.named
  have hnm := (name_of_methodNamed Bd.named Bd.method).1
  have X0 : Stand p l e ({ frames := 5, cells := 10, slots := 54, locals := 76 } : Room) s m #[(.ref oh), (.int (Int32.ofNat ii)), (.int (Int32.ofNat jj)), (.int tx)] below meth c s₁ [] 0 0 := Stand.of_body Bd
  have e0 : s₁.heap = h0 := by rw [← hh, Bd.state]; rfl
  have N0 := Fr.nil n0
  have Zn := Z0
  have pre0 : ∀ t, Steps p.tables e below (s₁.setTop (mkF m 0 #[.val (.ref oh), .val (.int (Int32.ofNat ii)), .val (.int (Int32.ofNat jj)), .val (.int tx)] [])) t → Steps p.tables e below (s₁.setTop (entryFrame m #[(.ref oh), (.int (Int32.ofNat ii)), (.int (Int32.ofNat jj)), (.int tx)] 4)) t := fun t q => castTop (ef_Ad m oh (Int32.ofNat ii) (Int32.ofNat jj) tx) q
  have k0 : ∀ t, Steps p.tables e below (s₁.setTop (mkF m 0 #[.val (.ref oh), .val (.int (Int32.ofNat ii)), .val (.int (Int32.ofNat jj)), .val (.int tx)] [])) t → Steps p.tables e below (s₁.setTop (mkF m 0 #[.val (.ref oh), .val (.int (Int32.ofNat ii)), .val (.int (Int32.ofNat jj)), .val (.int tx)] [])) t := fun t q => q
  have k1_ : ∀ t, Steps p.tables e below (s₁.setTop (mkF m 1 #[.val (.ref oh), .val (.int (Int32.ofNat ii)), .val (.int (Int32.ofNat jj)), .val (.int tx)] [(.int tx)])) t → Steps p.tables e below (s₁.setTop (mkF m 0 #[.val (.ref oh), .val (.int (Int32.ofNat ii)), .val (.int (Int32.ofNat jj)), .val (.int tx)] [])) t := by
    intro t q
    refine k0 _ ?_
    show Steps p.tables e below (s₁.setTop (mkF m 0 #[.val (.ref oh), .val (.int (Int32.ofNat ii)), .val (.int (Int32.ofNat jj)), .val (.int tx)] [])) _
    refine XS.iloadN X0.here hx rfl (hb hby d_prog_81_method_4_0) rfl ?_
    show Steps p.tables e below (s₁.setTop (mkF m 1 #[.val (.ref oh), .val (.int (Int32.ofNat ii)), .val (.int (Int32.ofNat jj)), .val (.int tx)] [(.int tx)])) _
    exact q
  by_cases hca : tx = (0 : Int32)
  · have k2_ : ∀ t, Steps p.tables e below (s₁.setTop (mkF m 18 #[.val (.ref oh), .val (.int (Int32.ofNat ii)), .val (.int (Int32.ofNat jj)), .val (.int tx)] [])) t → Steps p.tables e below (s₁.setTop (mkF m 0 #[.val (.ref oh), .val (.int (Int32.ofNat ii)), .val (.int (Int32.ofNat jj)), .val (.int tx)] [])) t := by
      intro t q
      refine k1_ _ ?_
      show Steps p.tables e below (s₁.setTop (mkF m 1 #[.val (.ref oh), .val (.int (Int32.ofNat ii)), .val (.int (Int32.ofNat jj)), .val (.int tx)] [(.int tx)])) _
      refine XS.ifYes X0.here hx rfl (pc0 := 1) (pc' := 18) rfl (hb hby d_prog_81_method_4_1) rfl ((if0 _ _).trans (teq hca).1) (by decide) (by decide) ?_
      show Steps p.tables e below (s₁.setTop (mkF m 18 #[.val (.ref oh), .val (.int (Int32.ofNat ii)), .val (.int (Int32.ofNat jj)), .val (.int tx)] [])) _
      exact q
    obtain ⟨fs, hr, hrun, hended, hW, hsame⟩ := X0.leave (v := none) (fun _ => rfl)
    refine ⟨_, _, pre0 _ (k2_ _ ?_), hrun, hended, _, _, rfl, ?_, ⟨_, rfl⟩, hW, hsame.mono (by decide) (by decide)⟩
    · show Steps p.tables e below (s₁.setTop (mkF m 18 #[.val (.ref oh), .val (.int (Int32.ofNat ii)), .val (.int (Int32.ofNat jj)), .val (.int tx)] [])) _
      exact X0.returnOut hx Bd.returns (hb hby d_prog_81_method_4_18) hr
    · show QAd Z oh nb pb O w G ii jj tx h0 n0 _ s₁.heap _
      rw [e0]
      exact ⟨rfl, N0, O, w, by rw [own_a0 _ _ hca, own_G2_0 hi hc]; exact hI, own_Kw_refl⟩
  · obtain ⟨t1, t2⟩ := ht.resolve_left hca
    have k3_ : ∀ t, Steps p.tables e below (s₁.setTop (mkF m 4 #[.val (.ref oh), .val (.int (Int32.ofNat ii)), .val (.int (Int32.ofNat jj)), .val (.int tx)] [])) t → Steps p.tables e below (s₁.setTop (mkF m 0 #[.val (.ref oh), .val (.int (Int32.ofNat ii)), .val (.int (Int32.ofNat jj)), .val (.int tx)] [])) t := by
      intro t q
      refine k1_ _ ?_
      show Steps p.tables e below (s₁.setTop (mkF m 1 #[.val (.ref oh), .val (.int (Int32.ofNat ii)), .val (.int (Int32.ofNat jj)), .val (.int tx)] [(.int tx)])) _
      refine XS.ifNo X0.here hx rfl (hb hby d_prog_81_method_4_1) rfl ((if0 _ _).trans (feq hca).1) ?_
      show Steps p.tables e below (s₁.setTop (mkF m 4 #[.val (.ref oh), .val (.int (Int32.ofNat ii)), .val (.int (Int32.ofNat jj)), .val (.int tx)] [])) _
      exact q
    have k4_ : ∀ t, Steps p.tables e below (s₁.setTop (mkF m 10 #[.val (.ref oh), .val (.int (Int32.ofNat ii)), .val (.int (Int32.ofNat jj)), .val (.int tx)] [(.int (Int32.ofNat jj)), (.int (Int32.ofNat ii)), (.ref oh), (.int (Int32.ofNat jj)), (.int (Int32.ofNat ii)), (.ref oh)])) t → Steps p.tables e below (s₁.setTop (mkF m 0 #[.val (.ref oh), .val (.int (Int32.ofNat ii)), .val (.int (Int32.ofNat jj)), .val (.int tx)] [])) t := by
      intro t q
      refine k3_ _ ?_
      show Steps p.tables e below (s₁.setTop (mkF m 4 #[.val (.ref oh), .val (.int (Int32.ofNat ii)), .val (.int (Int32.ofNat jj)), .val (.int tx)] [])) _
      refine XS.aloadN X0.here hx rfl (hb hby d_prog_81_method_4_4) rfl rfl ?_
      show Steps p.tables e below (s₁.setTop (mkF m 5 #[.val (.ref oh), .val (.int (Int32.ofNat ii)), .val (.int (Int32.ofNat jj)), .val (.int tx)] [(.ref oh)])) _
      refine XS.iloadN X0.here hx rfl (hb hby d_prog_81_method_4_5) rfl ?_
      show Steps p.tables e below (s₁.setTop (mkF m 6 #[.val (.ref oh), .val (.int (Int32.ofNat ii)), .val (.int (Int32.ofNat jj)), .val (.int tx)] [(.int (Int32.ofNat ii)), (.ref oh)])) _
      refine XS.iloadN X0.here hx rfl (hb hby d_prog_81_method_4_6) rfl ?_
      show Steps p.tables e below (s₁.setTop (mkF m 7 #[.val (.ref oh), .val (.int (Int32.ofNat ii)), .val (.int (Int32.ofNat jj)), .val (.int tx)] [(.int (Int32.ofNat jj)), (.int (Int32.ofNat ii)), (.ref oh)])) _
      refine XS.aloadN X0.here hx rfl (hb hby d_prog_81_method_4_7) rfl rfl ?_
      show Steps p.tables e below (s₁.setTop (mkF m 8 #[.val (.ref oh), .val (.int (Int32.ofNat ii)), .val (.int (Int32.ofNat jj)), .val (.int tx)] [(.ref oh), (.int (Int32.ofNat jj)), (.int (Int32.ofNat ii)), (.ref oh)])) _
      refine XS.iloadN X0.here hx rfl (hb hby d_prog_81_method_4_8) rfl ?_
      show Steps p.tables e below (s₁.setTop (mkF m 9 #[.val (.ref oh), .val (.int (Int32.ofNat ii)), .val (.int (Int32.ofNat jj)), .val (.int tx)] [(.int (Int32.ofNat ii)), (.ref oh), (.int (Int32.ofNat jj)), (.int (Int32.ofNat ii)), (.ref oh)])) _
      refine XS.iloadN X0.here hx rfl (hb hby d_prog_81_method_4_9) rfl ?_
      show Steps p.tables e below (s₁.setTop (mkF m 10 #[.val (.ref oh), .val (.int (Int32.ofNat ii)), .val (.int (Int32.ofNat jj)), .val (.int tx)] [(.int (Int32.ofNat jj)), (.int (Int32.ofNat ii)), (.ref oh), (.int (Int32.ofNat jj)), (.int (Int32.ofNat ii)), (.ref oh)])) _
      exact q
    obtain ⟨cq5, kq5, q5a, q5b, q5c⟩ := isOf hZ e0 hI.1
    obtain ⟨_, _, ⟨T5, L5, kk5, n5⟩, -, X5, ⟨Lc5, hQ5, l5, y5, z5⟩, st5⟩ := X0.virtualBack hx (y := (⟨"com/example/weir/weir/model/HeldTasks", "get", "(II)I"⟩ : MethodName)) (z := (⟨"com/example/weir/weir/model/HeldTasks", "get", "(II)I"⟩ : MethodName)) hown (mvT hZ (hw _ (List.mem_of_getElem? (i := 31) rfl))) (mvT hZ (hw _ (List.mem_of_getElem? (i := 32) rfl))) (notFace_of_selects (args := #[]) (mvT hZ (hw _ (List.mem_of_getElem? (i := 34) rfl)))) (mvT hZ (hw _ (List.mem_of_getElem? (i := 34) rfl))) (mvT hZ (hw _ (List.mem_of_getElem? (i := 33) rfl))) (by decide) (backOf (W := 3) (rmHg l Z a0 hw [] oh nb pb O w G ii jj h0 n0 Zn hI hi hj) hZ (hw _ (List.mem_of_getElem? (i := 35) rfl)) (hw _ (List.mem_of_getElem? (i := 2) rfl)) (by decide) (by decide)) q5a q5c (g := (mkF m 10 #[.val (.ref oh), .val (.int (Int32.ofNat ii)), .val (.int (Int32.ofNat jj)), .val (.int tx)] [(.int (Int32.ofNat jj)), (.int (Int32.ofNat ii)), (.ref oh), (.int (Int32.ofNat jj)), (.int (Int32.ofNat ii)), (.ref oh)])) rfl (by rw [hml]; rfl) (Steps.refl _) (argsL := [(.int (Int32.ofNat ii)), (.int (Int32.ofNat jj))]) (rest := [(.int (Int32.ofNat jj)), (.int (Int32.ofNat ii)), (.ref oh)]) (lenOf pd_90420 rfl) rfl (by show 2 * 0 + _ ≤ _; exact Nat.le_of_eq rfl) (hb hby d_prog_81_method_4_10) (fun _ _ => ⟨rfl, e0, (by decide : 0 + 0 ≤ _), (by decide : 0 + 0 ≤ _)⟩)
    dsimp only [Pt.U, Pt.locs, Pt.cells, Pt.slots] at X5 l5 y5 z5 st5 hQ5
    rw [l5, y5, z5] at X5
    obtain ⟨rfl, Nq5, hq5⟩ := hQ5
    have N5 := Fr.app N0 Nq5
    have k6_ : ∀ t, Steps p.tables e below (T5.setTop (mkF m 13 #[.val (.ref oh), .val (.int (Int32.ofNat ii)), .val (.int (Int32.ofNat jj)), .val (.int tx)] [(.int (G ii (Int32.ofNat jj))), (.int (Int32.ofNat jj)), (.int (Int32.ofNat ii)), (.ref oh)])) t → Steps p.tables e below (s₁.setTop (mkF m 0 #[.val (.ref oh), .val (.int (Int32.ofNat ii)), .val (.int (Int32.ofNat jj)), .val (.int tx)] [])) t := fun t q => k4_ t (st5.trans q)
    have k7_ : ∀ t, Steps p.tables e below (T5.setTop (mkF m 15 #[.val (.ref oh), .val (.int (Int32.ofNat ii)), .val (.int (Int32.ofNat jj)), .val (.int tx)] [(.int ((G ii (Int32.ofNat jj)) + tx)), (.int (Int32.ofNat jj)), (.int (Int32.ofNat ii)), (.ref oh)])) t → Steps p.tables e below (s₁.setTop (mkF m 0 #[.val (.ref oh), .val (.int (Int32.ofNat ii)), .val (.int (Int32.ofNat jj)), .val (.int tx)] [])) t := by
      intro t q
      refine k6_ _ ?_
      show Steps p.tables e below (T5.setTop (mkF m 13 #[.val (.ref oh), .val (.int (Int32.ofNat ii)), .val (.int (Int32.ofNat jj)), .val (.int tx)] [(.int (G ii (Int32.ofNat jj))), (.int (Int32.ofNat jj)), (.int (Int32.ofNat ii)), (.ref oh)])) _
      refine XS.iloadN X5.here hx rfl (hb hby d_prog_81_method_4_13) rfl ?_
      show Steps p.tables e below (T5.setTop (mkF m 14 #[.val (.ref oh), .val (.int (Int32.ofNat ii)), .val (.int (Int32.ofNat jj)), .val (.int tx)] [(.int tx), (.int (G ii (Int32.ofNat jj))), (.int (Int32.ofNat jj)), (.int (Int32.ofNat ii)), (.ref oh)])) _
      refine XS.iadd X5.here hx rfl (hb hby d_prog_81_method_4_14) rfl ?_
      show Steps p.tables e below (T5.setTop (mkF m 15 #[.val (.ref oh), .val (.int (Int32.ofNat ii)), .val (.int (Int32.ofNat jj)), .val (.int tx)] [(.int ((G ii (Int32.ofNat jj)) + tx)), (.int (Int32.ofNat jj)), (.int (Int32.ofNat ii)), (.ref oh)])) _
      exact q
    obtain ⟨cq8, kq8, oq8⟩ := Exa.cell hI.1
    obtain ⟨_, _, ⟨T8, L8, kk8, n8⟩, -, X8, ⟨Lc8, hQ8, l8, y8, z8⟩, st8⟩ := X5.privateBack hx (y := (⟨"com/example/weir/weir/model/HeldTasks", "put", "(III)V"⟩ : MethodName)) hown (mvT hZ (hw _ (List.mem_of_getElem? (i := 36) rfl))) (mvT hZ (hw _ (List.mem_of_getElem? (i := 37) rfl))) (own_sel (y := (⟨"com/example/weir/weir/model/HeldTasks", "put", "(III)V"⟩ : MethodName)) hZ (hw _ (List.mem_of_getElem? (i := 1) rfl)) (hw _ (List.mem_of_getElem? (i := 38) rfl)) (hw _ (List.mem_of_getElem? (i := 37) rfl)) (by decide)) (Cond.privateMethod_at (args := #[]) (mvP hZ (hw _ (List.mem_of_getElem? (i := 38) rfl)))) (mvT hZ (hw _ (List.mem_of_getElem? (i := 39) rfl))) (by decide) (backOf (W := 0) (rmU l Z a0 hw [] oh nb pb O w G ii jj ((G ii (Int32.ofNat jj)) + tx) h0 n0 Zn hI hi hj t1 t2 (by rw [hc]; exact t2)) hZ (hw _ (List.mem_of_getElem? (i := 39) rfl)) (hw _ (List.mem_of_getElem? (i := 2) rfl)) (by decide) (by decide)) (g := (mkF m 15 #[.val (.ref oh), .val (.int (Int32.ofNat ii)), .val (.int (Int32.ofNat jj)), .val (.int tx)] [(.int ((G ii (Int32.ofNat jj)) + tx)), (.int (Int32.ofNat jj)), (.int (Int32.ofNat ii)), (.ref oh)])) rfl (by rw [hml]; rfl) (Steps.refl _) (a := oh) (cell := cq8) (by rw [hq5]; exact kq8) oq8 (argsL := [(.int (Int32.ofNat ii)), (.int (Int32.ofNat jj)), (.int ((G ii (Int32.ofNat jj)) + tx))]) (rest := []) (lenOf pd_32812 rfl) rfl (by show 2 * 0 + _ ≤ _; exact Nat.le_of_eq rfl) (hb hby d_prog_81_method_4_15) (fun _ _ => ⟨rfl, hq5, (by decide : 0 + 0 + 10 ≤ _), (by decide : 0 + 0 + 54 ≤ _)⟩)
    dsimp only [Pt.U, Pt.locs, Pt.cells, Pt.slots] at X8 l8 y8 z8 st8 hQ8
    rw [l8, y8, z8] at X8
    obtain ⟨rfl, Nq8, O', w', I', K'⟩ := hQ8
    have N8 := Fr.app N5 Nq8
    have k9_ : ∀ t, Steps p.tables e below (T8.setTop (mkF m 18 #[.val (.ref oh), .val (.int (Int32.ofNat ii)), .val (.int (Int32.ofNat jj)), .val (.int tx)] [])) t → Steps p.tables e below (s₁.setTop (mkF m 0 #[.val (.ref oh), .val (.int (Int32.ofNat ii)), .val (.int (Int32.ofNat jj)), .val (.int tx)] [])) t := fun t q => k7_ t (st8.trans q)
    obtain ⟨fs, hr, hrun, hended, hW, hsame⟩ := X8.leave (v := none) (fun _ => rfl)
    refine ⟨_, _, pre0 _ (k9_ _ ?_), hrun, hended, _, _, rfl, ?_, ⟨_, rfl⟩, hW, hsame.mono (by decide) (by decide)⟩
    · show Steps p.tables e below (T8.setTop (mkF m 18 #[.val (.ref oh), .val (.int (Int32.ofNat ii)), .val (.int (Int32.ofNat jj)), .val (.int tx)] [])) _
      exact X8.returnOut hx Bd.returns (hb hby d_prog_81_method_4_18) hr
    · show QAd Z oh nb pb O w G ii jj tx h0 n0 _ T8.heap _
      exact ⟨rfl, N8, O', w', I', K'⟩
theorem d_prog_81_method_8_20 : decode prog_81_method_8_code 20 = .ok (.iload 5, 2) := by decide +kernel
theorem d_prog_81_method_8_22 : decode prog_81_method_8_code 22 = .ok (.aload 4, 2) := by decide +kernel
theorem d_prog_81_method_8_24 : decode prog_81_method_8_code 24 = .ok (.getfield 44, 3) := by decide +kernel
theorem d_prog_81_method_8_27 : decode prog_81_method_8_code 27 = .ok (.arraylength, 1) := by decide +kernel
theorem d_prog_81_method_8_28 : decode prog_81_method_8_code 28 = .ok (.if_icmp .ge 42, 3) := by decide +kernel
theorem d_prog_81_method_8_31 : decode prog_81_method_8_code 31 = .ok (.aload 4, 2) := by decide +kernel
theorem d_prog_81_method_8_33 : decode prog_81_method_8_code 33 = .ok (.getfield 44, 3) := by decide +kernel
theorem d_prog_81_method_8_36 : decode prog_81_method_8_code 36 = .ok (.iload 5, 2) := by decide +kernel
theorem d_prog_81_method_8_38 : decode prog_81_method_8_code 38 = .ok (.iaload, 1) := by decide +kernel
theorem d_prog_81_method_8_39 : decode prog_81_method_8_code 39 = .ok (.istore 6, 2) := by decide +kernel
theorem d_prog_81_method_8_41 : decode prog_81_method_8_code 41 = .ok (.iload 6, 2) := by decide +kernel
theorem d_prog_81_method_8_43 : decode prog_81_method_8_code 43 = .ok (.ifCond .lt 21, 3) := by decide +kernel
theorem d_prog_81_method_8_64 : decode prog_81_method_8_code 64 = .ok (.iinc 5 1, 3) := by decide +kernel
theorem d_prog_81_method_8_67 : decode prog_81_method_8_code 67 = .ok (.goto (-47), 3) := by decide +kernel
theorem d_prog_81_method_8_46 : decode prog_81_method_8_code 46 = .ok (.iload 6, 2) := by decide +kernel
theorem d_prog_81_method_8_48 : decode prog_81_method_8_code 48 = .ok (.iload_n 2, 1) := by decide +kernel
theorem d_prog_81_method_8_49 : decode prog_81_method_8_code 49 = .ok (.if_icmp .ge 15, 3) := by decide +kernel
theorem d_prog_81_method_8_52 : decode prog_81_method_8_code 52 = .ok (.aload_n 3, 1) := by decide +kernel
theorem d_prog_81_method_8_53 : decode prog_81_method_8_code 53 = .ok (.iload 6, 2) := by decide +kernel
theorem d_prog_81_method_8_55 : decode prog_81_method_8_code 55 = .ok (.aload 4, 2) := by decide +kernel
theorem d_prog_81_method_8_57 : decode prog_81_method_8_code 57 = .ok (.getfield 47, 3) := by decide +kernel
theorem d_prog_81_method_8_60 : decode prog_81_method_8_code 60 = .ok (.iload 5, 2) := by decide +kernel
theorem d_prog_81_method_8_62 : decode prog_81_method_8_code 62 = .ok (.iaload, 1) := by decide +kernel
theorem d_prog_81_method_8_63 : decode prog_81_method_8_code 63 = .ok (.iastore, 1) := by decide +kernel
set_option maxRecDepth 65536 in
set_option maxHeartbeats 40000000 in
theorem lpL {p : Program} {l : Launch} {e : Env} {R : Room} {s : State} {m : MethodId} {args : Array Value} {below : List Frame} {meth : Method} {c : Code} (Z : State) (a0 : Array Value) (hw : ∀ d ∈ tables_1, d.before a0 Z = true) (hx : p.tables.exec = Jvm.exec) (hZ : Z.Warmed39 s.vm) (hby : c.code = prog_81_method_8_code) (hml : c.maxLocals = 7) (hown : s.vm.findClass "com/example/weir/weir/model/HeldTasks" = some m.cls) (n0 : Nat) (oh b a kb cb : Addr) (ii qq : Nat) (ks cs : List Int32) (kB kK kC : ClassId) (l4 : ks.length = 4 ∨ ks.length = 8) (hlen : cs.length = ks.length) (hq : qq < 8) (na : a ≠ b) (nk : kb ≠ b) (nc : cb ≠ b) (gb : n0 ≤ b) (ce so : Nat) : ∀ (nn i : Nat) (xs : List Int32) (L6 : Slot) (s₁ : State) (h0 : Heap) (lc0 : List Loc), i + nn = ks.length → xs.length = qq → Stand p l e R s m args below meth c s₁ lc0 ce so → s₁.heap = h0 → Fr n0 lc0 → n0 ≤ h0.size → Fld Z h0 a "com/example/weir/weir/model/HeldTasks$Counts" "keys" "[I" (.ref kb) → Fld Z h0 a "com/example/weir/weir/model/HeldTasks$Counts" "counts" "[I" (.ref cb) → Arv Z h0 kb kK .int (own_ln ks) (ks.map Value.int) (.int 0) → Arv Z h0 cb kC .int (own_ln ks) (cs.map Value.int) (.int 0) → Arv Z h0 b kB .int (Int32.ofNat qq) (xs.map Value.int) (.int 0) → own_sp L6 → ∃ (T' : State) (h' : Heap) (lc' : List Loc) (M5 M6 : Slot), Stand p l e R s m args below meth c T' lc' ce so ∧ T'.heap = h' ∧ Fr n0 lc' ∧ Keep h0 h' [b] ∧ Arv Z h' b kB .int (Int32.ofNat qq) ((own_co ks cs qq nn i xs).map Value.int) (.int 0) ∧ ∀ t, Steps p.tables e below (T'.setTop (mkF m 70 #[.val (.ref oh), .val (.int (Int32.ofNat ii)), .val (.int (Int32.ofNat qq)), .val (.ref b), .val (.ref a), M5, M6] [])) t → Steps p.tables e below (s₁.setTop (mkF m 20 #[.val (.ref oh), .val (.int (Int32.ofNat ii)), .val (.int (Int32.ofNat qq)), .val (.ref b), .val (.ref a), .val (.int (Int32.ofNat i)), L6] [])) t := by
  intro nn
  induction nn with
  | zero =>
    intro i xs L6 s₁ h0 lc0 hin hxs X0 e0 N0 Zn FK FC VK VC VB h6
    have k0 : ∀ t, Steps p.tables e below (s₁.setTop (mkF m 20 #[.val (.ref oh), .val (.int (Int32.ofNat ii)), .val (.int (Int32.ofNat qq)), .val (.ref b), .val (.ref a), .val (.int (Int32.ofNat i)), L6] [])) t → Steps p.tables e below (s₁.setTop (mkF m 20 #[.val (.ref oh), .val (.int (Int32.ofNat ii)), .val (.int (Int32.ofNat qq)), .val (.ref b), .val (.ref a), .val (.int (Int32.ofNat i)), L6] [])) t := fun t q => q
    have k1_ : ∀ t, Steps p.tables e below (s₁.setTop (mkF m 24 #[.val (.ref oh), .val (.int (Int32.ofNat ii)), .val (.int (Int32.ofNat qq)), .val (.ref b), .val (.ref a), .val (.int (Int32.ofNat i)), L6] [(.ref a), (.int (Int32.ofNat i))])) t → Steps p.tables e below (s₁.setTop (mkF m 20 #[.val (.ref oh), .val (.int (Int32.ofNat ii)), .val (.int (Int32.ofNat qq)), .val (.ref b), .val (.ref a), .val (.int (Int32.ofNat i)), L6] [])) t := by
      intro t q
      refine k0 _ ?_
      show Steps p.tables e below (s₁.setTop (mkF m 20 #[.val (.ref oh), .val (.int (Int32.ofNat ii)), .val (.int (Int32.ofNat qq)), .val (.ref b), .val (.ref a), .val (.int (Int32.ofNat i)), L6] [])) _
      refine XS.iload X0.here hx rfl (hb hby d_prog_81_method_8_20) rfl ?_
      show Steps p.tables e below (s₁.setTop (mkF m 22 #[.val (.ref oh), .val (.int (Int32.ofNat ii)), .val (.int (Int32.ofNat qq)), .val (.ref b), .val (.ref a), .val (.int (Int32.ofNat i)), L6] [(.int (Int32.ofNat i))])) _
      refine XS.aload X0.here hx rfl (hb hby d_prog_81_method_8_22) rfl rfl ?_
      show Steps p.tables e below (s₁.setTop (mkF m 24 #[.val (.ref oh), .val (.int (Int32.ofNat ii)), .val (.int (Int32.ofNat qq)), .val (.ref b), .val (.ref a), .val (.int (Int32.ofNat i)), L6] [(.ref a), (.int (Int32.ofNat i))])) _
      exact q
    obtain ⟨T2, X2, e2, st2⟩ := own_getR X0 hx hZ hown (hw _ (List.mem_of_getElem? (i := 67) rfl)) e0 FK (g := (mkF m 24 #[.val (.ref oh), .val (.int (Int32.ofNat ii)), .val (.int (Int32.ofNat qq)), .val (.ref b), .val (.ref a), .val (.int (Int32.ofNat i)), L6] [(.ref a), (.int (Int32.ofNat i))])) rfl rfl (hb hby d_prog_81_method_8_24)
    have k3_ : ∀ t, Steps p.tables e below (T2.setTop (mkF m 27 #[.val (.ref oh), .val (.int (Int32.ofNat ii)), .val (.int (Int32.ofNat qq)), .val (.ref b), .val (.ref a), .val (.int (Int32.ofNat i)), L6] [(.ref kb), (.int (Int32.ofNat i))])) t → Steps p.tables e below (s₁.setTop (mkF m 20 #[.val (.ref oh), .val (.int (Int32.ofNat ii)), .val (.int (Int32.ofNat qq)), .val (.ref b), .val (.ref a), .val (.int (Int32.ofNat i)), L6] [])) t := fun t q => k1_ t (st2 t q)
    obtain ⟨cl4, Ar4, q4, S4, M4, H4, G4⟩ := id VK
    have k5_ : ∀ t, Steps p.tables e below (T2.setTop (mkF m 28 #[.val (.ref oh), .val (.int (Int32.ofNat ii)), .val (.int (Int32.ofNat qq)), .val (.ref b), .val (.ref a), .val (.int (Int32.ofNat i)), L6] [(.int (own_ln ks)), (.int (Int32.ofNat i))])) t → Steps p.tables e below (s₁.setTop (mkF m 20 #[.val (.ref oh), .val (.int (Int32.ofNat ii)), .val (.int (Int32.ofNat qq)), .val (.ref b), .val (.ref a), .val (.int (Int32.ofNat i)), L6] [])) t := by
      intro t q
      refine k3_ _ ?_
      show Steps p.tables e below (T2.setTop (mkF m 27 #[.val (.ref oh), .val (.int (Int32.ofNat ii)), .val (.int (Int32.ofNat qq)), .val (.ref b), .val (.ref a), .val (.int (Int32.ofNat i)), L6] [(.ref kb), (.int (Int32.ofNat i))])) _
      refine X2.arraylength hx (by rw [e2]; exact Ar4.1) (State.isArrayOf_alike hZ.alike Ar4.2.1) (g := (mkF m 27 #[.val (.ref oh), .val (.int (Int32.ofNat ii)), .val (.int (Int32.ofNat qq)), .val (.ref b), .val (.ref a), .val (.int (Int32.ofNat i)), L6] [(.ref kb), (.int (Int32.ofNat i))])) rfl rfl (hb hby d_prog_81_method_8_27) _ ?_
      rw [len_of S4 M4]
      show Steps p.tables e below (T2.setTop (mkF m 28 #[.val (.ref oh), .val (.int (Int32.ofNat ii)), .val (.int (Int32.ofNat qq)), .val (.ref b), .val (.ref a), .val (.int (Int32.ofNat i)), L6] [(.int (own_ln ks)), (.int (Int32.ofNat i))])) _
      exact q
    have k6_ : ∀ t, Steps p.tables e below (T2.setTop (mkF m 70 #[.val (.ref oh), .val (.int (Int32.ofNat ii)), .val (.int (Int32.ofNat qq)), .val (.ref b), .val (.ref a), .val (.int (Int32.ofNat i)), L6] [])) t → Steps p.tables e below (s₁.setTop (mkF m 20 #[.val (.ref oh), .val (.int (Int32.ofNat ii)), .val (.int (Int32.ofNat qq)), .val (.ref b), .val (.ref a), .val (.int (Int32.ofNat i)), L6] [])) t := by
      intro t q
      refine k5_ _ ?_
      show Steps p.tables e below (T2.setTop (mkF m 28 #[.val (.ref oh), .val (.int (Int32.ofNat ii)), .val (.int (Int32.ofNat qq)), .val (.ref b), .val (.ref a), .val (.int (Int32.ofNat i)), L6] [(.int (own_ln ks)), (.int (Int32.ofNat i))])) _
      refine XS.icmpYes X2.here hx rfl (pc0 := 28) (pc' := 70) rfl (hb hby d_prog_81_method_8_28) rfl (flt (fun z => absurd ((own_cmp (by omega) (by omega)).mp z) (by omega))).2.1 (by decide) (by decide) ?_
      show Steps p.tables e below (T2.setTop (mkF m 70 #[.val (.ref oh), .val (.int (Int32.ofNat ii)), .val (.int (Int32.ofNat qq)), .val (.ref b), .val (.ref a), .val (.int (Int32.ofNat i)), L6] [])) _
      exact q
    exact ⟨_, h0, lc0, _, _, X2, e2, N0, Keep.refl _ _, VB, k6_⟩
  | succ nn ih =>
    intro i xs L6 s₁ h0 lc0 hin hxs X0 e0 N0 Zn FK FC VK VC VB h6
    have k0 : ∀ t, Steps p.tables e below (s₁.setTop (mkF m 20 #[.val (.ref oh), .val (.int (Int32.ofNat ii)), .val (.int (Int32.ofNat qq)), .val (.ref b), .val (.ref a), .val (.int (Int32.ofNat i)), L6] [])) t → Steps p.tables e below (s₁.setTop (mkF m 20 #[.val (.ref oh), .val (.int (Int32.ofNat ii)), .val (.int (Int32.ofNat qq)), .val (.ref b), .val (.ref a), .val (.int (Int32.ofNat i)), L6] [])) t := fun t q => q
    have k7_ : ∀ t, Steps p.tables e below (s₁.setTop (mkF m 24 #[.val (.ref oh), .val (.int (Int32.ofNat ii)), .val (.int (Int32.ofNat qq)), .val (.ref b), .val (.ref a), .val (.int (Int32.ofNat i)), L6] [(.ref a), (.int (Int32.ofNat i))])) t → Steps p.tables e below (s₁.setTop (mkF m 20 #[.val (.ref oh), .val (.int (Int32.ofNat ii)), .val (.int (Int32.ofNat qq)), .val (.ref b), .val (.ref a), .val (.int (Int32.ofNat i)), L6] [])) t := by
      intro t q
      refine k0 _ ?_
      show Steps p.tables e below (s₁.setTop (mkF m 20 #[.val (.ref oh), .val (.int (Int32.ofNat ii)), .val (.int (Int32.ofNat qq)), .val (.ref b), .val (.ref a), .val (.int (Int32.ofNat i)), L6] [])) _
      refine XS.iload X0.here hx rfl (hb hby d_prog_81_method_8_20) rfl ?_
      show Steps p.tables e below (s₁.setTop (mkF m 22 #[.val (.ref oh), .val (.int (Int32.ofNat ii)), .val (.int (Int32.ofNat qq)), .val (.ref b), .val (.ref a), .val (.int (Int32.ofNat i)), L6] [(.int (Int32.ofNat i))])) _
      refine XS.aload X0.here hx rfl (hb hby d_prog_81_method_8_22) rfl rfl ?_
      show Steps p.tables e below (s₁.setTop (mkF m 24 #[.val (.ref oh), .val (.int (Int32.ofNat ii)), .val (.int (Int32.ofNat qq)), .val (.ref b), .val (.ref a), .val (.int (Int32.ofNat i)), L6] [(.ref a), (.int (Int32.ofNat i))])) _
      exact q
    obtain ⟨T8, X8, e8, st8⟩ := own_getR X0 hx hZ hown (hw _ (List.mem_of_getElem? (i := 67) rfl)) e0 FK (g := (mkF m 24 #[.val (.ref oh), .val (.int (Int32.ofNat ii)), .val (.int (Int32.ofNat qq)), .val (.ref b), .val (.ref a), .val (.int (Int32.ofNat i)), L6] [(.ref a), (.int (Int32.ofNat i))])) rfl rfl (hb hby d_prog_81_method_8_24)
    have k9_ : ∀ t, Steps p.tables e below (T8.setTop (mkF m 27 #[.val (.ref oh), .val (.int (Int32.ofNat ii)), .val (.int (Int32.ofNat qq)), .val (.ref b), .val (.ref a), .val (.int (Int32.ofNat i)), L6] [(.ref kb), (.int (Int32.ofNat i))])) t → Steps p.tables e below (s₁.setTop (mkF m 20 #[.val (.ref oh), .val (.int (Int32.ofNat ii)), .val (.int (Int32.ofNat qq)), .val (.ref b), .val (.ref a), .val (.int (Int32.ofNat i)), L6] [])) t := fun t q => k7_ t (st8 t q)
    obtain ⟨cl10, Ar10, q10, S10, M10, H10, G10⟩ := id VK
    have k11_ : ∀ t, Steps p.tables e below (T8.setTop (mkF m 28 #[.val (.ref oh), .val (.int (Int32.ofNat ii)), .val (.int (Int32.ofNat qq)), .val (.ref b), .val (.ref a), .val (.int (Int32.ofNat i)), L6] [(.int (own_ln ks)), (.int (Int32.ofNat i))])) t → Steps p.tables e below (s₁.setTop (mkF m 20 #[.val (.ref oh), .val (.int (Int32.ofNat ii)), .val (.int (Int32.ofNat qq)), .val (.ref b), .val (.ref a), .val (.int (Int32.ofNat i)), L6] [])) t := by
      intro t q
      refine k9_ _ ?_
      show Steps p.tables e below (T8.setTop (mkF m 27 #[.val (.ref oh), .val (.int (Int32.ofNat ii)), .val (.int (Int32.ofNat qq)), .val (.ref b), .val (.ref a), .val (.int (Int32.ofNat i)), L6] [(.ref kb), (.int (Int32.ofNat i))])) _
      refine X8.arraylength hx (by rw [e8]; exact Ar10.1) (State.isArrayOf_alike hZ.alike Ar10.2.1) (g := (mkF m 27 #[.val (.ref oh), .val (.int (Int32.ofNat ii)), .val (.int (Int32.ofNat qq)), .val (.ref b), .val (.ref a), .val (.int (Int32.ofNat i)), L6] [(.ref kb), (.int (Int32.ofNat i))])) rfl rfl (hb hby d_prog_81_method_8_27) _ ?_
      rw [len_of S10 M10]
      show Steps p.tables e below (T8.setTop (mkF m 28 #[.val (.ref oh), .val (.int (Int32.ofNat ii)), .val (.int (Int32.ofNat qq)), .val (.ref b), .val (.ref a), .val (.int (Int32.ofNat i)), L6] [(.int (own_ln ks)), (.int (Int32.ofNat i))])) _
      exact q
    have hil : i < ks.length := by omega
    have hr := own_ltl l4 hil
    have KP := Keep.refl h0 [b]
    have k12_ : ∀ t, Steps p.tables e below (T8.setTop (mkF m 31 #[.val (.ref oh), .val (.int (Int32.ofNat ii)), .val (.int (Int32.ofNat qq)), .val (.ref b), .val (.ref a), .val (.int (Int32.ofNat i)), L6] [])) t → Steps p.tables e below (s₁.setTop (mkF m 20 #[.val (.ref oh), .val (.int (Int32.ofNat ii)), .val (.int (Int32.ofNat qq)), .val (.ref b), .val (.ref a), .val (.int (Int32.ofNat i)), L6] [])) t := by
      intro t q
      refine k11_ _ ?_
      show Steps p.tables e below (T8.setTop (mkF m 28 #[.val (.ref oh), .val (.int (Int32.ofNat ii)), .val (.int (Int32.ofNat qq)), .val (.ref b), .val (.ref a), .val (.int (Int32.ofNat i)), L6] [(.int (own_ln ks)), (.int (Int32.ofNat i))])) _
      refine XS.icmpNo X8.here hx rfl (hb hby d_prog_81_method_8_28) rfl (tlt hr.2).2.1 ?_
      show Steps p.tables e below (T8.setTop (mkF m 31 #[.val (.ref oh), .val (.int (Int32.ofNat ii)), .val (.int (Int32.ofNat qq)), .val (.ref b), .val (.ref a), .val (.int (Int32.ofNat i)), L6] [])) _
      exact q
    have k13_ : ∀ t, Steps p.tables e below (T8.setTop (mkF m 33 #[.val (.ref oh), .val (.int (Int32.ofNat ii)), .val (.int (Int32.ofNat qq)), .val (.ref b), .val (.ref a), .val (.int (Int32.ofNat i)), L6] [(.ref a)])) t → Steps p.tables e below (s₁.setTop (mkF m 20 #[.val (.ref oh), .val (.int (Int32.ofNat ii)), .val (.int (Int32.ofNat qq)), .val (.ref b), .val (.ref a), .val (.int (Int32.ofNat i)), L6] [])) t := by
      intro t q
      refine k12_ _ ?_
      show Steps p.tables e below (T8.setTop (mkF m 31 #[.val (.ref oh), .val (.int (Int32.ofNat ii)), .val (.int (Int32.ofNat qq)), .val (.ref b), .val (.ref a), .val (.int (Int32.ofNat i)), L6] [])) _
      refine XS.aload X8.here hx rfl (hb hby d_prog_81_method_8_31) rfl rfl ?_
      show Steps p.tables e below (T8.setTop (mkF m 33 #[.val (.ref oh), .val (.int (Int32.ofNat ii)), .val (.int (Int32.ofNat qq)), .val (.ref b), .val (.ref a), .val (.int (Int32.ofNat i)), L6] [(.ref a)])) _
      exact q
    obtain ⟨T14, X14, e14, st14⟩ := own_getR X8 hx hZ hown (hw _ (List.mem_of_getElem? (i := 67) rfl)) e8 FK (g := (mkF m 33 #[.val (.ref oh), .val (.int (Int32.ofNat ii)), .val (.int (Int32.ofNat qq)), .val (.ref b), .val (.ref a), .val (.int (Int32.ofNat i)), L6] [(.ref a)])) rfl rfl (hb hby d_prog_81_method_8_33)
    have k15_ : ∀ t, Steps p.tables e below (T14.setTop (mkF m 36 #[.val (.ref oh), .val (.int (Int32.ofNat ii)), .val (.int (Int32.ofNat qq)), .val (.ref b), .val (.ref a), .val (.int (Int32.ofNat i)), L6] [(.ref kb)])) t → Steps p.tables e below (s₁.setTop (mkF m 20 #[.val (.ref oh), .val (.int (Int32.ofNat ii)), .val (.int (Int32.ofNat qq)), .val (.ref b), .val (.ref a), .val (.int (Int32.ofNat i)), L6] [])) t := fun t q => k13_ t (st14 t q)
    obtain ⟨cl16, Ar16, q16, S16, M16, H16, G16⟩ := id VK
    have k17_ : ∀ t, Steps p.tables e below (T14.setTop (mkF m 43 #[.val (.ref oh), .val (.int (Int32.ofNat ii)), .val (.int (Int32.ofNat qq)), .val (.ref b), .val (.ref a), .val (.int (Int32.ofNat i)), .val (.int (ks.getD i 0))] [(.int (ks.getD i 0))])) t → Steps p.tables e below (s₁.setTop (mkF m 20 #[.val (.ref oh), .val (.int (Int32.ofNat ii)), .val (.int (Int32.ofNat qq)), .val (.ref b), .val (.ref a), .val (.int (Int32.ofNat i)), L6] [])) t := by
      intro t q
      refine k15_ _ ?_
      show Steps p.tables e below (T14.setTop (mkF m 36 #[.val (.ref oh), .val (.int (Int32.ofNat ii)), .val (.int (Int32.ofNat qq)), .val (.ref b), .val (.ref a), .val (.int (Int32.ofNat i)), L6] [(.ref kb)])) _
      refine XS.iload X14.here hx rfl (hb hby d_prog_81_method_8_36) rfl ?_
      show Steps p.tables e below (T14.setTop (mkF m 38 #[.val (.ref oh), .val (.int (Int32.ofNat ii)), .val (.int (Int32.ofNat qq)), .val (.ref b), .val (.ref a), .val (.int (Int32.ofNat i)), L6] [(.int (Int32.ofNat i)), (.ref kb)])) _
      refine X14.iaload hx (j := (Int32.ofNat i)) (v := (.int (ks.getD i 0))) (by rw [e14]; exact Ar16.1) (State.isArrayOf_alike hZ.alike Ar16.2.1) Ar16.2.2 (inb_of S16 hr) (Has.at H16 (inb_of S16 hr) (own_gi _ (by omega))) (g := (mkF m 38 #[.val (.ref oh), .val (.int (Int32.ofNat ii)), .val (.int (Int32.ofNat qq)), .val (.ref b), .val (.ref a), .val (.int (Int32.ofNat i)), L6] [(.int (Int32.ofNat i)), (.ref kb)])) rfl rfl (hb hby d_prog_81_method_8_38) _ ?_
      show Steps p.tables e below (T14.setTop (mkF m 39 #[.val (.ref oh), .val (.int (Int32.ofNat ii)), .val (.int (Int32.ofNat qq)), .val (.ref b), .val (.ref a), .val (.int (Int32.ofNat i)), L6] [(.int (ks.getD i 0))])) _
      refine XS.istore X14.here hx rfl (hb hby d_prog_81_method_8_39) rfl (l' := #[.val (.ref oh), .val (.int (Int32.ofNat ii)), .val (.int (Int32.ofNat qq)), .val (.ref b), .val (.ref a), .val (.int (Int32.ofNat i)), .val (.int (ks.getD i 0))]) (own_s6 h6) ?_
      show Steps p.tables e below (T14.setTop (mkF m 41 #[.val (.ref oh), .val (.int (Int32.ofNat ii)), .val (.int (Int32.ofNat qq)), .val (.ref b), .val (.ref a), .val (.int (Int32.ofNat i)), .val (.int (ks.getD i 0))] [])) _
      refine XS.iload X14.here hx rfl (hb hby d_prog_81_method_8_41) rfl ?_
      show Steps p.tables e below (T14.setTop (mkF m 43 #[.val (.ref oh), .val (.int (Int32.ofNat ii)), .val (.int (Int32.ofNat qq)), .val (.ref b), .val (.ref a), .val (.int (Int32.ofNat i)), .val (.int (ks.getD i 0))] [(.int (ks.getD i 0))])) _
      exact q
    by_cases hca : (ks.getD i 0) < (0 : Int32)
    · have k18_ : ∀ t, Steps p.tables e below (T14.setTop (mkF m 64 #[.val (.ref oh), .val (.int (Int32.ofNat ii)), .val (.int (Int32.ofNat qq)), .val (.ref b), .val (.ref a), .val (.int (Int32.ofNat i)), .val (.int (ks.getD i 0))] [])) t → Steps p.tables e below (s₁.setTop (mkF m 20 #[.val (.ref oh), .val (.int (Int32.ofNat ii)), .val (.int (Int32.ofNat qq)), .val (.ref b), .val (.ref a), .val (.int (Int32.ofNat i)), L6] [])) t := by
        intro t q
        refine k17_ _ ?_
        show Steps p.tables e below (T14.setTop (mkF m 43 #[.val (.ref oh), .val (.int (Int32.ofNat ii)), .val (.int (Int32.ofNat qq)), .val (.ref b), .val (.ref a), .val (.int (Int32.ofNat i)), .val (.int (ks.getD i 0))] [(.int (ks.getD i 0))])) _
        refine XS.ifYes X14.here hx rfl (pc0 := 43) (pc' := 64) rfl (hb hby d_prog_81_method_8_43) rfl ((if0 _ _).trans (tlt hca).1) (by decide) (by decide) ?_
        show Steps p.tables e below (T14.setTop (mkF m 64 #[.val (.ref oh), .val (.int (Int32.ofNat ii)), .val (.int (Int32.ofNat qq)), .val (.ref b), .val (.ref a), .val (.int (Int32.ofNat i)), .val (.int (ks.getD i 0))] [])) _
        exact q
      have k19_ : ∀ t, Steps p.tables e below (T14.setTop (mkF m 20 #[.val (.ref oh), .val (.int (Int32.ofNat ii)), .val (.int (Int32.ofNat qq)), .val (.ref b), .val (.ref a), .val (.int ((Int32.ofNat i) + (1 : Int32))), .val (.int (ks.getD i 0))] [])) t → Steps p.tables e below (s₁.setTop (mkF m 20 #[.val (.ref oh), .val (.int (Int32.ofNat ii)), .val (.int (Int32.ofNat qq)), .val (.ref b), .val (.ref a), .val (.int (Int32.ofNat i)), L6] [])) t := by
        intro t q
        refine k18_ _ ?_
        show Steps p.tables e below (T14.setTop (mkF m 64 #[.val (.ref oh), .val (.int (Int32.ofNat ii)), .val (.int (Int32.ofNat qq)), .val (.ref b), .val (.ref a), .val (.int (Int32.ofNat i)), .val (.int (ks.getD i 0))] [])) _
        refine XS.iinc X14.here hx rfl (hb hby d_prog_81_method_8_64) rfl (l' := #[.val (.ref oh), .val (.int (Int32.ofNat ii)), .val (.int (Int32.ofNat qq)), .val (.ref b), .val (.ref a), .val (.int ((Int32.ofNat i) + (1 : Int32))), .val (.int (ks.getD i 0))]) rfl ?_
        show Steps p.tables e below (T14.setTop (mkF m 67 #[.val (.ref oh), .val (.int (Int32.ofNat ii)), .val (.int (Int32.ofNat qq)), .val (.ref b), .val (.ref a), .val (.int ((Int32.ofNat i) + (1 : Int32))), .val (.int (ks.getD i 0))] [])) _
        refine XS.goto X14.here hx rfl (pc0 := 67) (pc' := 20) rfl (hb hby d_prog_81_method_8_67) (by decide) (by decide) ?_
        show Steps p.tables e below (T14.setTop (mkF m 20 #[.val (.ref oh), .val (.int (Int32.ofNat ii)), .val (.int (Int32.ofNat qq)), .val (.ref b), .val (.ref a), .val (.int ((Int32.ofNat i) + (1 : Int32))), .val (.int (ks.getD i 0))] [])) _
        exact q
      have k20_ : ∀ t, Steps p.tables e below (T14.setTop (mkF m 20 #[.val (.ref oh), .val (.int (Int32.ofNat ii)), .val (.int (Int32.ofNat qq)), .val (.ref b), .val (.ref a), .val (.int (Int32.ofNat (i + 1))), .val (.int (ks.getD i 0))] [])) t → Steps p.tables e below (s₁.setTop (mkF m 20 #[.val (.ref oh), .val (.int (Int32.ofNat ii)), .val (.int (Int32.ofNat qq)), .val (.ref b), .val (.ref a), .val (.int (Int32.ofNat i)), L6] [])) t := fun t q => k19_ t (Eq.mp (congrArg (fun z => Steps p.tables e below (T14.setTop (mkF m 20 #[.val (.ref oh), .val (.int (Int32.ofNat ii)), .val (.int (Int32.ofNat qq)), .val (.ref b), .val (.ref a), .val (.int z), .val (.int (ks.getD i 0))] [])) t) (show (Int32.ofNat (i + 1)) = ((Int32.ofNat i) + (1 : Int32)) from (own_inc (by omega)))) q)
      have ex : own_co ks cs qq (nn + 1) i xs = own_co ks cs qq nn (i + 1) xs := by show own_co ks cs qq nn (i + 1) (if (ks.getD i 0) < 0 then xs else if (ks.getD i 0) < Int32.ofNat qq then xs.set (ks.getD i 0).toNatClampNeg (cs.getD i 0) else xs) = _; rw [if_pos hca]
      obtain ⟨T', h', lc', M5, M6, X', e', N', K', VB', st'⟩ := ih (i + 1) xs (.val (.int (ks.getD i 0))) _ h0 _ (by omega) hxs X14 e14 N0 Zn FK FC VK VC VB (Or.inr ⟨_, rfl⟩)
      rw [ex]
      exact ⟨T', h', lc', M5, M6, X', e', N', KP.trans K' (fun x hx => Or.inl hx), VB', fun t q => k20_ t (st' t q)⟩
    · have k21_ : ∀ t, Steps p.tables e below (T14.setTop (mkF m 46 #[.val (.ref oh), .val (.int (Int32.ofNat ii)), .val (.int (Int32.ofNat qq)), .val (.ref b), .val (.ref a), .val (.int (Int32.ofNat i)), .val (.int (ks.getD i 0))] [])) t → Steps p.tables e below (s₁.setTop (mkF m 20 #[.val (.ref oh), .val (.int (Int32.ofNat ii)), .val (.int (Int32.ofNat qq)), .val (.ref b), .val (.ref a), .val (.int (Int32.ofNat i)), L6] [])) t := by
        intro t q
        refine k17_ _ ?_
        show Steps p.tables e below (T14.setTop (mkF m 43 #[.val (.ref oh), .val (.int (Int32.ofNat ii)), .val (.int (Int32.ofNat qq)), .val (.ref b), .val (.ref a), .val (.int (Int32.ofNat i)), .val (.int (ks.getD i 0))] [(.int (ks.getD i 0))])) _
        refine XS.ifNo X14.here hx rfl (hb hby d_prog_81_method_8_43) rfl ((if0 _ _).trans (flt hca).1) ?_
        show Steps p.tables e below (T14.setTop (mkF m 46 #[.val (.ref oh), .val (.int (Int32.ofNat ii)), .val (.int (Int32.ofNat qq)), .val (.ref b), .val (.ref a), .val (.int (Int32.ofNat i)), .val (.int (ks.getD i 0))] [])) _
        exact q
      have k22_ : ∀ t, Steps p.tables e below (T14.setTop (mkF m 49 #[.val (.ref oh), .val (.int (Int32.ofNat ii)), .val (.int (Int32.ofNat qq)), .val (.ref b), .val (.ref a), .val (.int (Int32.ofNat i)), .val (.int (ks.getD i 0))] [(.int (Int32.ofNat qq)), (.int (ks.getD i 0))])) t → Steps p.tables e below (s₁.setTop (mkF m 20 #[.val (.ref oh), .val (.int (Int32.ofNat ii)), .val (.int (Int32.ofNat qq)), .val (.ref b), .val (.ref a), .val (.int (Int32.ofNat i)), L6] [])) t := by
        intro t q
        refine k21_ _ ?_
        show Steps p.tables e below (T14.setTop (mkF m 46 #[.val (.ref oh), .val (.int (Int32.ofNat ii)), .val (.int (Int32.ofNat qq)), .val (.ref b), .val (.ref a), .val (.int (Int32.ofNat i)), .val (.int (ks.getD i 0))] [])) _
        refine XS.iload X14.here hx rfl (hb hby d_prog_81_method_8_46) rfl ?_
        show Steps p.tables e below (T14.setTop (mkF m 48 #[.val (.ref oh), .val (.int (Int32.ofNat ii)), .val (.int (Int32.ofNat qq)), .val (.ref b), .val (.ref a), .val (.int (Int32.ofNat i)), .val (.int (ks.getD i 0))] [(.int (ks.getD i 0))])) _
        refine XS.iloadN X14.here hx rfl (hb hby d_prog_81_method_8_48) rfl ?_
        show Steps p.tables e below (T14.setTop (mkF m 49 #[.val (.ref oh), .val (.int (Int32.ofNat ii)), .val (.int (Int32.ofNat qq)), .val (.ref b), .val (.ref a), .val (.int (Int32.ofNat i)), .val (.int (ks.getD i 0))] [(.int (Int32.ofNat qq)), (.int (ks.getD i 0))])) _
        exact q
      by_cases hcb : (ks.getD i 0) < (Int32.ofNat qq)
      · have k23_ : ∀ t, Steps p.tables e below (T14.setTop (mkF m 52 #[.val (.ref oh), .val (.int (Int32.ofNat ii)), .val (.int (Int32.ofNat qq)), .val (.ref b), .val (.ref a), .val (.int (Int32.ofNat i)), .val (.int (ks.getD i 0))] [])) t → Steps p.tables e below (s₁.setTop (mkF m 20 #[.val (.ref oh), .val (.int (Int32.ofNat ii)), .val (.int (Int32.ofNat qq)), .val (.ref b), .val (.ref a), .val (.int (Int32.ofNat i)), L6] [])) t := by
          intro t q
          refine k22_ _ ?_
          show Steps p.tables e below (T14.setTop (mkF m 49 #[.val (.ref oh), .val (.int (Int32.ofNat ii)), .val (.int (Int32.ofNat qq)), .val (.ref b), .val (.ref a), .val (.int (Int32.ofNat i)), .val (.int (ks.getD i 0))] [(.int (Int32.ofNat qq)), (.int (ks.getD i 0))])) _
          refine XS.icmpNo X14.here hx rfl (hb hby d_prog_81_method_8_49) rfl (tlt hcb).2.1 ?_
          show Steps p.tables e below (T14.setTop (mkF m 52 #[.val (.ref oh), .val (.int (Int32.ofNat ii)), .val (.int (Int32.ofNat qq)), .val (.ref b), .val (.ref a), .val (.int (Int32.ofNat i)), .val (.int (ks.getD i 0))] [])) _
          exact q
        have k24_ : ∀ t, Steps p.tables e below (T14.setTop (mkF m 57 #[.val (.ref oh), .val (.int (Int32.ofNat ii)), .val (.int (Int32.ofNat qq)), .val (.ref b), .val (.ref a), .val (.int (Int32.ofNat i)), .val (.int (ks.getD i 0))] [(.ref a), (.int (ks.getD i 0)), (.ref b)])) t → Steps p.tables e below (s₁.setTop (mkF m 20 #[.val (.ref oh), .val (.int (Int32.ofNat ii)), .val (.int (Int32.ofNat qq)), .val (.ref b), .val (.ref a), .val (.int (Int32.ofNat i)), L6] [])) t := by
          intro t q
          refine k23_ _ ?_
          show Steps p.tables e below (T14.setTop (mkF m 52 #[.val (.ref oh), .val (.int (Int32.ofNat ii)), .val (.int (Int32.ofNat qq)), .val (.ref b), .val (.ref a), .val (.int (Int32.ofNat i)), .val (.int (ks.getD i 0))] [])) _
          refine XS.aloadN X14.here hx rfl (hb hby d_prog_81_method_8_52) rfl rfl ?_
          show Steps p.tables e below (T14.setTop (mkF m 53 #[.val (.ref oh), .val (.int (Int32.ofNat ii)), .val (.int (Int32.ofNat qq)), .val (.ref b), .val (.ref a), .val (.int (Int32.ofNat i)), .val (.int (ks.getD i 0))] [(.ref b)])) _
          refine XS.iload X14.here hx rfl (hb hby d_prog_81_method_8_53) rfl ?_
          show Steps p.tables e below (T14.setTop (mkF m 55 #[.val (.ref oh), .val (.int (Int32.ofNat ii)), .val (.int (Int32.ofNat qq)), .val (.ref b), .val (.ref a), .val (.int (Int32.ofNat i)), .val (.int (ks.getD i 0))] [(.int (ks.getD i 0)), (.ref b)])) _
          refine XS.aload X14.here hx rfl (hb hby d_prog_81_method_8_55) rfl rfl ?_
          show Steps p.tables e below (T14.setTop (mkF m 57 #[.val (.ref oh), .val (.int (Int32.ofNat ii)), .val (.int (Int32.ofNat qq)), .val (.ref b), .val (.ref a), .val (.int (Int32.ofNat i)), .val (.int (ks.getD i 0))] [(.ref a), (.int (ks.getD i 0)), (.ref b)])) _
          exact q
        obtain ⟨T25, X25, e25, st25⟩ := own_getR X14 hx hZ hown (hw _ (List.mem_of_getElem? (i := 68) rfl)) e14 FC (g := (mkF m 57 #[.val (.ref oh), .val (.int (Int32.ofNat ii)), .val (.int (Int32.ofNat qq)), .val (.ref b), .val (.ref a), .val (.int (Int32.ofNat i)), .val (.int (ks.getD i 0))] [(.ref a), (.int (ks.getD i 0)), (.ref b)])) rfl rfl (hb hby d_prog_81_method_8_57)
        have k26_ : ∀ t, Steps p.tables e below (T25.setTop (mkF m 60 #[.val (.ref oh), .val (.int (Int32.ofNat ii)), .val (.int (Int32.ofNat qq)), .val (.ref b), .val (.ref a), .val (.int (Int32.ofNat i)), .val (.int (ks.getD i 0))] [(.ref cb), (.int (ks.getD i 0)), (.ref b)])) t → Steps p.tables e below (s₁.setTop (mkF m 20 #[.val (.ref oh), .val (.int (Int32.ofNat ii)), .val (.int (Int32.ofNat qq)), .val (.ref b), .val (.ref a), .val (.int (Int32.ofNat i)), L6] [])) t := fun t q => k24_ t (st25 t q)
        obtain ⟨cl27, Ar27, q27, S27, M27, H27, G27⟩ := id VC
        have k28_ : ∀ t, Steps p.tables e below (T25.setTop (mkF m 63 #[.val (.ref oh), .val (.int (Int32.ofNat ii)), .val (.int (Int32.ofNat qq)), .val (.ref b), .val (.ref a), .val (.int (Int32.ofNat i)), .val (.int (ks.getD i 0))] [(.int (cs.getD i 0)), (.int (ks.getD i 0)), (.ref b)])) t → Steps p.tables e below (s₁.setTop (mkF m 20 #[.val (.ref oh), .val (.int (Int32.ofNat ii)), .val (.int (Int32.ofNat qq)), .val (.ref b), .val (.ref a), .val (.int (Int32.ofNat i)), L6] [])) t := by
          intro t q
          refine k26_ _ ?_
          show Steps p.tables e below (T25.setTop (mkF m 60 #[.val (.ref oh), .val (.int (Int32.ofNat ii)), .val (.int (Int32.ofNat qq)), .val (.ref b), .val (.ref a), .val (.int (Int32.ofNat i)), .val (.int (ks.getD i 0))] [(.ref cb), (.int (ks.getD i 0)), (.ref b)])) _
          refine XS.iload X25.here hx rfl (hb hby d_prog_81_method_8_60) rfl ?_
          show Steps p.tables e below (T25.setTop (mkF m 62 #[.val (.ref oh), .val (.int (Int32.ofNat ii)), .val (.int (Int32.ofNat qq)), .val (.ref b), .val (.ref a), .val (.int (Int32.ofNat i)), .val (.int (ks.getD i 0))] [(.int (Int32.ofNat i)), (.ref cb), (.int (ks.getD i 0)), (.ref b)])) _
          refine X25.iaload hx (j := (Int32.ofNat i)) (v := (.int (cs.getD i 0))) (by rw [e25]; exact Ar27.1) (State.isArrayOf_alike hZ.alike Ar27.2.1) Ar27.2.2 (inb_of S27 hr) (Has.at H27 (inb_of S27 hr) (own_gi _ (by omega))) (g := (mkF m 62 #[.val (.ref oh), .val (.int (Int32.ofNat ii)), .val (.int (Int32.ofNat qq)), .val (.ref b), .val (.ref a), .val (.int (Int32.ofNat i)), .val (.int (ks.getD i 0))] [(.int (Int32.ofNat i)), (.ref cb), (.int (ks.getD i 0)), (.ref b)])) rfl rfl (hb hby d_prog_81_method_8_62) _ ?_
          show Steps p.tables e below (T25.setTop (mkF m 63 #[.val (.ref oh), .val (.int (Int32.ofNat ii)), .val (.int (Int32.ofNat qq)), .val (.ref b), .val (.ref a), .val (.int (Int32.ofNat i)), .val (.int (ks.getD i 0))] [(.int (cs.getD i 0)), (.int (ks.getD i 0)), (.ref b)])) _
          exact q
        obtain ⟨cl29, Ar29, q29, S29, M29, H29, G29⟩ := VB
        obtain ⟨T30, h30, X30, e30, W30, st30⟩ := stI X25 hx hZ e25 Ar29 (j := (ks.getD i 0)) (inb_of S29 ⟨hca, hcb⟩) (g := (mkF m 63 #[.val (.ref oh), .val (.int (Int32.ofNat ii)), .val (.int (Int32.ofNat qq)), .val (.ref b), .val (.ref a), .val (.int (Int32.ofNat i)), .val (.int (ks.getD i 0))] [(.int (cs.getD i 0)), (.int (ks.getD i 0)), (.ref b)])) rfl rfl (hb hby d_prog_81_method_8_63)
        have k31_ : ∀ t, Steps p.tables e below (T30.setTop (mkF m 64 #[.val (.ref oh), .val (.int (Int32.ofNat ii)), .val (.int (Int32.ofNat qq)), .val (.ref b), .val (.ref a), .val (.int (Int32.ofNat i)), .val (.int (ks.getD i 0))] [])) t → Steps p.tables e below (s₁.setTop (mkF m 20 #[.val (.ref oh), .val (.int (Int32.ofNat ii)), .val (.int (Int32.ofNat qq)), .val (.ref b), .val (.ref a), .val (.int (Int32.ofNat i)), L6] [])) t := fun t q => k28_ t (st30 t q)
        have N30 := Fr.snoc X30 N0 gb
        replace Zn := Nat.le_trans Zn (Keep.of_wr W30).1
        replace FK := FK.other W30 (Or.inl na)
        replace FC := FC.other W30 (Or.inl na)
        replace VK := VK.other W30 nk
        replace VC := VC.other W30 nc
        have VB : Arv Z h30 b kB .int (Int32.ofNat qq) ((xs.set ((ks.getD i 0)).toNatClampNeg (cs.getD i 0)).map Value.int) (.int 0) := by rw [List.map_set]; exact Arv.set Ar29 q29 S29 M29 H29 G29 rfl W30 _ rfl (own_ltq (by omega) hxs ⟨hca, hcb⟩)
        replace KP := KP.wr W30 (Or.inl (List.mem_of_getElem? (i := 0) rfl))
        have k32_ : ∀ t, Steps p.tables e below (T30.setTop (mkF m 20 #[.val (.ref oh), .val (.int (Int32.ofNat ii)), .val (.int (Int32.ofNat qq)), .val (.ref b), .val (.ref a), .val (.int ((Int32.ofNat i) + (1 : Int32))), .val (.int (ks.getD i 0))] [])) t → Steps p.tables e below (s₁.setTop (mkF m 20 #[.val (.ref oh), .val (.int (Int32.ofNat ii)), .val (.int (Int32.ofNat qq)), .val (.ref b), .val (.ref a), .val (.int (Int32.ofNat i)), L6] [])) t := by
          intro t q
          refine k31_ _ ?_
          show Steps p.tables e below (T30.setTop (mkF m 64 #[.val (.ref oh), .val (.int (Int32.ofNat ii)), .val (.int (Int32.ofNat qq)), .val (.ref b), .val (.ref a), .val (.int (Int32.ofNat i)), .val (.int (ks.getD i 0))] [])) _
          refine XS.iinc X30.here hx rfl (hb hby d_prog_81_method_8_64) rfl (l' := #[.val (.ref oh), .val (.int (Int32.ofNat ii)), .val (.int (Int32.ofNat qq)), .val (.ref b), .val (.ref a), .val (.int ((Int32.ofNat i) + (1 : Int32))), .val (.int (ks.getD i 0))]) rfl ?_
          show Steps p.tables e below (T30.setTop (mkF m 67 #[.val (.ref oh), .val (.int (Int32.ofNat ii)), .val (.int (Int32.ofNat qq)), .val (.ref b), .val (.ref a), .val (.int ((Int32.ofNat i) + (1 : Int32))), .val (.int (ks.getD i 0))] [])) _
          refine XS.goto X30.here hx rfl (pc0 := 67) (pc' := 20) rfl (hb hby d_prog_81_method_8_67) (by decide) (by decide) ?_
          show Steps p.tables e below (T30.setTop (mkF m 20 #[.val (.ref oh), .val (.int (Int32.ofNat ii)), .val (.int (Int32.ofNat qq)), .val (.ref b), .val (.ref a), .val (.int ((Int32.ofNat i) + (1 : Int32))), .val (.int (ks.getD i 0))] [])) _
          exact q
        have k33_ : ∀ t, Steps p.tables e below (T30.setTop (mkF m 20 #[.val (.ref oh), .val (.int (Int32.ofNat ii)), .val (.int (Int32.ofNat qq)), .val (.ref b), .val (.ref a), .val (.int (Int32.ofNat (i + 1))), .val (.int (ks.getD i 0))] [])) t → Steps p.tables e below (s₁.setTop (mkF m 20 #[.val (.ref oh), .val (.int (Int32.ofNat ii)), .val (.int (Int32.ofNat qq)), .val (.ref b), .val (.ref a), .val (.int (Int32.ofNat i)), L6] [])) t := fun t q => k32_ t (Eq.mp (congrArg (fun z => Steps p.tables e below (T30.setTop (mkF m 20 #[.val (.ref oh), .val (.int (Int32.ofNat ii)), .val (.int (Int32.ofNat qq)), .val (.ref b), .val (.ref a), .val (.int z), .val (.int (ks.getD i 0))] [])) t) (show (Int32.ofNat (i + 1)) = ((Int32.ofNat i) + (1 : Int32)) from (own_inc (by omega)))) q)
        have ex : own_co ks cs qq (nn + 1) i xs = own_co ks cs qq nn (i + 1) (xs.set ((ks.getD i 0)).toNatClampNeg (cs.getD i 0)) := by show own_co ks cs qq nn (i + 1) (if (ks.getD i 0) < 0 then xs else if (ks.getD i 0) < Int32.ofNat qq then xs.set (ks.getD i 0).toNatClampNeg (cs.getD i 0) else xs) = _; rw [if_neg hca, if_pos hcb]
        obtain ⟨T', h', lc', M5, M6, X', e', N', K', VB', st'⟩ := ih (i + 1) (xs.set ((ks.getD i 0)).toNatClampNeg (cs.getD i 0)) (.val (.int (ks.getD i 0))) _ h30 _ (by omega) (by rw [List.length_set]; exact hxs) X30 e30 N30 Zn FK FC VK VC VB (Or.inr ⟨_, rfl⟩)
        rw [ex]
        exact ⟨T', h', lc', M5, M6, X', e', N', KP.trans K' (fun x hx => Or.inl hx), VB', fun t q => k33_ t (st' t q)⟩
      · have k34_ : ∀ t, Steps p.tables e below (T14.setTop (mkF m 64 #[.val (.ref oh), .val (.int (Int32.ofNat ii)), .val (.int (Int32.ofNat qq)), .val (.ref b), .val (.ref a), .val (.int (Int32.ofNat i)), .val (.int (ks.getD i 0))] [])) t → Steps p.tables e below (s₁.setTop (mkF m 20 #[.val (.ref oh), .val (.int (Int32.ofNat ii)), .val (.int (Int32.ofNat qq)), .val (.ref b), .val (.ref a), .val (.int (Int32.ofNat i)), L6] [])) t := by
          intro t q
          refine k22_ _ ?_
          show Steps p.tables e below (T14.setTop (mkF m 49 #[.val (.ref oh), .val (.int (Int32.ofNat ii)), .val (.int (Int32.ofNat qq)), .val (.ref b), .val (.ref a), .val (.int (Int32.ofNat i)), .val (.int (ks.getD i 0))] [(.int (Int32.ofNat qq)), (.int (ks.getD i 0))])) _
          refine XS.icmpYes X14.here hx rfl (pc0 := 49) (pc' := 64) rfl (hb hby d_prog_81_method_8_49) rfl (flt hcb).2.1 (by decide) (by decide) ?_
          show Steps p.tables e below (T14.setTop (mkF m 64 #[.val (.ref oh), .val (.int (Int32.ofNat ii)), .val (.int (Int32.ofNat qq)), .val (.ref b), .val (.ref a), .val (.int (Int32.ofNat i)), .val (.int (ks.getD i 0))] [])) _
          exact q
        have k35_ : ∀ t, Steps p.tables e below (T14.setTop (mkF m 20 #[.val (.ref oh), .val (.int (Int32.ofNat ii)), .val (.int (Int32.ofNat qq)), .val (.ref b), .val (.ref a), .val (.int ((Int32.ofNat i) + (1 : Int32))), .val (.int (ks.getD i 0))] [])) t → Steps p.tables e below (s₁.setTop (mkF m 20 #[.val (.ref oh), .val (.int (Int32.ofNat ii)), .val (.int (Int32.ofNat qq)), .val (.ref b), .val (.ref a), .val (.int (Int32.ofNat i)), L6] [])) t := by
          intro t q
          refine k34_ _ ?_
          show Steps p.tables e below (T14.setTop (mkF m 64 #[.val (.ref oh), .val (.int (Int32.ofNat ii)), .val (.int (Int32.ofNat qq)), .val (.ref b), .val (.ref a), .val (.int (Int32.ofNat i)), .val (.int (ks.getD i 0))] [])) _
          refine XS.iinc X14.here hx rfl (hb hby d_prog_81_method_8_64) rfl (l' := #[.val (.ref oh), .val (.int (Int32.ofNat ii)), .val (.int (Int32.ofNat qq)), .val (.ref b), .val (.ref a), .val (.int ((Int32.ofNat i) + (1 : Int32))), .val (.int (ks.getD i 0))]) rfl ?_
          show Steps p.tables e below (T14.setTop (mkF m 67 #[.val (.ref oh), .val (.int (Int32.ofNat ii)), .val (.int (Int32.ofNat qq)), .val (.ref b), .val (.ref a), .val (.int ((Int32.ofNat i) + (1 : Int32))), .val (.int (ks.getD i 0))] [])) _
          refine XS.goto X14.here hx rfl (pc0 := 67) (pc' := 20) rfl (hb hby d_prog_81_method_8_67) (by decide) (by decide) ?_
          show Steps p.tables e below (T14.setTop (mkF m 20 #[.val (.ref oh), .val (.int (Int32.ofNat ii)), .val (.int (Int32.ofNat qq)), .val (.ref b), .val (.ref a), .val (.int ((Int32.ofNat i) + (1 : Int32))), .val (.int (ks.getD i 0))] [])) _
          exact q
        have k36_ : ∀ t, Steps p.tables e below (T14.setTop (mkF m 20 #[.val (.ref oh), .val (.int (Int32.ofNat ii)), .val (.int (Int32.ofNat qq)), .val (.ref b), .val (.ref a), .val (.int (Int32.ofNat (i + 1))), .val (.int (ks.getD i 0))] [])) t → Steps p.tables e below (s₁.setTop (mkF m 20 #[.val (.ref oh), .val (.int (Int32.ofNat ii)), .val (.int (Int32.ofNat qq)), .val (.ref b), .val (.ref a), .val (.int (Int32.ofNat i)), L6] [])) t := fun t q => k35_ t (Eq.mp (congrArg (fun z => Steps p.tables e below (T14.setTop (mkF m 20 #[.val (.ref oh), .val (.int (Int32.ofNat ii)), .val (.int (Int32.ofNat qq)), .val (.ref b), .val (.ref a), .val (.int z), .val (.int (ks.getD i 0))] [])) t) (show (Int32.ofNat (i + 1)) = ((Int32.ofNat i) + (1 : Int32)) from (own_inc (by omega)))) q)
        have ex : own_co ks cs qq (nn + 1) i xs = own_co ks cs qq nn (i + 1) xs := by show own_co ks cs qq nn (i + 1) (if (ks.getD i 0) < 0 then xs else if (ks.getD i 0) < Int32.ofNat qq then xs.set (ks.getD i 0).toNatClampNeg (cs.getD i 0) else xs) = _; rw [if_neg hca, if_neg hcb]
        obtain ⟨T', h', lc', M5, M6, X', e', N', K', VB', st'⟩ := ih (i + 1) xs (.val (.int (ks.getD i 0))) _ h0 _ (by omega) hxs X14 e14 N0 Zn FK FC VK VC VB (Or.inr ⟨_, rfl⟩)
        rw [ex]
        exact ⟨T', h', lc', M5, M6, X', e', N', KP.trans K' (fun x hx => Or.inl hx), VB', fun t q => k36_ t (st' t q)⟩
def QCo (Z : State) (oh : Addr) (nb : Addr) (pb : Addr) (O : Nat → Option own_Ob) (w : Addr → Nat) (G : Nat → Int32 → Int32) (ii : Nat) (qq : Nat) (b : Addr) (h0 : Heap) (n0 : Nat) (v : Option Value) (h : Heap) (L : List Loc) : Prop := v = some (.ref b) ∧ Fr n0 L ∧ Keep h0 h [] ∧ ∃ (kB : ClassId) (xs : List Int32), Arv Z h b kB .int (Int32.ofNat qq) (xs.map Value.int) (.int 0) ∧ xs.length = qq ∧ ∀ x, x < qq → xs.getD x 0 = G ii (Int32.ofNat x)
theorem ef_Co (m : MethodId) (x0 : Addr) (x1 : Int32) (x2 : Int32) : entryFrame m #[(.ref x0), (.int x1), (.int x2)] 7 = mkF m 0 #[.val (.ref x0), .val (.int x1), .val (.int x2), .unset, .unset, .unset, .unset] [] := by first | (simp [entryFrame, mkF, argsToLocals, Value.category]; done) | rfl
theorem d_prog_81_method_8_0 : decode prog_81_method_8_code 0 = .ok (.iload_n 2, 1) := by decide +kernel
theorem d_prog_81_method_8_1 : decode prog_81_method_8_code 1 = .ok (.newarray .int, 2) := by decide +kernel
theorem d_prog_81_method_8_3 : decode prog_81_method_8_code 3 = .ok (.astore_n 3, 1) := by decide +kernel
theorem d_prog_81_method_8_4 : decode prog_81_method_8_code 4 = .ok (.aload_n 0, 1) := by decide +kernel
theorem d_prog_81_method_8_5 : decode prog_81_method_8_code 5 = .ok (.getfield 9, 3) := by decide +kernel
theorem d_prog_81_method_8_8 : decode prog_81_method_8_code 8 = .ok (.iload_n 1, 1) := by decide +kernel
theorem d_prog_81_method_8_9 : decode prog_81_method_8_code 9 = .ok (.aaload, 1) := by decide +kernel
theorem d_prog_81_method_8_10 : decode prog_81_method_8_code 10 = .ok (.astore 4, 2) := by decide +kernel
theorem d_prog_81_method_8_12 : decode prog_81_method_8_code 12 = .ok (.aload 4, 2) := by decide +kernel
theorem d_prog_81_method_8_14 : decode prog_81_method_8_code 14 = .ok (.ifnull 56, 3) := by decide +kernel
theorem d_prog_81_method_8_70 : decode prog_81_method_8_code 70 = .ok (.aload_n 3, 1) := by decide +kernel
theorem d_prog_81_method_8_71 : decode prog_81_method_8_code 71 = .ok (.areturn, 1) := by decide +kernel
theorem d_prog_81_method_8_17 : decode prog_81_method_8_code 17 = .ok (.iconst 0, 1) := by decide +kernel
theorem d_prog_81_method_8_18 : decode prog_81_method_8_code 18 = .ok (.istore 5, 2) := by decide +kernel
set_option maxRecDepth 65536 in
set_option maxHeartbeats 40000000 in
theorem rmCo (l : Launch) (Z : State) (a0 : Array Value) (hw : ∀ d ∈ tables_1, d.before a0 Z = true) (ws : List Jvm.Cond) (oh : Addr) (nb : Addr) (pb : Addr) (O : Nat → Option own_Ob) (w : Addr → Nat) (G : Nat → Int32 → Int32) (ii : Nat) (qq : Nat) (b : Addr) (h0 : Heap) (n0 : Nat) (Z0 : n0 ≤ h0.size) (hI : own_I Z n0 h0 oh nb pb O w G) (hi : ii < 2) (hq : qq < 8) (hb0 : b = h0.size) :
    MetFree l (⟨"com/example/weir/weir/model/HeldTasks", "column", "(II)[I"⟩ : MethodName) (head1 (Jvm.Cond.code (⟨"com/example/weir/weir/model/HeldTasks", "column", "(II)[I"⟩ : MethodName) prog_81_method_8_code 7 (some (.array .int)) :: ws) ({ frames := 0, cells := 1, slots := 7, locals := 0 } : Room)) (fun a_ U_ => a_ = #[(.ref oh), (.int (Int32.ofNat ii)), (.int (Int32.ofNat qq))] ∧ Z.Warmed39 U_.vm ∧ U_.heap = h0) (fun _ _ _ _ _ => True) (fun _ U_ o_ E_ => ∃ v_ L_, o_ = .returned v_ ∧ QCo Z oh nb pb O w G ii qq b h0 n0 v_ E_.heap L_ ∧ FrameEnd U_ o_ E_ L_ ({ frames := 0, cells := 1, slots := 7, locals := 0 } : Room).cells ({ frames := 0, cells := 1, slots := 7, locals := 0 } : Room).slots) := by
  refine MetFree.of_bodySF (plainFor_of_name pn_HeldTasks) hisR ?_
  intro p e s m args below meth c s₁ Bd hml0 hP hK
  obtain ⟨rfl, hZ, hh⟩ := hP
  have hx := Bd.exec
  have hby := Bd.bytes
  have hml : c.maxLocals = 7 := hml0
  have hown : s.vm.findClass "com/example/weir/weir/model/HeldTasks" = some m.cls := findClass_of_methodNamed Bd.named
  have hnm := (name_of_methodNamed Bd.named Bd.method).1
  have X0 : Stand p l e ({ frames := 0, cells := 1, slots := 7, locals := 0 } : Room) s m #[(.ref oh), (.int (Int32.ofNat ii)), (.int (Int32.ofNat qq))] below meth c s₁ [] 0 0 := Stand.of_body Bd
  have e0 : s₁.heap = h0 := by rw [← hh, Bd.state]; rfl
  have N0 := Fr.nil n0
  have Zn := Z0
  have pre0 : ∀ t, Steps p.tables e below (s₁.setTop (mkF m 0 #[.val (.ref oh), .val (.int (Int32.ofNat ii)), .val (.int (Int32.ofNat qq)), .unset, .unset, .unset, .unset] [])) t → Steps p.tables e below (s₁.setTop (entryFrame m #[(.ref oh), (.int (Int32.ofNat ii)), (.int (Int32.ofNat qq))] 7)) t := fun t q => castTop (ef_Co m oh (Int32.ofNat ii) (Int32.ofNat qq)) q
  have k0 : ∀ t, Steps p.tables e below (s₁.setTop (mkF m 0 #[.val (.ref oh), .val (.int (Int32.ofNat ii)), .val (.int (Int32.ofNat qq)), .unset, .unset, .unset, .unset] [])) t → Steps p.tables e below (s₁.setTop (mkF m 0 #[.val (.ref oh), .val (.int (Int32.ofNat ii)), .val (.int (Int32.ofNat qq)), .unset, .unset, .unset, .unset] [])) t := fun t q => q
  have k1_ : ∀ t, Steps p.tables e below (s₁.setTop (mkF m 1 #[.val (.ref oh), .val (.int (Int32.ofNat ii)), .val (.int (Int32.ofNat qq)), .unset, .unset, .unset, .unset] [(.int (Int32.ofNat qq))])) t → Steps p.tables e below (s₁.setTop (mkF m 0 #[.val (.ref oh), .val (.int (Int32.ofNat ii)), .val (.int (Int32.ofNat qq)), .unset, .unset, .unset, .unset] [])) t := by
    intro t q
    refine k0 _ ?_
    show Steps p.tables e below (s₁.setTop (mkF m 0 #[.val (.ref oh), .val (.int (Int32.ofNat ii)), .val (.int (Int32.ofNat qq)), .unset, .unset, .unset, .unset] [])) _
    refine XS.iloadN X0.here hx rfl (hb hby d_prog_81_method_8_0) rfl ?_
    show Steps p.tables e below (s₁.setTop (mkF m 1 #[.val (.ref oh), .val (.int (Int32.ofNat ii)), .val (.int (Int32.ofNat qq)), .unset, .unset, .unset, .unset] [(.int (Int32.ofNat qq))])) _
    exact q
  obtain ⟨T2, h2, c2, X2, e2, E2, A2, st2⟩ := newP X0 hx hZ (hw _ (List.mem_of_getElem? (i := 15) rfl)) e0 (g := (mkF m 1 #[.val (.ref oh), .val (.int (Int32.ofNat ii)), .val (.int (Int32.ofNat qq)), .unset, .unset, .unset, .unset] [(.int (Int32.ofNat qq))])) rfl (hb hby d_prog_81_method_8_1) rfl (own_nn (by omega)) (cap := 7) (by rw [own_ci (by omega)]; omega) (by decide) (by decide) (by decide)
  obtain ⟨b2, g2⟩ : ∃ z, z = h0.size := ⟨_, rfl⟩
  rw [← g2] at A2 st2
  have k3_ : ∀ t, Steps p.tables e below (T2.setTop (mkF m 3 #[.val (.ref oh), .val (.int (Int32.ofNat ii)), .val (.int (Int32.ofNat qq)), .unset, .unset, .unset, .unset] [(.ref b2)])) t → Steps p.tables e below (s₁.setTop (mkF m 0 #[.val (.ref oh), .val (.int (Int32.ofNat ii)), .val (.int (Int32.ofNat qq)), .unset, .unset, .unset, .unset] [])) t := fun t q => k1_ t (st2 t q)
  obtain rfl : b = b2 := hb0.trans g2.symm
  have VB : Arv Z h2 b c2 .int (Int32.ofNat qq) ((List.replicate qq (0 : Int32)).map Value.int) (.int 0) := by rw [List.map_replicate]; exact (Arv.new A2 (own_nn (by omega))).pad (pad_rep [] (.int (0 : Int32)) qq)
  have K1 : Keep h0 h2 [] := (Keep.refl h0 []).ext E2
  have gb : n0 ≤ b := Nat.le_trans Zn (Nat.le_of_eq g2.symm)
  replace Zn := Nat.le_trans Zn E2.1
  have I1 := own_I_keep hI K1 (fun x hx => nomatch hx)
  obtain ⟨EH, FN, FP, ⟨kn, VN, ON⟩, ⟨kp, VP, OP⟩, HO, HG, ⟨w6, w7, w8⟩, ⟨g6, g7, g8⟩⟩ := id I1
  have k4_ : ∀ t, Steps p.tables e below (T2.setTop (mkF m 5 #[.val (.ref oh), .val (.int (Int32.ofNat ii)), .val (.int (Int32.ofNat qq)), .val (.ref b), .unset, .unset, .unset] [(.ref oh)])) t → Steps p.tables e below (s₁.setTop (mkF m 0 #[.val (.ref oh), .val (.int (Int32.ofNat ii)), .val (.int (Int32.ofNat qq)), .unset, .unset, .unset, .unset] [])) t := by
    intro t q
    refine k3_ _ ?_
    show Steps p.tables e below (T2.setTop (mkF m 3 #[.val (.ref oh), .val (.int (Int32.ofNat ii)), .val (.int (Int32.ofNat qq)), .unset, .unset, .unset, .unset] [(.ref b)])) _
    refine XS.astoreN X2.here hx rfl (hb hby d_prog_81_method_8_3) rfl rfl (l' := #[.val (.ref oh), .val (.int (Int32.ofNat ii)), .val (.int (Int32.ofNat qq)), .val (.ref b), .unset, .unset, .unset]) rfl ?_
    show Steps p.tables e below (T2.setTop (mkF m 4 #[.val (.ref oh), .val (.int (Int32.ofNat ii)), .val (.int (Int32.ofNat qq)), .val (.ref b), .unset, .unset, .unset] [])) _
    refine XS.aloadN X2.here hx rfl (hb hby d_prog_81_method_8_4) rfl rfl ?_
    show Steps p.tables e below (T2.setTop (mkF m 5 #[.val (.ref oh), .val (.int (Int32.ofNat ii)), .val (.int (Int32.ofNat qq)), .val (.ref b), .unset, .unset, .unset] [(.ref oh)])) _
    exact q
  obtain ⟨T5, X5, e5, st5⟩ := getF X2 hx hZ hown (host := "") (Or.inl (hw _ (List.mem_of_getElem? (i := 11) rfl))) Via.refl e2 FN (g := (mkF m 5 #[.val (.ref oh), .val (.int (Int32.ofNat ii)), .val (.int (Int32.ofNat qq)), .val (.ref b), .unset, .unset, .unset] [(.ref oh)])) rfl rfl (hb hby d_prog_81_method_8_5)
  have k6_ : ∀ t, Steps p.tables e below (T5.setTop (mkF m 8 #[.val (.ref oh), .val (.int (Int32.ofNat ii)), .val (.int (Int32.ofNat qq)), .val (.ref b), .unset, .unset, .unset] [(.ref nb)])) t → Steps p.tables e below (s₁.setTop (mkF m 0 #[.val (.ref oh), .val (.int (Int32.ofNat ii)), .val (.int (Int32.ofNat qq)), .unset, .unset, .unset, .unset] [])) t := fun t q => k4_ t (st5 t q)
  cases hO : O ii with
  | none =>
    obtain ⟨cl7, Ar7, q7, S7, M7, H7, G7⟩ := id VN
    have k8_ : ∀ t, Steps p.tables e below (T5.setTop (mkF m 14 #[.val (.ref oh), .val (.int (Int32.ofNat ii)), .val (.int (Int32.ofNat qq)), .val (.ref b), .val .null, .unset, .unset] [.null])) t → Steps p.tables e below (s₁.setTop (mkF m 0 #[.val (.ref oh), .val (.int (Int32.ofNat ii)), .val (.int (Int32.ofNat qq)), .unset, .unset, .unset, .unset] [])) t := by
      intro t q
      refine k6_ _ ?_
      show Steps p.tables e below (T5.setTop (mkF m 8 #[.val (.ref oh), .val (.int (Int32.ofNat ii)), .val (.int (Int32.ofNat qq)), .val (.ref b), .unset, .unset, .unset] [(.ref nb)])) _
      refine XS.iloadN X5.here hx rfl (hb hby d_prog_81_method_8_8) rfl ?_
      show Steps p.tables e below (T5.setTop (mkF m 9 #[.val (.ref oh), .val (.int (Int32.ofNat ii)), .val (.int (Int32.ofNat qq)), .val (.ref b), .unset, .unset, .unset] [(.int (Int32.ofNat ii)), (.ref nb)])) _
      refine X5.aaload hx (j := (Int32.ofNat ii)) (v := .null) (by rw [e5]; exact Ar7.1) (State.isArrayOf_alike hZ.alike Ar7.2.1) rfl Ar7.2.2 (inb_of S7 (own_lt2 hi)) (Has.at H7 (inb_of S7 (own_lt2 hi)) ((own_g2 hi).trans (congrArg own_v hO))) (g := (mkF m 9 #[.val (.ref oh), .val (.int (Int32.ofNat ii)), .val (.int (Int32.ofNat qq)), .val (.ref b), .unset, .unset, .unset] [(.int (Int32.ofNat ii)), (.ref nb)])) rfl rfl (hb hby d_prog_81_method_8_9) _ ?_
      show Steps p.tables e below (T5.setTop (mkF m 10 #[.val (.ref oh), .val (.int (Int32.ofNat ii)), .val (.int (Int32.ofNat qq)), .val (.ref b), .unset, .unset, .unset] [.null])) _
      refine XS.astore X5.here hx rfl (hb hby d_prog_81_method_8_10) rfl rfl (l' := #[.val (.ref oh), .val (.int (Int32.ofNat ii)), .val (.int (Int32.ofNat qq)), .val (.ref b), .val .null, .unset, .unset]) rfl ?_
      show Steps p.tables e below (T5.setTop (mkF m 12 #[.val (.ref oh), .val (.int (Int32.ofNat ii)), .val (.int (Int32.ofNat qq)), .val (.ref b), .val .null, .unset, .unset] [])) _
      refine XS.aload X5.here hx rfl (hb hby d_prog_81_method_8_12) rfl rfl ?_
      show Steps p.tables e below (T5.setTop (mkF m 14 #[.val (.ref oh), .val (.int (Int32.ofNat ii)), .val (.int (Int32.ofNat qq)), .val (.ref b), .val .null, .unset, .unset] [.null])) _
      exact q
    have k9_ : ∀ t, Steps p.tables e below (T5.setTop (mkF m 70 #[.val (.ref oh), .val (.int (Int32.ofNat ii)), .val (.int (Int32.ofNat qq)), .val (.ref b), .val .null, .unset, .unset] [])) t → Steps p.tables e below (s₁.setTop (mkF m 0 #[.val (.ref oh), .val (.int (Int32.ofNat ii)), .val (.int (Int32.ofNat qq)), .unset, .unset, .unset, .unset] [])) t := by
      intro t q
      refine k8_ _ ?_
      show Steps p.tables e below (T5.setTop (mkF m 14 #[.val (.ref oh), .val (.int (Int32.ofNat ii)), .val (.int (Int32.ofNat qq)), .val (.ref b), .val .null, .unset, .unset] [.null])) _
      refine XS.ifnullYes X5.here hx rfl (pc0 := 14) (pc' := 70) rfl (hb hby d_prog_81_method_8_14) rfl (by decide) (by decide) ?_
      show Steps p.tables e below (T5.setTop (mkF m 70 #[.val (.ref oh), .val (.int (Int32.ofNat ii)), .val (.int (Int32.ofNat qq)), .val (.ref b), .val .null, .unset, .unset] [])) _
      exact q
    have k10_ : ∀ t, Steps p.tables e below (T5.setTop (mkF m 71 #[.val (.ref oh), .val (.int (Int32.ofNat ii)), .val (.int (Int32.ofNat qq)), .val (.ref b), .val .null, .unset, .unset] [(.ref b)])) t → Steps p.tables e below (s₁.setTop (mkF m 0 #[.val (.ref oh), .val (.int (Int32.ofNat ii)), .val (.int (Int32.ofNat qq)), .unset, .unset, .unset, .unset] [])) t := by
      intro t q
      refine k9_ _ ?_
      show Steps p.tables e below (T5.setTop (mkF m 70 #[.val (.ref oh), .val (.int (Int32.ofNat ii)), .val (.int (Int32.ofNat qq)), .val (.ref b), .val .null, .unset, .unset] [])) _
      refine XS.aloadN X5.here hx rfl (hb hby d_prog_81_method_8_70) rfl rfl ?_
      show Steps p.tables e below (T5.setTop (mkF m 71 #[.val (.ref oh), .val (.int (Int32.ofNat ii)), .val (.int (Int32.ofNat qq)), .val (.ref b), .val .null, .unset, .unset] [(.ref b)])) _
      exact q
    obtain ⟨fs, hr, hrun, hended, hW, hsame⟩ := X5.leave (v := some (.ref b)) (fun h => by rw [Bd.returns] at h; cases h)
    refine ⟨_, _, pre0 _ (k10_ _ ?_), hrun, hended, _, _, rfl, ?_, ⟨_, rfl⟩, hW, hsame.mono (by decide) (by decide)⟩
    · show Steps p.tables e below (T5.setTop (mkF m 71 #[.val (.ref oh), .val (.int (Int32.ofNat ii)), .val (.int (Int32.ofNat qq)), .val (.ref b), .val .null, .unset, .unset] [(.ref b)])) _
      jvm_step X5.here [X5.here.top, hx, (hb hby d_prog_81_method_8_71), X5.method', Bd.returns, Value.isRef, FieldType.isReference]
      first | (intro acts; rw [hr _ acts rfl rfl rfl]) | rw [hr _ _ rfl rfl rfl]
      exact Steps.refl _
    · show QCo Z oh nb pb O w G ii qq b h0 n0 _ T5.heap _
      rw [e5]
      exact ⟨rfl, N0, K1, _, _, VB, by simp, fun x hx => by rw [HG ii (by omega) hO]; simp [List.getD_eq_getElem?_getD, List.getElem?_replicate, hx]⟩
  | some bb =>
    obtain ⟨a, kb, cb, ks, cs⟩ := bb
    obtain ⟨hC, hT, -⟩ := HO ii _ (by omega) hO
    replace hC : own_Cn Z n0 h2 a kb cb ks cs := hC
    replace hT : own_Ct (G ii) ks cs := hT
    obtain ⟨hC0, -, -⟩ := hI.2.2.2.2.2.1 ii _ (by omega) hO
    replace hC0 : own_Cn Z n0 h0 a kb cb ks cs := hC0
    obtain ⟨ca, ck, cc⟩ := own_Cn_lt hC0
    obtain ⟨cl11, Ar11, q11, S11, M11, H11, G11⟩ := id VN
    have k12_ : ∀ t, Steps p.tables e below (T5.setTop (mkF m 14 #[.val (.ref oh), .val (.int (Int32.ofNat ii)), .val (.int (Int32.ofNat qq)), .val (.ref b), .val (.ref a), .unset, .unset] [(.ref a)])) t → Steps p.tables e below (s₁.setTop (mkF m 0 #[.val (.ref oh), .val (.int (Int32.ofNat ii)), .val (.int (Int32.ofNat qq)), .unset, .unset, .unset, .unset] [])) t := by
      intro t q
      refine k6_ _ ?_
      show Steps p.tables e below (T5.setTop (mkF m 8 #[.val (.ref oh), .val (.int (Int32.ofNat ii)), .val (.int (Int32.ofNat qq)), .val (.ref b), .unset, .unset, .unset] [(.ref nb)])) _
      refine XS.iloadN X5.here hx rfl (hb hby d_prog_81_method_8_8) rfl ?_
      show Steps p.tables e below (T5.setTop (mkF m 9 #[.val (.ref oh), .val (.int (Int32.ofNat ii)), .val (.int (Int32.ofNat qq)), .val (.ref b), .unset, .unset, .unset] [(.int (Int32.ofNat ii)), (.ref nb)])) _
      refine X5.aaload hx (j := (Int32.ofNat ii)) (v := (.ref a)) (by rw [e5]; exact Ar11.1) (State.isArrayOf_alike hZ.alike Ar11.2.1) rfl Ar11.2.2 (inb_of S11 (own_lt2 hi)) (Has.at H11 (inb_of S11 (own_lt2 hi)) ((own_g2 hi).trans (congrArg own_v hO))) (g := (mkF m 9 #[.val (.ref oh), .val (.int (Int32.ofNat ii)), .val (.int (Int32.ofNat qq)), .val (.ref b), .unset, .unset, .unset] [(.int (Int32.ofNat ii)), (.ref nb)])) rfl rfl (hb hby d_prog_81_method_8_9) _ ?_
      show Steps p.tables e below (T5.setTop (mkF m 10 #[.val (.ref oh), .val (.int (Int32.ofNat ii)), .val (.int (Int32.ofNat qq)), .val (.ref b), .unset, .unset, .unset] [(.ref a)])) _
      refine XS.astore X5.here hx rfl (hb hby d_prog_81_method_8_10) rfl rfl (l' := #[.val (.ref oh), .val (.int (Int32.ofNat ii)), .val (.int (Int32.ofNat qq)), .val (.ref b), .val (.ref a), .unset, .unset]) rfl ?_
      show Steps p.tables e below (T5.setTop (mkF m 12 #[.val (.ref oh), .val (.int (Int32.ofNat ii)), .val (.int (Int32.ofNat qq)), .val (.ref b), .val (.ref a), .unset, .unset] [])) _
      refine XS.aload X5.here hx rfl (hb hby d_prog_81_method_8_12) rfl rfl ?_
      show Steps p.tables e below (T5.setTop (mkF m 14 #[.val (.ref oh), .val (.int (Int32.ofNat ii)), .val (.int (Int32.ofNat qq)), .val (.ref b), .val (.ref a), .unset, .unset] [(.ref a)])) _
      exact q
    have k13_ : ∀ t, Steps p.tables e below (T5.setTop (mkF m 17 #[.val (.ref oh), .val (.int (Int32.ofNat ii)), .val (.int (Int32.ofNat qq)), .val (.ref b), .val (.ref a), .unset, .unset] [])) t → Steps p.tables e below (s₁.setTop (mkF m 0 #[.val (.ref oh), .val (.int (Int32.ofNat ii)), .val (.int (Int32.ofNat qq)), .unset, .unset, .unset, .unset] [])) t := by
      intro t q
      refine k12_ _ ?_
      show Steps p.tables e below (T5.setTop (mkF m 14 #[.val (.ref oh), .val (.int (Int32.ofNat ii)), .val (.int (Int32.ofNat qq)), .val (.ref b), .val (.ref a), .unset, .unset] [(.ref a)])) _
      refine XS.ifnullNo X5.here hx rfl (hb hby d_prog_81_method_8_14) rfl ?_
      show Steps p.tables e below (T5.setTop (mkF m 17 #[.val (.ref oh), .val (.int (Int32.ofNat ii)), .val (.int (Int32.ofNat qq)), .val (.ref b), .val (.ref a), .unset, .unset] [])) _
      exact q
    have k14_ : ∀ t, Steps p.tables e below (T5.setTop (mkF m 20 #[.val (.ref oh), .val (.int (Int32.ofNat ii)), .val (.int (Int32.ofNat qq)), .val (.ref b), .val (.ref a), .val (.int (0 : Int32)), .unset] [])) t → Steps p.tables e below (s₁.setTop (mkF m 0 #[.val (.ref oh), .val (.int (Int32.ofNat ii)), .val (.int (Int32.ofNat qq)), .unset, .unset, .unset, .unset] [])) t := by
      intro t q
      refine k13_ _ ?_
      show Steps p.tables e below (T5.setTop (mkF m 17 #[.val (.ref oh), .val (.int (Int32.ofNat ii)), .val (.int (Int32.ofNat qq)), .val (.ref b), .val (.ref a), .unset, .unset] [])) _
      refine XS.iconst X5.here hx rfl (hb hby d_prog_81_method_8_17) ?_
      show Steps p.tables e below (T5.setTop (mkF m 18 #[.val (.ref oh), .val (.int (Int32.ofNat ii)), .val (.int (Int32.ofNat qq)), .val (.ref b), .val (.ref a), .unset, .unset] [(.int (0 : Int32))])) _
      refine XS.istore X5.here hx rfl (hb hby d_prog_81_method_8_18) rfl (l' := #[.val (.ref oh), .val (.int (Int32.ofNat ii)), .val (.int (Int32.ofNat qq)), .val (.ref b), .val (.ref a), .val (.int (0 : Int32)), .unset]) rfl ?_
      show Steps p.tables e below (T5.setTop (mkF m 20 #[.val (.ref oh), .val (.int (Int32.ofNat ii)), .val (.int (Int32.ofNat qq)), .val (.ref b), .val (.ref a), .val (.int (0 : Int32)), .unset] [])) _
      exact q
    obtain ⟨EA, FK, FC, FS, ⟨kK, VK⟩, ⟨kC, VC⟩, hlen, -, -⟩ := id hC
    have l4 := own_D0 ks hT.1
    have k15_ : ∀ t, Steps p.tables e below (T5.setTop (mkF m 20 #[.val (.ref oh), .val (.int (Int32.ofNat ii)), .val (.int (Int32.ofNat qq)), .val (.ref b), .val (.ref a), .val (.int (Int32.ofNat 0)), .unset] [])) t → Steps p.tables e below (s₁.setTop (mkF m 0 #[.val (.ref oh), .val (.int (Int32.ofNat ii)), .val (.int (Int32.ofNat qq)), .unset, .unset, .unset, .unset] [])) t := fun t q => k14_ t (Eq.mp (congrArg (fun z => Steps p.tables e below (T5.setTop (mkF m 20 #[.val (.ref oh), .val (.int (Int32.ofNat ii)), .val (.int (Int32.ofNat qq)), .val (.ref b), .val (.ref a), .val (.int z), .unset] [])) t) (show (Int32.ofNat 0) = (0 : Int32) from rfl)) q)
    obtain ⟨T', h', lc', M5, M6, X', e', N', K', VB', st'⟩ := lpL Z a0 hw hx hZ hby hml hown n0 oh b a kb cb ii qq ks cs c2 kK kC l4 hlen hq (Nat.ne_of_lt (Nat.lt_of_lt_of_le ca (Nat.le_of_eq hb0.symm))) (Nat.ne_of_lt (Nat.lt_of_lt_of_le ck (Nat.le_of_eq hb0.symm))) (Nat.ne_of_lt (Nat.lt_of_lt_of_le cc (Nat.le_of_eq hb0.symm))) gb _ _ ks.length 0 (List.replicate qq 0) .unset _ h2 _ (by omega) (by simp) X5 e5 N0 Zn FK FC VK VC VB (Or.inl rfl)
    have k16_ : ∀ t, Steps p.tables e below (T'.setTop (mkF m 70 #[.val (.ref oh), .val (.int (Int32.ofNat ii)), .val (.int (Int32.ofNat qq)), .val (.ref b), .val (.ref a), M5, M6] [])) t → Steps p.tables e below (s₁.setTop (mkF m 0 #[.val (.ref oh), .val (.int (Int32.ofNat ii)), .val (.int (Int32.ofNat qq)), .unset, .unset, .unset, .unset] [])) t := fun t q => k15_ t (st' t q)
    have k17_ : ∀ t, Steps p.tables e below (T'.setTop (mkF m 71 #[.val (.ref oh), .val (.int (Int32.ofNat ii)), .val (.int (Int32.ofNat qq)), .val (.ref b), .val (.ref a), M5, M6] [(.ref b)])) t → Steps p.tables e below (s₁.setTop (mkF m 0 #[.val (.ref oh), .val (.int (Int32.ofNat ii)), .val (.int (Int32.ofNat qq)), .unset, .unset, .unset, .unset] [])) t := by
      intro t q
      refine k16_ _ ?_
      show Steps p.tables e below (T'.setTop (mkF m 70 #[.val (.ref oh), .val (.int (Int32.ofNat ii)), .val (.int (Int32.ofNat qq)), .val (.ref b), .val (.ref a), M5, M6] [])) _
      refine XS.aloadN X'.here hx rfl (hb hby d_prog_81_method_8_70) rfl rfl ?_
      show Steps p.tables e below (T'.setTop (mkF m 71 #[.val (.ref oh), .val (.int (Int32.ofNat ii)), .val (.int (Int32.ofNat qq)), .val (.ref b), .val (.ref a), M5, M6] [(.ref b)])) _
      exact q
    obtain ⟨fs, hr, hrun, hended, hW, hsame⟩ := X'.leave (v := some (.ref b)) (fun h => by rw [Bd.returns] at h; cases h)
    refine ⟨_, _, pre0 _ (k17_ _ ?_), hrun, hended, _, _, rfl, ?_, ⟨_, rfl⟩, hW, hsame.mono (by decide) (by decide)⟩
    · show Steps p.tables e below (T'.setTop (mkF m 71 #[.val (.ref oh), .val (.int (Int32.ofNat ii)), .val (.int (Int32.ofNat qq)), .val (.ref b), .val (.ref a), M5, M6] [(.ref b)])) _
      jvm_step X'.here [X'.here.top, hx, (hb hby d_prog_81_method_8_71), X'.method', Bd.returns, Value.isRef, FieldType.isReference]
      first | (intro acts; rw [hr _ acts rfl rfl rfl]) | rw [hr _ _ rfl rfl rfl]
      exact Steps.refl _
    · show QCo Z oh nb pb O w G ii qq b h0 n0 _ T'.heap _
      rw [e']
      exact ⟨rfl, N', K1.trans K' (fun x hx => Or.inr (by cases List.mem_singleton.mp hx; exact Nat.le_of_eq hb0.symm)), _, _, VB', by rw [own_co_len]; simp, own_co_all hT (by omega)⟩
def QA (Z : State) (b : Addr) (ix : Int32) (wt : Int32) (kB : ClassId) (pl : Int32) (xs : List Int32) (h0 : Heap) (n0 : Nat) (v : Option Value) (h : Heap) (L : List Loc) : Prop := v = some (.int 1) ∧ Fr n0 L ∧ h = h0
theorem ef_A (m : MethodId) (x0 : Addr) (x1 : Int32) (x2 : Int32) : entryFrame m #[(.ref x0), (.int x1), (.int x2)] 3 = mkF m 0 #[.val (.ref x0), .val (.int x1), .val (.int x2)] [] := by first | (simp [entryFrame, mkF, argsToLocals, Value.category]; done) | rfl
theorem pn_HeldTasksColumnPinLaw : plainName "com/example/weir/weir/model/HeldTasksColumnPinLaw" = true := by first | (simp [plainName, overriddenIn]; done) | decide +kernel
theorem d_method_2_0 : decode method_2_code 0 = .ok (.iload_n 1, 1) := by decide +kernel
theorem d_method_2_1 : decode method_2_code 1 = .ok (.aload_n 0, 1) := by decide +kernel
theorem d_method_2_2 : decode method_2_code 2 = .ok (.arraylength, 1) := by decide +kernel
theorem d_method_2_3 : decode method_2_code 3 = .ok (.if_icmp .ge 10, 3) := by decide +kernel
theorem d_method_2_6 : decode method_2_code 6 = .ok (.aload_n 0, 1) := by decide +kernel
theorem d_method_2_7 : decode method_2_code 7 = .ok (.iload_n 1, 1) := by decide +kernel
theorem d_method_2_8 : decode method_2_code 8 = .ok (.iaload, 1) := by decide +kernel
theorem d_method_2_9 : decode method_2_code 9 = .ok (.iload_n 2, 1) := by decide +kernel
theorem d_method_2_10 : decode method_2_code 10 = .ok (.if_icmp .ne 7, 3) := by decide +kernel
theorem d_method_2_13 : decode method_2_code 13 = .ok (.iconst 1, 1) := by decide +kernel
theorem d_method_2_14 : decode method_2_code 14 = .ok (.goto 4, 3) := by decide +kernel
theorem d_method_2_18 : decode method_2_code 18 = .ok (.ireturn, 1) := by decide +kernel
set_option maxRecDepth 65536 in
set_option maxHeartbeats 40000000 in
theorem rmA (l : Launch) (Z : State) (a0 : Array Value) (hw : ∀ d ∈ tables_1, d.before a0 Z = true) (ws : List Jvm.Cond) (b : Addr) (ix : Int32) (wt : Int32) (kB : ClassId) (pl : Int32) (xs : List Int32) (h0 : Heap) (n0 : Nat) (Z0 : n0 ≤ h0.size) (VB : Arv Z h0 b kB .int pl (xs.map Value.int) (.int 0)) (h1 : ¬ ix < 0) (h2 : ¬ ix < pl ∨ own_g xs ix = wt) :
    MetFree l (⟨"com/example/weir/weir/model/HeldTasksColumnPinLaw", "at", "([III)Z"⟩ : MethodName) (head1 (Jvm.Cond.code (⟨"com/example/weir/weir/model/HeldTasksColumnPinLaw", "at", "([III)Z"⟩ : MethodName) method_2_code 3 (some .boolean) :: ws) ({ frames := 0, cells := 0, slots := 0, locals := 0 } : Room)) (fun a_ U_ => a_ = #[(.ref b), (.int ix), (.int wt)] ∧ Z.Warmed39 U_.vm ∧ U_.heap = h0) (fun _ _ _ _ _ => True) (fun _ U_ o_ E_ => ∃ v_ L_, o_ = .returned v_ ∧ QA Z b ix wt kB pl xs h0 n0 v_ E_.heap L_ ∧ FrameEnd U_ o_ E_ L_ ({ frames := 0, cells := 0, slots := 0, locals := 0 } : Room).cells ({ frames := 0, cells := 0, slots := 0, locals := 0 } : Room).slots) := by
  refine MetFree.of_bodySF (plainFor_of_name pn_HeldTasksColumnPinLaw) hisR ?_
  intro p e s m args below meth c s₁ Bd hml0 hP hK
  obtain ⟨rfl, hZ, hh⟩ := hP
  have hx := Bd.exec
  have hby := Bd.bytes
  have hml : c.maxLocals = 3 := hml0
  have hown : s.vm.findClass "com/example/weir/weir/model/HeldTasksColumnPinLaw" = some m.cls := findClass_of_methodNamed Bd.named
  have hnm := (name_of_methodNamed Bd.named Bd.method).1
  have X0 : Stand p l e ({ frames := 0, cells := 0, slots := 0, locals := 0 } : Room) s m #[(.ref b), (.int ix), (.int wt)] below meth c s₁ [] 0 0 := Stand.of_body Bd
  have e0 : s₁.heap = h0 := by rw [← hh, Bd.state]; rfl
  have N0 := Fr.nil n0
  have Zn := Z0
  have pre0 : ∀ t, Steps p.tables e below (s₁.setTop (mkF m 0 #[.val (.ref b), .val (.int ix), .val (.int wt)] [])) t → Steps p.tables e below (s₁.setTop (entryFrame m #[(.ref b), (.int ix), (.int wt)] 3)) t := fun t q => castTop (ef_A m b ix wt) q
  have k0 : ∀ t, Steps p.tables e below (s₁.setTop (mkF m 0 #[.val (.ref b), .val (.int ix), .val (.int wt)] [])) t → Steps p.tables e below (s₁.setTop (mkF m 0 #[.val (.ref b), .val (.int ix), .val (.int wt)] [])) t := fun t q => q
  obtain ⟨cl1, Ar1, q1, S1, M1, H1, G1⟩ := id VB
  have k2_ : ∀ t, Steps p.tables e below (s₁.setTop (mkF m 3 #[.val (.ref b), .val (.int ix), .val (.int wt)] [(.int pl), (.int ix)])) t → Steps p.tables e below (s₁.setTop (mkF m 0 #[.val (.ref b), .val (.int ix), .val (.int wt)] [])) t := by
    intro t q
    refine k0 _ ?_
    show Steps p.tables e below (s₁.setTop (mkF m 0 #[.val (.ref b), .val (.int ix), .val (.int wt)] [])) _
    refine XS.iloadN X0.here hx rfl (hb hby d_method_2_0) rfl ?_
    show Steps p.tables e below (s₁.setTop (mkF m 1 #[.val (.ref b), .val (.int ix), .val (.int wt)] [(.int ix)])) _
    refine XS.aloadN X0.here hx rfl (hb hby d_method_2_1) rfl rfl ?_
    show Steps p.tables e below (s₁.setTop (mkF m 2 #[.val (.ref b), .val (.int ix), .val (.int wt)] [(.ref b), (.int ix)])) _
    refine X0.arraylength hx (by rw [e0]; exact Ar1.1) (State.isArrayOf_alike hZ.alike Ar1.2.1) (g := (mkF m 2 #[.val (.ref b), .val (.int ix), .val (.int wt)] [(.ref b), (.int ix)])) rfl rfl (hb hby d_method_2_2) _ ?_
    rw [len_of S1 M1]
    show Steps p.tables e below (s₁.setTop (mkF m 3 #[.val (.ref b), .val (.int ix), .val (.int wt)] [(.int pl), (.int ix)])) _
    exact q
  by_cases hca : ix < pl
  · have k3_ : ∀ t, Steps p.tables e below (s₁.setTop (mkF m 6 #[.val (.ref b), .val (.int ix), .val (.int wt)] [])) t → Steps p.tables e below (s₁.setTop (mkF m 0 #[.val (.ref b), .val (.int ix), .val (.int wt)] [])) t := by
      intro t q
      refine k2_ _ ?_
      show Steps p.tables e below (s₁.setTop (mkF m 3 #[.val (.ref b), .val (.int ix), .val (.int wt)] [(.int pl), (.int ix)])) _
      refine XS.icmpNo X0.here hx rfl (hb hby d_method_2_3) rfl (tlt hca).2.1 ?_
      show Steps p.tables e below (s₁.setTop (mkF m 6 #[.val (.ref b), .val (.int ix), .val (.int wt)] [])) _
      exact q
    obtain ⟨cl4, Ar4, q4, S4, M4, H4, G4⟩ := id VB
    have k5_ : ∀ t, Steps p.tables e below (s₁.setTop (mkF m 10 #[.val (.ref b), .val (.int ix), .val (.int wt)] [(.int wt), (.int (own_g xs ix))])) t → Steps p.tables e below (s₁.setTop (mkF m 0 #[.val (.ref b), .val (.int ix), .val (.int wt)] [])) t := by
      intro t q
      refine k3_ _ ?_
      show Steps p.tables e below (s₁.setTop (mkF m 6 #[.val (.ref b), .val (.int ix), .val (.int wt)] [])) _
      refine XS.aloadN X0.here hx rfl (hb hby d_method_2_6) rfl rfl ?_
      show Steps p.tables e below (s₁.setTop (mkF m 7 #[.val (.ref b), .val (.int ix), .val (.int wt)] [(.ref b)])) _
      refine XS.iloadN X0.here hx rfl (hb hby d_method_2_7) rfl ?_
      show Steps p.tables e below (s₁.setTop (mkF m 8 #[.val (.ref b), .val (.int ix), .val (.int wt)] [(.int ix), (.ref b)])) _
      refine X0.iaload hx (j := ix) (v := (.int (own_g xs ix))) (by rw [e0]; exact Ar4.1) (State.isArrayOf_alike hZ.alike Ar4.2.1) Ar4.2.2 (inb_of S4 ⟨h1, hca⟩) (Has.at H4 (inb_of S4 ⟨h1, hca⟩) (own_gd _ _)) (g := (mkF m 8 #[.val (.ref b), .val (.int ix), .val (.int wt)] [(.int ix), (.ref b)])) rfl rfl (hb hby d_method_2_8) _ ?_
      show Steps p.tables e below (s₁.setTop (mkF m 9 #[.val (.ref b), .val (.int ix), .val (.int wt)] [(.int (own_g xs ix))])) _
      refine XS.iloadN X0.here hx rfl (hb hby d_method_2_9) rfl ?_
      show Steps p.tables e below (s₁.setTop (mkF m 10 #[.val (.ref b), .val (.int ix), .val (.int wt)] [(.int wt), (.int (own_g xs ix))])) _
      exact q
    have k6_ : ∀ t, Steps p.tables e below (s₁.setTop (mkF m 13 #[.val (.ref b), .val (.int ix), .val (.int wt)] [])) t → Steps p.tables e below (s₁.setTop (mkF m 0 #[.val (.ref b), .val (.int ix), .val (.int wt)] [])) t := by
      intro t q
      refine k5_ _ ?_
      show Steps p.tables e below (s₁.setTop (mkF m 10 #[.val (.ref b), .val (.int ix), .val (.int wt)] [(.int wt), (.int (own_g xs ix))])) _
      refine XS.icmpNo X0.here hx rfl (hb hby d_method_2_10) rfl (teq (h2.resolve_left (fun z => z hca))).2 ?_
      show Steps p.tables e below (s₁.setTop (mkF m 13 #[.val (.ref b), .val (.int ix), .val (.int wt)] [])) _
      exact q
    have k7_ : ∀ t, Steps p.tables e below (s₁.setTop (mkF m 18 #[.val (.ref b), .val (.int ix), .val (.int wt)] [(.int (1 : Int32))])) t → Steps p.tables e below (s₁.setTop (mkF m 0 #[.val (.ref b), .val (.int ix), .val (.int wt)] [])) t := by
      intro t q
      refine k6_ _ ?_
      show Steps p.tables e below (s₁.setTop (mkF m 13 #[.val (.ref b), .val (.int ix), .val (.int wt)] [])) _
      refine XS.iconst X0.here hx rfl (hb hby d_method_2_13) ?_
      show Steps p.tables e below (s₁.setTop (mkF m 14 #[.val (.ref b), .val (.int ix), .val (.int wt)] [(.int (1 : Int32))])) _
      refine XS.goto X0.here hx rfl (pc0 := 14) (pc' := 18) rfl (hb hby d_method_2_14) (by decide) (by decide) ?_
      show Steps p.tables e below (s₁.setTop (mkF m 18 #[.val (.ref b), .val (.int ix), .val (.int wt)] [(.int (1 : Int32))])) _
      exact q
    obtain ⟨fs, hr, hrun, hended, hW, hsame⟩ := X0.leave (v := some (.int (1 : Int32))) (fun h => by rw [Bd.returns] at h; cases h)
    refine ⟨_, _, pre0 _ (k7_ _ ?_), hrun, hended, _, _, rfl, ?_, ⟨_, rfl⟩, hW, hsame.mono (by decide) (by decide)⟩
    · show Steps p.tables e below (s₁.setTop (mkF m 18 #[.val (.ref b), .val (.int ix), .val (.int wt)] [(.int (1 : Int32))])) _
      exact retN X0 hx (t := .boolean) Bd.returns (by simp) (hb hby d_method_2_18) hr
    · show QA Z b ix wt kB pl xs h0 n0 _ s₁.heap _
      rw [e0]
      exact ⟨rfl, N0, rfl⟩
  · have k8_ : ∀ t, Steps p.tables e below (s₁.setTop (mkF m 13 #[.val (.ref b), .val (.int ix), .val (.int wt)] [])) t → Steps p.tables e below (s₁.setTop (mkF m 0 #[.val (.ref b), .val (.int ix), .val (.int wt)] [])) t := by
      intro t q
      refine k2_ _ ?_
      show Steps p.tables e below (s₁.setTop (mkF m 3 #[.val (.ref b), .val (.int ix), .val (.int wt)] [(.int pl), (.int ix)])) _
      refine XS.icmpYes X0.here hx rfl (pc0 := 3) (pc' := 13) rfl (hb hby d_method_2_3) rfl (flt hca).2.1 (by decide) (by decide) ?_
      show Steps p.tables e below (s₁.setTop (mkF m 13 #[.val (.ref b), .val (.int ix), .val (.int wt)] [])) _
      exact q
    have k9_ : ∀ t, Steps p.tables e below (s₁.setTop (mkF m 18 #[.val (.ref b), .val (.int ix), .val (.int wt)] [(.int (1 : Int32))])) t → Steps p.tables e below (s₁.setTop (mkF m 0 #[.val (.ref b), .val (.int ix), .val (.int wt)] [])) t := by
      intro t q
      refine k8_ _ ?_
      show Steps p.tables e below (s₁.setTop (mkF m 13 #[.val (.ref b), .val (.int ix), .val (.int wt)] [])) _
      refine XS.iconst X0.here hx rfl (hb hby d_method_2_13) ?_
      show Steps p.tables e below (s₁.setTop (mkF m 14 #[.val (.ref b), .val (.int ix), .val (.int wt)] [(.int (1 : Int32))])) _
      refine XS.goto X0.here hx rfl (pc0 := 14) (pc' := 18) rfl (hb hby d_method_2_14) (by decide) (by decide) ?_
      show Steps p.tables e below (s₁.setTop (mkF m 18 #[.val (.ref b), .val (.int ix), .val (.int wt)] [(.int (1 : Int32))])) _
      exact q
    obtain ⟨fs, hr, hrun, hended, hW, hsame⟩ := X0.leave (v := some (.int (1 : Int32))) (fun h => by rw [Bd.returns] at h; cases h)
    refine ⟨_, _, pre0 _ (k9_ _ ?_), hrun, hended, _, _, rfl, ?_, ⟨_, rfl⟩, hW, hsame.mono (by decide) (by decide)⟩
    · show Steps p.tables e below (s₁.setTop (mkF m 18 #[.val (.ref b), .val (.int ix), .val (.int wt)] [(.int (1 : Int32))])) _
      exact retN X0 hx (t := .boolean) Bd.returns (by simp) (hb hby d_method_2_18) hr
    · show QA Z b ix wt kB pl xs h0 n0 _ s₁.heap _
      rw [e0]
      exact ⟨rfl, N0, rfl⟩
def Q0 (Z : State) (p0 : Int32) (p1 : Int32) (p2 : Int32) (p3 : Int32) (p4 : Int32) (h0 : Heap) (n0 : Nat) (v : Option Value) (h : Heap) (L : List Loc) : Prop := v = some (.int 1) ∧ Fr n0 L
theorem ef_0 (m : MethodId) (x0 : Int32) (x1 : Int32) (x2 : Int32) (x3 : Int32) (x4 : Int32) : entryFrame m #[(.int x0), (.int x1), (.int x2), (.int x3), (.int x4)] maxLocals = mkF m 0 #[.val (.int x0), .val (.int x1), .val (.int x2), .val (.int x3), .val (.int x4), .unset, .unset, .unset, .unset, .unset, .unset, .unset, .unset, .unset, .unset, .unset, .unset, .unset, .unset, .unset, .unset, .unset, .unset, .unset, .unset, .unset] [] := by first | (simp [entryFrame, mkF, argsToLocals, Value.category, maxLocals]; done) | rfl
theorem pd_3597 : parseMethodDescriptor "(II)[I" = some ⟨[.int, .int], some (.array .int)⟩ := by decide +kernel
theorem pd_69762 : parseMethodDescriptor "([III)Z" = some ⟨[(.array .int), .int, .int], some .boolean⟩ := by decide +kernel
set_option maxRecDepth 65536 in
set_option maxHeartbeats 40000000 in
theorem rm0 (l : Launch) (Z : State) (a0 : Array Value) (hw : ∀ d ∈ tables_1, d.before a0 Z = true) (ws : List Jvm.Cond) (p0 : Int32) (p1 : Int32) (p2 : Int32) (p3 : Int32) (p4 : Int32) (h0 : Heap) (n0 : Nat) (Z0 : n0 ≤ h0.size) :
    MetFree l x (head1 (Jvm.Cond.code x code maxLocals ret :: ws) room_1) (fun a_ U_ => a_ = #[(.int p0), (.int p1), (.int p2), (.int p3), (.int p4)] ∧ Z.Warmed39 U_.vm ∧ U_.heap = h0) (fun _ _ _ _ _ => True) (fun _ U_ o_ E_ => ∃ v_ L_, o_ = .returned v_ ∧ Q0 Z p0 p1 p2 p3 p4 h0 n0 v_ E_.heap L_ ∧ FrameEnd U_ o_ E_ L_ room_1.cells room_1.slots) := by
  refine MetFree.of_bodySF (plainFor_of_name pn_HeldTasksColumnPinLaw) hisR ?_
  intro p e s m args below meth c s₁ Bd hml0 hP hK
  obtain ⟨rfl, hZ, hh⟩ := hP
  have hx := Bd.exec
  have hby := Bd.bytes
  have hml : c.maxLocals = 26 := hml0
  have hown : s.vm.findClass "com/example/weir/weir/model/HeldTasksColumnPinLaw" = some m.cls := findClass_of_methodNamed Bd.named
  have hnm := (name_of_methodNamed Bd.named Bd.method).1
  have X0 : Stand p l e room_1 s m #[(.int p0), (.int p1), (.int p2), (.int p3), (.int p4)] below meth c s₁ [] 0 0 := Stand.of_body Bd
  have e0 : s₁.heap = h0 := by rw [← hh, Bd.state]; rfl
  have N0 := Fr.nil n0
  have Zn := Z0
  have pre0 : ∀ t, Steps p.tables e below (s₁.setTop (mkF m 0 #[.val (.int p0), .val (.int p1), .val (.int p2), .val (.int p3), .val (.int p4), .unset, .unset, .unset, .unset, .unset, .unset, .unset, .unset, .unset, .unset, .unset, .unset, .unset, .unset, .unset, .unset, .unset, .unset, .unset, .unset, .unset] [])) t → Steps p.tables e below (s₁.setTop (entryFrame m #[(.int p0), (.int p1), (.int p2), (.int p3), (.int p4)] maxLocals)) t := fun t q => castTop (ef_0 m p0 p1 p2 p3 p4) q
  have k0 : ∀ t, Steps p.tables e below (s₁.setTop (mkF m 0 #[.val (.int p0), .val (.int p1), .val (.int p2), .val (.int p3), .val (.int p4), .unset, .unset, .unset, .unset, .unset, .unset, .unset, .unset, .unset, .unset, .unset, .unset, .unset, .unset, .unset, .unset, .unset, .unset, .unset, .unset, .unset] [])) t → Steps p.tables e below (s₁.setTop (mkF m 0 #[.val (.int p0), .val (.int p1), .val (.int p2), .val (.int p3), .val (.int p4), .unset, .unset, .unset, .unset, .unset, .unset, .unset, .unset, .unset, .unset, .unset, .unset, .unset, .unset, .unset, .unset, .unset, .unset, .unset, .unset, .unset] [])) t := fun t q => q
  obtain ⟨T1, h1, X1, e1, E1, A1, D1, -, st1⟩ := newO X0 hx hZ hown (hw _ (List.mem_of_getElem? (i := 0) rfl)) (hw _ (List.mem_of_getElem? (i := 1) rfl)) (hw _ (List.mem_of_getElem? (i := 2) rfl)) e0 (g := (mkF m 0 #[.val (.int p0), .val (.int p1), .val (.int p2), .val (.int p3), .val (.int p4), .unset, .unset, .unset, .unset, .unset, .unset, .unset, .unset, .unset, .unset, .unset, .unset, .unset, .unset, .unset, .unset, .unset, .unset, .unset, .unset, .unset] [])) rfl (hb hby at_0) (by decide) (by decide)
  obtain ⟨b1, g1⟩ : ∃ z, z = h0.size := ⟨_, rfl⟩
  rw [← g1] at A1 D1 st1
  have k2_ : ∀ t, Steps p.tables e below (T1.setTop (mkF m 3 #[.val (.int p0), .val (.int p1), .val (.int p2), .val (.int p3), .val (.int p4), .unset, .unset, .unset, .unset, .unset, .unset, .unset, .unset, .unset, .unset, .unset, .unset, .unset, .unset, .unset, .unset, .unset, .unset, .unset, .unset, .unset] [(.ref b1)])) t → Steps p.tables e below (s₁.setTop (mkF m 0 #[.val (.int p0), .val (.int p1), .val (.int p2), .val (.int p3), .val (.int p4), .unset, .unset, .unset, .unset, .unset, .unset, .unset, .unset, .unset, .unset, .unset, .unset, .unset, .unset, .unset, .unset, .unset, .unset, .unset, .unset, .unset] [])) t := fun t q => k0 t (st1 t q)
  have F_byNode : Fld Z h1 b1 "com/example/weir/weir/model/HeldTasks" "byNode" "[Lcom/example/weir/weir/model/HeldTasks$Counts;" .null := D1 (Or.inr (hw _ (List.mem_of_getElem? (i := 12) rfl))) (ty := (.array (.object "com/example/weir/weir/model/HeldTasks$Counts"))) (by decide)
  have F_byPlace : Fld Z h1 b1 "com/example/weir/weir/model/HeldTasks" "byPlace" "[Lcom/example/weir/weir/model/HeldTasks$Counts;" .null := D1 (Or.inr (hw _ (List.mem_of_getElem? (i := 14) rfl))) (ty := (.array (.object "com/example/weir/weir/model/HeldTasks$Counts"))) (by decide)
  have goh : n0 ≤ b1 := Nat.le_trans Zn (Nat.le_of_eq g1.symm)
  replace Zn := Nat.le_trans Zn E1.1
  have loh := A1.lt
  have k3_ : ∀ t, Steps p.tables e below (T1.setTop (mkF m 6 #[.val (.int p0), .val (.int p1), .val (.int p2), .val (.int p3), .val (.int p4), .unset, .unset, .unset, .unset, .unset, .unset, .unset, .unset, .unset, .unset, .unset, .unset, .unset, .unset, .unset, .unset, .unset, .unset, .unset, .unset, .unset] [(.int (4 : Int32)), (.int (2 : Int32)), (.ref b1), (.ref b1)])) t → Steps p.tables e below (s₁.setTop (mkF m 0 #[.val (.int p0), .val (.int p1), .val (.int p2), .val (.int p3), .val (.int p4), .unset, .unset, .unset, .unset, .unset, .unset, .unset, .unset, .unset, .unset, .unset, .unset, .unset, .unset, .unset, .unset, .unset, .unset, .unset, .unset, .unset] [])) t := by
    intro t q
    refine k2_ _ ?_
    show Steps p.tables e below (T1.setTop (mkF m 3 #[.val (.int p0), .val (.int p1), .val (.int p2), .val (.int p3), .val (.int p4), .unset, .unset, .unset, .unset, .unset, .unset, .unset, .unset, .unset, .unset, .unset, .unset, .unset, .unset, .unset, .unset, .unset, .unset, .unset, .unset, .unset] [(.ref b1)])) _
    refine XS.dup X1.here hx rfl (hb hby at_3) rfl rfl ?_
    refine XS.iconst X1.here hx rfl (hb hby at_4) ?_
    refine XS.iconst X1.here hx rfl (hb hby at_5) ?_
    show Steps p.tables e below (T1.setTop (mkF m 6 #[.val (.int p0), .val (.int p1), .val (.int p2), .val (.int p3), .val (.int p4), .unset, .unset, .unset, .unset, .unset, .unset, .unset, .unset, .unset, .unset, .unset, .unset, .unset, .unset, .unset, .unset, .unset, .unset, .unset, .unset, .unset] [(.int (4 : Int32)), (.int (2 : Int32)), (.ref b1), (.ref b1)])) _
    exact q
  obtain ⟨_, _, ⟨T4, L4, kk4, n4⟩, -, X4, ⟨Lc4, hQ4, l4, y4, z4⟩, st4⟩ := X1.specialBack hx (y := (⟨"com/example/weir/weir/model/HeldTasks", "<init>", "(II)V"⟩ : MethodName)) rfl hown (mvT hZ (hw _ (List.mem_of_getElem? (i := 3) rfl))) (mvT hZ (hw _ (List.mem_of_getElem? (i := 4) rfl))) (mvT hZ (hw _ (List.mem_of_getElem? (i := 5) rfl))) (by decide) (backOf (W := 1) (rmN l Z a0 hw [] b1 h1 n0 Zn A1 F_byNode F_byPlace goh) hZ (hw _ (List.mem_of_getElem? (i := 5) rfl)) (hw _ (List.mem_of_getElem? (i := 2) rfl)) (by decide) (by decide)) (g := (mkF m 6 #[.val (.int p0), .val (.int p1), .val (.int p2), .val (.int p3), .val (.int p4), .unset, .unset, .unset, .unset, .unset, .unset, .unset, .unset, .unset, .unset, .unset, .unset, .unset, .unset, .unset, .unset, .unset, .unset, .unset, .unset, .unset] [(.int (4 : Int32)), (.int (2 : Int32)), (.ref b1), (.ref b1)])) rfl (by rw [hml]; rfl) (Steps.refl _) (a := b1) (argsL := [(.int (2 : Int32)), (.int (4 : Int32))]) (rest := [(.ref b1)]) (lenOf pd_90433 rfl) rfl (by show 2 * 0 + _ ≤ _; exact Nat.le_of_eq rfl) (hb hby at_6) (fun _ _ => ⟨rfl, e1, (by decide : 0 + 1 + 2 ≤ _), (by decide : 0 + 2 + 6 ≤ _)⟩)
  dsimp only [Pt.U, Pt.locs, Pt.cells, Pt.slots] at X4 l4 y4 z4 st4 hQ4
  rw [l4, y4, z4] at X4
  obtain ⟨rfl, Nq4, nb, pb, kn, kp, EH, FN, FP, VN, ON, VP, OP, znb, zpb, nnp, SZ⟩ := hQ4
  have N4 := Fr.app N0 Nq4
  have k5_ : ∀ t, Steps p.tables e below (T4.setTop (mkF m 9 #[.val (.int p0), .val (.int p1), .val (.int p2), .val (.int p3), .val (.int p4), .unset, .unset, .unset, .unset, .unset, .unset, .unset, .unset, .unset, .unset, .unset, .unset, .unset, .unset, .unset, .unset, .unset, .unset, .unset, .unset, .unset] [(.ref b1)])) t → Steps p.tables e below (s₁.setTop (mkF m 0 #[.val (.int p0), .val (.int p1), .val (.int p2), .val (.int p3), .val (.int p4), .unset, .unset, .unset, .unset, .unset, .unset, .unset, .unset, .unset, .unset, .unset, .unset, .unset, .unset, .unset, .unset, .unset, .unset, .unset, .unset, .unset] [])) t := fun t q => k3_ t (st4.trans q)
  have n1 : nb ≠ b1 := Ne.symm (Nat.ne_of_lt (Nat.lt_of_lt_of_le loh znb))
  have n2 : pb ≠ b1 := Ne.symm (Nat.ne_of_lt (Nat.lt_of_lt_of_le loh zpb))
  obtain ⟨w0, hw0⟩ : ∃ z : Addr → Nat, z = fun x => if x = b1 then 6 else if x = nb then 7 else if x = pb then 8 else 9 := ⟨_, rfl⟩
  obtain ⟨G0, hG0⟩ : ∃ z : Nat → Int32 → Int32, z = fun _ _ => 0 := ⟨_, rfl⟩
  have I0 : own_I Z n0 T4.heap b1 nb pb (fun _ => none) w0 G0 := ⟨EH, FN, FP, ⟨kn, VN, ON⟩, ⟨kp, VP, OP⟩, (fun _ _ _ z => by simp at z), fun _ _ _ _ => by rw [hG0], ⟨by rw [hw0]; exact if_pos rfl, by rw [hw0]; show (if nb = b1 then 6 else if nb = nb then 7 else if nb = pb then 8 else 9) = 7; rw [if_neg n1, if_pos rfl], by rw [hw0]; show (if pb = b1 then 6 else if pb = nb then 7 else if pb = pb then 8 else 9) = 8; rw [if_neg n2, if_neg (Ne.symm nnp), if_pos rfl]⟩, goh, Nat.le_trans Zn znb, Nat.le_trans Zn zpb⟩
  replace Zn := Nat.le_trans Zn SZ
  have l1 := VN.lt
  have l2 := VP.lt
  have l0 := EH.lt
  have k6_ : ∀ t, Steps p.tables e below (T4.setTop (mkF m 13 #[.val (.int p0), .val (.int p1), .val (.int p2), .val (.int p3), .val (.int p4), .val (.ref b1), .unset, .unset, .unset, .unset, .unset, .unset, .unset, .unset, .unset, .unset, .unset, .unset, .unset, .unset, .unset, .unset, .unset, .unset, .unset, .unset] [(.int (8 : Int32))])) t → Steps p.tables e below (s₁.setTop (mkF m 0 #[.val (.int p0), .val (.int p1), .val (.int p2), .val (.int p3), .val (.int p4), .unset, .unset, .unset, .unset, .unset, .unset, .unset, .unset, .unset, .unset, .unset, .unset, .unset, .unset, .unset, .unset, .unset, .unset, .unset, .unset, .unset] [])) t := by
    intro t q
    refine k5_ _ ?_
    show Steps p.tables e below (T4.setTop (mkF m 9 #[.val (.int p0), .val (.int p1), .val (.int p2), .val (.int p3), .val (.int p4), .unset, .unset, .unset, .unset, .unset, .unset, .unset, .unset, .unset, .unset, .unset, .unset, .unset, .unset, .unset, .unset, .unset, .unset, .unset, .unset, .unset] [(.ref b1)])) _
    refine XS.astore X4.here hx rfl (hb hby at_9) rfl rfl (l' := #[.val (.int p0), .val (.int p1), .val (.int p2), .val (.int p3), .val (.int p4), .val (.ref b1), .unset, .unset, .unset, .unset, .unset, .unset, .unset, .unset, .unset, .unset, .unset, .unset, .unset, .unset, .unset, .unset, .unset, .unset, .unset, .unset]) rfl ?_
    refine XS.bipush X4.here hx rfl (hb hby at_11) ?_
    show Steps p.tables e below (T4.setTop (mkF m 13 #[.val (.int p0), .val (.int p1), .val (.int p2), .val (.int p3), .val (.int p4), .val (.ref b1), .unset, .unset, .unset, .unset, .unset, .unset, .unset, .unset, .unset, .unset, .unset, .unset, .unset, .unset, .unset, .unset, .unset, .unset, .unset, .unset] [(.int (8 : Int32))])) _
    exact q
  obtain ⟨T7, h7, c7, X7, e7, E7, A7, st7⟩ := newP X4 hx hZ (hw _ (List.mem_of_getElem? (i := 15) rfl)) rfl (g := (mkF m 13 #[.val (.int p0), .val (.int p1), .val (.int p2), .val (.int p3), .val (.int p4), .val (.ref b1), .unset, .unset, .unset, .unset, .unset, .unset, .unset, .unset, .unset, .unset, .unset, .unset, .unset, .unset, .unset, .unset, .unset, .unset, .unset, .unset] [(.int (8 : Int32))])) rfl (hb hby at_13) rfl (by decide) (cap := 8) (by decide) (by decide) (by decide) (by decide)
  obtain ⟨b7, g7⟩ : ∃ z, z = T4.heap.size := ⟨_, rfl⟩
  rw [← g7] at A7 st7
  have k8_ : ∀ t, Steps p.tables e below (T7.setTop (mkF m 15 #[.val (.int p0), .val (.int p1), .val (.int p2), .val (.int p3), .val (.int p4), .val (.ref b1), .unset, .unset, .unset, .unset, .unset, .unset, .unset, .unset, .unset, .unset, .unset, .unset, .unset, .unset, .unset, .unset, .unset, .unset, .unset, .unset] [(.ref b7)])) t → Steps p.tables e below (s₁.setTop (mkF m 0 #[.val (.int p0), .val (.int p1), .val (.int p2), .val (.int p3), .val (.int p4), .unset, .unset, .unset, .unset, .unset, .unset, .unset, .unset, .unset, .unset, .unset, .unset, .unset, .unset, .unset, .unset, .unset, .unset, .unset, .unset, .unset] [])) t := fun t q => k6_ t (st7 t q)
  have g_b7 : n0 ≤ b7 := Nat.le_trans Zn (Nat.le_of_eq g7.symm)
  replace Zn := Nat.le_trans Zn E7.1
  have V_b7 : Arv Z h7 b7 c7 .int (8 : Int32) [(.int (0 : Int32)), (.int (0 : Int32)), (.int (0 : Int32)), (.int (0 : Int32)), (.int (0 : Int32)), (.int (0 : Int32)), (.int (0 : Int32)), (.int (0 : Int32))] (.int (0 : Int32)) := (Arv.new A7 (by decide)).pad (pad_rep [] (.int (0 : Int32)) 8)
  replace I0 := own_I_keep I0 ((Keep.refl _ []).ext E7) (fun x hx => nomatch hx)
  have VM : Arv Z h7 b7 c7 .int (8 : Int32) (([0, 0, 0, 0, 0, 0, 0, 0] : List Int32).map Value.int) (.int 0) := V_b7
  have w9 : w0 b7 = 9 := by rw [hw0]; show (if b7 = b1 then 6 else if b7 = nb then 7 else if b7 = pb then 8 else 9) = 9; rw [if_neg (Ne.symm (Nat.ne_of_lt (Nat.lt_of_lt_of_le l0 (Nat.le_of_eq g7.symm)))), if_neg (Ne.symm (Nat.ne_of_lt (Nat.lt_of_lt_of_le l1 (Nat.le_of_eq g7.symm)))), if_neg (Ne.symm (Nat.ne_of_lt (Nat.lt_of_lt_of_le l2 (Nat.le_of_eq g7.symm))))]
  have Con0 : own_Con G0 := fun _ _ _ _ => by rw [hG0]
  obtain ⟨ms0, hms0⟩ : ∃ z : List Int32, z = [0, 0, 0, 0, 0, 0, 0, 0] := ⟨_, rfl⟩
  rw [← hms0] at VM
  have M0 : own_M G0 ms0 := by rw [hms0, hG0]; exact own_M_0
  have B0 : own_B G0 0 := fun _ _ _ _ => by rw [hG0]; exact ⟨(by decide : (0 : Int) ≤ (0 : Int32).toInt), (by decide : (0 : Int32).toInt ≤ (0 : Int))⟩
  obtain ⟨O0, hO0⟩ : ∃ z : Nat → Option own_Ob, z = fun _ => none := ⟨_, rfl⟩
  rw [← hO0] at I0
  have k9_ : ∀ t, Steps p.tables e below (T7.setTop (mkF m 37 #[.val (.int p0), .val (.int p1), .val (.int p2), .val (.int p3), .val (.int p4), .val (.ref b1), .val (.ref b7), .val (.int (p0 &&& (1 : Int32))), .val (.int (((p0.toUInt32 >>> ((1 : Int32) &&& 31).toUInt32).toInt32) &&& (3 : Int32))), .val (.int (((p0.toUInt32 >>> ((3 : Int32) &&& 31).toUInt32).toInt32) &&& (268435455 : Int32))), .unset, .unset, .unset, .unset, .unset, .unset, .unset, .unset, .unset, .unset, .unset, .unset, .unset, .unset, .unset, .unset] [])) t → Steps p.tables e below (s₁.setTop (mkF m 0 #[.val (.int p0), .val (.int p1), .val (.int p2), .val (.int p3), .val (.int p4), .unset, .unset, .unset, .unset, .unset, .unset, .unset, .unset, .unset, .unset, .unset, .unset, .unset, .unset, .unset, .unset, .unset, .unset, .unset, .unset, .unset] [])) t := by
    intro t q
    refine k8_ _ ?_
    show Steps p.tables e below (T7.setTop (mkF m 15 #[.val (.int p0), .val (.int p1), .val (.int p2), .val (.int p3), .val (.int p4), .val (.ref b1), .unset, .unset, .unset, .unset, .unset, .unset, .unset, .unset, .unset, .unset, .unset, .unset, .unset, .unset, .unset, .unset, .unset, .unset, .unset, .unset] [(.ref b7)])) _
    refine XS.astore X7.here hx rfl (hb hby at_15) rfl rfl (l' := #[.val (.int p0), .val (.int p1), .val (.int p2), .val (.int p3), .val (.int p4), .val (.ref b1), .val (.ref b7), .unset, .unset, .unset, .unset, .unset, .unset, .unset, .unset, .unset, .unset, .unset, .unset, .unset, .unset, .unset, .unset, .unset, .unset, .unset]) rfl ?_
    refine XS.iloadN X7.here hx rfl (hb hby at_17) rfl ?_
    refine XS.iconst X7.here hx rfl (hb hby at_18) ?_
    show Steps p.tables e below (T7.setTop (mkF m 19 #[.val (.int p0), .val (.int p1), .val (.int p2), .val (.int p3), .val (.int p4), .val (.ref b1), .val (.ref b7), .unset, .unset, .unset, .unset, .unset, .unset, .unset, .unset, .unset, .unset, .unset, .unset, .unset, .unset, .unset, .unset, .unset, .unset, .unset] [(.int (1 : Int32)), (.int p0)])) _
    refine XS.iand X7.here hx rfl (hb hby at_19) rfl ?_
    refine XS.istore X7.here hx rfl (hb hby at_20) rfl (l' := #[.val (.int p0), .val (.int p1), .val (.int p2), .val (.int p3), .val (.int p4), .val (.ref b1), .val (.ref b7), .val (.int (p0 &&& (1 : Int32))), .unset, .unset, .unset, .unset, .unset, .unset, .unset, .unset, .unset, .unset, .unset, .unset, .unset, .unset, .unset, .unset, .unset, .unset]) rfl ?_
    refine XS.iloadN X7.here hx rfl (hb hby at_22) rfl ?_
    show Steps p.tables e below (T7.setTop (mkF m 23 #[.val (.int p0), .val (.int p1), .val (.int p2), .val (.int p3), .val (.int p4), .val (.ref b1), .val (.ref b7), .val (.int (p0 &&& (1 : Int32))), .unset, .unset, .unset, .unset, .unset, .unset, .unset, .unset, .unset, .unset, .unset, .unset, .unset, .unset, .unset, .unset, .unset, .unset] [(.int p0)])) _
    refine XS.iconst X7.here hx rfl (hb hby at_23) ?_
    refine XS.iushr X7.here hx rfl (hb hby at_24) rfl ?_
    refine XS.iconst X7.here hx rfl (hb hby at_25) ?_
    show Steps p.tables e below (T7.setTop (mkF m 26 #[.val (.int p0), .val (.int p1), .val (.int p2), .val (.int p3), .val (.int p4), .val (.ref b1), .val (.ref b7), .val (.int (p0 &&& (1 : Int32))), .unset, .unset, .unset, .unset, .unset, .unset, .unset, .unset, .unset, .unset, .unset, .unset, .unset, .unset, .unset, .unset, .unset, .unset] [(.int (3 : Int32)), (.int ((p0.toUInt32 >>> ((1 : Int32) &&& 31).toUInt32).toInt32))])) _
    refine XS.iand X7.here hx rfl (hb hby at_26) rfl ?_
    refine XS.istore X7.here hx rfl (hb hby at_27) rfl (l' := #[.val (.int p0), .val (.int p1), .val (.int p2), .val (.int p3), .val (.int p4), .val (.ref b1), .val (.ref b7), .val (.int (p0 &&& (1 : Int32))), .val (.int (((p0.toUInt32 >>> ((1 : Int32) &&& 31).toUInt32).toInt32) &&& (3 : Int32))), .unset, .unset, .unset, .unset, .unset, .unset, .unset, .unset, .unset, .unset, .unset, .unset, .unset, .unset, .unset, .unset, .unset]) rfl ?_
    refine XS.iloadN X7.here hx rfl (hb hby at_29) rfl ?_
    show Steps p.tables e below (T7.setTop (mkF m 30 #[.val (.int p0), .val (.int p1), .val (.int p2), .val (.int p3), .val (.int p4), .val (.ref b1), .val (.ref b7), .val (.int (p0 &&& (1 : Int32))), .val (.int (((p0.toUInt32 >>> ((1 : Int32) &&& 31).toUInt32).toInt32) &&& (3 : Int32))), .unset, .unset, .unset, .unset, .unset, .unset, .unset, .unset, .unset, .unset, .unset, .unset, .unset, .unset, .unset, .unset, .unset] [(.int p0)])) _
    refine XS.iconst X7.here hx rfl (hb hby at_30) ?_
    refine XS.iushr X7.here hx rfl (hb hby at_31) rfl ?_
    refine X7.ldcInt hx hown (mvT hZ (hw _ (List.mem_of_getElem? (i := 16) rfl))) (g := (mkF m 32 #[.val (.int p0), .val (.int p1), .val (.int p2), .val (.int p3), .val (.int p4), .val (.ref b1), .val (.ref b7), .val (.int (p0 &&& (1 : Int32))), .val (.int (((p0.toUInt32 >>> ((1 : Int32) &&& 31).toUInt32).toInt32) &&& (3 : Int32))), .unset, .unset, .unset, .unset, .unset, .unset, .unset, .unset, .unset, .unset, .unset, .unset, .unset, .unset, .unset, .unset, .unset] [(.int ((p0.toUInt32 >>> ((3 : Int32) &&& 31).toUInt32).toInt32))])) rfl (hb hby at_32) _ ?_
    show Steps p.tables e below (T7.setTop (mkF m 34 #[.val (.int p0), .val (.int p1), .val (.int p2), .val (.int p3), .val (.int p4), .val (.ref b1), .val (.ref b7), .val (.int (p0 &&& (1 : Int32))), .val (.int (((p0.toUInt32 >>> ((1 : Int32) &&& 31).toUInt32).toInt32) &&& (3 : Int32))), .unset, .unset, .unset, .unset, .unset, .unset, .unset, .unset, .unset, .unset, .unset, .unset, .unset, .unset, .unset, .unset, .unset] [(.int (268435455 : Int32)), (.int ((p0.toUInt32 >>> ((3 : Int32) &&& 31).toUInt32).toInt32))])) _
    refine XS.iand X7.here hx rfl (hb hby at_34) rfl ?_
    refine XS.istore X7.here hx rfl (hb hby at_35) rfl (l' := #[.val (.int p0), .val (.int p1), .val (.int p2), .val (.int p3), .val (.int p4), .val (.ref b1), .val (.ref b7), .val (.int (p0 &&& (1 : Int32))), .val (.int (((p0.toUInt32 >>> ((1 : Int32) &&& 31).toUInt32).toInt32) &&& (3 : Int32))), .val (.int (((p0.toUInt32 >>> ((3 : Int32) &&& 31).toUInt32).toInt32) &&& (268435455 : Int32))), .unset, .unset, .unset, .unset, .unset, .unset, .unset, .unset, .unset, .unset, .unset, .unset, .unset, .unset, .unset, .unset]) rfl ?_
    show Steps p.tables e below (T7.setTop (mkF m 37 #[.val (.int p0), .val (.int p1), .val (.int p2), .val (.int p3), .val (.int p4), .val (.ref b1), .val (.ref b7), .val (.int (p0 &&& (1 : Int32))), .val (.int (((p0.toUInt32 >>> ((1 : Int32) &&& 31).toUInt32).toInt32) &&& (3 : Int32))), .val (.int (((p0.toUInt32 >>> ((3 : Int32) &&& 31).toUInt32).toInt32) &&& (268435455 : Int32))), .unset, .unset, .unset, .unset, .unset, .unset, .unset, .unset, .unset, .unset, .unset, .unset, .unset, .unset, .unset, .unset] [])) _
    exact q
  obtain ⟨i0, h_i0, e_i0⟩ := own_msk p0 (1 : Int32) 1 2 (by decide) (by decide) (by decide) (by decide) (by decide)
  have k10_ : ∀ t, Steps p.tables e below (T7.setTop (mkF m 37 #[.val (.int p0), .val (.int p1), .val (.int p2), .val (.int p3), .val (.int p4), .val (.ref b1), .val (.ref b7), .val (.int (Int32.ofNat i0)), .val (.int (((p0.toUInt32 >>> ((1 : Int32) &&& 31).toUInt32).toInt32) &&& (3 : Int32))), .val (.int (((p0.toUInt32 >>> ((3 : Int32) &&& 31).toUInt32).toInt32) &&& (268435455 : Int32))), .unset, .unset, .unset, .unset, .unset, .unset, .unset, .unset, .unset, .unset, .unset, .unset, .unset, .unset, .unset, .unset] [])) t → Steps p.tables e below (s₁.setTop (mkF m 0 #[.val (.int p0), .val (.int p1), .val (.int p2), .val (.int p3), .val (.int p4), .unset, .unset, .unset, .unset, .unset, .unset, .unset, .unset, .unset, .unset, .unset, .unset, .unset, .unset, .unset, .unset, .unset, .unset, .unset, .unset, .unset] [])) t := fun t q => k9_ t (Eq.mp (congrArg (fun z => Steps p.tables e below (T7.setTop (mkF m 37 #[.val (.int p0), .val (.int p1), .val (.int p2), .val (.int p3), .val (.int p4), .val (.ref b1), .val (.ref b7), .val (.int z), .val (.int (((p0.toUInt32 >>> ((1 : Int32) &&& 31).toUInt32).toInt32) &&& (3 : Int32))), .val (.int (((p0.toUInt32 >>> ((3 : Int32) &&& 31).toUInt32).toInt32) &&& (268435455 : Int32))), .unset, .unset, .unset, .unset, .unset, .unset, .unset, .unset, .unset, .unset, .unset, .unset, .unset, .unset, .unset, .unset] [])) t) (show (Int32.ofNat i0) = (p0 &&& (1 : Int32)) from e_i0)) q)
  obtain ⟨j0, h_j0, e_j0⟩ := own_msk ((p0.toUInt32 >>> ((1 : Int32) &&& 31).toUInt32).toInt32) (3 : Int32) 2 4 (by decide) (by decide) (by decide) (by decide) (by decide)
  have k11_ : ∀ t, Steps p.tables e below (T7.setTop (mkF m 37 #[.val (.int p0), .val (.int p1), .val (.int p2), .val (.int p3), .val (.int p4), .val (.ref b1), .val (.ref b7), .val (.int (Int32.ofNat i0)), .val (.int (Int32.ofNat j0)), .val (.int (((p0.toUInt32 >>> ((3 : Int32) &&& 31).toUInt32).toInt32) &&& (268435455 : Int32))), .unset, .unset, .unset, .unset, .unset, .unset, .unset, .unset, .unset, .unset, .unset, .unset, .unset, .unset, .unset, .unset] [])) t → Steps p.tables e below (s₁.setTop (mkF m 0 #[.val (.int p0), .val (.int p1), .val (.int p2), .val (.int p3), .val (.int p4), .unset, .unset, .unset, .unset, .unset, .unset, .unset, .unset, .unset, .unset, .unset, .unset, .unset, .unset, .unset, .unset, .unset, .unset, .unset, .unset, .unset] [])) t := fun t q => k10_ t (Eq.mp (congrArg (fun z => Steps p.tables e below (T7.setTop (mkF m 37 #[.val (.int p0), .val (.int p1), .val (.int p2), .val (.int p3), .val (.int p4), .val (.ref b1), .val (.ref b7), .val (.int (Int32.ofNat i0)), .val (.int z), .val (.int (((p0.toUInt32 >>> ((3 : Int32) &&& 31).toUInt32).toInt32) &&& (268435455 : Int32))), .unset, .unset, .unset, .unset, .unset, .unset, .unset, .unset, .unset, .unset, .unset, .unset, .unset, .unset, .unset, .unset] [])) t) (show (Int32.ofNat j0) = (((p0.toUInt32 >>> ((1 : Int32) &&& 31).toUInt32).toInt32) &&& (3 : Int32)) from e_j0)) q)
  have bc0 := own_mb ((p0.toUInt32 >>> ((3 : Int32) &&& 31).toUInt32).toInt32)
  obtain ⟨x0, e_x0⟩ : ∃ z, z = (((p0.toUInt32 >>> ((3 : Int32) &&& 31).toUInt32).toInt32) &&& (268435455 : Int32)) := ⟨_, rfl⟩
  have k12_ : ∀ t, Steps p.tables e below (T7.setTop (mkF m 37 #[.val (.int p0), .val (.int p1), .val (.int p2), .val (.int p3), .val (.int p4), .val (.ref b1), .val (.ref b7), .val (.int (Int32.ofNat i0)), .val (.int (Int32.ofNat j0)), .val (.int x0), .unset, .unset, .unset, .unset, .unset, .unset, .unset, .unset, .unset, .unset, .unset, .unset, .unset, .unset, .unset, .unset] [])) t → Steps p.tables e below (s₁.setTop (mkF m 0 #[.val (.int p0), .val (.int p1), .val (.int p2), .val (.int p3), .val (.int p4), .unset, .unset, .unset, .unset, .unset, .unset, .unset, .unset, .unset, .unset, .unset, .unset, .unset, .unset, .unset, .unset, .unset, .unset, .unset, .unset, .unset] [])) t := by rw [e_x0]; exact k11_
  rw [← e_x0] at bc0
  have k13_ : ∀ t, Steps p.tables e below (T7.setTop (mkF m 57 #[.val (.int p0), .val (.int p1), .val (.int p2), .val (.int p3), .val (.int p4), .val (.ref b1), .val (.ref b7), .val (.int (Int32.ofNat i0)), .val (.int (Int32.ofNat j0)), .val (.int x0), .val (.int (p1 &&& (1 : Int32))), .val (.int (((p1.toUInt32 >>> ((1 : Int32) &&& 31).toUInt32).toInt32) &&& (3 : Int32))), .val (.int (((p1.toUInt32 >>> ((3 : Int32) &&& 31).toUInt32).toInt32) &&& (268435455 : Int32))), .unset, .unset, .unset, .unset, .unset, .unset, .unset, .unset, .unset, .unset, .unset, .unset, .unset] [])) t → Steps p.tables e below (s₁.setTop (mkF m 0 #[.val (.int p0), .val (.int p1), .val (.int p2), .val (.int p3), .val (.int p4), .unset, .unset, .unset, .unset, .unset, .unset, .unset, .unset, .unset, .unset, .unset, .unset, .unset, .unset, .unset, .unset, .unset, .unset, .unset, .unset, .unset] [])) t := by
    intro t q
    refine k12_ _ ?_
    show Steps p.tables e below (T7.setTop (mkF m 37 #[.val (.int p0), .val (.int p1), .val (.int p2), .val (.int p3), .val (.int p4), .val (.ref b1), .val (.ref b7), .val (.int (Int32.ofNat i0)), .val (.int (Int32.ofNat j0)), .val (.int x0), .unset, .unset, .unset, .unset, .unset, .unset, .unset, .unset, .unset, .unset, .unset, .unset, .unset, .unset, .unset, .unset] [])) _
    refine XS.iloadN X7.here hx rfl (hb hby at_37) rfl ?_
    refine XS.iconst X7.here hx rfl (hb hby at_38) ?_
    refine XS.iand X7.here hx rfl (hb hby at_39) rfl ?_
    show Steps p.tables e below (T7.setTop (mkF m 40 #[.val (.int p0), .val (.int p1), .val (.int p2), .val (.int p3), .val (.int p4), .val (.ref b1), .val (.ref b7), .val (.int (Int32.ofNat i0)), .val (.int (Int32.ofNat j0)), .val (.int x0), .unset, .unset, .unset, .unset, .unset, .unset, .unset, .unset, .unset, .unset, .unset, .unset, .unset, .unset, .unset, .unset] [(.int (p1 &&& (1 : Int32)))])) _
    refine XS.istore X7.here hx rfl (hb hby at_40) rfl (l' := #[.val (.int p0), .val (.int p1), .val (.int p2), .val (.int p3), .val (.int p4), .val (.ref b1), .val (.ref b7), .val (.int (Int32.ofNat i0)), .val (.int (Int32.ofNat j0)), .val (.int x0), .val (.int (p1 &&& (1 : Int32))), .unset, .unset, .unset, .unset, .unset, .unset, .unset, .unset, .unset, .unset, .unset, .unset, .unset, .unset, .unset]) rfl ?_
    refine XS.iloadN X7.here hx rfl (hb hby at_42) rfl ?_
    refine XS.iconst X7.here hx rfl (hb hby at_43) ?_
    show Steps p.tables e below (T7.setTop (mkF m 44 #[.val (.int p0), .val (.int p1), .val (.int p2), .val (.int p3), .val (.int p4), .val (.ref b1), .val (.ref b7), .val (.int (Int32.ofNat i0)), .val (.int (Int32.ofNat j0)), .val (.int x0), .val (.int (p1 &&& (1 : Int32))), .unset, .unset, .unset, .unset, .unset, .unset, .unset, .unset, .unset, .unset, .unset, .unset, .unset, .unset, .unset] [(.int (1 : Int32)), (.int p1)])) _
    refine XS.iushr X7.here hx rfl (hb hby at_44) rfl ?_
    refine XS.iconst X7.here hx rfl (hb hby at_45) ?_
    refine XS.iand X7.here hx rfl (hb hby at_46) rfl ?_
    show Steps p.tables e below (T7.setTop (mkF m 47 #[.val (.int p0), .val (.int p1), .val (.int p2), .val (.int p3), .val (.int p4), .val (.ref b1), .val (.ref b7), .val (.int (Int32.ofNat i0)), .val (.int (Int32.ofNat j0)), .val (.int x0), .val (.int (p1 &&& (1 : Int32))), .unset, .unset, .unset, .unset, .unset, .unset, .unset, .unset, .unset, .unset, .unset, .unset, .unset, .unset, .unset] [(.int (((p1.toUInt32 >>> ((1 : Int32) &&& 31).toUInt32).toInt32) &&& (3 : Int32)))])) _
    refine XS.istore X7.here hx rfl (hb hby at_47) rfl (l' := #[.val (.int p0), .val (.int p1), .val (.int p2), .val (.int p3), .val (.int p4), .val (.ref b1), .val (.ref b7), .val (.int (Int32.ofNat i0)), .val (.int (Int32.ofNat j0)), .val (.int x0), .val (.int (p1 &&& (1 : Int32))), .val (.int (((p1.toUInt32 >>> ((1 : Int32) &&& 31).toUInt32).toInt32) &&& (3 : Int32))), .unset, .unset, .unset, .unset, .unset, .unset, .unset, .unset, .unset, .unset, .unset, .unset, .unset, .unset]) rfl ?_
    refine XS.iloadN X7.here hx rfl (hb hby at_49) rfl ?_
    refine XS.iconst X7.here hx rfl (hb hby at_50) ?_
    show Steps p.tables e below (T7.setTop (mkF m 51 #[.val (.int p0), .val (.int p1), .val (.int p2), .val (.int p3), .val (.int p4), .val (.ref b1), .val (.ref b7), .val (.int (Int32.ofNat i0)), .val (.int (Int32.ofNat j0)), .val (.int x0), .val (.int (p1 &&& (1 : Int32))), .val (.int (((p1.toUInt32 >>> ((1 : Int32) &&& 31).toUInt32).toInt32) &&& (3 : Int32))), .unset, .unset, .unset, .unset, .unset, .unset, .unset, .unset, .unset, .unset, .unset, .unset, .unset, .unset] [(.int (3 : Int32)), (.int p1)])) _
    refine XS.iushr X7.here hx rfl (hb hby at_51) rfl ?_
    refine X7.ldcInt hx hown (mvT hZ (hw _ (List.mem_of_getElem? (i := 16) rfl))) (g := (mkF m 52 #[.val (.int p0), .val (.int p1), .val (.int p2), .val (.int p3), .val (.int p4), .val (.ref b1), .val (.ref b7), .val (.int (Int32.ofNat i0)), .val (.int (Int32.ofNat j0)), .val (.int x0), .val (.int (p1 &&& (1 : Int32))), .val (.int (((p1.toUInt32 >>> ((1 : Int32) &&& 31).toUInt32).toInt32) &&& (3 : Int32))), .unset, .unset, .unset, .unset, .unset, .unset, .unset, .unset, .unset, .unset, .unset, .unset, .unset, .unset] [(.int ((p1.toUInt32 >>> ((3 : Int32) &&& 31).toUInt32).toInt32))])) rfl (hb hby at_52) _ ?_
    refine XS.iand X7.here hx rfl (hb hby at_54) rfl ?_
    show Steps p.tables e below (T7.setTop (mkF m 55 #[.val (.int p0), .val (.int p1), .val (.int p2), .val (.int p3), .val (.int p4), .val (.ref b1), .val (.ref b7), .val (.int (Int32.ofNat i0)), .val (.int (Int32.ofNat j0)), .val (.int x0), .val (.int (p1 &&& (1 : Int32))), .val (.int (((p1.toUInt32 >>> ((1 : Int32) &&& 31).toUInt32).toInt32) &&& (3 : Int32))), .unset, .unset, .unset, .unset, .unset, .unset, .unset, .unset, .unset, .unset, .unset, .unset, .unset, .unset] [(.int (((p1.toUInt32 >>> ((3 : Int32) &&& 31).toUInt32).toInt32) &&& (268435455 : Int32)))])) _
    refine XS.istore X7.here hx rfl (hb hby at_55) rfl (l' := #[.val (.int p0), .val (.int p1), .val (.int p2), .val (.int p3), .val (.int p4), .val (.ref b1), .val (.ref b7), .val (.int (Int32.ofNat i0)), .val (.int (Int32.ofNat j0)), .val (.int x0), .val (.int (p1 &&& (1 : Int32))), .val (.int (((p1.toUInt32 >>> ((1 : Int32) &&& 31).toUInt32).toInt32) &&& (3 : Int32))), .val (.int (((p1.toUInt32 >>> ((3 : Int32) &&& 31).toUInt32).toInt32) &&& (268435455 : Int32))), .unset, .unset, .unset, .unset, .unset, .unset, .unset, .unset, .unset, .unset, .unset, .unset, .unset]) rfl ?_
    show Steps p.tables e below (T7.setTop (mkF m 57 #[.val (.int p0), .val (.int p1), .val (.int p2), .val (.int p3), .val (.int p4), .val (.ref b1), .val (.ref b7), .val (.int (Int32.ofNat i0)), .val (.int (Int32.ofNat j0)), .val (.int x0), .val (.int (p1 &&& (1 : Int32))), .val (.int (((p1.toUInt32 >>> ((1 : Int32) &&& 31).toUInt32).toInt32) &&& (3 : Int32))), .val (.int (((p1.toUInt32 >>> ((3 : Int32) &&& 31).toUInt32).toInt32) &&& (268435455 : Int32))), .unset, .unset, .unset, .unset, .unset, .unset, .unset, .unset, .unset, .unset, .unset, .unset, .unset] [])) _
    exact q
  obtain ⟨i1, h_i1, e_i1⟩ := own_msk p1 (1 : Int32) 1 2 (by decide) (by decide) (by decide) (by decide) (by decide)
  have k14_ : ∀ t, Steps p.tables e below (T7.setTop (mkF m 57 #[.val (.int p0), .val (.int p1), .val (.int p2), .val (.int p3), .val (.int p4), .val (.ref b1), .val (.ref b7), .val (.int (Int32.ofNat i0)), .val (.int (Int32.ofNat j0)), .val (.int x0), .val (.int (Int32.ofNat i1)), .val (.int (((p1.toUInt32 >>> ((1 : Int32) &&& 31).toUInt32).toInt32) &&& (3 : Int32))), .val (.int (((p1.toUInt32 >>> ((3 : Int32) &&& 31).toUInt32).toInt32) &&& (268435455 : Int32))), .unset, .unset, .unset, .unset, .unset, .unset, .unset, .unset, .unset, .unset, .unset, .unset, .unset] [])) t → Steps p.tables e below (s₁.setTop (mkF m 0 #[.val (.int p0), .val (.int p1), .val (.int p2), .val (.int p3), .val (.int p4), .unset, .unset, .unset, .unset, .unset, .unset, .unset, .unset, .unset, .unset, .unset, .unset, .unset, .unset, .unset, .unset, .unset, .unset, .unset, .unset, .unset] [])) t := fun t q => k13_ t (Eq.mp (congrArg (fun z => Steps p.tables e below (T7.setTop (mkF m 57 #[.val (.int p0), .val (.int p1), .val (.int p2), .val (.int p3), .val (.int p4), .val (.ref b1), .val (.ref b7), .val (.int (Int32.ofNat i0)), .val (.int (Int32.ofNat j0)), .val (.int x0), .val (.int z), .val (.int (((p1.toUInt32 >>> ((1 : Int32) &&& 31).toUInt32).toInt32) &&& (3 : Int32))), .val (.int (((p1.toUInt32 >>> ((3 : Int32) &&& 31).toUInt32).toInt32) &&& (268435455 : Int32))), .unset, .unset, .unset, .unset, .unset, .unset, .unset, .unset, .unset, .unset, .unset, .unset, .unset] [])) t) (show (Int32.ofNat i1) = (p1 &&& (1 : Int32)) from e_i1)) q)
  obtain ⟨j1, h_j1, e_j1⟩ := own_msk ((p1.toUInt32 >>> ((1 : Int32) &&& 31).toUInt32).toInt32) (3 : Int32) 2 4 (by decide) (by decide) (by decide) (by decide) (by decide)
  have k15_ : ∀ t, Steps p.tables e below (T7.setTop (mkF m 57 #[.val (.int p0), .val (.int p1), .val (.int p2), .val (.int p3), .val (.int p4), .val (.ref b1), .val (.ref b7), .val (.int (Int32.ofNat i0)), .val (.int (Int32.ofNat j0)), .val (.int x0), .val (.int (Int32.ofNat i1)), .val (.int (Int32.ofNat j1)), .val (.int (((p1.toUInt32 >>> ((3 : Int32) &&& 31).toUInt32).toInt32) &&& (268435455 : Int32))), .unset, .unset, .unset, .unset, .unset, .unset, .unset, .unset, .unset, .unset, .unset, .unset, .unset] [])) t → Steps p.tables e below (s₁.setTop (mkF m 0 #[.val (.int p0), .val (.int p1), .val (.int p2), .val (.int p3), .val (.int p4), .unset, .unset, .unset, .unset, .unset, .unset, .unset, .unset, .unset, .unset, .unset, .unset, .unset, .unset, .unset, .unset, .unset, .unset, .unset, .unset, .unset] [])) t := fun t q => k14_ t (Eq.mp (congrArg (fun z => Steps p.tables e below (T7.setTop (mkF m 57 #[.val (.int p0), .val (.int p1), .val (.int p2), .val (.int p3), .val (.int p4), .val (.ref b1), .val (.ref b7), .val (.int (Int32.ofNat i0)), .val (.int (Int32.ofNat j0)), .val (.int x0), .val (.int (Int32.ofNat i1)), .val (.int z), .val (.int (((p1.toUInt32 >>> ((3 : Int32) &&& 31).toUInt32).toInt32) &&& (268435455 : Int32))), .unset, .unset, .unset, .unset, .unset, .unset, .unset, .unset, .unset, .unset, .unset, .unset, .unset] [])) t) (show (Int32.ofNat j1) = (((p1.toUInt32 >>> ((1 : Int32) &&& 31).toUInt32).toInt32) &&& (3 : Int32)) from e_j1)) q)
  have bc1 := own_mb ((p1.toUInt32 >>> ((3 : Int32) &&& 31).toUInt32).toInt32)
  obtain ⟨x1, e_x1⟩ : ∃ z, z = (((p1.toUInt32 >>> ((3 : Int32) &&& 31).toUInt32).toInt32) &&& (268435455 : Int32)) := ⟨_, rfl⟩
  have k16_ : ∀ t, Steps p.tables e below (T7.setTop (mkF m 57 #[.val (.int p0), .val (.int p1), .val (.int p2), .val (.int p3), .val (.int p4), .val (.ref b1), .val (.ref b7), .val (.int (Int32.ofNat i0)), .val (.int (Int32.ofNat j0)), .val (.int x0), .val (.int (Int32.ofNat i1)), .val (.int (Int32.ofNat j1)), .val (.int x1), .unset, .unset, .unset, .unset, .unset, .unset, .unset, .unset, .unset, .unset, .unset, .unset, .unset] [])) t → Steps p.tables e below (s₁.setTop (mkF m 0 #[.val (.int p0), .val (.int p1), .val (.int p2), .val (.int p3), .val (.int p4), .unset, .unset, .unset, .unset, .unset, .unset, .unset, .unset, .unset, .unset, .unset, .unset, .unset, .unset, .unset, .unset, .unset, .unset, .unset, .unset, .unset] [])) t := by rw [e_x1]; exact k15_
  rw [← e_x1] at bc1
  have k17_ : ∀ t, Steps p.tables e below (T7.setTop (mkF m 77 #[.val (.int p0), .val (.int p1), .val (.int p2), .val (.int p3), .val (.int p4), .val (.ref b1), .val (.ref b7), .val (.int (Int32.ofNat i0)), .val (.int (Int32.ofNat j0)), .val (.int x0), .val (.int (Int32.ofNat i1)), .val (.int (Int32.ofNat j1)), .val (.int x1), .val (.int (p2 &&& (1 : Int32))), .val (.int (((p2.toUInt32 >>> ((1 : Int32) &&& 31).toUInt32).toInt32) &&& (3 : Int32))), .val (.int (((p2.toUInt32 >>> ((3 : Int32) &&& 31).toUInt32).toInt32) &&& (268435455 : Int32))), .unset, .unset, .unset, .unset, .unset, .unset, .unset, .unset, .unset, .unset] [])) t → Steps p.tables e below (s₁.setTop (mkF m 0 #[.val (.int p0), .val (.int p1), .val (.int p2), .val (.int p3), .val (.int p4), .unset, .unset, .unset, .unset, .unset, .unset, .unset, .unset, .unset, .unset, .unset, .unset, .unset, .unset, .unset, .unset, .unset, .unset, .unset, .unset, .unset] [])) t := by
    intro t q
    refine k16_ _ ?_
    show Steps p.tables e below (T7.setTop (mkF m 57 #[.val (.int p0), .val (.int p1), .val (.int p2), .val (.int p3), .val (.int p4), .val (.ref b1), .val (.ref b7), .val (.int (Int32.ofNat i0)), .val (.int (Int32.ofNat j0)), .val (.int x0), .val (.int (Int32.ofNat i1)), .val (.int (Int32.ofNat j1)), .val (.int x1), .unset, .unset, .unset, .unset, .unset, .unset, .unset, .unset, .unset, .unset, .unset, .unset, .unset] [])) _
    refine XS.iloadN X7.here hx rfl (hb hby at_57) rfl ?_
    refine XS.iconst X7.here hx rfl (hb hby at_58) ?_
    refine XS.iand X7.here hx rfl (hb hby at_59) rfl ?_
    show Steps p.tables e below (T7.setTop (mkF m 60 #[.val (.int p0), .val (.int p1), .val (.int p2), .val (.int p3), .val (.int p4), .val (.ref b1), .val (.ref b7), .val (.int (Int32.ofNat i0)), .val (.int (Int32.ofNat j0)), .val (.int x0), .val (.int (Int32.ofNat i1)), .val (.int (Int32.ofNat j1)), .val (.int x1), .unset, .unset, .unset, .unset, .unset, .unset, .unset, .unset, .unset, .unset, .unset, .unset, .unset] [(.int (p2 &&& (1 : Int32)))])) _
    refine XS.istore X7.here hx rfl (hb hby at_60) rfl (l' := #[.val (.int p0), .val (.int p1), .val (.int p2), .val (.int p3), .val (.int p4), .val (.ref b1), .val (.ref b7), .val (.int (Int32.ofNat i0)), .val (.int (Int32.ofNat j0)), .val (.int x0), .val (.int (Int32.ofNat i1)), .val (.int (Int32.ofNat j1)), .val (.int x1), .val (.int (p2 &&& (1 : Int32))), .unset, .unset, .unset, .unset, .unset, .unset, .unset, .unset, .unset, .unset, .unset, .unset]) rfl ?_
    refine XS.iloadN X7.here hx rfl (hb hby at_62) rfl ?_
    refine XS.iconst X7.here hx rfl (hb hby at_63) ?_
    show Steps p.tables e below (T7.setTop (mkF m 64 #[.val (.int p0), .val (.int p1), .val (.int p2), .val (.int p3), .val (.int p4), .val (.ref b1), .val (.ref b7), .val (.int (Int32.ofNat i0)), .val (.int (Int32.ofNat j0)), .val (.int x0), .val (.int (Int32.ofNat i1)), .val (.int (Int32.ofNat j1)), .val (.int x1), .val (.int (p2 &&& (1 : Int32))), .unset, .unset, .unset, .unset, .unset, .unset, .unset, .unset, .unset, .unset, .unset, .unset] [(.int (1 : Int32)), (.int p2)])) _
    refine XS.iushr X7.here hx rfl (hb hby at_64) rfl ?_
    refine XS.iconst X7.here hx rfl (hb hby at_65) ?_
    refine XS.iand X7.here hx rfl (hb hby at_66) rfl ?_
    show Steps p.tables e below (T7.setTop (mkF m 67 #[.val (.int p0), .val (.int p1), .val (.int p2), .val (.int p3), .val (.int p4), .val (.ref b1), .val (.ref b7), .val (.int (Int32.ofNat i0)), .val (.int (Int32.ofNat j0)), .val (.int x0), .val (.int (Int32.ofNat i1)), .val (.int (Int32.ofNat j1)), .val (.int x1), .val (.int (p2 &&& (1 : Int32))), .unset, .unset, .unset, .unset, .unset, .unset, .unset, .unset, .unset, .unset, .unset, .unset] [(.int (((p2.toUInt32 >>> ((1 : Int32) &&& 31).toUInt32).toInt32) &&& (3 : Int32)))])) _
    refine XS.istore X7.here hx rfl (hb hby at_67) rfl (l' := #[.val (.int p0), .val (.int p1), .val (.int p2), .val (.int p3), .val (.int p4), .val (.ref b1), .val (.ref b7), .val (.int (Int32.ofNat i0)), .val (.int (Int32.ofNat j0)), .val (.int x0), .val (.int (Int32.ofNat i1)), .val (.int (Int32.ofNat j1)), .val (.int x1), .val (.int (p2 &&& (1 : Int32))), .val (.int (((p2.toUInt32 >>> ((1 : Int32) &&& 31).toUInt32).toInt32) &&& (3 : Int32))), .unset, .unset, .unset, .unset, .unset, .unset, .unset, .unset, .unset, .unset, .unset]) rfl ?_
    refine XS.iloadN X7.here hx rfl (hb hby at_69) rfl ?_
    refine XS.iconst X7.here hx rfl (hb hby at_70) ?_
    show Steps p.tables e below (T7.setTop (mkF m 71 #[.val (.int p0), .val (.int p1), .val (.int p2), .val (.int p3), .val (.int p4), .val (.ref b1), .val (.ref b7), .val (.int (Int32.ofNat i0)), .val (.int (Int32.ofNat j0)), .val (.int x0), .val (.int (Int32.ofNat i1)), .val (.int (Int32.ofNat j1)), .val (.int x1), .val (.int (p2 &&& (1 : Int32))), .val (.int (((p2.toUInt32 >>> ((1 : Int32) &&& 31).toUInt32).toInt32) &&& (3 : Int32))), .unset, .unset, .unset, .unset, .unset, .unset, .unset, .unset, .unset, .unset, .unset] [(.int (3 : Int32)), (.int p2)])) _
    refine XS.iushr X7.here hx rfl (hb hby at_71) rfl ?_
    refine X7.ldcInt hx hown (mvT hZ (hw _ (List.mem_of_getElem? (i := 16) rfl))) (g := (mkF m 72 #[.val (.int p0), .val (.int p1), .val (.int p2), .val (.int p3), .val (.int p4), .val (.ref b1), .val (.ref b7), .val (.int (Int32.ofNat i0)), .val (.int (Int32.ofNat j0)), .val (.int x0), .val (.int (Int32.ofNat i1)), .val (.int (Int32.ofNat j1)), .val (.int x1), .val (.int (p2 &&& (1 : Int32))), .val (.int (((p2.toUInt32 >>> ((1 : Int32) &&& 31).toUInt32).toInt32) &&& (3 : Int32))), .unset, .unset, .unset, .unset, .unset, .unset, .unset, .unset, .unset, .unset, .unset] [(.int ((p2.toUInt32 >>> ((3 : Int32) &&& 31).toUInt32).toInt32))])) rfl (hb hby at_72) _ ?_
    refine XS.iand X7.here hx rfl (hb hby at_74) rfl ?_
    show Steps p.tables e below (T7.setTop (mkF m 75 #[.val (.int p0), .val (.int p1), .val (.int p2), .val (.int p3), .val (.int p4), .val (.ref b1), .val (.ref b7), .val (.int (Int32.ofNat i0)), .val (.int (Int32.ofNat j0)), .val (.int x0), .val (.int (Int32.ofNat i1)), .val (.int (Int32.ofNat j1)), .val (.int x1), .val (.int (p2 &&& (1 : Int32))), .val (.int (((p2.toUInt32 >>> ((1 : Int32) &&& 31).toUInt32).toInt32) &&& (3 : Int32))), .unset, .unset, .unset, .unset, .unset, .unset, .unset, .unset, .unset, .unset, .unset] [(.int (((p2.toUInt32 >>> ((3 : Int32) &&& 31).toUInt32).toInt32) &&& (268435455 : Int32)))])) _
    refine XS.istore X7.here hx rfl (hb hby at_75) rfl (l' := #[.val (.int p0), .val (.int p1), .val (.int p2), .val (.int p3), .val (.int p4), .val (.ref b1), .val (.ref b7), .val (.int (Int32.ofNat i0)), .val (.int (Int32.ofNat j0)), .val (.int x0), .val (.int (Int32.ofNat i1)), .val (.int (Int32.ofNat j1)), .val (.int x1), .val (.int (p2 &&& (1 : Int32))), .val (.int (((p2.toUInt32 >>> ((1 : Int32) &&& 31).toUInt32).toInt32) &&& (3 : Int32))), .val (.int (((p2.toUInt32 >>> ((3 : Int32) &&& 31).toUInt32).toInt32) &&& (268435455 : Int32))), .unset, .unset, .unset, .unset, .unset, .unset, .unset, .unset, .unset, .unset]) rfl ?_
    show Steps p.tables e below (T7.setTop (mkF m 77 #[.val (.int p0), .val (.int p1), .val (.int p2), .val (.int p3), .val (.int p4), .val (.ref b1), .val (.ref b7), .val (.int (Int32.ofNat i0)), .val (.int (Int32.ofNat j0)), .val (.int x0), .val (.int (Int32.ofNat i1)), .val (.int (Int32.ofNat j1)), .val (.int x1), .val (.int (p2 &&& (1 : Int32))), .val (.int (((p2.toUInt32 >>> ((1 : Int32) &&& 31).toUInt32).toInt32) &&& (3 : Int32))), .val (.int (((p2.toUInt32 >>> ((3 : Int32) &&& 31).toUInt32).toInt32) &&& (268435455 : Int32))), .unset, .unset, .unset, .unset, .unset, .unset, .unset, .unset, .unset, .unset] [])) _
    exact q
  obtain ⟨i2, h_i2, e_i2⟩ := own_msk p2 (1 : Int32) 1 2 (by decide) (by decide) (by decide) (by decide) (by decide)
  have k18_ : ∀ t, Steps p.tables e below (T7.setTop (mkF m 77 #[.val (.int p0), .val (.int p1), .val (.int p2), .val (.int p3), .val (.int p4), .val (.ref b1), .val (.ref b7), .val (.int (Int32.ofNat i0)), .val (.int (Int32.ofNat j0)), .val (.int x0), .val (.int (Int32.ofNat i1)), .val (.int (Int32.ofNat j1)), .val (.int x1), .val (.int (Int32.ofNat i2)), .val (.int (((p2.toUInt32 >>> ((1 : Int32) &&& 31).toUInt32).toInt32) &&& (3 : Int32))), .val (.int (((p2.toUInt32 >>> ((3 : Int32) &&& 31).toUInt32).toInt32) &&& (268435455 : Int32))), .unset, .unset, .unset, .unset, .unset, .unset, .unset, .unset, .unset, .unset] [])) t → Steps p.tables e below (s₁.setTop (mkF m 0 #[.val (.int p0), .val (.int p1), .val (.int p2), .val (.int p3), .val (.int p4), .unset, .unset, .unset, .unset, .unset, .unset, .unset, .unset, .unset, .unset, .unset, .unset, .unset, .unset, .unset, .unset, .unset, .unset, .unset, .unset, .unset] [])) t := fun t q => k17_ t (Eq.mp (congrArg (fun z => Steps p.tables e below (T7.setTop (mkF m 77 #[.val (.int p0), .val (.int p1), .val (.int p2), .val (.int p3), .val (.int p4), .val (.ref b1), .val (.ref b7), .val (.int (Int32.ofNat i0)), .val (.int (Int32.ofNat j0)), .val (.int x0), .val (.int (Int32.ofNat i1)), .val (.int (Int32.ofNat j1)), .val (.int x1), .val (.int z), .val (.int (((p2.toUInt32 >>> ((1 : Int32) &&& 31).toUInt32).toInt32) &&& (3 : Int32))), .val (.int (((p2.toUInt32 >>> ((3 : Int32) &&& 31).toUInt32).toInt32) &&& (268435455 : Int32))), .unset, .unset, .unset, .unset, .unset, .unset, .unset, .unset, .unset, .unset] [])) t) (show (Int32.ofNat i2) = (p2 &&& (1 : Int32)) from e_i2)) q)
  obtain ⟨j2, h_j2, e_j2⟩ := own_msk ((p2.toUInt32 >>> ((1 : Int32) &&& 31).toUInt32).toInt32) (3 : Int32) 2 4 (by decide) (by decide) (by decide) (by decide) (by decide)
  have k19_ : ∀ t, Steps p.tables e below (T7.setTop (mkF m 77 #[.val (.int p0), .val (.int p1), .val (.int p2), .val (.int p3), .val (.int p4), .val (.ref b1), .val (.ref b7), .val (.int (Int32.ofNat i0)), .val (.int (Int32.ofNat j0)), .val (.int x0), .val (.int (Int32.ofNat i1)), .val (.int (Int32.ofNat j1)), .val (.int x1), .val (.int (Int32.ofNat i2)), .val (.int (Int32.ofNat j2)), .val (.int (((p2.toUInt32 >>> ((3 : Int32) &&& 31).toUInt32).toInt32) &&& (268435455 : Int32))), .unset, .unset, .unset, .unset, .unset, .unset, .unset, .unset, .unset, .unset] [])) t → Steps p.tables e below (s₁.setTop (mkF m 0 #[.val (.int p0), .val (.int p1), .val (.int p2), .val (.int p3), .val (.int p4), .unset, .unset, .unset, .unset, .unset, .unset, .unset, .unset, .unset, .unset, .unset, .unset, .unset, .unset, .unset, .unset, .unset, .unset, .unset, .unset, .unset] [])) t := fun t q => k18_ t (Eq.mp (congrArg (fun z => Steps p.tables e below (T7.setTop (mkF m 77 #[.val (.int p0), .val (.int p1), .val (.int p2), .val (.int p3), .val (.int p4), .val (.ref b1), .val (.ref b7), .val (.int (Int32.ofNat i0)), .val (.int (Int32.ofNat j0)), .val (.int x0), .val (.int (Int32.ofNat i1)), .val (.int (Int32.ofNat j1)), .val (.int x1), .val (.int (Int32.ofNat i2)), .val (.int z), .val (.int (((p2.toUInt32 >>> ((3 : Int32) &&& 31).toUInt32).toInt32) &&& (268435455 : Int32))), .unset, .unset, .unset, .unset, .unset, .unset, .unset, .unset, .unset, .unset] [])) t) (show (Int32.ofNat j2) = (((p2.toUInt32 >>> ((1 : Int32) &&& 31).toUInt32).toInt32) &&& (3 : Int32)) from e_j2)) q)
  have bc2 := own_mb ((p2.toUInt32 >>> ((3 : Int32) &&& 31).toUInt32).toInt32)
  obtain ⟨x2, e_x2⟩ : ∃ z, z = (((p2.toUInt32 >>> ((3 : Int32) &&& 31).toUInt32).toInt32) &&& (268435455 : Int32)) := ⟨_, rfl⟩
  have k20_ : ∀ t, Steps p.tables e below (T7.setTop (mkF m 77 #[.val (.int p0), .val (.int p1), .val (.int p2), .val (.int p3), .val (.int p4), .val (.ref b1), .val (.ref b7), .val (.int (Int32.ofNat i0)), .val (.int (Int32.ofNat j0)), .val (.int x0), .val (.int (Int32.ofNat i1)), .val (.int (Int32.ofNat j1)), .val (.int x1), .val (.int (Int32.ofNat i2)), .val (.int (Int32.ofNat j2)), .val (.int x2), .unset, .unset, .unset, .unset, .unset, .unset, .unset, .unset, .unset, .unset] [])) t → Steps p.tables e below (s₁.setTop (mkF m 0 #[.val (.int p0), .val (.int p1), .val (.int p2), .val (.int p3), .val (.int p4), .unset, .unset, .unset, .unset, .unset, .unset, .unset, .unset, .unset, .unset, .unset, .unset, .unset, .unset, .unset, .unset, .unset, .unset, .unset, .unset, .unset] [])) t := by rw [e_x2]; exact k19_
  rw [← e_x2] at bc2
  have lM := VM.lt
  have gM : n0 ≤ b7 := g_b7
  obtain ⟨ok0, lo0, up0⟩ := own_add_ok (G0 i0 (Int32.ofNat j0)) x0 0 (B0 _ _ h_i0 h_j0).1 (B0 _ _ h_i0 h_j0).2 bc0.1 bc0.2 (by decide)
  have k21_ : ∀ t, Steps p.tables e below (T7.setTop (mkF m 85 #[.val (.int p0), .val (.int p1), .val (.int p2), .val (.int p3), .val (.int p4), .val (.ref b1), .val (.ref b7), .val (.int (Int32.ofNat i0)), .val (.int (Int32.ofNat j0)), .val (.int x0), .val (.int (Int32.ofNat i1)), .val (.int (Int32.ofNat j1)), .val (.int x1), .val (.int (Int32.ofNat i2)), .val (.int (Int32.ofNat j2)), .val (.int x2), .unset, .unset, .unset, .unset, .unset, .unset, .unset, .unset, .unset, .unset] [(.int x0), (.int (Int32.ofNat j0)), (.int (Int32.ofNat i0)), (.ref b1)])) t → Steps p.tables e below (s₁.setTop (mkF m 0 #[.val (.int p0), .val (.int p1), .val (.int p2), .val (.int p3), .val (.int p4), .unset, .unset, .unset, .unset, .unset, .unset, .unset, .unset, .unset, .unset, .unset, .unset, .unset, .unset, .unset, .unset, .unset, .unset, .unset, .unset, .unset] [])) t := by
    intro t q
    refine k20_ _ ?_
    show Steps p.tables e below (T7.setTop (mkF m 77 #[.val (.int p0), .val (.int p1), .val (.int p2), .val (.int p3), .val (.int p4), .val (.ref b1), .val (.ref b7), .val (.int (Int32.ofNat i0)), .val (.int (Int32.ofNat j0)), .val (.int x0), .val (.int (Int32.ofNat i1)), .val (.int (Int32.ofNat j1)), .val (.int x1), .val (.int (Int32.ofNat i2)), .val (.int (Int32.ofNat j2)), .val (.int x2), .unset, .unset, .unset, .unset, .unset, .unset, .unset, .unset, .unset, .unset] [])) _
    refine XS.aload X7.here hx rfl (hb hby at_77) rfl rfl ?_
    refine XS.iload X7.here hx rfl (hb hby at_79) rfl ?_
    refine XS.iload X7.here hx rfl (hb hby at_81) rfl ?_
    show Steps p.tables e below (T7.setTop (mkF m 83 #[.val (.int p0), .val (.int p1), .val (.int p2), .val (.int p3), .val (.int p4), .val (.ref b1), .val (.ref b7), .val (.int (Int32.ofNat i0)), .val (.int (Int32.ofNat j0)), .val (.int x0), .val (.int (Int32.ofNat i1)), .val (.int (Int32.ofNat j1)), .val (.int x1), .val (.int (Int32.ofNat i2)), .val (.int (Int32.ofNat j2)), .val (.int x2), .unset, .unset, .unset, .unset, .unset, .unset, .unset, .unset, .unset, .unset] [(.int (Int32.ofNat j0)), (.int (Int32.ofNat i0)), (.ref b1)])) _
    refine XS.iload X7.here hx rfl (hb hby at_83) rfl ?_
    show Steps p.tables e below (T7.setTop (mkF m 85 #[.val (.int p0), .val (.int p1), .val (.int p2), .val (.int p3), .val (.int p4), .val (.ref b1), .val (.ref b7), .val (.int (Int32.ofNat i0)), .val (.int (Int32.ofNat j0)), .val (.int x0), .val (.int (Int32.ofNat i1)), .val (.int (Int32.ofNat j1)), .val (.int x1), .val (.int (Int32.ofNat i2)), .val (.int (Int32.ofNat j2)), .val (.int x2), .unset, .unset, .unset, .unset, .unset, .unset, .unset, .unset, .unset, .unset] [(.int x0), (.int (Int32.ofNat j0)), (.int (Int32.ofNat i0)), (.ref b1)])) _
    exact q
  obtain ⟨cq22, kq22, q22a, q22b, q22c⟩ := isOf hZ e7 I0.1
  obtain ⟨_, _, ⟨T22, L22, kk22, n22⟩, -, X22, ⟨Lc22, hQ22, l22, y22, z22⟩, st22⟩ := X7.virtualBack hx (y := (⟨"com/example/weir/weir/model/HeldTasks", "add", "(III)V"⟩ : MethodName)) (z := (⟨"com/example/weir/weir/model/HeldTasks", "add", "(III)V"⟩ : MethodName)) hown (mvT hZ (hw _ (List.mem_of_getElem? (i := 17) rfl))) (mvT hZ (hw _ (List.mem_of_getElem? (i := 18) rfl))) (notFace_of_selects (args := #[]) (mvT hZ (hw _ (List.mem_of_getElem? (i := 20) rfl)))) (mvT hZ (hw _ (List.mem_of_getElem? (i := 20) rfl))) (mvT hZ (hw _ (List.mem_of_getElem? (i := 19) rfl))) (by decide) (backOf (W := 0) (rmAd l Z a0 hw [] b1 nb pb O0 w0 G0 i0 j0 x0 h7 n0 Zn I0 h_i0 h_j0 (Con0 i0 j0 h_i0 h_j0) ok0) hZ (hw _ (List.mem_of_getElem? (i := 21) rfl)) (hw _ (List.mem_of_getElem? (i := 2) rfl)) (by decide) (by decide)) q22a q22c (g := (mkF m 85 #[.val (.int p0), .val (.int p1), .val (.int p2), .val (.int p3), .val (.int p4), .val (.ref b1), .val (.ref b7), .val (.int (Int32.ofNat i0)), .val (.int (Int32.ofNat j0)), .val (.int x0), .val (.int (Int32.ofNat i1)), .val (.int (Int32.ofNat j1)), .val (.int x1), .val (.int (Int32.ofNat i2)), .val (.int (Int32.ofNat j2)), .val (.int x2), .unset, .unset, .unset, .unset, .unset, .unset, .unset, .unset, .unset, .unset] [(.int x0), (.int (Int32.ofNat j0)), (.int (Int32.ofNat i0)), (.ref b1)])) rfl (by rw [hml]; rfl) (Steps.refl _) (argsL := [(.int (Int32.ofNat i0)), (.int (Int32.ofNat j0)), (.int x0)]) (rest := []) (lenOf pd_32812 rfl) rfl (by show 2 * 0 + _ ≤ _; exact Nat.le_of_eq rfl) (hb hby at_85) (fun _ _ => ⟨rfl, e7, (by decide : 0 + 1 + 2 + 1 + 10 ≤ _), (by decide : 0 + 2 + 6 + 8 + 54 ≤ _)⟩)
  dsimp only [Pt.U, Pt.locs, Pt.cells, Pt.slots] at X22 l22 y22 z22 st22 hQ22
  rw [l22, y22, z22] at X22
  obtain ⟨rfl, Nq22, O1, w1, I1, K1⟩ := hQ22
  have N22 := Fr.app N4 Nq22
  have k23_ : ∀ t, Steps p.tables e below (T22.setTop (mkF m 88 #[.val (.int p0), .val (.int p1), .val (.int p2), .val (.int p3), .val (.int p4), .val (.ref b1), .val (.ref b7), .val (.int (Int32.ofNat i0)), .val (.int (Int32.ofNat j0)), .val (.int x0), .val (.int (Int32.ofNat i1)), .val (.int (Int32.ofNat j1)), .val (.int x1), .val (.int (Int32.ofNat i2)), .val (.int (Int32.ofNat j2)), .val (.int x2), .unset, .unset, .unset, .unset, .unset, .unset, .unset, .unset, .unset, .unset] [])) t → Steps p.tables e below (s₁.setTop (mkF m 0 #[.val (.int p0), .val (.int p1), .val (.int p2), .val (.int p3), .val (.int p4), .unset, .unset, .unset, .unset, .unset, .unset, .unset, .unset, .unset, .unset, .unset, .unset, .unset, .unset, .unset, .unset, .unset, .unset, .unset, .unset, .unset] [])) t := fun t q => k21_ t (st22.trans q)
  replace VM := own_Kw_arv VM K1 w9
  replace w9 := (K1.2.2 _ lM).trans w9
  replace lM := Nat.lt_of_lt_of_le lM K1.1
  replace Zn := Nat.le_trans Zn K1.1
  have k24_ : ∀ t, Steps p.tables e below (T22.setTop (mkF m 97 #[.val (.int p0), .val (.int p1), .val (.int p2), .val (.int p3), .val (.int p4), .val (.ref b1), .val (.ref b7), .val (.int (Int32.ofNat i0)), .val (.int (Int32.ofNat j0)), .val (.int x0), .val (.int (Int32.ofNat i1)), .val (.int (Int32.ofNat j1)), .val (.int x1), .val (.int (Int32.ofNat i2)), .val (.int (Int32.ofNat j2)), .val (.int x2), .unset, .unset, .unset, .unset, .unset, .unset, .unset, .unset, .unset, .unset] [(.int (((Int32.ofNat i0) * (4 : Int32)) + (Int32.ofNat j0))), (.ref b7)])) t → Steps p.tables e below (s₁.setTop (mkF m 0 #[.val (.int p0), .val (.int p1), .val (.int p2), .val (.int p3), .val (.int p4), .unset, .unset, .unset, .unset, .unset, .unset, .unset, .unset, .unset, .unset, .unset, .unset, .unset, .unset, .unset, .unset, .unset, .unset, .unset, .unset, .unset] [])) t := by
    intro t q
    refine k23_ _ ?_
    show Steps p.tables e below (T22.setTop (mkF m 88 #[.val (.int p0), .val (.int p1), .val (.int p2), .val (.int p3), .val (.int p4), .val (.ref b1), .val (.ref b7), .val (.int (Int32.ofNat i0)), .val (.int (Int32.ofNat j0)), .val (.int x0), .val (.int (Int32.ofNat i1)), .val (.int (Int32.ofNat j1)), .val (.int x1), .val (.int (Int32.ofNat i2)), .val (.int (Int32.ofNat j2)), .val (.int x2), .unset, .unset, .unset, .unset, .unset, .unset, .unset, .unset, .unset, .unset] [])) _
    refine XS.aload X22.here hx rfl (hb hby at_88) rfl rfl ?_
    refine XS.iload X22.here hx rfl (hb hby at_90) rfl ?_
    refine XS.iconst X22.here hx rfl (hb hby at_92) ?_
    show Steps p.tables e below (T22.setTop (mkF m 93 #[.val (.int p0), .val (.int p1), .val (.int p2), .val (.int p3), .val (.int p4), .val (.ref b1), .val (.ref b7), .val (.int (Int32.ofNat i0)), .val (.int (Int32.ofNat j0)), .val (.int x0), .val (.int (Int32.ofNat i1)), .val (.int (Int32.ofNat j1)), .val (.int x1), .val (.int (Int32.ofNat i2)), .val (.int (Int32.ofNat j2)), .val (.int x2), .unset, .unset, .unset, .unset, .unset, .unset, .unset, .unset, .unset, .unset] [(.int (4 : Int32)), (.int (Int32.ofNat i0)), (.ref b7)])) _
    refine XS.imul X22.here hx rfl (hb hby at_93) rfl ?_
    refine XS.iload X22.here hx rfl (hb hby at_94) rfl ?_
    refine XS.iadd X22.here hx rfl (hb hby at_96) rfl ?_
    show Steps p.tables e below (T22.setTop (mkF m 97 #[.val (.int p0), .val (.int p1), .val (.int p2), .val (.int p3), .val (.int p4), .val (.ref b1), .val (.ref b7), .val (.int (Int32.ofNat i0)), .val (.int (Int32.ofNat j0)), .val (.int x0), .val (.int (Int32.ofNat i1)), .val (.int (Int32.ofNat j1)), .val (.int x1), .val (.int (Int32.ofNat i2)), .val (.int (Int32.ofNat j2)), .val (.int x2), .unset, .unset, .unset, .unset, .unset, .unset, .unset, .unset, .unset, .unset] [(.int (((Int32.ofNat i0) * (4 : Int32)) + (Int32.ofNat j0))), (.ref b7)])) _
    exact q
  have k25_ : ∀ t, Steps p.tables e below (T22.setTop (mkF m 97 #[.val (.int p0), .val (.int p1), .val (.int p2), .val (.int p3), .val (.int p4), .val (.ref b1), .val (.ref b7), .val (.int (Int32.ofNat i0)), .val (.int (Int32.ofNat j0)), .val (.int x0), .val (.int (Int32.ofNat i1)), .val (.int (Int32.ofNat j1)), .val (.int x1), .val (.int (Int32.ofNat i2)), .val (.int (Int32.ofNat j2)), .val (.int x2), .unset, .unset, .unset, .unset, .unset, .unset, .unset, .unset, .unset, .unset] [(.int (Int32.ofNat (i0 * 4 + j0))), (.ref b7)])) t → Steps p.tables e below (s₁.setTop (mkF m 0 #[.val (.int p0), .val (.int p1), .val (.int p2), .val (.int p3), .val (.int p4), .unset, .unset, .unset, .unset, .unset, .unset, .unset, .unset, .unset, .unset, .unset, .unset, .unset, .unset, .unset, .unset, .unset, .unset, .unset, .unset, .unset] [])) t := fun t q => k24_ t (Eq.mp (congrArg (fun z => Steps p.tables e below (T22.setTop (mkF m 97 #[.val (.int p0), .val (.int p1), .val (.int p2), .val (.int p3), .val (.int p4), .val (.ref b1), .val (.ref b7), .val (.int (Int32.ofNat i0)), .val (.int (Int32.ofNat j0)), .val (.int x0), .val (.int (Int32.ofNat i1)), .val (.int (Int32.ofNat j1)), .val (.int x1), .val (.int (Int32.ofNat i2)), .val (.int (Int32.ofNat j2)), .val (.int x2), .unset, .unset, .unset, .unset, .unset, .unset, .unset, .unset, .unset, .unset] [(.int z), (.ref b7)])) t) (show (Int32.ofNat (i0 * 4 + j0)) = (((Int32.ofNat i0) * (4 : Int32)) + (Int32.ofNat j0)) from (own_x8 h_i0 h_j0))) q)
  obtain ⟨cl26, Ar26, q26, S26, M26, H26, G26⟩ := id VM
  have k27_ : ∀ t, Steps p.tables e below (T22.setTop (mkF m 102 #[.val (.int p0), .val (.int p1), .val (.int p2), .val (.int p3), .val (.int p4), .val (.ref b1), .val (.ref b7), .val (.int (Int32.ofNat i0)), .val (.int (Int32.ofNat j0)), .val (.int x0), .val (.int (Int32.ofNat i1)), .val (.int (Int32.ofNat j1)), .val (.int x1), .val (.int (Int32.ofNat i2)), .val (.int (Int32.ofNat j2)), .val (.int x2), .unset, .unset, .unset, .unset, .unset, .unset, .unset, .unset, .unset, .unset] [(.int ((ms0.getD (i0 * 4 + j0) 0) + x0)), (.int (Int32.ofNat (i0 * 4 + j0))), (.ref b7)])) t → Steps p.tables e below (s₁.setTop (mkF m 0 #[.val (.int p0), .val (.int p1), .val (.int p2), .val (.int p3), .val (.int p4), .unset, .unset, .unset, .unset, .unset, .unset, .unset, .unset, .unset, .unset, .unset, .unset, .unset, .unset, .unset, .unset, .unset, .unset, .unset, .unset, .unset] [])) t := by
    intro t q
    refine k25_ _ ?_
    show Steps p.tables e below (T22.setTop (mkF m 97 #[.val (.int p0), .val (.int p1), .val (.int p2), .val (.int p3), .val (.int p4), .val (.ref b1), .val (.ref b7), .val (.int (Int32.ofNat i0)), .val (.int (Int32.ofNat j0)), .val (.int x0), .val (.int (Int32.ofNat i1)), .val (.int (Int32.ofNat j1)), .val (.int x1), .val (.int (Int32.ofNat i2)), .val (.int (Int32.ofNat j2)), .val (.int x2), .unset, .unset, .unset, .unset, .unset, .unset, .unset, .unset, .unset, .unset] [(.int (Int32.ofNat (i0 * 4 + j0))), (.ref b7)])) _
    refine XT.dup2 X22.here hx rfl (hb hby at_97) rfl rfl rfl ?_
    refine X22.iaload hx (j := (Int32.ofNat (i0 * 4 + j0))) (v := (.int (ms0.getD (i0 * 4 + j0) 0))) Ar26.1 (State.isArrayOf_alike hZ.alike Ar26.2.1) Ar26.2.2 (inb_of S26 (own_lt8 (i := i0 * 4 + j0) (by omega))) (Has.at H26 (inb_of S26 (own_lt8 (i := i0 * 4 + j0) (by omega))) (own_gi _ (by omega))) (g := (mkF m 98 #[.val (.int p0), .val (.int p1), .val (.int p2), .val (.int p3), .val (.int p4), .val (.ref b1), .val (.ref b7), .val (.int (Int32.ofNat i0)), .val (.int (Int32.ofNat j0)), .val (.int x0), .val (.int (Int32.ofNat i1)), .val (.int (Int32.ofNat j1)), .val (.int x1), .val (.int (Int32.ofNat i2)), .val (.int (Int32.ofNat j2)), .val (.int x2), .unset, .unset, .unset, .unset, .unset, .unset, .unset, .unset, .unset, .unset] [(.int (Int32.ofNat (i0 * 4 + j0))), (.ref b7), (.int (Int32.ofNat (i0 * 4 + j0))), (.ref b7)])) rfl rfl (hb hby at_98) _ ?_
    refine XS.iload X22.here hx rfl (hb hby at_99) rfl ?_
    show Steps p.tables e below (T22.setTop (mkF m 101 #[.val (.int p0), .val (.int p1), .val (.int p2), .val (.int p3), .val (.int p4), .val (.ref b1), .val (.ref b7), .val (.int (Int32.ofNat i0)), .val (.int (Int32.ofNat j0)), .val (.int x0), .val (.int (Int32.ofNat i1)), .val (.int (Int32.ofNat j1)), .val (.int x1), .val (.int (Int32.ofNat i2)), .val (.int (Int32.ofNat j2)), .val (.int x2), .unset, .unset, .unset, .unset, .unset, .unset, .unset, .unset, .unset, .unset] [(.int x0), (.int (ms0.getD (i0 * 4 + j0) 0)), (.int (Int32.ofNat (i0 * 4 + j0))), (.ref b7)])) _
    refine XS.iadd X22.here hx rfl (hb hby at_101) rfl ?_
    show Steps p.tables e below (T22.setTop (mkF m 102 #[.val (.int p0), .val (.int p1), .val (.int p2), .val (.int p3), .val (.int p4), .val (.ref b1), .val (.ref b7), .val (.int (Int32.ofNat i0)), .val (.int (Int32.ofNat j0)), .val (.int x0), .val (.int (Int32.ofNat i1)), .val (.int (Int32.ofNat j1)), .val (.int x1), .val (.int (Int32.ofNat i2)), .val (.int (Int32.ofNat j2)), .val (.int x2), .unset, .unset, .unset, .unset, .unset, .unset, .unset, .unset, .unset, .unset] [(.int ((ms0.getD (i0 * 4 + j0) 0) + x0)), (.int (Int32.ofNat (i0 * 4 + j0))), (.ref b7)])) _
    exact q
  obtain ⟨cl_28, Ar_28, q_28, S_28, M_28, H_28, G_28⟩ := VM
  obtain ⟨T29, h29, X29, e29, W29, st29⟩ := stI X22 hx hZ rfl Ar_28 (j := (Int32.ofNat (i0 * 4 + j0))) (inb_of S_28 (own_lt8 (i := i0 * 4 + j0) (by omega))) (g := (mkF m 102 #[.val (.int p0), .val (.int p1), .val (.int p2), .val (.int p3), .val (.int p4), .val (.ref b1), .val (.ref b7), .val (.int (Int32.ofNat i0)), .val (.int (Int32.ofNat j0)), .val (.int x0), .val (.int (Int32.ofNat i1)), .val (.int (Int32.ofNat j1)), .val (.int x1), .val (.int (Int32.ofNat i2)), .val (.int (Int32.ofNat j2)), .val (.int x2), .unset, .unset, .unset, .unset, .unset, .unset, .unset, .unset, .unset, .unset] [(.int ((ms0.getD (i0 * 4 + j0) 0) + x0)), (.int (Int32.ofNat (i0 * 4 + j0))), (.ref b7)])) rfl rfl (hb hby at_102)
  have k30_ : ∀ t, Steps p.tables e below (T29.setTop (mkF m 103 #[.val (.int p0), .val (.int p1), .val (.int p2), .val (.int p3), .val (.int p4), .val (.ref b1), .val (.ref b7), .val (.int (Int32.ofNat i0)), .val (.int (Int32.ofNat j0)), .val (.int x0), .val (.int (Int32.ofNat i1)), .val (.int (Int32.ofNat j1)), .val (.int x1), .val (.int (Int32.ofNat i2)), .val (.int (Int32.ofNat j2)), .val (.int x2), .unset, .unset, .unset, .unset, .unset, .unset, .unset, .unset, .unset, .unset] [])) t → Steps p.tables e below (s₁.setTop (mkF m 0 #[.val (.int p0), .val (.int p1), .val (.int p2), .val (.int p3), .val (.int p4), .unset, .unset, .unset, .unset, .unset, .unset, .unset, .unset, .unset, .unset, .unset, .unset, .unset, .unset, .unset, .unset, .unset, .unset, .unset, .unset, .unset] [])) t := fun t q => k27_ t (st29 t q)
  have N29 := Fr.snoc X29 N22 gM
  replace Zn := Nat.le_trans Zn (Keep.of_wr W29).1
  obtain ⟨ms1, hms1⟩ : ∃ z : List Int32, z = ms0.set (i0 * 4 + j0) ((ms0.getD (i0 * 4 + j0) 0) + x0) := ⟨_, rfl⟩
  have VM : Arv Z h29 b7 c7 .int (8 : Int32) (ms1.map Value.int) (.int 0) := by rw [hms1, List.map_set]; exact Arv.set Ar_28 q_28 S_28 M_28 H_28 G_28 rfl W29 (i0 * 4 + j0) (own_ci (by omega)) (by rw [List.length_map, M0.1]; omega)
  replace I1 := own_I_keep I1 (Keep.of_wr W29) (fun x hx => Or.inl (by cases List.mem_singleton.mp hx; exact w9))
  have lM := VM.lt
  have em0 : ms0.getD (i0 * 4 + j0) 0 = (G0 i0 (Int32.ofNat j0)) := M0.2 _ _ h_i0 h_j0
  obtain ⟨G1, hG1⟩ : ∃ z, z = own_G2 G0 i0 j0 ((G0 i0 (Int32.ofNat j0)) + x0) := ⟨_, rfl⟩
  rw [← hG1] at I1
  have M1 : own_M G1 ms1 := by rw [hG1, hms1, em0]; exact own_M_2 h_i0 h_j0 M0
  have Con1 : own_Con G1 := by rw [hG1]; exact own_Con_2 h_i0 h_j0 Con0
  have B1 : own_B G1 268435455 := by rw [hG1]; exact own_B_2 h_i0 h_j0 B0 lo0 (by omega) (by decide)
  obtain ⟨ok1, lo1, up1⟩ := own_add_ok (G1 i1 (Int32.ofNat j1)) x1 268435455 (B1 _ _ h_i1 h_j1).1 (B1 _ _ h_i1 h_j1).2 bc1.1 bc1.2 (by decide)
  have k31_ : ∀ t, Steps p.tables e below (T29.setTop (mkF m 111 #[.val (.int p0), .val (.int p1), .val (.int p2), .val (.int p3), .val (.int p4), .val (.ref b1), .val (.ref b7), .val (.int (Int32.ofNat i0)), .val (.int (Int32.ofNat j0)), .val (.int x0), .val (.int (Int32.ofNat i1)), .val (.int (Int32.ofNat j1)), .val (.int x1), .val (.int (Int32.ofNat i2)), .val (.int (Int32.ofNat j2)), .val (.int x2), .unset, .unset, .unset, .unset, .unset, .unset, .unset, .unset, .unset, .unset] [(.int x1), (.int (Int32.ofNat j1)), (.int (Int32.ofNat i1)), (.ref b1)])) t → Steps p.tables e below (s₁.setTop (mkF m 0 #[.val (.int p0), .val (.int p1), .val (.int p2), .val (.int p3), .val (.int p4), .unset, .unset, .unset, .unset, .unset, .unset, .unset, .unset, .unset, .unset, .unset, .unset, .unset, .unset, .unset, .unset, .unset, .unset, .unset, .unset, .unset] [])) t := by
    intro t q
    refine k30_ _ ?_
    show Steps p.tables e below (T29.setTop (mkF m 103 #[.val (.int p0), .val (.int p1), .val (.int p2), .val (.int p3), .val (.int p4), .val (.ref b1), .val (.ref b7), .val (.int (Int32.ofNat i0)), .val (.int (Int32.ofNat j0)), .val (.int x0), .val (.int (Int32.ofNat i1)), .val (.int (Int32.ofNat j1)), .val (.int x1), .val (.int (Int32.ofNat i2)), .val (.int (Int32.ofNat j2)), .val (.int x2), .unset, .unset, .unset, .unset, .unset, .unset, .unset, .unset, .unset, .unset] [])) _
    refine XS.aload X29.here hx rfl (hb hby at_103) rfl rfl ?_
    refine XS.iload X29.here hx rfl (hb hby at_105) rfl ?_
    refine XS.iload X29.here hx rfl (hb hby at_107) rfl ?_
    show Steps p.tables e below (T29.setTop (mkF m 109 #[.val (.int p0), .val (.int p1), .val (.int p2), .val (.int p3), .val (.int p4), .val (.ref b1), .val (.ref b7), .val (.int (Int32.ofNat i0)), .val (.int (Int32.ofNat j0)), .val (.int x0), .val (.int (Int32.ofNat i1)), .val (.int (Int32.ofNat j1)), .val (.int x1), .val (.int (Int32.ofNat i2)), .val (.int (Int32.ofNat j2)), .val (.int x2), .unset, .unset, .unset, .unset, .unset, .unset, .unset, .unset, .unset, .unset] [(.int (Int32.ofNat j1)), (.int (Int32.ofNat i1)), (.ref b1)])) _
    refine XS.iload X29.here hx rfl (hb hby at_109) rfl ?_
    show Steps p.tables e below (T29.setTop (mkF m 111 #[.val (.int p0), .val (.int p1), .val (.int p2), .val (.int p3), .val (.int p4), .val (.ref b1), .val (.ref b7), .val (.int (Int32.ofNat i0)), .val (.int (Int32.ofNat j0)), .val (.int x0), .val (.int (Int32.ofNat i1)), .val (.int (Int32.ofNat j1)), .val (.int x1), .val (.int (Int32.ofNat i2)), .val (.int (Int32.ofNat j2)), .val (.int x2), .unset, .unset, .unset, .unset, .unset, .unset, .unset, .unset, .unset, .unset] [(.int x1), (.int (Int32.ofNat j1)), (.int (Int32.ofNat i1)), (.ref b1)])) _
    exact q
  obtain ⟨cq32, kq32, q32a, q32b, q32c⟩ := isOf hZ e29 I1.1
  obtain ⟨_, _, ⟨T32, L32, kk32, n32⟩, -, X32, ⟨Lc32, hQ32, l32, y32, z32⟩, st32⟩ := X29.virtualBack hx (y := (⟨"com/example/weir/weir/model/HeldTasks", "add", "(III)V"⟩ : MethodName)) (z := (⟨"com/example/weir/weir/model/HeldTasks", "add", "(III)V"⟩ : MethodName)) hown (mvT hZ (hw _ (List.mem_of_getElem? (i := 17) rfl))) (mvT hZ (hw _ (List.mem_of_getElem? (i := 18) rfl))) (notFace_of_selects (args := #[]) (mvT hZ (hw _ (List.mem_of_getElem? (i := 20) rfl)))) (mvT hZ (hw _ (List.mem_of_getElem? (i := 20) rfl))) (mvT hZ (hw _ (List.mem_of_getElem? (i := 19) rfl))) (by decide) (backOf (W := 0) (rmAd l Z a0 hw [] b1 nb pb O1 w1 G1 i1 j1 x1 h29 n0 Zn I1 h_i1 h_j1 (Con1 i1 j1 h_i1 h_j1) ok1) hZ (hw _ (List.mem_of_getElem? (i := 21) rfl)) (hw _ (List.mem_of_getElem? (i := 2) rfl)) (by decide) (by decide)) q32a q32c (g := (mkF m 111 #[.val (.int p0), .val (.int p1), .val (.int p2), .val (.int p3), .val (.int p4), .val (.ref b1), .val (.ref b7), .val (.int (Int32.ofNat i0)), .val (.int (Int32.ofNat j0)), .val (.int x0), .val (.int (Int32.ofNat i1)), .val (.int (Int32.ofNat j1)), .val (.int x1), .val (.int (Int32.ofNat i2)), .val (.int (Int32.ofNat j2)), .val (.int x2), .unset, .unset, .unset, .unset, .unset, .unset, .unset, .unset, .unset, .unset] [(.int x1), (.int (Int32.ofNat j1)), (.int (Int32.ofNat i1)), (.ref b1)])) rfl (by rw [hml]; rfl) (Steps.refl _) (argsL := [(.int (Int32.ofNat i1)), (.int (Int32.ofNat j1)), (.int x1)]) (rest := []) (lenOf pd_32812 rfl) rfl (by show 2 * 0 + _ ≤ _; exact Nat.le_of_eq rfl) (hb hby at_111) (fun _ _ => ⟨rfl, e29, (by decide : 0 + 1 + 2 + 1 + 10 + 10 ≤ _), (by decide : 0 + 2 + 6 + 8 + 54 + 54 ≤ _)⟩)
  dsimp only [Pt.U, Pt.locs, Pt.cells, Pt.slots] at X32 l32 y32 z32 st32 hQ32
  rw [l32, y32, z32] at X32
  obtain ⟨rfl, Nq32, O2, w2, I2, K2⟩ := hQ32
  have N32 := Fr.app N29 Nq32
  have k33_ : ∀ t, Steps p.tables e below (T32.setTop (mkF m 114 #[.val (.int p0), .val (.int p1), .val (.int p2), .val (.int p3), .val (.int p4), .val (.ref b1), .val (.ref b7), .val (.int (Int32.ofNat i0)), .val (.int (Int32.ofNat j0)), .val (.int x0), .val (.int (Int32.ofNat i1)), .val (.int (Int32.ofNat j1)), .val (.int x1), .val (.int (Int32.ofNat i2)), .val (.int (Int32.ofNat j2)), .val (.int x2), .unset, .unset, .unset, .unset, .unset, .unset, .unset, .unset, .unset, .unset] [])) t → Steps p.tables e below (s₁.setTop (mkF m 0 #[.val (.int p0), .val (.int p1), .val (.int p2), .val (.int p3), .val (.int p4), .unset, .unset, .unset, .unset, .unset, .unset, .unset, .unset, .unset, .unset, .unset, .unset, .unset, .unset, .unset, .unset, .unset, .unset, .unset, .unset, .unset] [])) t := fun t q => k31_ t (st32.trans q)
  replace VM := own_Kw_arv VM K2 w9
  replace w9 := (K2.2.2 _ lM).trans w9
  replace lM := Nat.lt_of_lt_of_le lM K2.1
  replace Zn := Nat.le_trans Zn K2.1
  have k34_ : ∀ t, Steps p.tables e below (T32.setTop (mkF m 123 #[.val (.int p0), .val (.int p1), .val (.int p2), .val (.int p3), .val (.int p4), .val (.ref b1), .val (.ref b7), .val (.int (Int32.ofNat i0)), .val (.int (Int32.ofNat j0)), .val (.int x0), .val (.int (Int32.ofNat i1)), .val (.int (Int32.ofNat j1)), .val (.int x1), .val (.int (Int32.ofNat i2)), .val (.int (Int32.ofNat j2)), .val (.int x2), .unset, .unset, .unset, .unset, .unset, .unset, .unset, .unset, .unset, .unset] [(.int (((Int32.ofNat i1) * (4 : Int32)) + (Int32.ofNat j1))), (.ref b7)])) t → Steps p.tables e below (s₁.setTop (mkF m 0 #[.val (.int p0), .val (.int p1), .val (.int p2), .val (.int p3), .val (.int p4), .unset, .unset, .unset, .unset, .unset, .unset, .unset, .unset, .unset, .unset, .unset, .unset, .unset, .unset, .unset, .unset, .unset, .unset, .unset, .unset, .unset] [])) t := by
    intro t q
    refine k33_ _ ?_
    show Steps p.tables e below (T32.setTop (mkF m 114 #[.val (.int p0), .val (.int p1), .val (.int p2), .val (.int p3), .val (.int p4), .val (.ref b1), .val (.ref b7), .val (.int (Int32.ofNat i0)), .val (.int (Int32.ofNat j0)), .val (.int x0), .val (.int (Int32.ofNat i1)), .val (.int (Int32.ofNat j1)), .val (.int x1), .val (.int (Int32.ofNat i2)), .val (.int (Int32.ofNat j2)), .val (.int x2), .unset, .unset, .unset, .unset, .unset, .unset, .unset, .unset, .unset, .unset] [])) _
    refine XS.aload X32.here hx rfl (hb hby at_114) rfl rfl ?_
    refine XS.iload X32.here hx rfl (hb hby at_116) rfl ?_
    refine XS.iconst X32.here hx rfl (hb hby at_118) ?_
    show Steps p.tables e below (T32.setTop (mkF m 119 #[.val (.int p0), .val (.int p1), .val (.int p2), .val (.int p3), .val (.int p4), .val (.ref b1), .val (.ref b7), .val (.int (Int32.ofNat i0)), .val (.int (Int32.ofNat j0)), .val (.int x0), .val (.int (Int32.ofNat i1)), .val (.int (Int32.ofNat j1)), .val (.int x1), .val (.int (Int32.ofNat i2)), .val (.int (Int32.ofNat j2)), .val (.int x2), .unset, .unset, .unset, .unset, .unset, .unset, .unset, .unset, .unset, .unset] [(.int (4 : Int32)), (.int (Int32.ofNat i1)), (.ref b7)])) _
    refine XS.imul X32.here hx rfl (hb hby at_119) rfl ?_
    refine XS.iload X32.here hx rfl (hb hby at_120) rfl ?_
    refine XS.iadd X32.here hx rfl (hb hby at_122) rfl ?_
    show Steps p.tables e below (T32.setTop (mkF m 123 #[.val (.int p0), .val (.int p1), .val (.int p2), .val (.int p3), .val (.int p4), .val (.ref b1), .val (.ref b7), .val (.int (Int32.ofNat i0)), .val (.int (Int32.ofNat j0)), .val (.int x0), .val (.int (Int32.ofNat i1)), .val (.int (Int32.ofNat j1)), .val (.int x1), .val (.int (Int32.ofNat i2)), .val (.int (Int32.ofNat j2)), .val (.int x2), .unset, .unset, .unset, .unset, .unset, .unset, .unset, .unset, .unset, .unset] [(.int (((Int32.ofNat i1) * (4 : Int32)) + (Int32.ofNat j1))), (.ref b7)])) _
    exact q
  have k35_ : ∀ t, Steps p.tables e below (T32.setTop (mkF m 123 #[.val (.int p0), .val (.int p1), .val (.int p2), .val (.int p3), .val (.int p4), .val (.ref b1), .val (.ref b7), .val (.int (Int32.ofNat i0)), .val (.int (Int32.ofNat j0)), .val (.int x0), .val (.int (Int32.ofNat i1)), .val (.int (Int32.ofNat j1)), .val (.int x1), .val (.int (Int32.ofNat i2)), .val (.int (Int32.ofNat j2)), .val (.int x2), .unset, .unset, .unset, .unset, .unset, .unset, .unset, .unset, .unset, .unset] [(.int (Int32.ofNat (i1 * 4 + j1))), (.ref b7)])) t → Steps p.tables e below (s₁.setTop (mkF m 0 #[.val (.int p0), .val (.int p1), .val (.int p2), .val (.int p3), .val (.int p4), .unset, .unset, .unset, .unset, .unset, .unset, .unset, .unset, .unset, .unset, .unset, .unset, .unset, .unset, .unset, .unset, .unset, .unset, .unset, .unset, .unset] [])) t := fun t q => k34_ t (Eq.mp (congrArg (fun z => Steps p.tables e below (T32.setTop (mkF m 123 #[.val (.int p0), .val (.int p1), .val (.int p2), .val (.int p3), .val (.int p4), .val (.ref b1), .val (.ref b7), .val (.int (Int32.ofNat i0)), .val (.int (Int32.ofNat j0)), .val (.int x0), .val (.int (Int32.ofNat i1)), .val (.int (Int32.ofNat j1)), .val (.int x1), .val (.int (Int32.ofNat i2)), .val (.int (Int32.ofNat j2)), .val (.int x2), .unset, .unset, .unset, .unset, .unset, .unset, .unset, .unset, .unset, .unset] [(.int z), (.ref b7)])) t) (show (Int32.ofNat (i1 * 4 + j1)) = (((Int32.ofNat i1) * (4 : Int32)) + (Int32.ofNat j1)) from (own_x8 h_i1 h_j1))) q)
  obtain ⟨cl36, Ar36, q36, S36, M36, H36, G36⟩ := id VM
  have k37_ : ∀ t, Steps p.tables e below (T32.setTop (mkF m 128 #[.val (.int p0), .val (.int p1), .val (.int p2), .val (.int p3), .val (.int p4), .val (.ref b1), .val (.ref b7), .val (.int (Int32.ofNat i0)), .val (.int (Int32.ofNat j0)), .val (.int x0), .val (.int (Int32.ofNat i1)), .val (.int (Int32.ofNat j1)), .val (.int x1), .val (.int (Int32.ofNat i2)), .val (.int (Int32.ofNat j2)), .val (.int x2), .unset, .unset, .unset, .unset, .unset, .unset, .unset, .unset, .unset, .unset] [(.int ((ms1.getD (i1 * 4 + j1) 0) + x1)), (.int (Int32.ofNat (i1 * 4 + j1))), (.ref b7)])) t → Steps p.tables e below (s₁.setTop (mkF m 0 #[.val (.int p0), .val (.int p1), .val (.int p2), .val (.int p3), .val (.int p4), .unset, .unset, .unset, .unset, .unset, .unset, .unset, .unset, .unset, .unset, .unset, .unset, .unset, .unset, .unset, .unset, .unset, .unset, .unset, .unset, .unset] [])) t := by
    intro t q
    refine k35_ _ ?_
    show Steps p.tables e below (T32.setTop (mkF m 123 #[.val (.int p0), .val (.int p1), .val (.int p2), .val (.int p3), .val (.int p4), .val (.ref b1), .val (.ref b7), .val (.int (Int32.ofNat i0)), .val (.int (Int32.ofNat j0)), .val (.int x0), .val (.int (Int32.ofNat i1)), .val (.int (Int32.ofNat j1)), .val (.int x1), .val (.int (Int32.ofNat i2)), .val (.int (Int32.ofNat j2)), .val (.int x2), .unset, .unset, .unset, .unset, .unset, .unset, .unset, .unset, .unset, .unset] [(.int (Int32.ofNat (i1 * 4 + j1))), (.ref b7)])) _
    refine XT.dup2 X32.here hx rfl (hb hby at_123) rfl rfl rfl ?_
    refine X32.iaload hx (j := (Int32.ofNat (i1 * 4 + j1))) (v := (.int (ms1.getD (i1 * 4 + j1) 0))) Ar36.1 (State.isArrayOf_alike hZ.alike Ar36.2.1) Ar36.2.2 (inb_of S36 (own_lt8 (i := i1 * 4 + j1) (by omega))) (Has.at H36 (inb_of S36 (own_lt8 (i := i1 * 4 + j1) (by omega))) (own_gi _ (by omega))) (g := (mkF m 124 #[.val (.int p0), .val (.int p1), .val (.int p2), .val (.int p3), .val (.int p4), .val (.ref b1), .val (.ref b7), .val (.int (Int32.ofNat i0)), .val (.int (Int32.ofNat j0)), .val (.int x0), .val (.int (Int32.ofNat i1)), .val (.int (Int32.ofNat j1)), .val (.int x1), .val (.int (Int32.ofNat i2)), .val (.int (Int32.ofNat j2)), .val (.int x2), .unset, .unset, .unset, .unset, .unset, .unset, .unset, .unset, .unset, .unset] [(.int (Int32.ofNat (i1 * 4 + j1))), (.ref b7), (.int (Int32.ofNat (i1 * 4 + j1))), (.ref b7)])) rfl rfl (hb hby at_124) _ ?_
    refine XS.iload X32.here hx rfl (hb hby at_125) rfl ?_
    show Steps p.tables e below (T32.setTop (mkF m 127 #[.val (.int p0), .val (.int p1), .val (.int p2), .val (.int p3), .val (.int p4), .val (.ref b1), .val (.ref b7), .val (.int (Int32.ofNat i0)), .val (.int (Int32.ofNat j0)), .val (.int x0), .val (.int (Int32.ofNat i1)), .val (.int (Int32.ofNat j1)), .val (.int x1), .val (.int (Int32.ofNat i2)), .val (.int (Int32.ofNat j2)), .val (.int x2), .unset, .unset, .unset, .unset, .unset, .unset, .unset, .unset, .unset, .unset] [(.int x1), (.int (ms1.getD (i1 * 4 + j1) 0)), (.int (Int32.ofNat (i1 * 4 + j1))), (.ref b7)])) _
    refine XS.iadd X32.here hx rfl (hb hby at_127) rfl ?_
    show Steps p.tables e below (T32.setTop (mkF m 128 #[.val (.int p0), .val (.int p1), .val (.int p2), .val (.int p3), .val (.int p4), .val (.ref b1), .val (.ref b7), .val (.int (Int32.ofNat i0)), .val (.int (Int32.ofNat j0)), .val (.int x0), .val (.int (Int32.ofNat i1)), .val (.int (Int32.ofNat j1)), .val (.int x1), .val (.int (Int32.ofNat i2)), .val (.int (Int32.ofNat j2)), .val (.int x2), .unset, .unset, .unset, .unset, .unset, .unset, .unset, .unset, .unset, .unset] [(.int ((ms1.getD (i1 * 4 + j1) 0) + x1)), (.int (Int32.ofNat (i1 * 4 + j1))), (.ref b7)])) _
    exact q
  obtain ⟨cl_38, Ar_38, q_38, S_38, M_38, H_38, G_38⟩ := VM
  obtain ⟨T39, h39, X39, e39, W39, st39⟩ := stI X32 hx hZ rfl Ar_38 (j := (Int32.ofNat (i1 * 4 + j1))) (inb_of S_38 (own_lt8 (i := i1 * 4 + j1) (by omega))) (g := (mkF m 128 #[.val (.int p0), .val (.int p1), .val (.int p2), .val (.int p3), .val (.int p4), .val (.ref b1), .val (.ref b7), .val (.int (Int32.ofNat i0)), .val (.int (Int32.ofNat j0)), .val (.int x0), .val (.int (Int32.ofNat i1)), .val (.int (Int32.ofNat j1)), .val (.int x1), .val (.int (Int32.ofNat i2)), .val (.int (Int32.ofNat j2)), .val (.int x2), .unset, .unset, .unset, .unset, .unset, .unset, .unset, .unset, .unset, .unset] [(.int ((ms1.getD (i1 * 4 + j1) 0) + x1)), (.int (Int32.ofNat (i1 * 4 + j1))), (.ref b7)])) rfl rfl (hb hby at_128)
  have k40_ : ∀ t, Steps p.tables e below (T39.setTop (mkF m 129 #[.val (.int p0), .val (.int p1), .val (.int p2), .val (.int p3), .val (.int p4), .val (.ref b1), .val (.ref b7), .val (.int (Int32.ofNat i0)), .val (.int (Int32.ofNat j0)), .val (.int x0), .val (.int (Int32.ofNat i1)), .val (.int (Int32.ofNat j1)), .val (.int x1), .val (.int (Int32.ofNat i2)), .val (.int (Int32.ofNat j2)), .val (.int x2), .unset, .unset, .unset, .unset, .unset, .unset, .unset, .unset, .unset, .unset] [])) t → Steps p.tables e below (s₁.setTop (mkF m 0 #[.val (.int p0), .val (.int p1), .val (.int p2), .val (.int p3), .val (.int p4), .unset, .unset, .unset, .unset, .unset, .unset, .unset, .unset, .unset, .unset, .unset, .unset, .unset, .unset, .unset, .unset, .unset, .unset, .unset, .unset, .unset] [])) t := fun t q => k37_ t (st39 t q)
  have N39 := Fr.snoc X39 N32 gM
  replace Zn := Nat.le_trans Zn (Keep.of_wr W39).1
  obtain ⟨ms2, hms2⟩ : ∃ z : List Int32, z = ms1.set (i1 * 4 + j1) ((ms1.getD (i1 * 4 + j1) 0) + x1) := ⟨_, rfl⟩
  have VM : Arv Z h39 b7 c7 .int (8 : Int32) (ms2.map Value.int) (.int 0) := by rw [hms2, List.map_set]; exact Arv.set Ar_38 q_38 S_38 M_38 H_38 G_38 rfl W39 (i1 * 4 + j1) (own_ci (by omega)) (by rw [List.length_map, M1.1]; omega)
  replace I2 := own_I_keep I2 (Keep.of_wr W39) (fun x hx => Or.inl (by cases List.mem_singleton.mp hx; exact w9))
  have lM := VM.lt
  have em1 : ms1.getD (i1 * 4 + j1) 0 = (G1 i1 (Int32.ofNat j1)) := M1.2 _ _ h_i1 h_j1
  obtain ⟨G2, hG2⟩ : ∃ z, z = own_G2 G1 i1 j1 ((G1 i1 (Int32.ofNat j1)) + x1) := ⟨_, rfl⟩
  rw [← hG2] at I2
  have M2 : own_M G2 ms2 := by rw [hG2, hms2, em1]; exact own_M_2 h_i1 h_j1 M1
  have Con2 : own_Con G2 := by rw [hG2]; exact own_Con_2 h_i1 h_j1 Con1
  have B2 : own_B G2 536870910 := by rw [hG2]; exact own_B_2 h_i1 h_j1 B1 lo1 (by omega) (by decide)
  obtain ⟨ok2, lo2, up2⟩ := own_add_ok (G2 i2 (Int32.ofNat j2)) x2 536870910 (B2 _ _ h_i2 h_j2).1 (B2 _ _ h_i2 h_j2).2 bc2.1 bc2.2 (by decide)
  have k41_ : ∀ t, Steps p.tables e below (T39.setTop (mkF m 137 #[.val (.int p0), .val (.int p1), .val (.int p2), .val (.int p3), .val (.int p4), .val (.ref b1), .val (.ref b7), .val (.int (Int32.ofNat i0)), .val (.int (Int32.ofNat j0)), .val (.int x0), .val (.int (Int32.ofNat i1)), .val (.int (Int32.ofNat j1)), .val (.int x1), .val (.int (Int32.ofNat i2)), .val (.int (Int32.ofNat j2)), .val (.int x2), .unset, .unset, .unset, .unset, .unset, .unset, .unset, .unset, .unset, .unset] [(.int x2), (.int (Int32.ofNat j2)), (.int (Int32.ofNat i2)), (.ref b1)])) t → Steps p.tables e below (s₁.setTop (mkF m 0 #[.val (.int p0), .val (.int p1), .val (.int p2), .val (.int p3), .val (.int p4), .unset, .unset, .unset, .unset, .unset, .unset, .unset, .unset, .unset, .unset, .unset, .unset, .unset, .unset, .unset, .unset, .unset, .unset, .unset, .unset, .unset] [])) t := by
    intro t q
    refine k40_ _ ?_
    show Steps p.tables e below (T39.setTop (mkF m 129 #[.val (.int p0), .val (.int p1), .val (.int p2), .val (.int p3), .val (.int p4), .val (.ref b1), .val (.ref b7), .val (.int (Int32.ofNat i0)), .val (.int (Int32.ofNat j0)), .val (.int x0), .val (.int (Int32.ofNat i1)), .val (.int (Int32.ofNat j1)), .val (.int x1), .val (.int (Int32.ofNat i2)), .val (.int (Int32.ofNat j2)), .val (.int x2), .unset, .unset, .unset, .unset, .unset, .unset, .unset, .unset, .unset, .unset] [])) _
    refine XS.aload X39.here hx rfl (hb hby at_129) rfl rfl ?_
    refine XS.iload X39.here hx rfl (hb hby at_131) rfl ?_
    refine XS.iload X39.here hx rfl (hb hby at_133) rfl ?_
    show Steps p.tables e below (T39.setTop (mkF m 135 #[.val (.int p0), .val (.int p1), .val (.int p2), .val (.int p3), .val (.int p4), .val (.ref b1), .val (.ref b7), .val (.int (Int32.ofNat i0)), .val (.int (Int32.ofNat j0)), .val (.int x0), .val (.int (Int32.ofNat i1)), .val (.int (Int32.ofNat j1)), .val (.int x1), .val (.int (Int32.ofNat i2)), .val (.int (Int32.ofNat j2)), .val (.int x2), .unset, .unset, .unset, .unset, .unset, .unset, .unset, .unset, .unset, .unset] [(.int (Int32.ofNat j2)), (.int (Int32.ofNat i2)), (.ref b1)])) _
    refine XS.iload X39.here hx rfl (hb hby at_135) rfl ?_
    show Steps p.tables e below (T39.setTop (mkF m 137 #[.val (.int p0), .val (.int p1), .val (.int p2), .val (.int p3), .val (.int p4), .val (.ref b1), .val (.ref b7), .val (.int (Int32.ofNat i0)), .val (.int (Int32.ofNat j0)), .val (.int x0), .val (.int (Int32.ofNat i1)), .val (.int (Int32.ofNat j1)), .val (.int x1), .val (.int (Int32.ofNat i2)), .val (.int (Int32.ofNat j2)), .val (.int x2), .unset, .unset, .unset, .unset, .unset, .unset, .unset, .unset, .unset, .unset] [(.int x2), (.int (Int32.ofNat j2)), (.int (Int32.ofNat i2)), (.ref b1)])) _
    exact q
  obtain ⟨cq42, kq42, q42a, q42b, q42c⟩ := isOf hZ e39 I2.1
  obtain ⟨_, _, ⟨T42, L42, kk42, n42⟩, -, X42, ⟨Lc42, hQ42, l42, y42, z42⟩, st42⟩ := X39.virtualBack hx (y := (⟨"com/example/weir/weir/model/HeldTasks", "add", "(III)V"⟩ : MethodName)) (z := (⟨"com/example/weir/weir/model/HeldTasks", "add", "(III)V"⟩ : MethodName)) hown (mvT hZ (hw _ (List.mem_of_getElem? (i := 17) rfl))) (mvT hZ (hw _ (List.mem_of_getElem? (i := 18) rfl))) (notFace_of_selects (args := #[]) (mvT hZ (hw _ (List.mem_of_getElem? (i := 20) rfl)))) (mvT hZ (hw _ (List.mem_of_getElem? (i := 20) rfl))) (mvT hZ (hw _ (List.mem_of_getElem? (i := 19) rfl))) (by decide) (backOf (W := 0) (rmAd l Z a0 hw [] b1 nb pb O2 w2 G2 i2 j2 x2 h39 n0 Zn I2 h_i2 h_j2 (Con2 i2 j2 h_i2 h_j2) ok2) hZ (hw _ (List.mem_of_getElem? (i := 21) rfl)) (hw _ (List.mem_of_getElem? (i := 2) rfl)) (by decide) (by decide)) q42a q42c (g := (mkF m 137 #[.val (.int p0), .val (.int p1), .val (.int p2), .val (.int p3), .val (.int p4), .val (.ref b1), .val (.ref b7), .val (.int (Int32.ofNat i0)), .val (.int (Int32.ofNat j0)), .val (.int x0), .val (.int (Int32.ofNat i1)), .val (.int (Int32.ofNat j1)), .val (.int x1), .val (.int (Int32.ofNat i2)), .val (.int (Int32.ofNat j2)), .val (.int x2), .unset, .unset, .unset, .unset, .unset, .unset, .unset, .unset, .unset, .unset] [(.int x2), (.int (Int32.ofNat j2)), (.int (Int32.ofNat i2)), (.ref b1)])) rfl (by rw [hml]; rfl) (Steps.refl _) (argsL := [(.int (Int32.ofNat i2)), (.int (Int32.ofNat j2)), (.int x2)]) (rest := []) (lenOf pd_32812 rfl) rfl (by show 2 * 0 + _ ≤ _; exact Nat.le_of_eq rfl) (hb hby at_137) (fun _ _ => ⟨rfl, e39, (by decide : 0 + 1 + 2 + 1 + 10 + 10 + 10 ≤ _), (by decide : 0 + 2 + 6 + 8 + 54 + 54 + 54 ≤ _)⟩)
  dsimp only [Pt.U, Pt.locs, Pt.cells, Pt.slots] at X42 l42 y42 z42 st42 hQ42
  rw [l42, y42, z42] at X42
  obtain ⟨rfl, Nq42, O3, w3, I3, K3⟩ := hQ42
  have N42 := Fr.app N39 Nq42
  have k43_ : ∀ t, Steps p.tables e below (T42.setTop (mkF m 140 #[.val (.int p0), .val (.int p1), .val (.int p2), .val (.int p3), .val (.int p4), .val (.ref b1), .val (.ref b7), .val (.int (Int32.ofNat i0)), .val (.int (Int32.ofNat j0)), .val (.int x0), .val (.int (Int32.ofNat i1)), .val (.int (Int32.ofNat j1)), .val (.int x1), .val (.int (Int32.ofNat i2)), .val (.int (Int32.ofNat j2)), .val (.int x2), .unset, .unset, .unset, .unset, .unset, .unset, .unset, .unset, .unset, .unset] [])) t → Steps p.tables e below (s₁.setTop (mkF m 0 #[.val (.int p0), .val (.int p1), .val (.int p2), .val (.int p3), .val (.int p4), .unset, .unset, .unset, .unset, .unset, .unset, .unset, .unset, .unset, .unset, .unset, .unset, .unset, .unset, .unset, .unset, .unset, .unset, .unset, .unset, .unset] [])) t := fun t q => k41_ t (st42.trans q)
  replace VM := own_Kw_arv VM K3 w9
  replace w9 := (K3.2.2 _ lM).trans w9
  replace lM := Nat.lt_of_lt_of_le lM K3.1
  replace Zn := Nat.le_trans Zn K3.1
  have k44_ : ∀ t, Steps p.tables e below (T42.setTop (mkF m 149 #[.val (.int p0), .val (.int p1), .val (.int p2), .val (.int p3), .val (.int p4), .val (.ref b1), .val (.ref b7), .val (.int (Int32.ofNat i0)), .val (.int (Int32.ofNat j0)), .val (.int x0), .val (.int (Int32.ofNat i1)), .val (.int (Int32.ofNat j1)), .val (.int x1), .val (.int (Int32.ofNat i2)), .val (.int (Int32.ofNat j2)), .val (.int x2), .unset, .unset, .unset, .unset, .unset, .unset, .unset, .unset, .unset, .unset] [(.int (((Int32.ofNat i2) * (4 : Int32)) + (Int32.ofNat j2))), (.ref b7)])) t → Steps p.tables e below (s₁.setTop (mkF m 0 #[.val (.int p0), .val (.int p1), .val (.int p2), .val (.int p3), .val (.int p4), .unset, .unset, .unset, .unset, .unset, .unset, .unset, .unset, .unset, .unset, .unset, .unset, .unset, .unset, .unset, .unset, .unset, .unset, .unset, .unset, .unset] [])) t := by
    intro t q
    refine k43_ _ ?_
    show Steps p.tables e below (T42.setTop (mkF m 140 #[.val (.int p0), .val (.int p1), .val (.int p2), .val (.int p3), .val (.int p4), .val (.ref b1), .val (.ref b7), .val (.int (Int32.ofNat i0)), .val (.int (Int32.ofNat j0)), .val (.int x0), .val (.int (Int32.ofNat i1)), .val (.int (Int32.ofNat j1)), .val (.int x1), .val (.int (Int32.ofNat i2)), .val (.int (Int32.ofNat j2)), .val (.int x2), .unset, .unset, .unset, .unset, .unset, .unset, .unset, .unset, .unset, .unset] [])) _
    refine XS.aload X42.here hx rfl (hb hby at_140) rfl rfl ?_
    refine XS.iload X42.here hx rfl (hb hby at_142) rfl ?_
    refine XS.iconst X42.here hx rfl (hb hby at_144) ?_
    show Steps p.tables e below (T42.setTop (mkF m 145 #[.val (.int p0), .val (.int p1), .val (.int p2), .val (.int p3), .val (.int p4), .val (.ref b1), .val (.ref b7), .val (.int (Int32.ofNat i0)), .val (.int (Int32.ofNat j0)), .val (.int x0), .val (.int (Int32.ofNat i1)), .val (.int (Int32.ofNat j1)), .val (.int x1), .val (.int (Int32.ofNat i2)), .val (.int (Int32.ofNat j2)), .val (.int x2), .unset, .unset, .unset, .unset, .unset, .unset, .unset, .unset, .unset, .unset] [(.int (4 : Int32)), (.int (Int32.ofNat i2)), (.ref b7)])) _
    refine XS.imul X42.here hx rfl (hb hby at_145) rfl ?_
    refine XS.iload X42.here hx rfl (hb hby at_146) rfl ?_
    refine XS.iadd X42.here hx rfl (hb hby at_148) rfl ?_
    show Steps p.tables e below (T42.setTop (mkF m 149 #[.val (.int p0), .val (.int p1), .val (.int p2), .val (.int p3), .val (.int p4), .val (.ref b1), .val (.ref b7), .val (.int (Int32.ofNat i0)), .val (.int (Int32.ofNat j0)), .val (.int x0), .val (.int (Int32.ofNat i1)), .val (.int (Int32.ofNat j1)), .val (.int x1), .val (.int (Int32.ofNat i2)), .val (.int (Int32.ofNat j2)), .val (.int x2), .unset, .unset, .unset, .unset, .unset, .unset, .unset, .unset, .unset, .unset] [(.int (((Int32.ofNat i2) * (4 : Int32)) + (Int32.ofNat j2))), (.ref b7)])) _
    exact q
  have k45_ : ∀ t, Steps p.tables e below (T42.setTop (mkF m 149 #[.val (.int p0), .val (.int p1), .val (.int p2), .val (.int p3), .val (.int p4), .val (.ref b1), .val (.ref b7), .val (.int (Int32.ofNat i0)), .val (.int (Int32.ofNat j0)), .val (.int x0), .val (.int (Int32.ofNat i1)), .val (.int (Int32.ofNat j1)), .val (.int x1), .val (.int (Int32.ofNat i2)), .val (.int (Int32.ofNat j2)), .val (.int x2), .unset, .unset, .unset, .unset, .unset, .unset, .unset, .unset, .unset, .unset] [(.int (Int32.ofNat (i2 * 4 + j2))), (.ref b7)])) t → Steps p.tables e below (s₁.setTop (mkF m 0 #[.val (.int p0), .val (.int p1), .val (.int p2), .val (.int p3), .val (.int p4), .unset, .unset, .unset, .unset, .unset, .unset, .unset, .unset, .unset, .unset, .unset, .unset, .unset, .unset, .unset, .unset, .unset, .unset, .unset, .unset, .unset] [])) t := fun t q => k44_ t (Eq.mp (congrArg (fun z => Steps p.tables e below (T42.setTop (mkF m 149 #[.val (.int p0), .val (.int p1), .val (.int p2), .val (.int p3), .val (.int p4), .val (.ref b1), .val (.ref b7), .val (.int (Int32.ofNat i0)), .val (.int (Int32.ofNat j0)), .val (.int x0), .val (.int (Int32.ofNat i1)), .val (.int (Int32.ofNat j1)), .val (.int x1), .val (.int (Int32.ofNat i2)), .val (.int (Int32.ofNat j2)), .val (.int x2), .unset, .unset, .unset, .unset, .unset, .unset, .unset, .unset, .unset, .unset] [(.int z), (.ref b7)])) t) (show (Int32.ofNat (i2 * 4 + j2)) = (((Int32.ofNat i2) * (4 : Int32)) + (Int32.ofNat j2)) from (own_x8 h_i2 h_j2))) q)
  obtain ⟨cl46, Ar46, q46, S46, M46, H46, G46⟩ := id VM
  have k47_ : ∀ t, Steps p.tables e below (T42.setTop (mkF m 154 #[.val (.int p0), .val (.int p1), .val (.int p2), .val (.int p3), .val (.int p4), .val (.ref b1), .val (.ref b7), .val (.int (Int32.ofNat i0)), .val (.int (Int32.ofNat j0)), .val (.int x0), .val (.int (Int32.ofNat i1)), .val (.int (Int32.ofNat j1)), .val (.int x1), .val (.int (Int32.ofNat i2)), .val (.int (Int32.ofNat j2)), .val (.int x2), .unset, .unset, .unset, .unset, .unset, .unset, .unset, .unset, .unset, .unset] [(.int ((ms2.getD (i2 * 4 + j2) 0) + x2)), (.int (Int32.ofNat (i2 * 4 + j2))), (.ref b7)])) t → Steps p.tables e below (s₁.setTop (mkF m 0 #[.val (.int p0), .val (.int p1), .val (.int p2), .val (.int p3), .val (.int p4), .unset, .unset, .unset, .unset, .unset, .unset, .unset, .unset, .unset, .unset, .unset, .unset, .unset, .unset, .unset, .unset, .unset, .unset, .unset, .unset, .unset] [])) t := by
    intro t q
    refine k45_ _ ?_
    show Steps p.tables e below (T42.setTop (mkF m 149 #[.val (.int p0), .val (.int p1), .val (.int p2), .val (.int p3), .val (.int p4), .val (.ref b1), .val (.ref b7), .val (.int (Int32.ofNat i0)), .val (.int (Int32.ofNat j0)), .val (.int x0), .val (.int (Int32.ofNat i1)), .val (.int (Int32.ofNat j1)), .val (.int x1), .val (.int (Int32.ofNat i2)), .val (.int (Int32.ofNat j2)), .val (.int x2), .unset, .unset, .unset, .unset, .unset, .unset, .unset, .unset, .unset, .unset] [(.int (Int32.ofNat (i2 * 4 + j2))), (.ref b7)])) _
    refine XT.dup2 X42.here hx rfl (hb hby at_149) rfl rfl rfl ?_
    refine X42.iaload hx (j := (Int32.ofNat (i2 * 4 + j2))) (v := (.int (ms2.getD (i2 * 4 + j2) 0))) Ar46.1 (State.isArrayOf_alike hZ.alike Ar46.2.1) Ar46.2.2 (inb_of S46 (own_lt8 (i := i2 * 4 + j2) (by omega))) (Has.at H46 (inb_of S46 (own_lt8 (i := i2 * 4 + j2) (by omega))) (own_gi _ (by omega))) (g := (mkF m 150 #[.val (.int p0), .val (.int p1), .val (.int p2), .val (.int p3), .val (.int p4), .val (.ref b1), .val (.ref b7), .val (.int (Int32.ofNat i0)), .val (.int (Int32.ofNat j0)), .val (.int x0), .val (.int (Int32.ofNat i1)), .val (.int (Int32.ofNat j1)), .val (.int x1), .val (.int (Int32.ofNat i2)), .val (.int (Int32.ofNat j2)), .val (.int x2), .unset, .unset, .unset, .unset, .unset, .unset, .unset, .unset, .unset, .unset] [(.int (Int32.ofNat (i2 * 4 + j2))), (.ref b7), (.int (Int32.ofNat (i2 * 4 + j2))), (.ref b7)])) rfl rfl (hb hby at_150) _ ?_
    refine XS.iload X42.here hx rfl (hb hby at_151) rfl ?_
    show Steps p.tables e below (T42.setTop (mkF m 153 #[.val (.int p0), .val (.int p1), .val (.int p2), .val (.int p3), .val (.int p4), .val (.ref b1), .val (.ref b7), .val (.int (Int32.ofNat i0)), .val (.int (Int32.ofNat j0)), .val (.int x0), .val (.int (Int32.ofNat i1)), .val (.int (Int32.ofNat j1)), .val (.int x1), .val (.int (Int32.ofNat i2)), .val (.int (Int32.ofNat j2)), .val (.int x2), .unset, .unset, .unset, .unset, .unset, .unset, .unset, .unset, .unset, .unset] [(.int x2), (.int (ms2.getD (i2 * 4 + j2) 0)), (.int (Int32.ofNat (i2 * 4 + j2))), (.ref b7)])) _
    refine XS.iadd X42.here hx rfl (hb hby at_153) rfl ?_
    show Steps p.tables e below (T42.setTop (mkF m 154 #[.val (.int p0), .val (.int p1), .val (.int p2), .val (.int p3), .val (.int p4), .val (.ref b1), .val (.ref b7), .val (.int (Int32.ofNat i0)), .val (.int (Int32.ofNat j0)), .val (.int x0), .val (.int (Int32.ofNat i1)), .val (.int (Int32.ofNat j1)), .val (.int x1), .val (.int (Int32.ofNat i2)), .val (.int (Int32.ofNat j2)), .val (.int x2), .unset, .unset, .unset, .unset, .unset, .unset, .unset, .unset, .unset, .unset] [(.int ((ms2.getD (i2 * 4 + j2) 0) + x2)), (.int (Int32.ofNat (i2 * 4 + j2))), (.ref b7)])) _
    exact q
  obtain ⟨cl_48, Ar_48, q_48, S_48, M_48, H_48, G_48⟩ := VM
  obtain ⟨T49, h49, X49, e49, W49, st49⟩ := stI X42 hx hZ rfl Ar_48 (j := (Int32.ofNat (i2 * 4 + j2))) (inb_of S_48 (own_lt8 (i := i2 * 4 + j2) (by omega))) (g := (mkF m 154 #[.val (.int p0), .val (.int p1), .val (.int p2), .val (.int p3), .val (.int p4), .val (.ref b1), .val (.ref b7), .val (.int (Int32.ofNat i0)), .val (.int (Int32.ofNat j0)), .val (.int x0), .val (.int (Int32.ofNat i1)), .val (.int (Int32.ofNat j1)), .val (.int x1), .val (.int (Int32.ofNat i2)), .val (.int (Int32.ofNat j2)), .val (.int x2), .unset, .unset, .unset, .unset, .unset, .unset, .unset, .unset, .unset, .unset] [(.int ((ms2.getD (i2 * 4 + j2) 0) + x2)), (.int (Int32.ofNat (i2 * 4 + j2))), (.ref b7)])) rfl rfl (hb hby at_154)
  have k50_ : ∀ t, Steps p.tables e below (T49.setTop (mkF m 155 #[.val (.int p0), .val (.int p1), .val (.int p2), .val (.int p3), .val (.int p4), .val (.ref b1), .val (.ref b7), .val (.int (Int32.ofNat i0)), .val (.int (Int32.ofNat j0)), .val (.int x0), .val (.int (Int32.ofNat i1)), .val (.int (Int32.ofNat j1)), .val (.int x1), .val (.int (Int32.ofNat i2)), .val (.int (Int32.ofNat j2)), .val (.int x2), .unset, .unset, .unset, .unset, .unset, .unset, .unset, .unset, .unset, .unset] [])) t → Steps p.tables e below (s₁.setTop (mkF m 0 #[.val (.int p0), .val (.int p1), .val (.int p2), .val (.int p3), .val (.int p4), .unset, .unset, .unset, .unset, .unset, .unset, .unset, .unset, .unset, .unset, .unset, .unset, .unset, .unset, .unset, .unset, .unset, .unset, .unset, .unset, .unset] [])) t := fun t q => k47_ t (st49 t q)
  have N49 := Fr.snoc X49 N42 gM
  replace Zn := Nat.le_trans Zn (Keep.of_wr W49).1
  obtain ⟨ms3, hms3⟩ : ∃ z : List Int32, z = ms2.set (i2 * 4 + j2) ((ms2.getD (i2 * 4 + j2) 0) + x2) := ⟨_, rfl⟩
  have VM : Arv Z h49 b7 c7 .int (8 : Int32) (ms3.map Value.int) (.int 0) := by rw [hms3, List.map_set]; exact Arv.set Ar_48 q_48 S_48 M_48 H_48 G_48 rfl W49 (i2 * 4 + j2) (own_ci (by omega)) (by rw [List.length_map, M2.1]; omega)
  replace I3 := own_I_keep I3 (Keep.of_wr W49) (fun x hx => Or.inl (by cases List.mem_singleton.mp hx; exact w9))
  have lM := VM.lt
  have em2 : ms2.getD (i2 * 4 + j2) 0 = (G2 i2 (Int32.ofNat j2)) := M2.2 _ _ h_i2 h_j2
  obtain ⟨G3, hG3⟩ : ∃ z, z = own_G2 G2 i2 j2 ((G2 i2 (Int32.ofNat j2)) + x2) := ⟨_, rfl⟩
  rw [← hG3] at I3
  have M3 : own_M G3 ms3 := by rw [hG3, hms3, em2]; exact own_M_2 h_i2 h_j2 M2
  have Con3 : own_Con G3 := by rw [hG3]; exact own_Con_2 h_i2 h_j2 Con2
  have B3 : own_B G3 805306365 := by rw [hG3]; exact own_B_2 h_i2 h_j2 B2 lo2 (by omega) (by decide)
  have k51_ : ∀ t, Steps p.tables e below (T49.setTop (mkF m 174 #[.val (.int p0), .val (.int p1), .val (.int p2), .val (.int p3), .val (.int p4), .val (.ref b1), .val (.ref b7), .val (.int (Int32.ofNat i0)), .val (.int (Int32.ofNat j0)), .val (.int x0), .val (.int (Int32.ofNat i1)), .val (.int (Int32.ofNat j1)), .val (.int x1), .val (.int (Int32.ofNat i2)), .val (.int (Int32.ofNat j2)), .val (.int x2), .val (.int (p3 &&& (1 : Int32))), .val (.int (((p3.toUInt32 >>> ((1 : Int32) &&& 31).toUInt32).toInt32) &&& (3 : Int32))), .val (.int (((p3.toUInt32 >>> ((3 : Int32) &&& 31).toUInt32).toInt32) &&& (3 : Int32))), .unset, .unset, .unset, .unset, .unset, .unset, .unset] [])) t → Steps p.tables e below (s₁.setTop (mkF m 0 #[.val (.int p0), .val (.int p1), .val (.int p2), .val (.int p3), .val (.int p4), .unset, .unset, .unset, .unset, .unset, .unset, .unset, .unset, .unset, .unset, .unset, .unset, .unset, .unset, .unset, .unset, .unset, .unset, .unset, .unset, .unset] [])) t := by
    intro t q
    refine k50_ _ ?_
    show Steps p.tables e below (T49.setTop (mkF m 155 #[.val (.int p0), .val (.int p1), .val (.int p2), .val (.int p3), .val (.int p4), .val (.ref b1), .val (.ref b7), .val (.int (Int32.ofNat i0)), .val (.int (Int32.ofNat j0)), .val (.int x0), .val (.int (Int32.ofNat i1)), .val (.int (Int32.ofNat j1)), .val (.int x1), .val (.int (Int32.ofNat i2)), .val (.int (Int32.ofNat j2)), .val (.int x2), .unset, .unset, .unset, .unset, .unset, .unset, .unset, .unset, .unset, .unset] [])) _
    refine XS.iloadN X49.here hx rfl (hb hby at_155) rfl ?_
    refine XS.iconst X49.here hx rfl (hb hby at_156) ?_
    refine XS.iand X49.here hx rfl (hb hby at_157) rfl ?_
    show Steps p.tables e below (T49.setTop (mkF m 158 #[.val (.int p0), .val (.int p1), .val (.int p2), .val (.int p3), .val (.int p4), .val (.ref b1), .val (.ref b7), .val (.int (Int32.ofNat i0)), .val (.int (Int32.ofNat j0)), .val (.int x0), .val (.int (Int32.ofNat i1)), .val (.int (Int32.ofNat j1)), .val (.int x1), .val (.int (Int32.ofNat i2)), .val (.int (Int32.ofNat j2)), .val (.int x2), .unset, .unset, .unset, .unset, .unset, .unset, .unset, .unset, .unset, .unset] [(.int (p3 &&& (1 : Int32)))])) _
    refine XS.istore X49.here hx rfl (hb hby at_158) rfl (l' := #[.val (.int p0), .val (.int p1), .val (.int p2), .val (.int p3), .val (.int p4), .val (.ref b1), .val (.ref b7), .val (.int (Int32.ofNat i0)), .val (.int (Int32.ofNat j0)), .val (.int x0), .val (.int (Int32.ofNat i1)), .val (.int (Int32.ofNat j1)), .val (.int x1), .val (.int (Int32.ofNat i2)), .val (.int (Int32.ofNat j2)), .val (.int x2), .val (.int (p3 &&& (1 : Int32))), .unset, .unset, .unset, .unset, .unset, .unset, .unset, .unset, .unset]) rfl ?_
    refine XS.iloadN X49.here hx rfl (hb hby at_160) rfl ?_
    refine XS.iconst X49.here hx rfl (hb hby at_161) ?_
    show Steps p.tables e below (T49.setTop (mkF m 162 #[.val (.int p0), .val (.int p1), .val (.int p2), .val (.int p3), .val (.int p4), .val (.ref b1), .val (.ref b7), .val (.int (Int32.ofNat i0)), .val (.int (Int32.ofNat j0)), .val (.int x0), .val (.int (Int32.ofNat i1)), .val (.int (Int32.ofNat j1)), .val (.int x1), .val (.int (Int32.ofNat i2)), .val (.int (Int32.ofNat j2)), .val (.int x2), .val (.int (p3 &&& (1 : Int32))), .unset, .unset, .unset, .unset, .unset, .unset, .unset, .unset, .unset] [(.int (1 : Int32)), (.int p3)])) _
    refine XS.iushr X49.here hx rfl (hb hby at_162) rfl ?_
    refine XS.iconst X49.here hx rfl (hb hby at_163) ?_
    refine XS.iand X49.here hx rfl (hb hby at_164) rfl ?_
    show Steps p.tables e below (T49.setTop (mkF m 165 #[.val (.int p0), .val (.int p1), .val (.int p2), .val (.int p3), .val (.int p4), .val (.ref b1), .val (.ref b7), .val (.int (Int32.ofNat i0)), .val (.int (Int32.ofNat j0)), .val (.int x0), .val (.int (Int32.ofNat i1)), .val (.int (Int32.ofNat j1)), .val (.int x1), .val (.int (Int32.ofNat i2)), .val (.int (Int32.ofNat j2)), .val (.int x2), .val (.int (p3 &&& (1 : Int32))), .unset, .unset, .unset, .unset, .unset, .unset, .unset, .unset, .unset] [(.int (((p3.toUInt32 >>> ((1 : Int32) &&& 31).toUInt32).toInt32) &&& (3 : Int32)))])) _
    refine XS.istore X49.here hx rfl (hb hby at_165) rfl (l' := #[.val (.int p0), .val (.int p1), .val (.int p2), .val (.int p3), .val (.int p4), .val (.ref b1), .val (.ref b7), .val (.int (Int32.ofNat i0)), .val (.int (Int32.ofNat j0)), .val (.int x0), .val (.int (Int32.ofNat i1)), .val (.int (Int32.ofNat j1)), .val (.int x1), .val (.int (Int32.ofNat i2)), .val (.int (Int32.ofNat j2)), .val (.int x2), .val (.int (p3 &&& (1 : Int32))), .val (.int (((p3.toUInt32 >>> ((1 : Int32) &&& 31).toUInt32).toInt32) &&& (3 : Int32))), .unset, .unset, .unset, .unset, .unset, .unset, .unset, .unset]) rfl ?_
    refine XS.iloadN X49.here hx rfl (hb hby at_167) rfl ?_
    refine XS.iconst X49.here hx rfl (hb hby at_168) ?_
    show Steps p.tables e below (T49.setTop (mkF m 169 #[.val (.int p0), .val (.int p1), .val (.int p2), .val (.int p3), .val (.int p4), .val (.ref b1), .val (.ref b7), .val (.int (Int32.ofNat i0)), .val (.int (Int32.ofNat j0)), .val (.int x0), .val (.int (Int32.ofNat i1)), .val (.int (Int32.ofNat j1)), .val (.int x1), .val (.int (Int32.ofNat i2)), .val (.int (Int32.ofNat j2)), .val (.int x2), .val (.int (p3 &&& (1 : Int32))), .val (.int (((p3.toUInt32 >>> ((1 : Int32) &&& 31).toUInt32).toInt32) &&& (3 : Int32))), .unset, .unset, .unset, .unset, .unset, .unset, .unset, .unset] [(.int (3 : Int32)), (.int p3)])) _
    refine XS.iushr X49.here hx rfl (hb hby at_169) rfl ?_
    refine XS.iconst X49.here hx rfl (hb hby at_170) ?_
    refine XS.iand X49.here hx rfl (hb hby at_171) rfl ?_
    show Steps p.tables e below (T49.setTop (mkF m 172 #[.val (.int p0), .val (.int p1), .val (.int p2), .val (.int p3), .val (.int p4), .val (.ref b1), .val (.ref b7), .val (.int (Int32.ofNat i0)), .val (.int (Int32.ofNat j0)), .val (.int x0), .val (.int (Int32.ofNat i1)), .val (.int (Int32.ofNat j1)), .val (.int x1), .val (.int (Int32.ofNat i2)), .val (.int (Int32.ofNat j2)), .val (.int x2), .val (.int (p3 &&& (1 : Int32))), .val (.int (((p3.toUInt32 >>> ((1 : Int32) &&& 31).toUInt32).toInt32) &&& (3 : Int32))), .unset, .unset, .unset, .unset, .unset, .unset, .unset, .unset] [(.int (((p3.toUInt32 >>> ((3 : Int32) &&& 31).toUInt32).toInt32) &&& (3 : Int32)))])) _
    refine XS.istore X49.here hx rfl (hb hby at_172) rfl (l' := #[.val (.int p0), .val (.int p1), .val (.int p2), .val (.int p3), .val (.int p4), .val (.ref b1), .val (.ref b7), .val (.int (Int32.ofNat i0)), .val (.int (Int32.ofNat j0)), .val (.int x0), .val (.int (Int32.ofNat i1)), .val (.int (Int32.ofNat j1)), .val (.int x1), .val (.int (Int32.ofNat i2)), .val (.int (Int32.ofNat j2)), .val (.int x2), .val (.int (p3 &&& (1 : Int32))), .val (.int (((p3.toUInt32 >>> ((1 : Int32) &&& 31).toUInt32).toInt32) &&& (3 : Int32))), .val (.int (((p3.toUInt32 >>> ((3 : Int32) &&& 31).toUInt32).toInt32) &&& (3 : Int32))), .unset, .unset, .unset, .unset, .unset, .unset, .unset]) rfl ?_
    show Steps p.tables e below (T49.setTop (mkF m 174 #[.val (.int p0), .val (.int p1), .val (.int p2), .val (.int p3), .val (.int p4), .val (.ref b1), .val (.ref b7), .val (.int (Int32.ofNat i0)), .val (.int (Int32.ofNat j0)), .val (.int x0), .val (.int (Int32.ofNat i1)), .val (.int (Int32.ofNat j1)), .val (.int x1), .val (.int (Int32.ofNat i2)), .val (.int (Int32.ofNat j2)), .val (.int x2), .val (.int (p3 &&& (1 : Int32))), .val (.int (((p3.toUInt32 >>> ((1 : Int32) &&& 31).toUInt32).toInt32) &&& (3 : Int32))), .val (.int (((p3.toUInt32 >>> ((3 : Int32) &&& 31).toUInt32).toInt32) &&& (3 : Int32))), .unset, .unset, .unset, .unset, .unset, .unset, .unset] [])) _
    exact q
  obtain ⟨i3, h_i3, e_i3⟩ := own_msk p3 (1 : Int32) 1 2 (by decide) (by decide) (by decide) (by decide) (by decide)
  have k52_ : ∀ t, Steps p.tables e below (T49.setTop (mkF m 174 #[.val (.int p0), .val (.int p1), .val (.int p2), .val (.int p3), .val (.int p4), .val (.ref b1), .val (.ref b7), .val (.int (Int32.ofNat i0)), .val (.int (Int32.ofNat j0)), .val (.int x0), .val (.int (Int32.ofNat i1)), .val (.int (Int32.ofNat j1)), .val (.int x1), .val (.int (Int32.ofNat i2)), .val (.int (Int32.ofNat j2)), .val (.int x2), .val (.int (Int32.ofNat i3)), .val (.int (((p3.toUInt32 >>> ((1 : Int32) &&& 31).toUInt32).toInt32) &&& (3 : Int32))), .val (.int (((p3.toUInt32 >>> ((3 : Int32) &&& 31).toUInt32).toInt32) &&& (3 : Int32))), .unset, .unset, .unset, .unset, .unset, .unset, .unset] [])) t → Steps p.tables e below (s₁.setTop (mkF m 0 #[.val (.int p0), .val (.int p1), .val (.int p2), .val (.int p3), .val (.int p4), .unset, .unset, .unset, .unset, .unset, .unset, .unset, .unset, .unset, .unset, .unset, .unset, .unset, .unset, .unset, .unset, .unset, .unset, .unset, .unset, .unset] [])) t := fun t q => k51_ t (Eq.mp (congrArg (fun z => Steps p.tables e below (T49.setTop (mkF m 174 #[.val (.int p0), .val (.int p1), .val (.int p2), .val (.int p3), .val (.int p4), .val (.ref b1), .val (.ref b7), .val (.int (Int32.ofNat i0)), .val (.int (Int32.ofNat j0)), .val (.int x0), .val (.int (Int32.ofNat i1)), .val (.int (Int32.ofNat j1)), .val (.int x1), .val (.int (Int32.ofNat i2)), .val (.int (Int32.ofNat j2)), .val (.int x2), .val (.int z), .val (.int (((p3.toUInt32 >>> ((1 : Int32) &&& 31).toUInt32).toInt32) &&& (3 : Int32))), .val (.int (((p3.toUInt32 >>> ((3 : Int32) &&& 31).toUInt32).toInt32) &&& (3 : Int32))), .unset, .unset, .unset, .unset, .unset, .unset, .unset] [])) t) (show (Int32.ofNat i3) = (p3 &&& (1 : Int32)) from e_i3)) q)
  obtain ⟨j3, h_j3, e_j3⟩ := own_msk ((p3.toUInt32 >>> ((1 : Int32) &&& 31).toUInt32).toInt32) (3 : Int32) 2 4 (by decide) (by decide) (by decide) (by decide) (by decide)
  have k53_ : ∀ t, Steps p.tables e below (T49.setTop (mkF m 174 #[.val (.int p0), .val (.int p1), .val (.int p2), .val (.int p3), .val (.int p4), .val (.ref b1), .val (.ref b7), .val (.int (Int32.ofNat i0)), .val (.int (Int32.ofNat j0)), .val (.int x0), .val (.int (Int32.ofNat i1)), .val (.int (Int32.ofNat j1)), .val (.int x1), .val (.int (Int32.ofNat i2)), .val (.int (Int32.ofNat j2)), .val (.int x2), .val (.int (Int32.ofNat i3)), .val (.int (Int32.ofNat j3)), .val (.int (((p3.toUInt32 >>> ((3 : Int32) &&& 31).toUInt32).toInt32) &&& (3 : Int32))), .unset, .unset, .unset, .unset, .unset, .unset, .unset] [])) t → Steps p.tables e below (s₁.setTop (mkF m 0 #[.val (.int p0), .val (.int p1), .val (.int p2), .val (.int p3), .val (.int p4), .unset, .unset, .unset, .unset, .unset, .unset, .unset, .unset, .unset, .unset, .unset, .unset, .unset, .unset, .unset, .unset, .unset, .unset, .unset, .unset, .unset] [])) t := fun t q => k52_ t (Eq.mp (congrArg (fun z => Steps p.tables e below (T49.setTop (mkF m 174 #[.val (.int p0), .val (.int p1), .val (.int p2), .val (.int p3), .val (.int p4), .val (.ref b1), .val (.ref b7), .val (.int (Int32.ofNat i0)), .val (.int (Int32.ofNat j0)), .val (.int x0), .val (.int (Int32.ofNat i1)), .val (.int (Int32.ofNat j1)), .val (.int x1), .val (.int (Int32.ofNat i2)), .val (.int (Int32.ofNat j2)), .val (.int x2), .val (.int (Int32.ofNat i3)), .val (.int z), .val (.int (((p3.toUInt32 >>> ((3 : Int32) &&& 31).toUInt32).toInt32) &&& (3 : Int32))), .unset, .unset, .unset, .unset, .unset, .unset, .unset] [])) t) (show (Int32.ofNat j3) = (((p3.toUInt32 >>> ((1 : Int32) &&& 31).toUInt32).toInt32) &&& (3 : Int32)) from e_j3)) q)
  obtain ⟨md, e_md⟩ : ∃ z, z = (((p3.toUInt32 >>> ((3 : Int32) &&& 31).toUInt32).toInt32) &&& (3 : Int32)) := ⟨_, rfl⟩
  have k54_ : ∀ t, Steps p.tables e below (T49.setTop (mkF m 174 #[.val (.int p0), .val (.int p1), .val (.int p2), .val (.int p3), .val (.int p4), .val (.ref b1), .val (.ref b7), .val (.int (Int32.ofNat i0)), .val (.int (Int32.ofNat j0)), .val (.int x0), .val (.int (Int32.ofNat i1)), .val (.int (Int32.ofNat j1)), .val (.int x1), .val (.int (Int32.ofNat i2)), .val (.int (Int32.ofNat j2)), .val (.int x2), .val (.int (Int32.ofNat i3)), .val (.int (Int32.ofNat j3)), .val (.int md), .unset, .unset, .unset, .unset, .unset, .unset, .unset] [])) t → Steps p.tables e below (s₁.setTop (mkF m 0 #[.val (.int p0), .val (.int p1), .val (.int p2), .val (.int p3), .val (.int p4), .unset, .unset, .unset, .unset, .unset, .unset, .unset, .unset, .unset, .unset, .unset, .unset, .unset, .unset, .unset, .unset, .unset, .unset, .unset, .unset, .unset] [])) t := by rw [e_md]; exact k53_
  have k55_ : ∀ t, Steps p.tables e below (T49.setTop (mkF m 183 #[.val (.int p0), .val (.int p1), .val (.int p2), .val (.int p3), .val (.int p4), .val (.ref b1), .val (.ref b7), .val (.int (Int32.ofNat i0)), .val (.int (Int32.ofNat j0)), .val (.int x0), .val (.int (Int32.ofNat i1)), .val (.int (Int32.ofNat j1)), .val (.int x1), .val (.int (Int32.ofNat i2)), .val (.int (Int32.ofNat j2)), .val (.int x2), .val (.int (Int32.ofNat i3)), .val (.int (Int32.ofNat j3)), .val (.int md), .unset, .unset, .unset, .unset, .unset, .unset, .unset] [(.int (((Int32.ofNat i3) * (4 : Int32)) + (Int32.ofNat j3))), (.ref b7)])) t → Steps p.tables e below (s₁.setTop (mkF m 0 #[.val (.int p0), .val (.int p1), .val (.int p2), .val (.int p3), .val (.int p4), .unset, .unset, .unset, .unset, .unset, .unset, .unset, .unset, .unset, .unset, .unset, .unset, .unset, .unset, .unset, .unset, .unset, .unset, .unset, .unset, .unset] [])) t := by
    intro t q
    refine k54_ _ ?_
    show Steps p.tables e below (T49.setTop (mkF m 174 #[.val (.int p0), .val (.int p1), .val (.int p2), .val (.int p3), .val (.int p4), .val (.ref b1), .val (.ref b7), .val (.int (Int32.ofNat i0)), .val (.int (Int32.ofNat j0)), .val (.int x0), .val (.int (Int32.ofNat i1)), .val (.int (Int32.ofNat j1)), .val (.int x1), .val (.int (Int32.ofNat i2)), .val (.int (Int32.ofNat j2)), .val (.int x2), .val (.int (Int32.ofNat i3)), .val (.int (Int32.ofNat j3)), .val (.int md), .unset, .unset, .unset, .unset, .unset, .unset, .unset] [])) _
    refine XS.aload X49.here hx rfl (hb hby at_174) rfl rfl ?_
    refine XS.iload X49.here hx rfl (hb hby at_176) rfl ?_
    refine XS.iconst X49.here hx rfl (hb hby at_178) ?_
    show Steps p.tables e below (T49.setTop (mkF m 179 #[.val (.int p0), .val (.int p1), .val (.int p2), .val (.int p3), .val (.int p4), .val (.ref b1), .val (.ref b7), .val (.int (Int32.ofNat i0)), .val (.int (Int32.ofNat j0)), .val (.int x0), .val (.int (Int32.ofNat i1)), .val (.int (Int32.ofNat j1)), .val (.int x1), .val (.int (Int32.ofNat i2)), .val (.int (Int32.ofNat j2)), .val (.int x2), .val (.int (Int32.ofNat i3)), .val (.int (Int32.ofNat j3)), .val (.int md), .unset, .unset, .unset, .unset, .unset, .unset, .unset] [(.int (4 : Int32)), (.int (Int32.ofNat i3)), (.ref b7)])) _
    refine XS.imul X49.here hx rfl (hb hby at_179) rfl ?_
    refine XS.iload X49.here hx rfl (hb hby at_180) rfl ?_
    refine XS.iadd X49.here hx rfl (hb hby at_182) rfl ?_
    show Steps p.tables e below (T49.setTop (mkF m 183 #[.val (.int p0), .val (.int p1), .val (.int p2), .val (.int p3), .val (.int p4), .val (.ref b1), .val (.ref b7), .val (.int (Int32.ofNat i0)), .val (.int (Int32.ofNat j0)), .val (.int x0), .val (.int (Int32.ofNat i1)), .val (.int (Int32.ofNat j1)), .val (.int x1), .val (.int (Int32.ofNat i2)), .val (.int (Int32.ofNat j2)), .val (.int x2), .val (.int (Int32.ofNat i3)), .val (.int (Int32.ofNat j3)), .val (.int md), .unset, .unset, .unset, .unset, .unset, .unset, .unset] [(.int (((Int32.ofNat i3) * (4 : Int32)) + (Int32.ofNat j3))), (.ref b7)])) _
    exact q
  have k56_ : ∀ t, Steps p.tables e below (T49.setTop (mkF m 183 #[.val (.int p0), .val (.int p1), .val (.int p2), .val (.int p3), .val (.int p4), .val (.ref b1), .val (.ref b7), .val (.int (Int32.ofNat i0)), .val (.int (Int32.ofNat j0)), .val (.int x0), .val (.int (Int32.ofNat i1)), .val (.int (Int32.ofNat j1)), .val (.int x1), .val (.int (Int32.ofNat i2)), .val (.int (Int32.ofNat j2)), .val (.int x2), .val (.int (Int32.ofNat i3)), .val (.int (Int32.ofNat j3)), .val (.int md), .unset, .unset, .unset, .unset, .unset, .unset, .unset] [(.int (Int32.ofNat (i3 * 4 + j3))), (.ref b7)])) t → Steps p.tables e below (s₁.setTop (mkF m 0 #[.val (.int p0), .val (.int p1), .val (.int p2), .val (.int p3), .val (.int p4), .unset, .unset, .unset, .unset, .unset, .unset, .unset, .unset, .unset, .unset, .unset, .unset, .unset, .unset, .unset, .unset, .unset, .unset, .unset, .unset, .unset] [])) t := fun t q => k55_ t (Eq.mp (congrArg (fun z => Steps p.tables e below (T49.setTop (mkF m 183 #[.val (.int p0), .val (.int p1), .val (.int p2), .val (.int p3), .val (.int p4), .val (.ref b1), .val (.ref b7), .val (.int (Int32.ofNat i0)), .val (.int (Int32.ofNat j0)), .val (.int x0), .val (.int (Int32.ofNat i1)), .val (.int (Int32.ofNat j1)), .val (.int x1), .val (.int (Int32.ofNat i2)), .val (.int (Int32.ofNat j2)), .val (.int x2), .val (.int (Int32.ofNat i3)), .val (.int (Int32.ofNat j3)), .val (.int md), .unset, .unset, .unset, .unset, .unset, .unset, .unset] [(.int z), (.ref b7)])) t) (show (Int32.ofNat (i3 * 4 + j3)) = (((Int32.ofNat i3) * (4 : Int32)) + (Int32.ofNat j3)) from (own_x8 h_i3 h_j3))) q)
  obtain ⟨cl57, Ar57, q57, S57, M57, H57, G57⟩ := id VM
  have k58_ : ∀ t, Steps p.tables e below (T49.setTop (mkF m 184 #[.val (.int p0), .val (.int p1), .val (.int p2), .val (.int p3), .val (.int p4), .val (.ref b1), .val (.ref b7), .val (.int (Int32.ofNat i0)), .val (.int (Int32.ofNat j0)), .val (.int x0), .val (.int (Int32.ofNat i1)), .val (.int (Int32.ofNat j1)), .val (.int x1), .val (.int (Int32.ofNat i2)), .val (.int (Int32.ofNat j2)), .val (.int x2), .val (.int (Int32.ofNat i3)), .val (.int (Int32.ofNat j3)), .val (.int md), .unset, .unset, .unset, .unset, .unset, .unset, .unset] [(.int (ms3.getD (i3 * 4 + j3) 0))])) t → Steps p.tables e below (s₁.setTop (mkF m 0 #[.val (.int p0), .val (.int p1), .val (.int p2), .val (.int p3), .val (.int p4), .unset, .unset, .unset, .unset, .unset, .unset, .unset, .unset, .unset, .unset, .unset, .unset, .unset, .unset, .unset, .unset, .unset, .unset, .unset, .unset, .unset] [])) t := by
    intro t q
    refine k56_ _ ?_
    show Steps p.tables e below (T49.setTop (mkF m 183 #[.val (.int p0), .val (.int p1), .val (.int p2), .val (.int p3), .val (.int p4), .val (.ref b1), .val (.ref b7), .val (.int (Int32.ofNat i0)), .val (.int (Int32.ofNat j0)), .val (.int x0), .val (.int (Int32.ofNat i1)), .val (.int (Int32.ofNat j1)), .val (.int x1), .val (.int (Int32.ofNat i2)), .val (.int (Int32.ofNat j2)), .val (.int x2), .val (.int (Int32.ofNat i3)), .val (.int (Int32.ofNat j3)), .val (.int md), .unset, .unset, .unset, .unset, .unset, .unset, .unset] [(.int (Int32.ofNat (i3 * 4 + j3))), (.ref b7)])) _
    refine X49.iaload hx (j := (Int32.ofNat (i3 * 4 + j3))) (v := (.int (ms3.getD (i3 * 4 + j3) 0))) (by rw [e49]; exact Ar57.1) (State.isArrayOf_alike hZ.alike Ar57.2.1) Ar57.2.2 (inb_of S57 (own_lt8 (i := i3 * 4 + j3) (by omega))) (Has.at H57 (inb_of S57 (own_lt8 (i := i3 * 4 + j3) (by omega))) (own_gi _ (by omega))) (g := (mkF m 183 #[.val (.int p0), .val (.int p1), .val (.int p2), .val (.int p3), .val (.int p4), .val (.ref b1), .val (.ref b7), .val (.int (Int32.ofNat i0)), .val (.int (Int32.ofNat j0)), .val (.int x0), .val (.int (Int32.ofNat i1)), .val (.int (Int32.ofNat j1)), .val (.int x1), .val (.int (Int32.ofNat i2)), .val (.int (Int32.ofNat j2)), .val (.int x2), .val (.int (Int32.ofNat i3)), .val (.int (Int32.ofNat j3)), .val (.int md), .unset, .unset, .unset, .unset, .unset, .unset, .unset] [(.int (Int32.ofNat (i3 * 4 + j3))), (.ref b7)])) rfl rfl (hb hby at_183) _ ?_
    show Steps p.tables e below (T49.setTop (mkF m 184 #[.val (.int p0), .val (.int p1), .val (.int p2), .val (.int p3), .val (.int p4), .val (.ref b1), .val (.ref b7), .val (.int (Int32.ofNat i0)), .val (.int (Int32.ofNat j0)), .val (.int x0), .val (.int (Int32.ofNat i1)), .val (.int (Int32.ofNat j1)), .val (.int x1), .val (.int (Int32.ofNat i2)), .val (.int (Int32.ofNat j2)), .val (.int x2), .val (.int (Int32.ofNat i3)), .val (.int (Int32.ofNat j3)), .val (.int md), .unset, .unset, .unset, .unset, .unset, .unset, .unset] [(.int (ms3.getD (i3 * 4 + j3) 0))])) _
    exact q
  have em3' : ms3.getD (i3 * 4 + j3) 0 = G3 i3 (Int32.ofNat j3) := M3.2 _ _ h_i3 h_j3
  have k59_ : ∀ t, Steps p.tables e below (T49.setTop (mkF m 184 #[.val (.int p0), .val (.int p1), .val (.int p2), .val (.int p3), .val (.int p4), .val (.ref b1), .val (.ref b7), .val (.int (Int32.ofNat i0)), .val (.int (Int32.ofNat j0)), .val (.int x0), .val (.int (Int32.ofNat i1)), .val (.int (Int32.ofNat j1)), .val (.int x1), .val (.int (Int32.ofNat i2)), .val (.int (Int32.ofNat j2)), .val (.int x2), .val (.int (Int32.ofNat i3)), .val (.int (Int32.ofNat j3)), .val (.int md), .unset, .unset, .unset, .unset, .unset, .unset, .unset] [(.int (G3 i3 (Int32.ofNat j3)))])) t → Steps p.tables e below (s₁.setTop (mkF m 0 #[.val (.int p0), .val (.int p1), .val (.int p2), .val (.int p3), .val (.int p4), .unset, .unset, .unset, .unset, .unset, .unset, .unset, .unset, .unset, .unset, .unset, .unset, .unset, .unset, .unset, .unset, .unset, .unset, .unset, .unset, .unset] [])) t := fun t q => k58_ t (Eq.mp (congrArg (fun z => Steps p.tables e below (T49.setTop (mkF m 184 #[.val (.int p0), .val (.int p1), .val (.int p2), .val (.int p3), .val (.int p4), .val (.ref b1), .val (.ref b7), .val (.int (Int32.ofNat i0)), .val (.int (Int32.ofNat j0)), .val (.int x0), .val (.int (Int32.ofNat i1)), .val (.int (Int32.ofNat j1)), .val (.int x1), .val (.int (Int32.ofNat i2)), .val (.int (Int32.ofNat j2)), .val (.int x2), .val (.int (Int32.ofNat i3)), .val (.int (Int32.ofNat j3)), .val (.int md), .unset, .unset, .unset, .unset, .unset, .unset, .unset] [(.int z)])) t) (show (G3 i3 (Int32.ofNat j3)) = (ms3.getD (i3 * 4 + j3) 0) from em3'.symm)) q)
  have k60_ : ∀ t, Steps p.tables e below (T49.setTop (mkF m 191 #[.val (.int p0), .val (.int p1), .val (.int p2), .val (.int p3), .val (.int p4), .val (.ref b1), .val (.ref b7), .val (.int (Int32.ofNat i0)), .val (.int (Int32.ofNat j0)), .val (.int x0), .val (.int (Int32.ofNat i1)), .val (.int (Int32.ofNat j1)), .val (.int x1), .val (.int (Int32.ofNat i2)), .val (.int (Int32.ofNat j2)), .val (.int x2), .val (.int (Int32.ofNat i3)), .val (.int (Int32.ofNat j3)), .val (.int md), .val (.int (G3 i3 (Int32.ofNat j3))), .val (.int (0 : Int32)), .unset, .unset, .unset, .unset, .unset] [(.int md)])) t → Steps p.tables e below (s₁.setTop (mkF m 0 #[.val (.int p0), .val (.int p1), .val (.int p2), .val (.int p3), .val (.int p4), .unset, .unset, .unset, .unset, .unset, .unset, .unset, .unset, .unset, .unset, .unset, .unset, .unset, .unset, .unset, .unset, .unset, .unset, .unset, .unset, .unset] [])) t := by
    intro t q
    refine k59_ _ ?_
    show Steps p.tables e below (T49.setTop (mkF m 184 #[.val (.int p0), .val (.int p1), .val (.int p2), .val (.int p3), .val (.int p4), .val (.ref b1), .val (.ref b7), .val (.int (Int32.ofNat i0)), .val (.int (Int32.ofNat j0)), .val (.int x0), .val (.int (Int32.ofNat i1)), .val (.int (Int32.ofNat j1)), .val (.int x1), .val (.int (Int32.ofNat i2)), .val (.int (Int32.ofNat j2)), .val (.int x2), .val (.int (Int32.ofNat i3)), .val (.int (Int32.ofNat j3)), .val (.int md), .unset, .unset, .unset, .unset, .unset, .unset, .unset] [(.int (G3 i3 (Int32.ofNat j3)))])) _
    refine XS.istore X49.here hx rfl (hb hby at_184) rfl (l' := #[.val (.int p0), .val (.int p1), .val (.int p2), .val (.int p3), .val (.int p4), .val (.ref b1), .val (.ref b7), .val (.int (Int32.ofNat i0)), .val (.int (Int32.ofNat j0)), .val (.int x0), .val (.int (Int32.ofNat i1)), .val (.int (Int32.ofNat j1)), .val (.int x1), .val (.int (Int32.ofNat i2)), .val (.int (Int32.ofNat j2)), .val (.int x2), .val (.int (Int32.ofNat i3)), .val (.int (Int32.ofNat j3)), .val (.int md), .val (.int (G3 i3 (Int32.ofNat j3))), .unset, .unset, .unset, .unset, .unset, .unset]) rfl ?_
    refine XS.iconst X49.here hx rfl (hb hby at_186) ?_
    refine XS.istore X49.here hx rfl (hb hby at_187) rfl (l' := #[.val (.int p0), .val (.int p1), .val (.int p2), .val (.int p3), .val (.int p4), .val (.ref b1), .val (.ref b7), .val (.int (Int32.ofNat i0)), .val (.int (Int32.ofNat j0)), .val (.int x0), .val (.int (Int32.ofNat i1)), .val (.int (Int32.ofNat j1)), .val (.int x1), .val (.int (Int32.ofNat i2)), .val (.int (Int32.ofNat j2)), .val (.int x2), .val (.int (Int32.ofNat i3)), .val (.int (Int32.ofNat j3)), .val (.int md), .val (.int (G3 i3 (Int32.ofNat j3))), .val (.int (0 : Int32)), .unset, .unset, .unset, .unset, .unset]) rfl ?_
    show Steps p.tables e below (T49.setTop (mkF m 189 #[.val (.int p0), .val (.int p1), .val (.int p2), .val (.int p3), .val (.int p4), .val (.ref b1), .val (.ref b7), .val (.int (Int32.ofNat i0)), .val (.int (Int32.ofNat j0)), .val (.int x0), .val (.int (Int32.ofNat i1)), .val (.int (Int32.ofNat j1)), .val (.int x1), .val (.int (Int32.ofNat i2)), .val (.int (Int32.ofNat j2)), .val (.int x2), .val (.int (Int32.ofNat i3)), .val (.int (Int32.ofNat j3)), .val (.int md), .val (.int (G3 i3 (Int32.ofNat j3))), .val (.int (0 : Int32)), .unset, .unset, .unset, .unset, .unset] [])) _
    refine XS.iload X49.here hx rfl (hb hby at_189) rfl ?_
    show Steps p.tables e below (T49.setTop (mkF m 191 #[.val (.int p0), .val (.int p1), .val (.int p2), .val (.int p3), .val (.int p4), .val (.ref b1), .val (.ref b7), .val (.int (Int32.ofNat i0)), .val (.int (Int32.ofNat j0)), .val (.int x0), .val (.int (Int32.ofNat i1)), .val (.int (Int32.ofNat j1)), .val (.int x1), .val (.int (Int32.ofNat i2)), .val (.int (Int32.ofNat j2)), .val (.int x2), .val (.int (Int32.ofNat i3)), .val (.int (Int32.ofNat j3)), .val (.int md), .val (.int (G3 i3 (Int32.ofNat j3))), .val (.int (0 : Int32)), .unset, .unset, .unset, .unset, .unset] [(.int md)])) _
    exact q
  have k61_ : ∀ t, Steps p.tables e below (T49.setTop (mkF m 215 #[.val (.int p0), .val (.int p1), .val (.int p2), .val (.int p3), .val (.int p4), .val (.ref b1), .val (.ref b7), .val (.int (Int32.ofNat i0)), .val (.int (Int32.ofNat j0)), .val (.int x0), .val (.int (Int32.ofNat i1)), .val (.int (Int32.ofNat j1)), .val (.int x1), .val (.int (Int32.ofNat i2)), .val (.int (Int32.ofNat j2)), .val (.int x2), .val (.int (Int32.ofNat i3)), .val (.int (Int32.ofNat j3)), .val (.int md), .val (.int (G3 i3 (Int32.ofNat j3))), .val (.int (own_dl md (G3 i3 (Int32.ofNat j3)))), .unset, .unset, .unset, .unset, .unset] [])) t → Steps p.tables e below (s₁.setTop (mkF m 0 #[.val (.int p0), .val (.int p1), .val (.int p2), .val (.int p3), .val (.int p4), .unset, .unset, .unset, .unset, .unset, .unset, .unset, .unset, .unset, .unset, .unset, .unset, .unset, .unset, .unset, .unset, .unset, .unset, .unset, .unset, .unset] [])) t := by
    intro t q
    refine k60_ _ ?_
    show Steps p.tables e below (T49.setTop (mkF m 191 #[.val (.int p0), .val (.int p1), .val (.int p2), .val (.int p3), .val (.int p4), .val (.ref b1), .val (.ref b7), .val (.int (Int32.ofNat i0)), .val (.int (Int32.ofNat j0)), .val (.int x0), .val (.int (Int32.ofNat i1)), .val (.int (Int32.ofNat j1)), .val (.int x1), .val (.int (Int32.ofNat i2)), .val (.int (Int32.ofNat j2)), .val (.int x2), .val (.int (Int32.ofNat i3)), .val (.int (Int32.ofNat j3)), .val (.int md), .val (.int (G3 i3 (Int32.ofNat j3))), .val (.int (0 : Int32)), .unset, .unset, .unset, .unset, .unset] [(.int md)])) _
    by_cases hc191 : md = (0 : Int32)
    · refine XS.ifNo X49.here hx rfl (hb hby at_191) rfl ((if0 _ _).trans (teq hc191).2) ?_
      show Steps p.tables e below (T49.setTop (mkF m 194 #[.val (.int p0), .val (.int p1), .val (.int p2), .val (.int p3), .val (.int p4), .val (.ref b1), .val (.ref b7), .val (.int (Int32.ofNat i0)), .val (.int (Int32.ofNat j0)), .val (.int x0), .val (.int (Int32.ofNat i1)), .val (.int (Int32.ofNat j1)), .val (.int x1), .val (.int (Int32.ofNat i2)), .val (.int (Int32.ofNat j2)), .val (.int x2), .val (.int (Int32.ofNat i3)), .val (.int (Int32.ofNat j3)), .val (.int md), .val (.int (G3 i3 (Int32.ofNat j3))), .val (.int (0 : Int32)), .unset, .unset, .unset, .unset, .unset] [])) _
      refine XS.iload X49.here hx rfl (hb hby at_194) rfl ?_
      show Steps p.tables e below (T49.setTop (mkF m 196 #[.val (.int p0), .val (.int p1), .val (.int p2), .val (.int p3), .val (.int p4), .val (.ref b1), .val (.ref b7), .val (.int (Int32.ofNat i0)), .val (.int (Int32.ofNat j0)), .val (.int x0), .val (.int (Int32.ofNat i1)), .val (.int (Int32.ofNat j1)), .val (.int x1), .val (.int (Int32.ofNat i2)), .val (.int (Int32.ofNat j2)), .val (.int x2), .val (.int (Int32.ofNat i3)), .val (.int (Int32.ofNat j3)), .val (.int md), .val (.int (G3 i3 (Int32.ofNat j3))), .val (.int (0 : Int32)), .unset, .unset, .unset, .unset, .unset] [(.int (G3 i3 (Int32.ofNat j3)))])) _
      refine XS.ineg X49.here hx rfl (hb hby at_196) rfl ?_
      show Steps p.tables e below (T49.setTop (mkF m 197 #[.val (.int p0), .val (.int p1), .val (.int p2), .val (.int p3), .val (.int p4), .val (.ref b1), .val (.ref b7), .val (.int (Int32.ofNat i0)), .val (.int (Int32.ofNat j0)), .val (.int x0), .val (.int (Int32.ofNat i1)), .val (.int (Int32.ofNat j1)), .val (.int x1), .val (.int (Int32.ofNat i2)), .val (.int (Int32.ofNat j2)), .val (.int x2), .val (.int (Int32.ofNat i3)), .val (.int (Int32.ofNat j3)), .val (.int md), .val (.int (G3 i3 (Int32.ofNat j3))), .val (.int (0 : Int32)), .unset, .unset, .unset, .unset, .unset] [(.int (-(G3 i3 (Int32.ofNat j3))))])) _
      refine XS.istore X49.here hx rfl (hb hby at_197) rfl (l' := #[.val (.int p0), .val (.int p1), .val (.int p2), .val (.int p3), .val (.int p4), .val (.ref b1), .val (.ref b7), .val (.int (Int32.ofNat i0)), .val (.int (Int32.ofNat j0)), .val (.int x0), .val (.int (Int32.ofNat i1)), .val (.int (Int32.ofNat j1)), .val (.int x1), .val (.int (Int32.ofNat i2)), .val (.int (Int32.ofNat j2)), .val (.int x2), .val (.int (Int32.ofNat i3)), .val (.int (Int32.ofNat j3)), .val (.int md), .val (.int (G3 i3 (Int32.ofNat j3))), .val (.int (-(G3 i3 (Int32.ofNat j3)))), .unset, .unset, .unset, .unset, .unset]) rfl ?_
      show Steps p.tables e below (T49.setTop (mkF m 199 #[.val (.int p0), .val (.int p1), .val (.int p2), .val (.int p3), .val (.int p4), .val (.ref b1), .val (.ref b7), .val (.int (Int32.ofNat i0)), .val (.int (Int32.ofNat j0)), .val (.int x0), .val (.int (Int32.ofNat i1)), .val (.int (Int32.ofNat j1)), .val (.int x1), .val (.int (Int32.ofNat i2)), .val (.int (Int32.ofNat j2)), .val (.int x2), .val (.int (Int32.ofNat i3)), .val (.int (Int32.ofNat j3)), .val (.int md), .val (.int (G3 i3 (Int32.ofNat j3))), .val (.int (-(G3 i3 (Int32.ofNat j3)))), .unset, .unset, .unset, .unset, .unset] [])) _
      refine XS.goto X49.here hx rfl (pc0 := 199) (pc' := 215) rfl (hb hby at_199) (by decide) (by decide) ?_
      show Steps p.tables e below (T49.setTop (mkF m 215 #[.val (.int p0), .val (.int p1), .val (.int p2), .val (.int p3), .val (.int p4), .val (.ref b1), .val (.ref b7), .val (.int (Int32.ofNat i0)), .val (.int (Int32.ofNat j0)), .val (.int x0), .val (.int (Int32.ofNat i1)), .val (.int (Int32.ofNat j1)), .val (.int x1), .val (.int (Int32.ofNat i2)), .val (.int (Int32.ofNat j2)), .val (.int x2), .val (.int (Int32.ofNat i3)), .val (.int (Int32.ofNat j3)), .val (.int md), .val (.int (G3 i3 (Int32.ofNat j3))), .val (.int (-(G3 i3 (Int32.ofNat j3)))), .unset, .unset, .unset, .unset, .unset] [])) _
      have w0 : (own_dl md (G3 i3 (Int32.ofNat j3))) = (-(G3 i3 (Int32.ofNat j3))) := by unfold own_dl; rw [if_pos hc191]
      replace q := Eq.mp (congrArg (fun z => Steps p.tables e below (T49.setTop (mkF m 215 #[.val (.int p0), .val (.int p1), .val (.int p2), .val (.int p3), .val (.int p4), .val (.ref b1), .val (.ref b7), .val (.int (Int32.ofNat i0)), .val (.int (Int32.ofNat j0)), .val (.int x0), .val (.int (Int32.ofNat i1)), .val (.int (Int32.ofNat j1)), .val (.int x1), .val (.int (Int32.ofNat i2)), .val (.int (Int32.ofNat j2)), .val (.int x2), .val (.int (Int32.ofNat i3)), .val (.int (Int32.ofNat j3)), .val (.int md), .val (.int (G3 i3 (Int32.ofNat j3))), .val (.int z), .unset, .unset, .unset, .unset, .unset] [])) t) w0) q
      exact q
    · refine XS.ifYes X49.here hx rfl (pc0 := 191) (pc' := 202) rfl (hb hby at_191) rfl ((if0 _ _).trans (feq hc191).2) (by decide) (by decide) ?_
      show Steps p.tables e below (T49.setTop (mkF m 202 #[.val (.int p0), .val (.int p1), .val (.int p2), .val (.int p3), .val (.int p4), .val (.ref b1), .val (.ref b7), .val (.int (Int32.ofNat i0)), .val (.int (Int32.ofNat j0)), .val (.int x0), .val (.int (Int32.ofNat i1)), .val (.int (Int32.ofNat j1)), .val (.int x1), .val (.int (Int32.ofNat i2)), .val (.int (Int32.ofNat j2)), .val (.int x2), .val (.int (Int32.ofNat i3)), .val (.int (Int32.ofNat j3)), .val (.int md), .val (.int (G3 i3 (Int32.ofNat j3))), .val (.int (0 : Int32)), .unset, .unset, .unset, .unset, .unset] [])) _
      refine XS.iload X49.here hx rfl (hb hby at_202) rfl ?_
      show Steps p.tables e below (T49.setTop (mkF m 204 #[.val (.int p0), .val (.int p1), .val (.int p2), .val (.int p3), .val (.int p4), .val (.ref b1), .val (.ref b7), .val (.int (Int32.ofNat i0)), .val (.int (Int32.ofNat j0)), .val (.int x0), .val (.int (Int32.ofNat i1)), .val (.int (Int32.ofNat j1)), .val (.int x1), .val (.int (Int32.ofNat i2)), .val (.int (Int32.ofNat j2)), .val (.int x2), .val (.int (Int32.ofNat i3)), .val (.int (Int32.ofNat j3)), .val (.int md), .val (.int (G3 i3 (Int32.ofNat j3))), .val (.int (0 : Int32)), .unset, .unset, .unset, .unset, .unset] [(.int md)])) _
      refine XS.iconst X49.here hx rfl (hb hby at_204) ?_
      show Steps p.tables e below (T49.setTop (mkF m 205 #[.val (.int p0), .val (.int p1), .val (.int p2), .val (.int p3), .val (.int p4), .val (.ref b1), .val (.ref b7), .val (.int (Int32.ofNat i0)), .val (.int (Int32.ofNat j0)), .val (.int x0), .val (.int (Int32.ofNat i1)), .val (.int (Int32.ofNat j1)), .val (.int x1), .val (.int (Int32.ofNat i2)), .val (.int (Int32.ofNat j2)), .val (.int x2), .val (.int (Int32.ofNat i3)), .val (.int (Int32.ofNat j3)), .val (.int md), .val (.int (G3 i3 (Int32.ofNat j3))), .val (.int (0 : Int32)), .unset, .unset, .unset, .unset, .unset] [(.int (1 : Int32)), (.int md)])) _
      by_cases hc205 : md = (1 : Int32)
      · refine XS.icmpNo X49.here hx rfl (hb hby at_205) rfl (teq hc205).2 ?_
        show Steps p.tables e below (T49.setTop (mkF m 208 #[.val (.int p0), .val (.int p1), .val (.int p2), .val (.int p3), .val (.int p4), .val (.ref b1), .val (.ref b7), .val (.int (Int32.ofNat i0)), .val (.int (Int32.ofNat j0)), .val (.int x0), .val (.int (Int32.ofNat i1)), .val (.int (Int32.ofNat j1)), .val (.int x1), .val (.int (Int32.ofNat i2)), .val (.int (Int32.ofNat j2)), .val (.int x2), .val (.int (Int32.ofNat i3)), .val (.int (Int32.ofNat j3)), .val (.int md), .val (.int (G3 i3 (Int32.ofNat j3))), .val (.int (0 : Int32)), .unset, .unset, .unset, .unset, .unset] [])) _
        refine XS.iload X49.here hx rfl (hb hby at_208) rfl ?_
        show Steps p.tables e below (T49.setTop (mkF m 210 #[.val (.int p0), .val (.int p1), .val (.int p2), .val (.int p3), .val (.int p4), .val (.ref b1), .val (.ref b7), .val (.int (Int32.ofNat i0)), .val (.int (Int32.ofNat j0)), .val (.int x0), .val (.int (Int32.ofNat i1)), .val (.int (Int32.ofNat j1)), .val (.int x1), .val (.int (Int32.ofNat i2)), .val (.int (Int32.ofNat j2)), .val (.int x2), .val (.int (Int32.ofNat i3)), .val (.int (Int32.ofNat j3)), .val (.int md), .val (.int (G3 i3 (Int32.ofNat j3))), .val (.int (0 : Int32)), .unset, .unset, .unset, .unset, .unset] [(.int (G3 i3 (Int32.ofNat j3)))])) _
        refine XS.iconst X49.here hx rfl (hb hby at_210) ?_
        show Steps p.tables e below (T49.setTop (mkF m 211 #[.val (.int p0), .val (.int p1), .val (.int p2), .val (.int p3), .val (.int p4), .val (.ref b1), .val (.ref b7), .val (.int (Int32.ofNat i0)), .val (.int (Int32.ofNat j0)), .val (.int x0), .val (.int (Int32.ofNat i1)), .val (.int (Int32.ofNat j1)), .val (.int x1), .val (.int (Int32.ofNat i2)), .val (.int (Int32.ofNat j2)), .val (.int x2), .val (.int (Int32.ofNat i3)), .val (.int (Int32.ofNat j3)), .val (.int md), .val (.int (G3 i3 (Int32.ofNat j3))), .val (.int (0 : Int32)), .unset, .unset, .unset, .unset, .unset] [(.int (1 : Int32)), (.int (G3 i3 (Int32.ofNat j3)))])) _
        refine XS.ishr X49.here hx rfl (hb hby at_211) rfl ?_
        show Steps p.tables e below (T49.setTop (mkF m 212 #[.val (.int p0), .val (.int p1), .val (.int p2), .val (.int p3), .val (.int p4), .val (.ref b1), .val (.ref b7), .val (.int (Int32.ofNat i0)), .val (.int (Int32.ofNat j0)), .val (.int x0), .val (.int (Int32.ofNat i1)), .val (.int (Int32.ofNat j1)), .val (.int x1), .val (.int (Int32.ofNat i2)), .val (.int (Int32.ofNat j2)), .val (.int x2), .val (.int (Int32.ofNat i3)), .val (.int (Int32.ofNat j3)), .val (.int md), .val (.int (G3 i3 (Int32.ofNat j3))), .val (.int (0 : Int32)), .unset, .unset, .unset, .unset, .unset] [(.int ((G3 i3 (Int32.ofNat j3)) >>> ((1 : Int32) &&& 31)))])) _
        refine XS.ineg X49.here hx rfl (hb hby at_212) rfl ?_
        show Steps p.tables e below (T49.setTop (mkF m 213 #[.val (.int p0), .val (.int p1), .val (.int p2), .val (.int p3), .val (.int p4), .val (.ref b1), .val (.ref b7), .val (.int (Int32.ofNat i0)), .val (.int (Int32.ofNat j0)), .val (.int x0), .val (.int (Int32.ofNat i1)), .val (.int (Int32.ofNat j1)), .val (.int x1), .val (.int (Int32.ofNat i2)), .val (.int (Int32.ofNat j2)), .val (.int x2), .val (.int (Int32.ofNat i3)), .val (.int (Int32.ofNat j3)), .val (.int md), .val (.int (G3 i3 (Int32.ofNat j3))), .val (.int (0 : Int32)), .unset, .unset, .unset, .unset, .unset] [(.int (-((G3 i3 (Int32.ofNat j3)) >>> ((1 : Int32) &&& 31))))])) _
        refine XS.istore X49.here hx rfl (hb hby at_213) rfl (l' := #[.val (.int p0), .val (.int p1), .val (.int p2), .val (.int p3), .val (.int p4), .val (.ref b1), .val (.ref b7), .val (.int (Int32.ofNat i0)), .val (.int (Int32.ofNat j0)), .val (.int x0), .val (.int (Int32.ofNat i1)), .val (.int (Int32.ofNat j1)), .val (.int x1), .val (.int (Int32.ofNat i2)), .val (.int (Int32.ofNat j2)), .val (.int x2), .val (.int (Int32.ofNat i3)), .val (.int (Int32.ofNat j3)), .val (.int md), .val (.int (G3 i3 (Int32.ofNat j3))), .val (.int (-((G3 i3 (Int32.ofNat j3)) >>> ((1 : Int32) &&& 31)))), .unset, .unset, .unset, .unset, .unset]) rfl ?_
        show Steps p.tables e below (T49.setTop (mkF m 215 #[.val (.int p0), .val (.int p1), .val (.int p2), .val (.int p3), .val (.int p4), .val (.ref b1), .val (.ref b7), .val (.int (Int32.ofNat i0)), .val (.int (Int32.ofNat j0)), .val (.int x0), .val (.int (Int32.ofNat i1)), .val (.int (Int32.ofNat j1)), .val (.int x1), .val (.int (Int32.ofNat i2)), .val (.int (Int32.ofNat j2)), .val (.int x2), .val (.int (Int32.ofNat i3)), .val (.int (Int32.ofNat j3)), .val (.int md), .val (.int (G3 i3 (Int32.ofNat j3))), .val (.int (-((G3 i3 (Int32.ofNat j3)) >>> ((1 : Int32) &&& 31)))), .unset, .unset, .unset, .unset, .unset] [])) _
        have w0 : (own_dl md (G3 i3 (Int32.ofNat j3))) = (-((G3 i3 (Int32.ofNat j3)) >>> ((1 : Int32) &&& 31))) := by unfold own_dl; rw [if_neg hc191, if_pos hc205]
        replace q := Eq.mp (congrArg (fun z => Steps p.tables e below (T49.setTop (mkF m 215 #[.val (.int p0), .val (.int p1), .val (.int p2), .val (.int p3), .val (.int p4), .val (.ref b1), .val (.ref b7), .val (.int (Int32.ofNat i0)), .val (.int (Int32.ofNat j0)), .val (.int x0), .val (.int (Int32.ofNat i1)), .val (.int (Int32.ofNat j1)), .val (.int x1), .val (.int (Int32.ofNat i2)), .val (.int (Int32.ofNat j2)), .val (.int x2), .val (.int (Int32.ofNat i3)), .val (.int (Int32.ofNat j3)), .val (.int md), .val (.int (G3 i3 (Int32.ofNat j3))), .val (.int z), .unset, .unset, .unset, .unset, .unset] [])) t) w0) q
        exact q
      · refine XS.icmpYes X49.here hx rfl (pc0 := 205) (pc' := 215) rfl (hb hby at_205) rfl (feq hc205).2 (by decide) (by decide) ?_
        show Steps p.tables e below (T49.setTop (mkF m 215 #[.val (.int p0), .val (.int p1), .val (.int p2), .val (.int p3), .val (.int p4), .val (.ref b1), .val (.ref b7), .val (.int (Int32.ofNat i0)), .val (.int (Int32.ofNat j0)), .val (.int x0), .val (.int (Int32.ofNat i1)), .val (.int (Int32.ofNat j1)), .val (.int x1), .val (.int (Int32.ofNat i2)), .val (.int (Int32.ofNat j2)), .val (.int x2), .val (.int (Int32.ofNat i3)), .val (.int (Int32.ofNat j3)), .val (.int md), .val (.int (G3 i3 (Int32.ofNat j3))), .val (.int (0 : Int32)), .unset, .unset, .unset, .unset, .unset] [])) _
        have w0 : (own_dl md (G3 i3 (Int32.ofNat j3))) = (0 : Int32) := by unfold own_dl; rw [if_neg hc191, if_neg hc205]
        replace q := Eq.mp (congrArg (fun z => Steps p.tables e below (T49.setTop (mkF m 215 #[.val (.int p0), .val (.int p1), .val (.int p2), .val (.int p3), .val (.int p4), .val (.ref b1), .val (.ref b7), .val (.int (Int32.ofNat i0)), .val (.int (Int32.ofNat j0)), .val (.int x0), .val (.int (Int32.ofNat i1)), .val (.int (Int32.ofNat j1)), .val (.int x1), .val (.int (Int32.ofNat i2)), .val (.int (Int32.ofNat j2)), .val (.int x2), .val (.int (Int32.ofNat i3)), .val (.int (Int32.ofNat j3)), .val (.int md), .val (.int (G3 i3 (Int32.ofNat j3))), .val (.int z), .unset, .unset, .unset, .unset, .unset] [])) t) w0) q
        exact q
  obtain ⟨dl, e_dl⟩ : ∃ z, z = (own_dl md (G3 i3 (Int32.ofNat j3))) := ⟨_, rfl⟩
  have k62_ : ∀ t, Steps p.tables e below (T49.setTop (mkF m 215 #[.val (.int p0), .val (.int p1), .val (.int p2), .val (.int p3), .val (.int p4), .val (.ref b1), .val (.ref b7), .val (.int (Int32.ofNat i0)), .val (.int (Int32.ofNat j0)), .val (.int x0), .val (.int (Int32.ofNat i1)), .val (.int (Int32.ofNat j1)), .val (.int x1), .val (.int (Int32.ofNat i2)), .val (.int (Int32.ofNat j2)), .val (.int x2), .val (.int (Int32.ofNat i3)), .val (.int (Int32.ofNat j3)), .val (.int md), .val (.int (G3 i3 (Int32.ofNat j3))), .val (.int dl), .unset, .unset, .unset, .unset, .unset] [])) t → Steps p.tables e below (s₁.setTop (mkF m 0 #[.val (.int p0), .val (.int p1), .val (.int p2), .val (.int p3), .val (.int p4), .unset, .unset, .unset, .unset, .unset, .unset, .unset, .unset, .unset, .unset, .unset, .unset, .unset, .unset, .unset, .unset, .unset, .unset, .unset, .unset, .unset] [])) t := by rw [e_dl]; exact k61_
  have okd := own_dl_ok md (G3 i3 (Int32.ofNat j3)) (B3 _ _ h_i3 h_j3).1
  rw [← e_dl] at okd
  have k63_ : ∀ t, Steps p.tables e below (T49.setTop (mkF m 223 #[.val (.int p0), .val (.int p1), .val (.int p2), .val (.int p3), .val (.int p4), .val (.ref b1), .val (.ref b7), .val (.int (Int32.ofNat i0)), .val (.int (Int32.ofNat j0)), .val (.int x0), .val (.int (Int32.ofNat i1)), .val (.int (Int32.ofNat j1)), .val (.int x1), .val (.int (Int32.ofNat i2)), .val (.int (Int32.ofNat j2)), .val (.int x2), .val (.int (Int32.ofNat i3)), .val (.int (Int32.ofNat j3)), .val (.int md), .val (.int (G3 i3 (Int32.ofNat j3))), .val (.int dl), .unset, .unset, .unset, .unset, .unset] [(.int dl), (.int (Int32.ofNat j3)), (.int (Int32.ofNat i3)), (.ref b1)])) t → Steps p.tables e below (s₁.setTop (mkF m 0 #[.val (.int p0), .val (.int p1), .val (.int p2), .val (.int p3), .val (.int p4), .unset, .unset, .unset, .unset, .unset, .unset, .unset, .unset, .unset, .unset, .unset, .unset, .unset, .unset, .unset, .unset, .unset, .unset, .unset, .unset, .unset] [])) t := by
    intro t q
    refine k62_ _ ?_
    show Steps p.tables e below (T49.setTop (mkF m 215 #[.val (.int p0), .val (.int p1), .val (.int p2), .val (.int p3), .val (.int p4), .val (.ref b1), .val (.ref b7), .val (.int (Int32.ofNat i0)), .val (.int (Int32.ofNat j0)), .val (.int x0), .val (.int (Int32.ofNat i1)), .val (.int (Int32.ofNat j1)), .val (.int x1), .val (.int (Int32.ofNat i2)), .val (.int (Int32.ofNat j2)), .val (.int x2), .val (.int (Int32.ofNat i3)), .val (.int (Int32.ofNat j3)), .val (.int md), .val (.int (G3 i3 (Int32.ofNat j3))), .val (.int dl), .unset, .unset, .unset, .unset, .unset] [])) _
    refine XS.aload X49.here hx rfl (hb hby at_215) rfl rfl ?_
    refine XS.iload X49.here hx rfl (hb hby at_217) rfl ?_
    refine XS.iload X49.here hx rfl (hb hby at_219) rfl ?_
    show Steps p.tables e below (T49.setTop (mkF m 221 #[.val (.int p0), .val (.int p1), .val (.int p2), .val (.int p3), .val (.int p4), .val (.ref b1), .val (.ref b7), .val (.int (Int32.ofNat i0)), .val (.int (Int32.ofNat j0)), .val (.int x0), .val (.int (Int32.ofNat i1)), .val (.int (Int32.ofNat j1)), .val (.int x1), .val (.int (Int32.ofNat i2)), .val (.int (Int32.ofNat j2)), .val (.int x2), .val (.int (Int32.ofNat i3)), .val (.int (Int32.ofNat j3)), .val (.int md), .val (.int (G3 i3 (Int32.ofNat j3))), .val (.int dl), .unset, .unset, .unset, .unset, .unset] [(.int (Int32.ofNat j3)), (.int (Int32.ofNat i3)), (.ref b1)])) _
    refine XS.iload X49.here hx rfl (hb hby at_221) rfl ?_
    show Steps p.tables e below (T49.setTop (mkF m 223 #[.val (.int p0), .val (.int p1), .val (.int p2), .val (.int p3), .val (.int p4), .val (.ref b1), .val (.ref b7), .val (.int (Int32.ofNat i0)), .val (.int (Int32.ofNat j0)), .val (.int x0), .val (.int (Int32.ofNat i1)), .val (.int (Int32.ofNat j1)), .val (.int x1), .val (.int (Int32.ofNat i2)), .val (.int (Int32.ofNat j2)), .val (.int x2), .val (.int (Int32.ofNat i3)), .val (.int (Int32.ofNat j3)), .val (.int md), .val (.int (G3 i3 (Int32.ofNat j3))), .val (.int dl), .unset, .unset, .unset, .unset, .unset] [(.int dl), (.int (Int32.ofNat j3)), (.int (Int32.ofNat i3)), (.ref b1)])) _
    exact q
  obtain ⟨cq64, kq64, q64a, q64b, q64c⟩ := isOf hZ e49 I3.1
  obtain ⟨_, _, ⟨T64, L64, kk64, n64⟩, -, X64, ⟨Lc64, hQ64, l64, y64, z64⟩, st64⟩ := X49.virtualBack hx (y := (⟨"com/example/weir/weir/model/HeldTasks", "add", "(III)V"⟩ : MethodName)) (z := (⟨"com/example/weir/weir/model/HeldTasks", "add", "(III)V"⟩ : MethodName)) hown (mvT hZ (hw _ (List.mem_of_getElem? (i := 17) rfl))) (mvT hZ (hw _ (List.mem_of_getElem? (i := 18) rfl))) (notFace_of_selects (args := #[]) (mvT hZ (hw _ (List.mem_of_getElem? (i := 20) rfl)))) (mvT hZ (hw _ (List.mem_of_getElem? (i := 20) rfl))) (mvT hZ (hw _ (List.mem_of_getElem? (i := 19) rfl))) (by decide) (backOf (W := 0) (rmAd l Z a0 hw [] b1 nb pb O3 w3 G3 i3 j3 dl h49 n0 Zn I3 h_i3 h_j3 (Con3 i3 j3 h_i3 h_j3) okd) hZ (hw _ (List.mem_of_getElem? (i := 21) rfl)) (hw _ (List.mem_of_getElem? (i := 2) rfl)) (by decide) (by decide)) q64a q64c (g := (mkF m 223 #[.val (.int p0), .val (.int p1), .val (.int p2), .val (.int p3), .val (.int p4), .val (.ref b1), .val (.ref b7), .val (.int (Int32.ofNat i0)), .val (.int (Int32.ofNat j0)), .val (.int x0), .val (.int (Int32.ofNat i1)), .val (.int (Int32.ofNat j1)), .val (.int x1), .val (.int (Int32.ofNat i2)), .val (.int (Int32.ofNat j2)), .val (.int x2), .val (.int (Int32.ofNat i3)), .val (.int (Int32.ofNat j3)), .val (.int md), .val (.int (G3 i3 (Int32.ofNat j3))), .val (.int dl), .unset, .unset, .unset, .unset, .unset] [(.int dl), (.int (Int32.ofNat j3)), (.int (Int32.ofNat i3)), (.ref b1)])) rfl (by rw [hml]; rfl) (Steps.refl _) (argsL := [(.int (Int32.ofNat i3)), (.int (Int32.ofNat j3)), (.int dl)]) (rest := []) (lenOf pd_32812 rfl) rfl (by show 2 * 0 + _ ≤ _; exact Nat.le_of_eq rfl) (hb hby at_223) (fun _ _ => ⟨rfl, e49, (by decide : 0 + 1 + 2 + 1 + 10 + 10 + 10 + 10 ≤ _), (by decide : 0 + 2 + 6 + 8 + 54 + 54 + 54 + 54 ≤ _)⟩)
  dsimp only [Pt.U, Pt.locs, Pt.cells, Pt.slots] at X64 l64 y64 z64 st64 hQ64
  rw [l64, y64, z64] at X64
  obtain ⟨rfl, Nq64, O4, w4, I4, K4⟩ := hQ64
  have N64 := Fr.app N49 Nq64
  have k65_ : ∀ t, Steps p.tables e below (T64.setTop (mkF m 226 #[.val (.int p0), .val (.int p1), .val (.int p2), .val (.int p3), .val (.int p4), .val (.ref b1), .val (.ref b7), .val (.int (Int32.ofNat i0)), .val (.int (Int32.ofNat j0)), .val (.int x0), .val (.int (Int32.ofNat i1)), .val (.int (Int32.ofNat j1)), .val (.int x1), .val (.int (Int32.ofNat i2)), .val (.int (Int32.ofNat j2)), .val (.int x2), .val (.int (Int32.ofNat i3)), .val (.int (Int32.ofNat j3)), .val (.int md), .val (.int (G3 i3 (Int32.ofNat j3))), .val (.int dl), .unset, .unset, .unset, .unset, .unset] [])) t → Steps p.tables e below (s₁.setTop (mkF m 0 #[.val (.int p0), .val (.int p1), .val (.int p2), .val (.int p3), .val (.int p4), .unset, .unset, .unset, .unset, .unset, .unset, .unset, .unset, .unset, .unset, .unset, .unset, .unset, .unset, .unset, .unset, .unset, .unset, .unset, .unset, .unset] [])) t := fun t q => k63_ t (st64.trans q)
  replace VM := own_Kw_arv VM K4 w9
  replace w9 := (K4.2.2 _ lM).trans w9
  replace lM := Nat.lt_of_lt_of_le lM K4.1
  replace Zn := Nat.le_trans Zn K4.1
  have k66_ : ∀ t, Steps p.tables e below (T64.setTop (mkF m 235 #[.val (.int p0), .val (.int p1), .val (.int p2), .val (.int p3), .val (.int p4), .val (.ref b1), .val (.ref b7), .val (.int (Int32.ofNat i0)), .val (.int (Int32.ofNat j0)), .val (.int x0), .val (.int (Int32.ofNat i1)), .val (.int (Int32.ofNat j1)), .val (.int x1), .val (.int (Int32.ofNat i2)), .val (.int (Int32.ofNat j2)), .val (.int x2), .val (.int (Int32.ofNat i3)), .val (.int (Int32.ofNat j3)), .val (.int md), .val (.int (G3 i3 (Int32.ofNat j3))), .val (.int dl), .unset, .unset, .unset, .unset, .unset] [(.int (((Int32.ofNat i3) * (4 : Int32)) + (Int32.ofNat j3))), (.ref b7)])) t → Steps p.tables e below (s₁.setTop (mkF m 0 #[.val (.int p0), .val (.int p1), .val (.int p2), .val (.int p3), .val (.int p4), .unset, .unset, .unset, .unset, .unset, .unset, .unset, .unset, .unset, .unset, .unset, .unset, .unset, .unset, .unset, .unset, .unset, .unset, .unset, .unset, .unset] [])) t := by
    intro t q
    refine k65_ _ ?_
    show Steps p.tables e below (T64.setTop (mkF m 226 #[.val (.int p0), .val (.int p1), .val (.int p2), .val (.int p3), .val (.int p4), .val (.ref b1), .val (.ref b7), .val (.int (Int32.ofNat i0)), .val (.int (Int32.ofNat j0)), .val (.int x0), .val (.int (Int32.ofNat i1)), .val (.int (Int32.ofNat j1)), .val (.int x1), .val (.int (Int32.ofNat i2)), .val (.int (Int32.ofNat j2)), .val (.int x2), .val (.int (Int32.ofNat i3)), .val (.int (Int32.ofNat j3)), .val (.int md), .val (.int (G3 i3 (Int32.ofNat j3))), .val (.int dl), .unset, .unset, .unset, .unset, .unset] [])) _
    refine XS.aload X64.here hx rfl (hb hby at_226) rfl rfl ?_
    refine XS.iload X64.here hx rfl (hb hby at_228) rfl ?_
    refine XS.iconst X64.here hx rfl (hb hby at_230) ?_
    show Steps p.tables e below (T64.setTop (mkF m 231 #[.val (.int p0), .val (.int p1), .val (.int p2), .val (.int p3), .val (.int p4), .val (.ref b1), .val (.ref b7), .val (.int (Int32.ofNat i0)), .val (.int (Int32.ofNat j0)), .val (.int x0), .val (.int (Int32.ofNat i1)), .val (.int (Int32.ofNat j1)), .val (.int x1), .val (.int (Int32.ofNat i2)), .val (.int (Int32.ofNat j2)), .val (.int x2), .val (.int (Int32.ofNat i3)), .val (.int (Int32.ofNat j3)), .val (.int md), .val (.int (G3 i3 (Int32.ofNat j3))), .val (.int dl), .unset, .unset, .unset, .unset, .unset] [(.int (4 : Int32)), (.int (Int32.ofNat i3)), (.ref b7)])) _
    refine XS.imul X64.here hx rfl (hb hby at_231) rfl ?_
    refine XS.iload X64.here hx rfl (hb hby at_232) rfl ?_
    refine XS.iadd X64.here hx rfl (hb hby at_234) rfl ?_
    show Steps p.tables e below (T64.setTop (mkF m 235 #[.val (.int p0), .val (.int p1), .val (.int p2), .val (.int p3), .val (.int p4), .val (.ref b1), .val (.ref b7), .val (.int (Int32.ofNat i0)), .val (.int (Int32.ofNat j0)), .val (.int x0), .val (.int (Int32.ofNat i1)), .val (.int (Int32.ofNat j1)), .val (.int x1), .val (.int (Int32.ofNat i2)), .val (.int (Int32.ofNat j2)), .val (.int x2), .val (.int (Int32.ofNat i3)), .val (.int (Int32.ofNat j3)), .val (.int md), .val (.int (G3 i3 (Int32.ofNat j3))), .val (.int dl), .unset, .unset, .unset, .unset, .unset] [(.int (((Int32.ofNat i3) * (4 : Int32)) + (Int32.ofNat j3))), (.ref b7)])) _
    exact q
  have k67_ : ∀ t, Steps p.tables e below (T64.setTop (mkF m 235 #[.val (.int p0), .val (.int p1), .val (.int p2), .val (.int p3), .val (.int p4), .val (.ref b1), .val (.ref b7), .val (.int (Int32.ofNat i0)), .val (.int (Int32.ofNat j0)), .val (.int x0), .val (.int (Int32.ofNat i1)), .val (.int (Int32.ofNat j1)), .val (.int x1), .val (.int (Int32.ofNat i2)), .val (.int (Int32.ofNat j2)), .val (.int x2), .val (.int (Int32.ofNat i3)), .val (.int (Int32.ofNat j3)), .val (.int md), .val (.int (G3 i3 (Int32.ofNat j3))), .val (.int dl), .unset, .unset, .unset, .unset, .unset] [(.int (Int32.ofNat (i3 * 4 + j3))), (.ref b7)])) t → Steps p.tables e below (s₁.setTop (mkF m 0 #[.val (.int p0), .val (.int p1), .val (.int p2), .val (.int p3), .val (.int p4), .unset, .unset, .unset, .unset, .unset, .unset, .unset, .unset, .unset, .unset, .unset, .unset, .unset, .unset, .unset, .unset, .unset, .unset, .unset, .unset, .unset] [])) t := fun t q => k66_ t (Eq.mp (congrArg (fun z => Steps p.tables e below (T64.setTop (mkF m 235 #[.val (.int p0), .val (.int p1), .val (.int p2), .val (.int p3), .val (.int p4), .val (.ref b1), .val (.ref b7), .val (.int (Int32.ofNat i0)), .val (.int (Int32.ofNat j0)), .val (.int x0), .val (.int (Int32.ofNat i1)), .val (.int (Int32.ofNat j1)), .val (.int x1), .val (.int (Int32.ofNat i2)), .val (.int (Int32.ofNat j2)), .val (.int x2), .val (.int (Int32.ofNat i3)), .val (.int (Int32.ofNat j3)), .val (.int md), .val (.int (G3 i3 (Int32.ofNat j3))), .val (.int dl), .unset, .unset, .unset, .unset, .unset] [(.int z), (.ref b7)])) t) (show (Int32.ofNat (i3 * 4 + j3)) = (((Int32.ofNat i3) * (4 : Int32)) + (Int32.ofNat j3)) from (own_x8 h_i3 h_j3))) q)
  obtain ⟨cl68, Ar68, q68, S68, M68, H68, G68⟩ := id VM
  have k69_ : ∀ t, Steps p.tables e below (T64.setTop (mkF m 240 #[.val (.int p0), .val (.int p1), .val (.int p2), .val (.int p3), .val (.int p4), .val (.ref b1), .val (.ref b7), .val (.int (Int32.ofNat i0)), .val (.int (Int32.ofNat j0)), .val (.int x0), .val (.int (Int32.ofNat i1)), .val (.int (Int32.ofNat j1)), .val (.int x1), .val (.int (Int32.ofNat i2)), .val (.int (Int32.ofNat j2)), .val (.int x2), .val (.int (Int32.ofNat i3)), .val (.int (Int32.ofNat j3)), .val (.int md), .val (.int (G3 i3 (Int32.ofNat j3))), .val (.int dl), .unset, .unset, .unset, .unset, .unset] [(.int ((ms3.getD (i3 * 4 + j3) 0) + dl)), (.int (Int32.ofNat (i3 * 4 + j3))), (.ref b7)])) t → Steps p.tables e below (s₁.setTop (mkF m 0 #[.val (.int p0), .val (.int p1), .val (.int p2), .val (.int p3), .val (.int p4), .unset, .unset, .unset, .unset, .unset, .unset, .unset, .unset, .unset, .unset, .unset, .unset, .unset, .unset, .unset, .unset, .unset, .unset, .unset, .unset, .unset] [])) t := by
    intro t q
    refine k67_ _ ?_
    show Steps p.tables e below (T64.setTop (mkF m 235 #[.val (.int p0), .val (.int p1), .val (.int p2), .val (.int p3), .val (.int p4), .val (.ref b1), .val (.ref b7), .val (.int (Int32.ofNat i0)), .val (.int (Int32.ofNat j0)), .val (.int x0), .val (.int (Int32.ofNat i1)), .val (.int (Int32.ofNat j1)), .val (.int x1), .val (.int (Int32.ofNat i2)), .val (.int (Int32.ofNat j2)), .val (.int x2), .val (.int (Int32.ofNat i3)), .val (.int (Int32.ofNat j3)), .val (.int md), .val (.int (G3 i3 (Int32.ofNat j3))), .val (.int dl), .unset, .unset, .unset, .unset, .unset] [(.int (Int32.ofNat (i3 * 4 + j3))), (.ref b7)])) _
    refine XT.dup2 X64.here hx rfl (hb hby at_235) rfl rfl rfl ?_
    refine X64.iaload hx (j := (Int32.ofNat (i3 * 4 + j3))) (v := (.int (ms3.getD (i3 * 4 + j3) 0))) Ar68.1 (State.isArrayOf_alike hZ.alike Ar68.2.1) Ar68.2.2 (inb_of S68 (own_lt8 (i := i3 * 4 + j3) (by omega))) (Has.at H68 (inb_of S68 (own_lt8 (i := i3 * 4 + j3) (by omega))) (own_gi _ (by omega))) (g := (mkF m 236 #[.val (.int p0), .val (.int p1), .val (.int p2), .val (.int p3), .val (.int p4), .val (.ref b1), .val (.ref b7), .val (.int (Int32.ofNat i0)), .val (.int (Int32.ofNat j0)), .val (.int x0), .val (.int (Int32.ofNat i1)), .val (.int (Int32.ofNat j1)), .val (.int x1), .val (.int (Int32.ofNat i2)), .val (.int (Int32.ofNat j2)), .val (.int x2), .val (.int (Int32.ofNat i3)), .val (.int (Int32.ofNat j3)), .val (.int md), .val (.int (G3 i3 (Int32.ofNat j3))), .val (.int dl), .unset, .unset, .unset, .unset, .unset] [(.int (Int32.ofNat (i3 * 4 + j3))), (.ref b7), (.int (Int32.ofNat (i3 * 4 + j3))), (.ref b7)])) rfl rfl (hb hby at_236) _ ?_
    refine XS.iload X64.here hx rfl (hb hby at_237) rfl ?_
    show Steps p.tables e below (T64.setTop (mkF m 239 #[.val (.int p0), .val (.int p1), .val (.int p2), .val (.int p3), .val (.int p4), .val (.ref b1), .val (.ref b7), .val (.int (Int32.ofNat i0)), .val (.int (Int32.ofNat j0)), .val (.int x0), .val (.int (Int32.ofNat i1)), .val (.int (Int32.ofNat j1)), .val (.int x1), .val (.int (Int32.ofNat i2)), .val (.int (Int32.ofNat j2)), .val (.int x2), .val (.int (Int32.ofNat i3)), .val (.int (Int32.ofNat j3)), .val (.int md), .val (.int (G3 i3 (Int32.ofNat j3))), .val (.int dl), .unset, .unset, .unset, .unset, .unset] [(.int dl), (.int (ms3.getD (i3 * 4 + j3) 0)), (.int (Int32.ofNat (i3 * 4 + j3))), (.ref b7)])) _
    refine XS.iadd X64.here hx rfl (hb hby at_239) rfl ?_
    show Steps p.tables e below (T64.setTop (mkF m 240 #[.val (.int p0), .val (.int p1), .val (.int p2), .val (.int p3), .val (.int p4), .val (.ref b1), .val (.ref b7), .val (.int (Int32.ofNat i0)), .val (.int (Int32.ofNat j0)), .val (.int x0), .val (.int (Int32.ofNat i1)), .val (.int (Int32.ofNat j1)), .val (.int x1), .val (.int (Int32.ofNat i2)), .val (.int (Int32.ofNat j2)), .val (.int x2), .val (.int (Int32.ofNat i3)), .val (.int (Int32.ofNat j3)), .val (.int md), .val (.int (G3 i3 (Int32.ofNat j3))), .val (.int dl), .unset, .unset, .unset, .unset, .unset] [(.int ((ms3.getD (i3 * 4 + j3) 0) + dl)), (.int (Int32.ofNat (i3 * 4 + j3))), (.ref b7)])) _
    exact q
  obtain ⟨cl_70, Ar_70, q_70, S_70, M_70, H_70, G_70⟩ := VM
  obtain ⟨T71, h71, X71, e71, W71, st71⟩ := stI X64 hx hZ rfl Ar_70 (j := (Int32.ofNat (i3 * 4 + j3))) (inb_of S_70 (own_lt8 (i := i3 * 4 + j3) (by omega))) (g := (mkF m 240 #[.val (.int p0), .val (.int p1), .val (.int p2), .val (.int p3), .val (.int p4), .val (.ref b1), .val (.ref b7), .val (.int (Int32.ofNat i0)), .val (.int (Int32.ofNat j0)), .val (.int x0), .val (.int (Int32.ofNat i1)), .val (.int (Int32.ofNat j1)), .val (.int x1), .val (.int (Int32.ofNat i2)), .val (.int (Int32.ofNat j2)), .val (.int x2), .val (.int (Int32.ofNat i3)), .val (.int (Int32.ofNat j3)), .val (.int md), .val (.int (G3 i3 (Int32.ofNat j3))), .val (.int dl), .unset, .unset, .unset, .unset, .unset] [(.int ((ms3.getD (i3 * 4 + j3) 0) + dl)), (.int (Int32.ofNat (i3 * 4 + j3))), (.ref b7)])) rfl rfl (hb hby at_240)
  have k72_ : ∀ t, Steps p.tables e below (T71.setTop (mkF m 241 #[.val (.int p0), .val (.int p1), .val (.int p2), .val (.int p3), .val (.int p4), .val (.ref b1), .val (.ref b7), .val (.int (Int32.ofNat i0)), .val (.int (Int32.ofNat j0)), .val (.int x0), .val (.int (Int32.ofNat i1)), .val (.int (Int32.ofNat j1)), .val (.int x1), .val (.int (Int32.ofNat i2)), .val (.int (Int32.ofNat j2)), .val (.int x2), .val (.int (Int32.ofNat i3)), .val (.int (Int32.ofNat j3)), .val (.int md), .val (.int (G3 i3 (Int32.ofNat j3))), .val (.int dl), .unset, .unset, .unset, .unset, .unset] [])) t → Steps p.tables e below (s₁.setTop (mkF m 0 #[.val (.int p0), .val (.int p1), .val (.int p2), .val (.int p3), .val (.int p4), .unset, .unset, .unset, .unset, .unset, .unset, .unset, .unset, .unset, .unset, .unset, .unset, .unset, .unset, .unset, .unset, .unset, .unset, .unset, .unset, .unset] [])) t := fun t q => k69_ t (st71 t q)
  have N71 := Fr.snoc X71 N64 gM
  replace Zn := Nat.le_trans Zn (Keep.of_wr W71).1
  obtain ⟨ms4, hms4⟩ : ∃ z : List Int32, z = ms3.set (i3 * 4 + j3) ((ms3.getD (i3 * 4 + j3) 0) + dl) := ⟨_, rfl⟩
  have VM : Arv Z h71 b7 c7 .int (8 : Int32) (ms4.map Value.int) (.int 0) := by rw [hms4, List.map_set]; exact Arv.set Ar_70 q_70 S_70 M_70 H_70 G_70 rfl W71 (i3 * 4 + j3) (own_ci (by omega)) (by rw [List.length_map, M3.1]; omega)
  replace I4 := own_I_keep I4 (Keep.of_wr W71) (fun x hx => Or.inl (by cases List.mem_singleton.mp hx; exact w9))
  have lM := VM.lt
  have em3 : ms3.getD (i3 * 4 + j3) 0 = (G3 i3 (Int32.ofNat j3)) := M3.2 _ _ h_i3 h_j3
  obtain ⟨G4, hG4⟩ : ∃ z, z = own_G2 G3 i3 j3 ((G3 i3 (Int32.ofNat j3)) + dl) := ⟨_, rfl⟩
  rw [← hG4] at I4
  have M4 : own_M G4 ms4 := by rw [hG4, hms4, em3]; exact own_M_2 h_i3 h_j3 M3
  have Con4 : own_Con G4 := by rw [hG4]; exact own_Con_2 h_i3 h_j3 Con3
  have k73_ : ∀ t, Steps p.tables e below (T71.setTop (mkF m 256 #[.val (.int p0), .val (.int p1), .val (.int p2), .val (.int p3), .val (.int p4), .val (.ref b1), .val (.ref b7), .val (.int (Int32.ofNat i0)), .val (.int (Int32.ofNat j0)), .val (.int x0), .val (.int (Int32.ofNat i1)), .val (.int (Int32.ofNat j1)), .val (.int x1), .val (.int (Int32.ofNat i2)), .val (.int (Int32.ofNat j2)), .val (.int x2), .val (.int (Int32.ofNat i3)), .val (.int (Int32.ofNat j3)), .val (.int md), .val (.int (G3 i3 (Int32.ofNat j3))), .val (.int dl), .val (.int (p4 &&& (1 : Int32))), .val (.int (((p4.toUInt32 >>> ((1 : Int32) &&& 31).toUInt32).toInt32) &&& (7 : Int32))), .unset, .unset, .unset] [])) t → Steps p.tables e below (s₁.setTop (mkF m 0 #[.val (.int p0), .val (.int p1), .val (.int p2), .val (.int p3), .val (.int p4), .unset, .unset, .unset, .unset, .unset, .unset, .unset, .unset, .unset, .unset, .unset, .unset, .unset, .unset, .unset, .unset, .unset, .unset, .unset, .unset, .unset] [])) t := by
    intro t q
    refine k72_ _ ?_
    show Steps p.tables e below (T71.setTop (mkF m 241 #[.val (.int p0), .val (.int p1), .val (.int p2), .val (.int p3), .val (.int p4), .val (.ref b1), .val (.ref b7), .val (.int (Int32.ofNat i0)), .val (.int (Int32.ofNat j0)), .val (.int x0), .val (.int (Int32.ofNat i1)), .val (.int (Int32.ofNat j1)), .val (.int x1), .val (.int (Int32.ofNat i2)), .val (.int (Int32.ofNat j2)), .val (.int x2), .val (.int (Int32.ofNat i3)), .val (.int (Int32.ofNat j3)), .val (.int md), .val (.int (G3 i3 (Int32.ofNat j3))), .val (.int dl), .unset, .unset, .unset, .unset, .unset] [])) _
    refine XS.iload X71.here hx rfl (hb hby at_241) rfl ?_
    refine XS.iconst X71.here hx rfl (hb hby at_243) ?_
    refine XS.iand X71.here hx rfl (hb hby at_244) rfl ?_
    show Steps p.tables e below (T71.setTop (mkF m 245 #[.val (.int p0), .val (.int p1), .val (.int p2), .val (.int p3), .val (.int p4), .val (.ref b1), .val (.ref b7), .val (.int (Int32.ofNat i0)), .val (.int (Int32.ofNat j0)), .val (.int x0), .val (.int (Int32.ofNat i1)), .val (.int (Int32.ofNat j1)), .val (.int x1), .val (.int (Int32.ofNat i2)), .val (.int (Int32.ofNat j2)), .val (.int x2), .val (.int (Int32.ofNat i3)), .val (.int (Int32.ofNat j3)), .val (.int md), .val (.int (G3 i3 (Int32.ofNat j3))), .val (.int dl), .unset, .unset, .unset, .unset, .unset] [(.int (p4 &&& (1 : Int32)))])) _
    refine XS.istore X71.here hx rfl (hb hby at_245) rfl (l' := #[.val (.int p0), .val (.int p1), .val (.int p2), .val (.int p3), .val (.int p4), .val (.ref b1), .val (.ref b7), .val (.int (Int32.ofNat i0)), .val (.int (Int32.ofNat j0)), .val (.int x0), .val (.int (Int32.ofNat i1)), .val (.int (Int32.ofNat j1)), .val (.int x1), .val (.int (Int32.ofNat i2)), .val (.int (Int32.ofNat j2)), .val (.int x2), .val (.int (Int32.ofNat i3)), .val (.int (Int32.ofNat j3)), .val (.int md), .val (.int (G3 i3 (Int32.ofNat j3))), .val (.int dl), .val (.int (p4 &&& (1 : Int32))), .unset, .unset, .unset, .unset]) rfl ?_
    refine XS.iload X71.here hx rfl (hb hby at_247) rfl ?_
    refine XS.iconst X71.here hx rfl (hb hby at_249) ?_
    show Steps p.tables e below (T71.setTop (mkF m 250 #[.val (.int p0), .val (.int p1), .val (.int p2), .val (.int p3), .val (.int p4), .val (.ref b1), .val (.ref b7), .val (.int (Int32.ofNat i0)), .val (.int (Int32.ofNat j0)), .val (.int x0), .val (.int (Int32.ofNat i1)), .val (.int (Int32.ofNat j1)), .val (.int x1), .val (.int (Int32.ofNat i2)), .val (.int (Int32.ofNat j2)), .val (.int x2), .val (.int (Int32.ofNat i3)), .val (.int (Int32.ofNat j3)), .val (.int md), .val (.int (G3 i3 (Int32.ofNat j3))), .val (.int dl), .val (.int (p4 &&& (1 : Int32))), .unset, .unset, .unset, .unset] [(.int (1 : Int32)), (.int p4)])) _
    refine XS.iushr X71.here hx rfl (hb hby at_250) rfl ?_
    refine XS.bipush X71.here hx rfl (hb hby at_251) ?_
    refine XS.iand X71.here hx rfl (hb hby at_253) rfl ?_
    show Steps p.tables e below (T71.setTop (mkF m 254 #[.val (.int p0), .val (.int p1), .val (.int p2), .val (.int p3), .val (.int p4), .val (.ref b1), .val (.ref b7), .val (.int (Int32.ofNat i0)), .val (.int (Int32.ofNat j0)), .val (.int x0), .val (.int (Int32.ofNat i1)), .val (.int (Int32.ofNat j1)), .val (.int x1), .val (.int (Int32.ofNat i2)), .val (.int (Int32.ofNat j2)), .val (.int x2), .val (.int (Int32.ofNat i3)), .val (.int (Int32.ofNat j3)), .val (.int md), .val (.int (G3 i3 (Int32.ofNat j3))), .val (.int dl), .val (.int (p4 &&& (1 : Int32))), .unset, .unset, .unset, .unset] [(.int (((p4.toUInt32 >>> ((1 : Int32) &&& 31).toUInt32).toInt32) &&& (7 : Int32)))])) _
    refine XS.istore X71.here hx rfl (hb hby at_254) rfl (l' := #[.val (.int p0), .val (.int p1), .val (.int p2), .val (.int p3), .val (.int p4), .val (.ref b1), .val (.ref b7), .val (.int (Int32.ofNat i0)), .val (.int (Int32.ofNat j0)), .val (.int x0), .val (.int (Int32.ofNat i1)), .val (.int (Int32.ofNat j1)), .val (.int x1), .val (.int (Int32.ofNat i2)), .val (.int (Int32.ofNat j2)), .val (.int x2), .val (.int (Int32.ofNat i3)), .val (.int (Int32.ofNat j3)), .val (.int md), .val (.int (G3 i3 (Int32.ofNat j3))), .val (.int dl), .val (.int (p4 &&& (1 : Int32))), .val (.int (((p4.toUInt32 >>> ((1 : Int32) &&& 31).toUInt32).toInt32) &&& (7 : Int32))), .unset, .unset, .unset]) rfl ?_
    show Steps p.tables e below (T71.setTop (mkF m 256 #[.val (.int p0), .val (.int p1), .val (.int p2), .val (.int p3), .val (.int p4), .val (.ref b1), .val (.ref b7), .val (.int (Int32.ofNat i0)), .val (.int (Int32.ofNat j0)), .val (.int x0), .val (.int (Int32.ofNat i1)), .val (.int (Int32.ofNat j1)), .val (.int x1), .val (.int (Int32.ofNat i2)), .val (.int (Int32.ofNat j2)), .val (.int x2), .val (.int (Int32.ofNat i3)), .val (.int (Int32.ofNat j3)), .val (.int md), .val (.int (G3 i3 (Int32.ofNat j3))), .val (.int dl), .val (.int (p4 &&& (1 : Int32))), .val (.int (((p4.toUInt32 >>> ((1 : Int32) &&& 31).toUInt32).toInt32) &&& (7 : Int32))), .unset, .unset, .unset] [])) _
    exact q
  obtain ⟨iq, h_iq, e_iq⟩ := own_msk p4 (1 : Int32) 1 2 (by decide) (by decide) (by decide) (by decide) (by decide)
  have k74_ : ∀ t, Steps p.tables e below (T71.setTop (mkF m 256 #[.val (.int p0), .val (.int p1), .val (.int p2), .val (.int p3), .val (.int p4), .val (.ref b1), .val (.ref b7), .val (.int (Int32.ofNat i0)), .val (.int (Int32.ofNat j0)), .val (.int x0), .val (.int (Int32.ofNat i1)), .val (.int (Int32.ofNat j1)), .val (.int x1), .val (.int (Int32.ofNat i2)), .val (.int (Int32.ofNat j2)), .val (.int x2), .val (.int (Int32.ofNat i3)), .val (.int (Int32.ofNat j3)), .val (.int md), .val (.int (G3 i3 (Int32.ofNat j3))), .val (.int dl), .val (.int (Int32.ofNat iq)), .val (.int (((p4.toUInt32 >>> ((1 : Int32) &&& 31).toUInt32).toInt32) &&& (7 : Int32))), .unset, .unset, .unset] [])) t → Steps p.tables e below (s₁.setTop (mkF m 0 #[.val (.int p0), .val (.int p1), .val (.int p2), .val (.int p3), .val (.int p4), .unset, .unset, .unset, .unset, .unset, .unset, .unset, .unset, .unset, .unset, .unset, .unset, .unset, .unset, .unset, .unset, .unset, .unset, .unset, .unset, .unset] [])) t := fun t q => k73_ t (Eq.mp (congrArg (fun z => Steps p.tables e below (T71.setTop (mkF m 256 #[.val (.int p0), .val (.int p1), .val (.int p2), .val (.int p3), .val (.int p4), .val (.ref b1), .val (.ref b7), .val (.int (Int32.ofNat i0)), .val (.int (Int32.ofNat j0)), .val (.int x0), .val (.int (Int32.ofNat i1)), .val (.int (Int32.ofNat j1)), .val (.int x1), .val (.int (Int32.ofNat i2)), .val (.int (Int32.ofNat j2)), .val (.int x2), .val (.int (Int32.ofNat i3)), .val (.int (Int32.ofNat j3)), .val (.int md), .val (.int (G3 i3 (Int32.ofNat j3))), .val (.int dl), .val (.int z), .val (.int (((p4.toUInt32 >>> ((1 : Int32) &&& 31).toUInt32).toInt32) &&& (7 : Int32))), .unset, .unset, .unset] [])) t) (show (Int32.ofNat iq) = (p4 &&& (1 : Int32)) from e_iq)) q)
  obtain ⟨jq, h_jq, e_jq⟩ := own_msk ((p4.toUInt32 >>> ((1 : Int32) &&& 31).toUInt32).toInt32) (7 : Int32) 3 8 (by decide) (by decide) (by decide) (by decide) (by decide)
  have k75_ : ∀ t, Steps p.tables e below (T71.setTop (mkF m 256 #[.val (.int p0), .val (.int p1), .val (.int p2), .val (.int p3), .val (.int p4), .val (.ref b1), .val (.ref b7), .val (.int (Int32.ofNat i0)), .val (.int (Int32.ofNat j0)), .val (.int x0), .val (.int (Int32.ofNat i1)), .val (.int (Int32.ofNat j1)), .val (.int x1), .val (.int (Int32.ofNat i2)), .val (.int (Int32.ofNat j2)), .val (.int x2), .val (.int (Int32.ofNat i3)), .val (.int (Int32.ofNat j3)), .val (.int md), .val (.int (G3 i3 (Int32.ofNat j3))), .val (.int dl), .val (.int (Int32.ofNat iq)), .val (.int (Int32.ofNat jq)), .unset, .unset, .unset] [])) t → Steps p.tables e below (s₁.setTop (mkF m 0 #[.val (.int p0), .val (.int p1), .val (.int p2), .val (.int p3), .val (.int p4), .unset, .unset, .unset, .unset, .unset, .unset, .unset, .unset, .unset, .unset, .unset, .unset, .unset, .unset, .unset, .unset, .unset, .unset, .unset, .unset, .unset] [])) t := fun t q => k74_ t (Eq.mp (congrArg (fun z => Steps p.tables e below (T71.setTop (mkF m 256 #[.val (.int p0), .val (.int p1), .val (.int p2), .val (.int p3), .val (.int p4), .val (.ref b1), .val (.ref b7), .val (.int (Int32.ofNat i0)), .val (.int (Int32.ofNat j0)), .val (.int x0), .val (.int (Int32.ofNat i1)), .val (.int (Int32.ofNat j1)), .val (.int x1), .val (.int (Int32.ofNat i2)), .val (.int (Int32.ofNat j2)), .val (.int x2), .val (.int (Int32.ofNat i3)), .val (.int (Int32.ofNat j3)), .val (.int md), .val (.int (G3 i3 (Int32.ofNat j3))), .val (.int dl), .val (.int (Int32.ofNat iq)), .val (.int z), .unset, .unset, .unset] [])) t) (show (Int32.ofNat jq) = (((p4.toUInt32 >>> ((1 : Int32) &&& 31).toUInt32).toInt32) &&& (7 : Int32)) from e_jq)) q)
  have k76_ : ∀ t, Steps p.tables e below (T71.setTop (mkF m 262 #[.val (.int p0), .val (.int p1), .val (.int p2), .val (.int p3), .val (.int p4), .val (.ref b1), .val (.ref b7), .val (.int (Int32.ofNat i0)), .val (.int (Int32.ofNat j0)), .val (.int x0), .val (.int (Int32.ofNat i1)), .val (.int (Int32.ofNat j1)), .val (.int x1), .val (.int (Int32.ofNat i2)), .val (.int (Int32.ofNat j2)), .val (.int x2), .val (.int (Int32.ofNat i3)), .val (.int (Int32.ofNat j3)), .val (.int md), .val (.int (G3 i3 (Int32.ofNat j3))), .val (.int dl), .val (.int (Int32.ofNat iq)), .val (.int (Int32.ofNat jq)), .unset, .unset, .unset] [(.int (Int32.ofNat jq)), (.int (Int32.ofNat iq)), (.ref b1)])) t → Steps p.tables e below (s₁.setTop (mkF m 0 #[.val (.int p0), .val (.int p1), .val (.int p2), .val (.int p3), .val (.int p4), .unset, .unset, .unset, .unset, .unset, .unset, .unset, .unset, .unset, .unset, .unset, .unset, .unset, .unset, .unset, .unset, .unset, .unset, .unset, .unset, .unset] [])) t := by
    intro t q
    refine k75_ _ ?_
    show Steps p.tables e below (T71.setTop (mkF m 256 #[.val (.int p0), .val (.int p1), .val (.int p2), .val (.int p3), .val (.int p4), .val (.ref b1), .val (.ref b7), .val (.int (Int32.ofNat i0)), .val (.int (Int32.ofNat j0)), .val (.int x0), .val (.int (Int32.ofNat i1)), .val (.int (Int32.ofNat j1)), .val (.int x1), .val (.int (Int32.ofNat i2)), .val (.int (Int32.ofNat j2)), .val (.int x2), .val (.int (Int32.ofNat i3)), .val (.int (Int32.ofNat j3)), .val (.int md), .val (.int (G3 i3 (Int32.ofNat j3))), .val (.int dl), .val (.int (Int32.ofNat iq)), .val (.int (Int32.ofNat jq)), .unset, .unset, .unset] [])) _
    refine XS.aload X71.here hx rfl (hb hby at_256) rfl rfl ?_
    refine XS.iload X71.here hx rfl (hb hby at_258) rfl ?_
    refine XS.iload X71.here hx rfl (hb hby at_260) rfl ?_
    show Steps p.tables e below (T71.setTop (mkF m 262 #[.val (.int p0), .val (.int p1), .val (.int p2), .val (.int p3), .val (.int p4), .val (.ref b1), .val (.ref b7), .val (.int (Int32.ofNat i0)), .val (.int (Int32.ofNat j0)), .val (.int x0), .val (.int (Int32.ofNat i1)), .val (.int (Int32.ofNat j1)), .val (.int x1), .val (.int (Int32.ofNat i2)), .val (.int (Int32.ofNat j2)), .val (.int x2), .val (.int (Int32.ofNat i3)), .val (.int (Int32.ofNat j3)), .val (.int md), .val (.int (G3 i3 (Int32.ofNat j3))), .val (.int dl), .val (.int (Int32.ofNat iq)), .val (.int (Int32.ofNat jq)), .unset, .unset, .unset] [(.int (Int32.ofNat jq)), (.int (Int32.ofNat iq)), (.ref b1)])) _
    exact q
  obtain ⟨r0, hr0⟩ : ∃ z : Addr, z = h71.size := ⟨_, rfl⟩
  obtain ⟨cq77, kq77, q77a, q77b, q77c⟩ := isOf hZ e71 I4.1
  obtain ⟨_, _, ⟨T77, L77, kk77, n77⟩, -, X77, ⟨Lc77, hQ77, l77, y77, z77⟩, st77⟩ := X71.virtualBack hx (y := (⟨"com/example/weir/weir/model/HeldTasks", "column", "(II)[I"⟩ : MethodName)) (z := (⟨"com/example/weir/weir/model/HeldTasks", "column", "(II)[I"⟩ : MethodName)) hown (mvT hZ (hw _ (List.mem_of_getElem? (i := 22) rfl))) (mvT hZ (hw _ (List.mem_of_getElem? (i := 23) rfl))) (notFace_of_selects (args := #[]) (mvT hZ (hw _ (List.mem_of_getElem? (i := 25) rfl)))) (mvT hZ (hw _ (List.mem_of_getElem? (i := 25) rfl))) (mvT hZ (hw _ (List.mem_of_getElem? (i := 24) rfl))) (by decide) (backOf (W := 0) (rmCo l Z a0 hw [] b1 nb pb O4 w4 G4 iq jq r0 h71 n0 Zn I4 h_iq h_jq hr0) hZ (hw _ (List.mem_of_getElem? (i := 26) rfl)) (hw _ (List.mem_of_getElem? (i := 2) rfl)) (by decide) (by decide)) q77a q77c (g := (mkF m 262 #[.val (.int p0), .val (.int p1), .val (.int p2), .val (.int p3), .val (.int p4), .val (.ref b1), .val (.ref b7), .val (.int (Int32.ofNat i0)), .val (.int (Int32.ofNat j0)), .val (.int x0), .val (.int (Int32.ofNat i1)), .val (.int (Int32.ofNat j1)), .val (.int x1), .val (.int (Int32.ofNat i2)), .val (.int (Int32.ofNat j2)), .val (.int x2), .val (.int (Int32.ofNat i3)), .val (.int (Int32.ofNat j3)), .val (.int md), .val (.int (G3 i3 (Int32.ofNat j3))), .val (.int dl), .val (.int (Int32.ofNat iq)), .val (.int (Int32.ofNat jq)), .unset, .unset, .unset] [(.int (Int32.ofNat jq)), (.int (Int32.ofNat iq)), (.ref b1)])) rfl (by rw [hml]; rfl) (Steps.refl _) (argsL := [(.int (Int32.ofNat iq)), (.int (Int32.ofNat jq))]) (rest := []) (lenOf pd_3597 rfl) rfl (by show 2 * 0 + _ ≤ _; exact Nat.le_of_eq rfl) (hb hby at_262) (fun _ _ => ⟨rfl, e71, (by decide : 0 + 1 + 2 + 1 + 10 + 10 + 10 + 10 + 1 ≤ _), (by decide : 0 + 2 + 6 + 8 + 54 + 54 + 54 + 54 + 7 ≤ _)⟩)
  dsimp only [Pt.U, Pt.locs, Pt.cells, Pt.slots] at X77 l77 y77 z77 st77 hQ77
  rw [l77, y77, z77] at X77
  obtain ⟨rfl, Nq77, KR0, kr0, xs0, VR0, lr0, gr0⟩ := hQ77
  have N77 := Fr.app N71 Nq77
  have k78_ : ∀ t, Steps p.tables e below (T77.setTop (mkF m 265 #[.val (.int p0), .val (.int p1), .val (.int p2), .val (.int p3), .val (.int p4), .val (.ref b1), .val (.ref b7), .val (.int (Int32.ofNat i0)), .val (.int (Int32.ofNat j0)), .val (.int x0), .val (.int (Int32.ofNat i1)), .val (.int (Int32.ofNat j1)), .val (.int x1), .val (.int (Int32.ofNat i2)), .val (.int (Int32.ofNat j2)), .val (.int x2), .val (.int (Int32.ofNat i3)), .val (.int (Int32.ofNat j3)), .val (.int md), .val (.int (G3 i3 (Int32.ofNat j3))), .val (.int dl), .val (.int (Int32.ofNat iq)), .val (.int (Int32.ofNat jq)), .unset, .unset, .unset] [(.ref r0)])) t → Steps p.tables e below (s₁.setTop (mkF m 0 #[.val (.int p0), .val (.int p1), .val (.int p2), .val (.int p3), .val (.int p4), .unset, .unset, .unset, .unset, .unset, .unset, .unset, .unset, .unset, .unset, .unset, .unset, .unset, .unset, .unset, .unset, .unset, .unset, .unset, .unset, .unset] [])) t := fun t q => k76_ t (st77.trans q)
  replace I4 := own_I_keep I4 KR0 (fun x hx => nomatch hx)
  replace VM := VM.keep KR0 nin0
  replace Zn := Nat.le_trans Zn KR0.1
  have k79_ : ∀ t, Steps p.tables e below (T77.setTop (mkF m 273 #[.val (.int p0), .val (.int p1), .val (.int p2), .val (.int p3), .val (.int p4), .val (.ref b1), .val (.ref b7), .val (.int (Int32.ofNat i0)), .val (.int (Int32.ofNat j0)), .val (.int x0), .val (.int (Int32.ofNat i1)), .val (.int (Int32.ofNat j1)), .val (.int x1), .val (.int (Int32.ofNat i2)), .val (.int (Int32.ofNat j2)), .val (.int x2), .val (.int (Int32.ofNat i3)), .val (.int (Int32.ofNat j3)), .val (.int md), .val (.int (G3 i3 (Int32.ofNat j3))), .val (.int dl), .val (.int (Int32.ofNat iq)), .val (.int (Int32.ofNat jq)), .val (.ref r0), .unset, .unset] [(.int (Int32.ofNat jq)), (.int (Int32.ofNat iq)), (.ref b1)])) t → Steps p.tables e below (s₁.setTop (mkF m 0 #[.val (.int p0), .val (.int p1), .val (.int p2), .val (.int p3), .val (.int p4), .unset, .unset, .unset, .unset, .unset, .unset, .unset, .unset, .unset, .unset, .unset, .unset, .unset, .unset, .unset, .unset, .unset, .unset, .unset, .unset, .unset] [])) t := by
    intro t q
    refine k78_ _ ?_
    show Steps p.tables e below (T77.setTop (mkF m 265 #[.val (.int p0), .val (.int p1), .val (.int p2), .val (.int p3), .val (.int p4), .val (.ref b1), .val (.ref b7), .val (.int (Int32.ofNat i0)), .val (.int (Int32.ofNat j0)), .val (.int x0), .val (.int (Int32.ofNat i1)), .val (.int (Int32.ofNat j1)), .val (.int x1), .val (.int (Int32.ofNat i2)), .val (.int (Int32.ofNat j2)), .val (.int x2), .val (.int (Int32.ofNat i3)), .val (.int (Int32.ofNat j3)), .val (.int md), .val (.int (G3 i3 (Int32.ofNat j3))), .val (.int dl), .val (.int (Int32.ofNat iq)), .val (.int (Int32.ofNat jq)), .unset, .unset, .unset] [(.ref r0)])) _
    refine XS.astore X77.here hx rfl (hb hby at_265) rfl rfl (l' := #[.val (.int p0), .val (.int p1), .val (.int p2), .val (.int p3), .val (.int p4), .val (.ref b1), .val (.ref b7), .val (.int (Int32.ofNat i0)), .val (.int (Int32.ofNat j0)), .val (.int x0), .val (.int (Int32.ofNat i1)), .val (.int (Int32.ofNat j1)), .val (.int x1), .val (.int (Int32.ofNat i2)), .val (.int (Int32.ofNat j2)), .val (.int x2), .val (.int (Int32.ofNat i3)), .val (.int (Int32.ofNat j3)), .val (.int md), .val (.int (G3 i3 (Int32.ofNat j3))), .val (.int dl), .val (.int (Int32.ofNat iq)), .val (.int (Int32.ofNat jq)), .val (.ref r0), .unset, .unset]) rfl ?_
    refine XS.aload X77.here hx rfl (hb hby at_267) rfl rfl ?_
    refine XS.iload X77.here hx rfl (hb hby at_269) rfl ?_
    show Steps p.tables e below (T77.setTop (mkF m 271 #[.val (.int p0), .val (.int p1), .val (.int p2), .val (.int p3), .val (.int p4), .val (.ref b1), .val (.ref b7), .val (.int (Int32.ofNat i0)), .val (.int (Int32.ofNat j0)), .val (.int x0), .val (.int (Int32.ofNat i1)), .val (.int (Int32.ofNat j1)), .val (.int x1), .val (.int (Int32.ofNat i2)), .val (.int (Int32.ofNat j2)), .val (.int x2), .val (.int (Int32.ofNat i3)), .val (.int (Int32.ofNat j3)), .val (.int md), .val (.int (G3 i3 (Int32.ofNat j3))), .val (.int dl), .val (.int (Int32.ofNat iq)), .val (.int (Int32.ofNat jq)), .val (.ref r0), .unset, .unset] [(.int (Int32.ofNat iq)), (.ref b1)])) _
    refine XS.iload X77.here hx rfl (hb hby at_271) rfl ?_
    show Steps p.tables e below (T77.setTop (mkF m 273 #[.val (.int p0), .val (.int p1), .val (.int p2), .val (.int p3), .val (.int p4), .val (.ref b1), .val (.ref b7), .val (.int (Int32.ofNat i0)), .val (.int (Int32.ofNat j0)), .val (.int x0), .val (.int (Int32.ofNat i1)), .val (.int (Int32.ofNat j1)), .val (.int x1), .val (.int (Int32.ofNat i2)), .val (.int (Int32.ofNat j2)), .val (.int x2), .val (.int (Int32.ofNat i3)), .val (.int (Int32.ofNat j3)), .val (.int md), .val (.int (G3 i3 (Int32.ofNat j3))), .val (.int dl), .val (.int (Int32.ofNat iq)), .val (.int (Int32.ofNat jq)), .val (.ref r0), .unset, .unset] [(.int (Int32.ofNat jq)), (.int (Int32.ofNat iq)), (.ref b1)])) _
    exact q
  obtain ⟨r1, hr1⟩ : ∃ z : Addr, z = T77.heap.size := ⟨_, rfl⟩
  obtain ⟨cq80, kq80, q80a, q80b, q80c⟩ := isOf hZ rfl I4.1
  obtain ⟨_, _, ⟨T80, L80, kk80, n80⟩, -, X80, ⟨Lc80, hQ80, l80, y80, z80⟩, st80⟩ := X77.virtualBack hx (y := (⟨"com/example/weir/weir/model/HeldTasks", "column", "(II)[I"⟩ : MethodName)) (z := (⟨"com/example/weir/weir/model/HeldTasks", "column", "(II)[I"⟩ : MethodName)) hown (mvT hZ (hw _ (List.mem_of_getElem? (i := 22) rfl))) (mvT hZ (hw _ (List.mem_of_getElem? (i := 23) rfl))) (notFace_of_selects (args := #[]) (mvT hZ (hw _ (List.mem_of_getElem? (i := 25) rfl)))) (mvT hZ (hw _ (List.mem_of_getElem? (i := 25) rfl))) (mvT hZ (hw _ (List.mem_of_getElem? (i := 24) rfl))) (by decide) (backOf (W := 0) (rmCo l Z a0 hw [] b1 nb pb O4 w4 G4 iq jq r1 T77.heap n0 Zn I4 h_iq h_jq hr1) hZ (hw _ (List.mem_of_getElem? (i := 26) rfl)) (hw _ (List.mem_of_getElem? (i := 2) rfl)) (by decide) (by decide)) q80a q80c (g := (mkF m 273 #[.val (.int p0), .val (.int p1), .val (.int p2), .val (.int p3), .val (.int p4), .val (.ref b1), .val (.ref b7), .val (.int (Int32.ofNat i0)), .val (.int (Int32.ofNat j0)), .val (.int x0), .val (.int (Int32.ofNat i1)), .val (.int (Int32.ofNat j1)), .val (.int x1), .val (.int (Int32.ofNat i2)), .val (.int (Int32.ofNat j2)), .val (.int x2), .val (.int (Int32.ofNat i3)), .val (.int (Int32.ofNat j3)), .val (.int md), .val (.int (G3 i3 (Int32.ofNat j3))), .val (.int dl), .val (.int (Int32.ofNat iq)), .val (.int (Int32.ofNat jq)), .val (.ref r0), .unset, .unset] [(.int (Int32.ofNat jq)), (.int (Int32.ofNat iq)), (.ref b1)])) rfl (by rw [hml]; rfl) (Steps.refl _) (argsL := [(.int (Int32.ofNat iq)), (.int (Int32.ofNat jq))]) (rest := []) (lenOf pd_3597 rfl) rfl (by show 2 * 0 + _ ≤ _; exact Nat.le_of_eq rfl) (hb hby at_273) (fun _ _ => ⟨rfl, rfl, (by decide : 0 + 1 + 2 + 1 + 10 + 10 + 10 + 10 + 1 + 1 ≤ _), (by decide : 0 + 2 + 6 + 8 + 54 + 54 + 54 + 54 + 7 + 7 ≤ _)⟩)
  dsimp only [Pt.U, Pt.locs, Pt.cells, Pt.slots] at X80 l80 y80 z80 st80 hQ80
  rw [l80, y80, z80] at X80
  obtain ⟨rfl, Nq80, KR1, kr1, xs1, VR1, lr1, gr1⟩ := hQ80
  have N80 := Fr.app N77 Nq80
  have k81_ : ∀ t, Steps p.tables e below (T80.setTop (mkF m 276 #[.val (.int p0), .val (.int p1), .val (.int p2), .val (.int p3), .val (.int p4), .val (.ref b1), .val (.ref b7), .val (.int (Int32.ofNat i0)), .val (.int (Int32.ofNat j0)), .val (.int x0), .val (.int (Int32.ofNat i1)), .val (.int (Int32.ofNat j1)), .val (.int x1), .val (.int (Int32.ofNat i2)), .val (.int (Int32.ofNat j2)), .val (.int x2), .val (.int (Int32.ofNat i3)), .val (.int (Int32.ofNat j3)), .val (.int md), .val (.int (G3 i3 (Int32.ofNat j3))), .val (.int dl), .val (.int (Int32.ofNat iq)), .val (.int (Int32.ofNat jq)), .val (.ref r0), .unset, .unset] [(.ref r1)])) t → Steps p.tables e below (s₁.setTop (mkF m 0 #[.val (.int p0), .val (.int p1), .val (.int p2), .val (.int p3), .val (.int p4), .unset, .unset, .unset, .unset, .unset, .unset, .unset, .unset, .unset, .unset, .unset, .unset, .unset, .unset, .unset, .unset, .unset, .unset, .unset, .unset, .unset] [])) t := fun t q => k79_ t (st80.trans q)
  replace I4 := own_I_keep I4 KR1 (fun x hx => nomatch hx)
  replace VM := VM.keep KR1 nin0
  replace Zn := Nat.le_trans Zn KR1.1
  have nr : ¬ r0 = r1 := Nat.ne_of_lt (Nat.lt_of_lt_of_le VR0.lt (Nat.le_of_eq hr1.symm))
  replace VR0 := VR0.keep KR1 nin0
  obtain ⟨cl82, Ar82, q82, S82, M82, H82, G82⟩ := id VR0
  have k83_ : ∀ t, Steps p.tables e below (T80.setTop (mkF m 283 #[.val (.int p0), .val (.int p1), .val (.int p2), .val (.int p3), .val (.int p4), .val (.ref b1), .val (.ref b7), .val (.int (Int32.ofNat i0)), .val (.int (Int32.ofNat j0)), .val (.int x0), .val (.int (Int32.ofNat i1)), .val (.int (Int32.ofNat j1)), .val (.int x1), .val (.int (Int32.ofNat i2)), .val (.int (Int32.ofNat j2)), .val (.int x2), .val (.int (Int32.ofNat i3)), .val (.int (Int32.ofNat j3)), .val (.int md), .val (.int (G3 i3 (Int32.ofNat j3))), .val (.int dl), .val (.int (Int32.ofNat iq)), .val (.int (Int32.ofNat jq)), .val (.ref r0), .val (.ref r1), .unset] [(.int (Int32.ofNat jq)), (.int (Int32.ofNat jq))])) t → Steps p.tables e below (s₁.setTop (mkF m 0 #[.val (.int p0), .val (.int p1), .val (.int p2), .val (.int p3), .val (.int p4), .unset, .unset, .unset, .unset, .unset, .unset, .unset, .unset, .unset, .unset, .unset, .unset, .unset, .unset, .unset, .unset, .unset, .unset, .unset, .unset, .unset] [])) t := by
    intro t q
    refine k81_ _ ?_
    show Steps p.tables e below (T80.setTop (mkF m 276 #[.val (.int p0), .val (.int p1), .val (.int p2), .val (.int p3), .val (.int p4), .val (.ref b1), .val (.ref b7), .val (.int (Int32.ofNat i0)), .val (.int (Int32.ofNat j0)), .val (.int x0), .val (.int (Int32.ofNat i1)), .val (.int (Int32.ofNat j1)), .val (.int x1), .val (.int (Int32.ofNat i2)), .val (.int (Int32.ofNat j2)), .val (.int x2), .val (.int (Int32.ofNat i3)), .val (.int (Int32.ofNat j3)), .val (.int md), .val (.int (G3 i3 (Int32.ofNat j3))), .val (.int dl), .val (.int (Int32.ofNat iq)), .val (.int (Int32.ofNat jq)), .val (.ref r0), .unset, .unset] [(.ref r1)])) _
    refine XS.astore X80.here hx rfl (hb hby at_276) rfl rfl (l' := #[.val (.int p0), .val (.int p1), .val (.int p2), .val (.int p3), .val (.int p4), .val (.ref b1), .val (.ref b7), .val (.int (Int32.ofNat i0)), .val (.int (Int32.ofNat j0)), .val (.int x0), .val (.int (Int32.ofNat i1)), .val (.int (Int32.ofNat j1)), .val (.int x1), .val (.int (Int32.ofNat i2)), .val (.int (Int32.ofNat j2)), .val (.int x2), .val (.int (Int32.ofNat i3)), .val (.int (Int32.ofNat j3)), .val (.int md), .val (.int (G3 i3 (Int32.ofNat j3))), .val (.int dl), .val (.int (Int32.ofNat iq)), .val (.int (Int32.ofNat jq)), .val (.ref r0), .val (.ref r1), .unset]) rfl ?_
    refine XS.aload X80.here hx rfl (hb hby at_278) rfl rfl ?_
    show Steps p.tables e below (T80.setTop (mkF m 280 #[.val (.int p0), .val (.int p1), .val (.int p2), .val (.int p3), .val (.int p4), .val (.ref b1), .val (.ref b7), .val (.int (Int32.ofNat i0)), .val (.int (Int32.ofNat j0)), .val (.int x0), .val (.int (Int32.ofNat i1)), .val (.int (Int32.ofNat j1)), .val (.int x1), .val (.int (Int32.ofNat i2)), .val (.int (Int32.ofNat j2)), .val (.int x2), .val (.int (Int32.ofNat i3)), .val (.int (Int32.ofNat j3)), .val (.int md), .val (.int (G3 i3 (Int32.ofNat j3))), .val (.int dl), .val (.int (Int32.ofNat iq)), .val (.int (Int32.ofNat jq)), .val (.ref r0), .val (.ref r1), .unset] [(.ref r0)])) _
    refine X80.arraylength hx Ar82.1 (State.isArrayOf_alike hZ.alike Ar82.2.1) (g := (mkF m 280 #[.val (.int p0), .val (.int p1), .val (.int p2), .val (.int p3), .val (.int p4), .val (.ref b1), .val (.ref b7), .val (.int (Int32.ofNat i0)), .val (.int (Int32.ofNat j0)), .val (.int x0), .val (.int (Int32.ofNat i1)), .val (.int (Int32.ofNat j1)), .val (.int x1), .val (.int (Int32.ofNat i2)), .val (.int (Int32.ofNat j2)), .val (.int x2), .val (.int (Int32.ofNat i3)), .val (.int (Int32.ofNat j3)), .val (.int md), .val (.int (G3 i3 (Int32.ofNat j3))), .val (.int dl), .val (.int (Int32.ofNat iq)), .val (.int (Int32.ofNat jq)), .val (.ref r0), .val (.ref r1), .unset] [(.ref r0)])) rfl rfl (hb hby at_280) _ ?_
    rw [len_of S82 M82]
    show Steps p.tables e below (T80.setTop (mkF m 281 #[.val (.int p0), .val (.int p1), .val (.int p2), .val (.int p3), .val (.int p4), .val (.ref b1), .val (.ref b7), .val (.int (Int32.ofNat i0)), .val (.int (Int32.ofNat j0)), .val (.int x0), .val (.int (Int32.ofNat i1)), .val (.int (Int32.ofNat j1)), .val (.int x1), .val (.int (Int32.ofNat i2)), .val (.int (Int32.ofNat j2)), .val (.int x2), .val (.int (Int32.ofNat i3)), .val (.int (Int32.ofNat j3)), .val (.int md), .val (.int (G3 i3 (Int32.ofNat j3))), .val (.int dl), .val (.int (Int32.ofNat iq)), .val (.int (Int32.ofNat jq)), .val (.ref r0), .val (.ref r1), .unset] [(.int (Int32.ofNat jq))])) _
    refine XS.iload X80.here hx rfl (hb hby at_281) rfl ?_
    show Steps p.tables e below (T80.setTop (mkF m 283 #[.val (.int p0), .val (.int p1), .val (.int p2), .val (.int p3), .val (.int p4), .val (.ref b1), .val (.ref b7), .val (.int (Int32.ofNat i0)), .val (.int (Int32.ofNat j0)), .val (.int x0), .val (.int (Int32.ofNat i1)), .val (.int (Int32.ofNat j1)), .val (.int x1), .val (.int (Int32.ofNat i2)), .val (.int (Int32.ofNat j2)), .val (.int x2), .val (.int (Int32.ofNat i3)), .val (.int (Int32.ofNat j3)), .val (.int md), .val (.int (G3 i3 (Int32.ofNat j3))), .val (.int dl), .val (.int (Int32.ofNat iq)), .val (.int (Int32.ofNat jq)), .val (.ref r0), .val (.ref r1), .unset] [(.int (Int32.ofNat jq)), (.int (Int32.ofNat jq))])) _
    exact q
  have k84_ : ∀ t, Steps p.tables e below (T80.setTop (mkF m 288 #[.val (.int p0), .val (.int p1), .val (.int p2), .val (.int p3), .val (.int p4), .val (.ref b1), .val (.ref b7), .val (.int (Int32.ofNat i0)), .val (.int (Int32.ofNat j0)), .val (.int x0), .val (.int (Int32.ofNat i1)), .val (.int (Int32.ofNat j1)), .val (.int x1), .val (.int (Int32.ofNat i2)), .val (.int (Int32.ofNat j2)), .val (.int x2), .val (.int (Int32.ofNat i3)), .val (.int (Int32.ofNat j3)), .val (.int md), .val (.int (G3 i3 (Int32.ofNat j3))), .val (.int dl), .val (.int (Int32.ofNat iq)), .val (.int (Int32.ofNat jq)), .val (.ref r0), .val (.ref r1), .unset] [])) t → Steps p.tables e below (s₁.setTop (mkF m 0 #[.val (.int p0), .val (.int p1), .val (.int p2), .val (.int p3), .val (.int p4), .unset, .unset, .unset, .unset, .unset, .unset, .unset, .unset, .unset, .unset, .unset, .unset, .unset, .unset, .unset, .unset, .unset, .unset, .unset, .unset, .unset] [])) t := by
    intro t q
    refine k83_ _ ?_
    show Steps p.tables e below (T80.setTop (mkF m 283 #[.val (.int p0), .val (.int p1), .val (.int p2), .val (.int p3), .val (.int p4), .val (.ref b1), .val (.ref b7), .val (.int (Int32.ofNat i0)), .val (.int (Int32.ofNat j0)), .val (.int x0), .val (.int (Int32.ofNat i1)), .val (.int (Int32.ofNat j1)), .val (.int x1), .val (.int (Int32.ofNat i2)), .val (.int (Int32.ofNat j2)), .val (.int x2), .val (.int (Int32.ofNat i3)), .val (.int (Int32.ofNat j3)), .val (.int md), .val (.int (G3 i3 (Int32.ofNat j3))), .val (.int dl), .val (.int (Int32.ofNat iq)), .val (.int (Int32.ofNat jq)), .val (.ref r0), .val (.ref r1), .unset] [(.int (Int32.ofNat jq)), (.int (Int32.ofNat jq))])) _
    refine XS.icmpYes X80.here hx rfl (pc0 := 283) (pc' := 288) rfl (hb hby at_283) rfl (teq rfl).1 (by decide) (by decide) ?_
    show Steps p.tables e below (T80.setTop (mkF m 288 #[.val (.int p0), .val (.int p1), .val (.int p2), .val (.int p3), .val (.int p4), .val (.ref b1), .val (.ref b7), .val (.int (Int32.ofNat i0)), .val (.int (Int32.ofNat j0)), .val (.int x0), .val (.int (Int32.ofNat i1)), .val (.int (Int32.ofNat j1)), .val (.int x1), .val (.int (Int32.ofNat i2)), .val (.int (Int32.ofNat j2)), .val (.int x2), .val (.int (Int32.ofNat i3)), .val (.int (Int32.ofNat j3)), .val (.int md), .val (.int (G3 i3 (Int32.ofNat j3))), .val (.int dl), .val (.int (Int32.ofNat iq)), .val (.int (Int32.ofNat jq)), .val (.ref r0), .val (.ref r1), .unset] [])) _
    exact q
  have k85_ : ∀ t, Steps p.tables e below (T80.setTop (mkF m 292 #[.val (.int p0), .val (.int p1), .val (.int p2), .val (.int p3), .val (.int p4), .val (.ref b1), .val (.ref b7), .val (.int (Int32.ofNat i0)), .val (.int (Int32.ofNat j0)), .val (.int x0), .val (.int (Int32.ofNat i1)), .val (.int (Int32.ofNat j1)), .val (.int x1), .val (.int (Int32.ofNat i2)), .val (.int (Int32.ofNat j2)), .val (.int x2), .val (.int (Int32.ofNat i3)), .val (.int (Int32.ofNat j3)), .val (.int md), .val (.int (G3 i3 (Int32.ofNat j3))), .val (.int dl), .val (.int (Int32.ofNat iq)), .val (.int (Int32.ofNat jq)), .val (.ref r0), .val (.ref r1), .unset] [(.ref r1), (.ref r0)])) t → Steps p.tables e below (s₁.setTop (mkF m 0 #[.val (.int p0), .val (.int p1), .val (.int p2), .val (.int p3), .val (.int p4), .unset, .unset, .unset, .unset, .unset, .unset, .unset, .unset, .unset, .unset, .unset, .unset, .unset, .unset, .unset, .unset, .unset, .unset, .unset, .unset, .unset] [])) t := by
    intro t q
    refine k84_ _ ?_
    show Steps p.tables e below (T80.setTop (mkF m 288 #[.val (.int p0), .val (.int p1), .val (.int p2), .val (.int p3), .val (.int p4), .val (.ref b1), .val (.ref b7), .val (.int (Int32.ofNat i0)), .val (.int (Int32.ofNat j0)), .val (.int x0), .val (.int (Int32.ofNat i1)), .val (.int (Int32.ofNat j1)), .val (.int x1), .val (.int (Int32.ofNat i2)), .val (.int (Int32.ofNat j2)), .val (.int x2), .val (.int (Int32.ofNat i3)), .val (.int (Int32.ofNat j3)), .val (.int md), .val (.int (G3 i3 (Int32.ofNat j3))), .val (.int dl), .val (.int (Int32.ofNat iq)), .val (.int (Int32.ofNat jq)), .val (.ref r0), .val (.ref r1), .unset] [])) _
    refine XS.aload X80.here hx rfl (hb hby at_288) rfl rfl ?_
    refine XS.aload X80.here hx rfl (hb hby at_290) rfl rfl ?_
    show Steps p.tables e below (T80.setTop (mkF m 292 #[.val (.int p0), .val (.int p1), .val (.int p2), .val (.int p3), .val (.int p4), .val (.ref b1), .val (.ref b7), .val (.int (Int32.ofNat i0)), .val (.int (Int32.ofNat j0)), .val (.int x0), .val (.int (Int32.ofNat i1)), .val (.int (Int32.ofNat j1)), .val (.int x1), .val (.int (Int32.ofNat i2)), .val (.int (Int32.ofNat j2)), .val (.int x2), .val (.int (Int32.ofNat i3)), .val (.int (Int32.ofNat j3)), .val (.int md), .val (.int (G3 i3 (Int32.ofNat j3))), .val (.int dl), .val (.int (Int32.ofNat iq)), .val (.int (Int32.ofNat jq)), .val (.ref r0), .val (.ref r1), .unset] [(.ref r1), (.ref r0)])) _
    exact q
  have k86_ : ∀ t, Steps p.tables e below (T80.setTop (mkF m 297 #[.val (.int p0), .val (.int p1), .val (.int p2), .val (.int p3), .val (.int p4), .val (.ref b1), .val (.ref b7), .val (.int (Int32.ofNat i0)), .val (.int (Int32.ofNat j0)), .val (.int x0), .val (.int (Int32.ofNat i1)), .val (.int (Int32.ofNat j1)), .val (.int x1), .val (.int (Int32.ofNat i2)), .val (.int (Int32.ofNat j2)), .val (.int x2), .val (.int (Int32.ofNat i3)), .val (.int (Int32.ofNat j3)), .val (.int md), .val (.int (G3 i3 (Int32.ofNat j3))), .val (.int dl), .val (.int (Int32.ofNat iq)), .val (.int (Int32.ofNat jq)), .val (.ref r0), .val (.ref r1), .unset] [])) t → Steps p.tables e below (s₁.setTop (mkF m 0 #[.val (.int p0), .val (.int p1), .val (.int p2), .val (.int p3), .val (.int p4), .unset, .unset, .unset, .unset, .unset, .unset, .unset, .unset, .unset, .unset, .unset, .unset, .unset, .unset, .unset, .unset, .unset, .unset, .unset, .unset, .unset] [])) t := by
    intro t q
    refine k85_ _ ?_
    show Steps p.tables e below (T80.setTop (mkF m 292 #[.val (.int p0), .val (.int p1), .val (.int p2), .val (.int p3), .val (.int p4), .val (.ref b1), .val (.ref b7), .val (.int (Int32.ofNat i0)), .val (.int (Int32.ofNat j0)), .val (.int x0), .val (.int (Int32.ofNat i1)), .val (.int (Int32.ofNat j1)), .val (.int x1), .val (.int (Int32.ofNat i2)), .val (.int (Int32.ofNat j2)), .val (.int x2), .val (.int (Int32.ofNat i3)), .val (.int (Int32.ofNat j3)), .val (.int md), .val (.int (G3 i3 (Int32.ofNat j3))), .val (.int dl), .val (.int (Int32.ofNat iq)), .val (.int (Int32.ofNat jq)), .val (.ref r0), .val (.ref r1), .unset] [(.ref r1), (.ref r0)])) _
    refine Jvm.RoadKit.acmp (g := (mkF m 292 #[.val (.int p0), .val (.int p1), .val (.int p2), .val (.int p3), .val (.int p4), .val (.ref b1), .val (.ref b7), .val (.int (Int32.ofNat i0)), .val (.int (Int32.ofNat j0)), .val (.int x0), .val (.int (Int32.ofNat i1)), .val (.int (Int32.ofNat j1)), .val (.int x1), .val (.int (Int32.ofNat i2)), .val (.int (Int32.ofNat j2)), .val (.int x2), .val (.int (Int32.ofNat i3)), .val (.int (Int32.ofNat j3)), .val (.int md), .val (.int (G3 i3 (Int32.ofNat j3))), .val (.int dl), .val (.int (Int32.ofNat iq)), .val (.int (Int32.ofNat jq)), .val (.ref r0), .val (.ref r1), .unset] [(.ref r1), (.ref r0)])) X80 hx rfl rfl rfl (pc0 := 292) (pc' := 297) (same := false) rfl (hb hby at_292) rfl (decide_eq_false fun q => nr (Value.ref.inj q)) (by decide) (by decide) ?_
    show Steps p.tables e below (T80.setTop (mkF m 297 #[.val (.int p0), .val (.int p1), .val (.int p2), .val (.int p3), .val (.int p4), .val (.ref b1), .val (.ref b7), .val (.int (Int32.ofNat i0)), .val (.int (Int32.ofNat j0)), .val (.int x0), .val (.int (Int32.ofNat i1)), .val (.int (Int32.ofNat j1)), .val (.int x1), .val (.int (Int32.ofNat i2)), .val (.int (Int32.ofNat j2)), .val (.int x2), .val (.int (Int32.ofNat i3)), .val (.int (Int32.ofNat j3)), .val (.int md), .val (.int (G3 i3 (Int32.ofNat j3))), .val (.int dl), .val (.int (Int32.ofNat iq)), .val (.int (Int32.ofNat jq)), .val (.ref r0), .val (.ref r1), .unset] [])) _
    exact q
  have k87_ : ∀ t, Steps p.tables e below (T80.setTop (mkF m 310 #[.val (.int p0), .val (.int p1), .val (.int p2), .val (.int p3), .val (.int p4), .val (.ref b1), .val (.ref b7), .val (.int (Int32.ofNat i0)), .val (.int (Int32.ofNat j0)), .val (.int x0), .val (.int (Int32.ofNat i1)), .val (.int (Int32.ofNat j1)), .val (.int x1), .val (.int (Int32.ofNat i2)), .val (.int (Int32.ofNat j2)), .val (.int x2), .val (.int (Int32.ofNat i3)), .val (.int (Int32.ofNat j3)), .val (.int md), .val (.int (G3 i3 (Int32.ofNat j3))), .val (.int dl), .val (.int (Int32.ofNat iq)), .val (.int (Int32.ofNat jq)), .val (.ref r0), .val (.ref r1), .val (.int ((Int32.ofNat iq) * (4 : Int32)))] [(.int ((Int32.ofNat iq) * (4 : Int32))), (.ref b7), (.int (0 : Int32)), (.ref r0)])) t → Steps p.tables e below (s₁.setTop (mkF m 0 #[.val (.int p0), .val (.int p1), .val (.int p2), .val (.int p3), .val (.int p4), .unset, .unset, .unset, .unset, .unset, .unset, .unset, .unset, .unset, .unset, .unset, .unset, .unset, .unset, .unset, .unset, .unset, .unset, .unset, .unset, .unset] [])) t := by
    intro t q
    refine k86_ _ ?_
    show Steps p.tables e below (T80.setTop (mkF m 297 #[.val (.int p0), .val (.int p1), .val (.int p2), .val (.int p3), .val (.int p4), .val (.ref b1), .val (.ref b7), .val (.int (Int32.ofNat i0)), .val (.int (Int32.ofNat j0)), .val (.int x0), .val (.int (Int32.ofNat i1)), .val (.int (Int32.ofNat j1)), .val (.int x1), .val (.int (Int32.ofNat i2)), .val (.int (Int32.ofNat j2)), .val (.int x2), .val (.int (Int32.ofNat i3)), .val (.int (Int32.ofNat j3)), .val (.int md), .val (.int (G3 i3 (Int32.ofNat j3))), .val (.int dl), .val (.int (Int32.ofNat iq)), .val (.int (Int32.ofNat jq)), .val (.ref r0), .val (.ref r1), .unset] [])) _
    refine XS.iload X80.here hx rfl (hb hby at_297) rfl ?_
    refine XS.iconst X80.here hx rfl (hb hby at_299) ?_
    refine XS.imul X80.here hx rfl (hb hby at_300) rfl ?_
    show Steps p.tables e below (T80.setTop (mkF m 301 #[.val (.int p0), .val (.int p1), .val (.int p2), .val (.int p3), .val (.int p4), .val (.ref b1), .val (.ref b7), .val (.int (Int32.ofNat i0)), .val (.int (Int32.ofNat j0)), .val (.int x0), .val (.int (Int32.ofNat i1)), .val (.int (Int32.ofNat j1)), .val (.int x1), .val (.int (Int32.ofNat i2)), .val (.int (Int32.ofNat j2)), .val (.int x2), .val (.int (Int32.ofNat i3)), .val (.int (Int32.ofNat j3)), .val (.int md), .val (.int (G3 i3 (Int32.ofNat j3))), .val (.int dl), .val (.int (Int32.ofNat iq)), .val (.int (Int32.ofNat jq)), .val (.ref r0), .val (.ref r1), .unset] [(.int ((Int32.ofNat iq) * (4 : Int32)))])) _
    refine XS.istore X80.here hx rfl (hb hby at_301) rfl (l' := #[.val (.int p0), .val (.int p1), .val (.int p2), .val (.int p3), .val (.int p4), .val (.ref b1), .val (.ref b7), .val (.int (Int32.ofNat i0)), .val (.int (Int32.ofNat j0)), .val (.int x0), .val (.int (Int32.ofNat i1)), .val (.int (Int32.ofNat j1)), .val (.int x1), .val (.int (Int32.ofNat i2)), .val (.int (Int32.ofNat j2)), .val (.int x2), .val (.int (Int32.ofNat i3)), .val (.int (Int32.ofNat j3)), .val (.int md), .val (.int (G3 i3 (Int32.ofNat j3))), .val (.int dl), .val (.int (Int32.ofNat iq)), .val (.int (Int32.ofNat jq)), .val (.ref r0), .val (.ref r1), .val (.int ((Int32.ofNat iq) * (4 : Int32)))]) rfl ?_
    refine XS.aload X80.here hx rfl (hb hby at_303) rfl rfl ?_
    refine XS.iconst X80.here hx rfl (hb hby at_305) ?_
    show Steps p.tables e below (T80.setTop (mkF m 306 #[.val (.int p0), .val (.int p1), .val (.int p2), .val (.int p3), .val (.int p4), .val (.ref b1), .val (.ref b7), .val (.int (Int32.ofNat i0)), .val (.int (Int32.ofNat j0)), .val (.int x0), .val (.int (Int32.ofNat i1)), .val (.int (Int32.ofNat j1)), .val (.int x1), .val (.int (Int32.ofNat i2)), .val (.int (Int32.ofNat j2)), .val (.int x2), .val (.int (Int32.ofNat i3)), .val (.int (Int32.ofNat j3)), .val (.int md), .val (.int (G3 i3 (Int32.ofNat j3))), .val (.int dl), .val (.int (Int32.ofNat iq)), .val (.int (Int32.ofNat jq)), .val (.ref r0), .val (.ref r1), .val (.int ((Int32.ofNat iq) * (4 : Int32)))] [(.int (0 : Int32)), (.ref r0)])) _
    refine XS.aload X80.here hx rfl (hb hby at_306) rfl rfl ?_
    refine XS.iload X80.here hx rfl (hb hby at_308) rfl ?_
    show Steps p.tables e below (T80.setTop (mkF m 310 #[.val (.int p0), .val (.int p1), .val (.int p2), .val (.int p3), .val (.int p4), .val (.ref b1), .val (.ref b7), .val (.int (Int32.ofNat i0)), .val (.int (Int32.ofNat j0)), .val (.int x0), .val (.int (Int32.ofNat i1)), .val (.int (Int32.ofNat j1)), .val (.int x1), .val (.int (Int32.ofNat i2)), .val (.int (Int32.ofNat j2)), .val (.int x2), .val (.int (Int32.ofNat i3)), .val (.int (Int32.ofNat j3)), .val (.int md), .val (.int (G3 i3 (Int32.ofNat j3))), .val (.int dl), .val (.int (Int32.ofNat iq)), .val (.int (Int32.ofNat jq)), .val (.ref r0), .val (.ref r1), .val (.int ((Int32.ofNat iq) * (4 : Int32)))] [(.int ((Int32.ofNat iq) * (4 : Int32))), (.ref b7), (.int (0 : Int32)), (.ref r0)])) _
    exact q
  have k88_ : ∀ t, Steps p.tables e below (T80.setTop (mkF m 310 #[.val (.int p0), .val (.int p1), .val (.int p2), .val (.int p3), .val (.int p4), .val (.ref b1), .val (.ref b7), .val (.int (Int32.ofNat i0)), .val (.int (Int32.ofNat j0)), .val (.int x0), .val (.int (Int32.ofNat i1)), .val (.int (Int32.ofNat j1)), .val (.int x1), .val (.int (Int32.ofNat i2)), .val (.int (Int32.ofNat j2)), .val (.int x2), .val (.int (Int32.ofNat i3)), .val (.int (Int32.ofNat j3)), .val (.int md), .val (.int (G3 i3 (Int32.ofNat j3))), .val (.int dl), .val (.int (Int32.ofNat iq)), .val (.int (Int32.ofNat jq)), .val (.ref r0), .val (.ref r1), .val (.int ((Int32.ofNat iq) * (4 : Int32)))] [(.int (Int32.ofNat (iq * 4 + 0))), (.ref b7), (.int (0 : Int32)), (.ref r0)])) t → Steps p.tables e below (s₁.setTop (mkF m 0 #[.val (.int p0), .val (.int p1), .val (.int p2), .val (.int p3), .val (.int p4), .unset, .unset, .unset, .unset, .unset, .unset, .unset, .unset, .unset, .unset, .unset, .unset, .unset, .unset, .unset, .unset, .unset, .unset, .unset, .unset, .unset] [])) t := fun t q => k87_ t (Eq.mp (congrArg (fun z => Steps p.tables e below (T80.setTop (mkF m 310 #[.val (.int p0), .val (.int p1), .val (.int p2), .val (.int p3), .val (.int p4), .val (.ref b1), .val (.ref b7), .val (.int (Int32.ofNat i0)), .val (.int (Int32.ofNat j0)), .val (.int x0), .val (.int (Int32.ofNat i1)), .val (.int (Int32.ofNat j1)), .val (.int x1), .val (.int (Int32.ofNat i2)), .val (.int (Int32.ofNat j2)), .val (.int x2), .val (.int (Int32.ofNat i3)), .val (.int (Int32.ofNat j3)), .val (.int md), .val (.int (G3 i3 (Int32.ofNat j3))), .val (.int dl), .val (.int (Int32.ofNat iq)), .val (.int (Int32.ofNat jq)), .val (.ref r0), .val (.ref r1), .val (.int ((Int32.ofNat iq) * (4 : Int32)))] [(.int z), (.ref b7), (.int (0 : Int32)), (.ref r0)])) t) (show (Int32.ofNat (iq * 4 + 0)) = ((Int32.ofNat iq) * (4 : Int32)) from (own_x0 h_iq))) q)
  obtain ⟨cl89, Ar89, q89, S89, M89, H89, G89⟩ := id VM
  have k90_ : ∀ t, Steps p.tables e below (T80.setTop (mkF m 311 #[.val (.int p0), .val (.int p1), .val (.int p2), .val (.int p3), .val (.int p4), .val (.ref b1), .val (.ref b7), .val (.int (Int32.ofNat i0)), .val (.int (Int32.ofNat j0)), .val (.int x0), .val (.int (Int32.ofNat i1)), .val (.int (Int32.ofNat j1)), .val (.int x1), .val (.int (Int32.ofNat i2)), .val (.int (Int32.ofNat j2)), .val (.int x2), .val (.int (Int32.ofNat i3)), .val (.int (Int32.ofNat j3)), .val (.int md), .val (.int (G3 i3 (Int32.ofNat j3))), .val (.int dl), .val (.int (Int32.ofNat iq)), .val (.int (Int32.ofNat jq)), .val (.ref r0), .val (.ref r1), .val (.int ((Int32.ofNat iq) * (4 : Int32)))] [(.int (ms4.getD (iq * 4 + 0) 0)), (.int (0 : Int32)), (.ref r0)])) t → Steps p.tables e below (s₁.setTop (mkF m 0 #[.val (.int p0), .val (.int p1), .val (.int p2), .val (.int p3), .val (.int p4), .unset, .unset, .unset, .unset, .unset, .unset, .unset, .unset, .unset, .unset, .unset, .unset, .unset, .unset, .unset, .unset, .unset, .unset, .unset, .unset, .unset] [])) t := by
    intro t q
    refine k88_ _ ?_
    show Steps p.tables e below (T80.setTop (mkF m 310 #[.val (.int p0), .val (.int p1), .val (.int p2), .val (.int p3), .val (.int p4), .val (.ref b1), .val (.ref b7), .val (.int (Int32.ofNat i0)), .val (.int (Int32.ofNat j0)), .val (.int x0), .val (.int (Int32.ofNat i1)), .val (.int (Int32.ofNat j1)), .val (.int x1), .val (.int (Int32.ofNat i2)), .val (.int (Int32.ofNat j2)), .val (.int x2), .val (.int (Int32.ofNat i3)), .val (.int (Int32.ofNat j3)), .val (.int md), .val (.int (G3 i3 (Int32.ofNat j3))), .val (.int dl), .val (.int (Int32.ofNat iq)), .val (.int (Int32.ofNat jq)), .val (.ref r0), .val (.ref r1), .val (.int ((Int32.ofNat iq) * (4 : Int32)))] [(.int (Int32.ofNat (iq * 4 + 0))), (.ref b7), (.int (0 : Int32)), (.ref r0)])) _
    refine X80.iaload hx (j := (Int32.ofNat (iq * 4 + 0))) (v := (.int (ms4.getD (iq * 4 + 0) 0))) Ar89.1 (State.isArrayOf_alike hZ.alike Ar89.2.1) Ar89.2.2 (inb_of S89 (own_lt8 (i := iq * 4 + 0) (by omega))) (Has.at H89 (inb_of S89 (own_lt8 (i := iq * 4 + 0) (by omega))) (own_gi _ (by omega))) (g := (mkF m 310 #[.val (.int p0), .val (.int p1), .val (.int p2), .val (.int p3), .val (.int p4), .val (.ref b1), .val (.ref b7), .val (.int (Int32.ofNat i0)), .val (.int (Int32.ofNat j0)), .val (.int x0), .val (.int (Int32.ofNat i1)), .val (.int (Int32.ofNat j1)), .val (.int x1), .val (.int (Int32.ofNat i2)), .val (.int (Int32.ofNat j2)), .val (.int x2), .val (.int (Int32.ofNat i3)), .val (.int (Int32.ofNat j3)), .val (.int md), .val (.int (G3 i3 (Int32.ofNat j3))), .val (.int dl), .val (.int (Int32.ofNat iq)), .val (.int (Int32.ofNat jq)), .val (.ref r0), .val (.ref r1), .val (.int ((Int32.ofNat iq) * (4 : Int32)))] [(.int (Int32.ofNat (iq * 4 + 0))), (.ref b7), (.int (0 : Int32)), (.ref r0)])) rfl rfl (hb hby at_310) _ ?_
    show Steps p.tables e below (T80.setTop (mkF m 311 #[.val (.int p0), .val (.int p1), .val (.int p2), .val (.int p3), .val (.int p4), .val (.ref b1), .val (.ref b7), .val (.int (Int32.ofNat i0)), .val (.int (Int32.ofNat j0)), .val (.int x0), .val (.int (Int32.ofNat i1)), .val (.int (Int32.ofNat j1)), .val (.int x1), .val (.int (Int32.ofNat i2)), .val (.int (Int32.ofNat j2)), .val (.int x2), .val (.int (Int32.ofNat i3)), .val (.int (Int32.ofNat j3)), .val (.int md), .val (.int (G3 i3 (Int32.ofNat j3))), .val (.int dl), .val (.int (Int32.ofNat iq)), .val (.int (Int32.ofNat jq)), .val (.ref r0), .val (.ref r1), .val (.int ((Int32.ofNat iq) * (4 : Int32)))] [(.int (ms4.getD (iq * 4 + 0) 0)), (.int (0 : Int32)), (.ref r0)])) _
    exact q
  obtain ⟨_, _, ⟨T91, L91, kk91, n91⟩, -, X91, ⟨Lc91, hQ91, l91, y91, z91⟩, st91⟩ := Jvm.LawKit.callS X80 hx (y := (⟨"com/example/weir/weir/model/HeldTasksColumnPinLaw", "at", "([III)Z"⟩ : MethodName)) hown (mvT hZ (hw _ (List.mem_of_getElem? (i := 27) rfl))) (mvT hZ (hw _ (List.mem_of_getElem? (i := 28) rfl))) (mvT hZ (hw _ (List.mem_of_getElem? (i := 29) rfl))) (mvT hZ (hw _ (List.mem_of_getElem? (i := 30) rfl))) (by decide) (backOf (W := 0) (rmA l Z a0 hw [] r0 (0 : Int32) (ms4.getD (iq * 4 + 0) 0) kr0 (Int32.ofNat jq) xs0 T80.heap n0 Zn VR0 (by decide) (own_ix4 (G := G4) (q := 0) h_jq (by decide) gr0 (M4.2 iq 0 h_iq (by decide)))) hZ (hw _ (List.mem_of_getElem? (i := 30) rfl)) (hw _ (List.mem_of_getElem? (i := 29) rfl)) (by decide) (by decide)) (g := (mkF m 311 #[.val (.int p0), .val (.int p1), .val (.int p2), .val (.int p3), .val (.int p4), .val (.ref b1), .val (.ref b7), .val (.int (Int32.ofNat i0)), .val (.int (Int32.ofNat j0)), .val (.int x0), .val (.int (Int32.ofNat i1)), .val (.int (Int32.ofNat j1)), .val (.int x1), .val (.int (Int32.ofNat i2)), .val (.int (Int32.ofNat j2)), .val (.int x2), .val (.int (Int32.ofNat i3)), .val (.int (Int32.ofNat j3)), .val (.int md), .val (.int (G3 i3 (Int32.ofNat j3))), .val (.int dl), .val (.int (Int32.ofNat iq)), .val (.int (Int32.ofNat jq)), .val (.ref r0), .val (.ref r1), .val (.int ((Int32.ofNat iq) * (4 : Int32)))] [(.int (ms4.getD (iq * 4 + 0) 0)), (.int (0 : Int32)), (.ref r0)])) rfl (by rw [hml]; rfl) (argsL := [(.ref r0), (.int (0 : Int32)), (.int (ms4.getD (iq * 4 + 0) 0))]) (rest := []) (lenOf pd_69762 rfl) rfl (by show 2 * 0 + _ ≤ _; exact Nat.le_of_eq rfl) (hb hby at_311) (fun _ _ => ⟨rfl, rfl, (by decide : 0 + 1 + 2 + 1 + 10 + 10 + 10 + 10 + 1 + 1 + 0 ≤ _), (by decide : 0 + 2 + 6 + 8 + 54 + 54 + 54 + 54 + 7 + 7 + 0 ≤ _)⟩)
  dsimp only [Pt.U, Pt.locs, Pt.cells, Pt.slots] at X91 l91 y91 z91 st91 hQ91
  rw [l91, y91, z91] at X91
  obtain ⟨rfl, Nq91, hq91⟩ := hQ91
  have N91 := Fr.app N80 Nq91
  have k92_ : ∀ t, Steps p.tables e below (T91.setTop (mkF m 314 #[.val (.int p0), .val (.int p1), .val (.int p2), .val (.int p3), .val (.int p4), .val (.ref b1), .val (.ref b7), .val (.int (Int32.ofNat i0)), .val (.int (Int32.ofNat j0)), .val (.int x0), .val (.int (Int32.ofNat i1)), .val (.int (Int32.ofNat j1)), .val (.int x1), .val (.int (Int32.ofNat i2)), .val (.int (Int32.ofNat j2)), .val (.int x2), .val (.int (Int32.ofNat i3)), .val (.int (Int32.ofNat j3)), .val (.int md), .val (.int (G3 i3 (Int32.ofNat j3))), .val (.int dl), .val (.int (Int32.ofNat iq)), .val (.int (Int32.ofNat jq)), .val (.ref r0), .val (.ref r1), .val (.int ((Int32.ofNat iq) * (4 : Int32)))] [(.int (1 : Int32))])) t → Steps p.tables e below (s₁.setTop (mkF m 0 #[.val (.int p0), .val (.int p1), .val (.int p2), .val (.int p3), .val (.int p4), .unset, .unset, .unset, .unset, .unset, .unset, .unset, .unset, .unset, .unset, .unset, .unset, .unset, .unset, .unset, .unset, .unset, .unset, .unset, .unset, .unset] [])) t := fun t q => k90_ t (st91 t q)
  have k93_ : ∀ t, Steps p.tables e below (T91.setTop (mkF m 317 #[.val (.int p0), .val (.int p1), .val (.int p2), .val (.int p3), .val (.int p4), .val (.ref b1), .val (.ref b7), .val (.int (Int32.ofNat i0)), .val (.int (Int32.ofNat j0)), .val (.int x0), .val (.int (Int32.ofNat i1)), .val (.int (Int32.ofNat j1)), .val (.int x1), .val (.int (Int32.ofNat i2)), .val (.int (Int32.ofNat j2)), .val (.int x2), .val (.int (Int32.ofNat i3)), .val (.int (Int32.ofNat j3)), .val (.int md), .val (.int (G3 i3 (Int32.ofNat j3))), .val (.int dl), .val (.int (Int32.ofNat iq)), .val (.int (Int32.ofNat jq)), .val (.ref r0), .val (.ref r1), .val (.int ((Int32.ofNat iq) * (4 : Int32)))] [])) t → Steps p.tables e below (s₁.setTop (mkF m 0 #[.val (.int p0), .val (.int p1), .val (.int p2), .val (.int p3), .val (.int p4), .unset, .unset, .unset, .unset, .unset, .unset, .unset, .unset, .unset, .unset, .unset, .unset, .unset, .unset, .unset, .unset, .unset, .unset, .unset, .unset, .unset] [])) t := by
    intro t q
    refine k92_ _ ?_
    show Steps p.tables e below (T91.setTop (mkF m 314 #[.val (.int p0), .val (.int p1), .val (.int p2), .val (.int p3), .val (.int p4), .val (.ref b1), .val (.ref b7), .val (.int (Int32.ofNat i0)), .val (.int (Int32.ofNat j0)), .val (.int x0), .val (.int (Int32.ofNat i1)), .val (.int (Int32.ofNat j1)), .val (.int x1), .val (.int (Int32.ofNat i2)), .val (.int (Int32.ofNat j2)), .val (.int x2), .val (.int (Int32.ofNat i3)), .val (.int (Int32.ofNat j3)), .val (.int md), .val (.int (G3 i3 (Int32.ofNat j3))), .val (.int dl), .val (.int (Int32.ofNat iq)), .val (.int (Int32.ofNat jq)), .val (.ref r0), .val (.ref r1), .val (.int ((Int32.ofNat iq) * (4 : Int32)))] [(.int (1 : Int32))])) _
    refine XS.ifNo X91.here hx rfl (hb hby at_314) rfl ((if0 _ _).trans (feq (by decide)).1) ?_
    show Steps p.tables e below (T91.setTop (mkF m 317 #[.val (.int p0), .val (.int p1), .val (.int p2), .val (.int p3), .val (.int p4), .val (.ref b1), .val (.ref b7), .val (.int (Int32.ofNat i0)), .val (.int (Int32.ofNat j0)), .val (.int x0), .val (.int (Int32.ofNat i1)), .val (.int (Int32.ofNat j1)), .val (.int x1), .val (.int (Int32.ofNat i2)), .val (.int (Int32.ofNat j2)), .val (.int x2), .val (.int (Int32.ofNat i3)), .val (.int (Int32.ofNat j3)), .val (.int md), .val (.int (G3 i3 (Int32.ofNat j3))), .val (.int dl), .val (.int (Int32.ofNat iq)), .val (.int (Int32.ofNat jq)), .val (.ref r0), .val (.ref r1), .val (.int ((Int32.ofNat iq) * (4 : Int32)))] [])) _
    exact q
  have k94_ : ∀ t, Steps p.tables e below (T91.setTop (mkF m 326 #[.val (.int p0), .val (.int p1), .val (.int p2), .val (.int p3), .val (.int p4), .val (.ref b1), .val (.ref b7), .val (.int (Int32.ofNat i0)), .val (.int (Int32.ofNat j0)), .val (.int x0), .val (.int (Int32.ofNat i1)), .val (.int (Int32.ofNat j1)), .val (.int x1), .val (.int (Int32.ofNat i2)), .val (.int (Int32.ofNat j2)), .val (.int x2), .val (.int (Int32.ofNat i3)), .val (.int (Int32.ofNat j3)), .val (.int md), .val (.int (G3 i3 (Int32.ofNat j3))), .val (.int dl), .val (.int (Int32.ofNat iq)), .val (.int (Int32.ofNat jq)), .val (.ref r0), .val (.ref r1), .val (.int ((Int32.ofNat iq) * (4 : Int32)))] [(.int (((Int32.ofNat iq) * (4 : Int32)) + (1 : Int32))), (.ref b7), (.int (1 : Int32)), (.ref r0)])) t → Steps p.tables e below (s₁.setTop (mkF m 0 #[.val (.int p0), .val (.int p1), .val (.int p2), .val (.int p3), .val (.int p4), .unset, .unset, .unset, .unset, .unset, .unset, .unset, .unset, .unset, .unset, .unset, .unset, .unset, .unset, .unset, .unset, .unset, .unset, .unset, .unset, .unset] [])) t := by
    intro t q
    refine k93_ _ ?_
    show Steps p.tables e below (T91.setTop (mkF m 317 #[.val (.int p0), .val (.int p1), .val (.int p2), .val (.int p3), .val (.int p4), .val (.ref b1), .val (.ref b7), .val (.int (Int32.ofNat i0)), .val (.int (Int32.ofNat j0)), .val (.int x0), .val (.int (Int32.ofNat i1)), .val (.int (Int32.ofNat j1)), .val (.int x1), .val (.int (Int32.ofNat i2)), .val (.int (Int32.ofNat j2)), .val (.int x2), .val (.int (Int32.ofNat i3)), .val (.int (Int32.ofNat j3)), .val (.int md), .val (.int (G3 i3 (Int32.ofNat j3))), .val (.int dl), .val (.int (Int32.ofNat iq)), .val (.int (Int32.ofNat jq)), .val (.ref r0), .val (.ref r1), .val (.int ((Int32.ofNat iq) * (4 : Int32)))] [])) _
    refine XS.aload X91.here hx rfl (hb hby at_317) rfl rfl ?_
    refine XS.iconst X91.here hx rfl (hb hby at_319) ?_
    refine XS.aload X91.here hx rfl (hb hby at_320) rfl rfl ?_
    show Steps p.tables e below (T91.setTop (mkF m 322 #[.val (.int p0), .val (.int p1), .val (.int p2), .val (.int p3), .val (.int p4), .val (.ref b1), .val (.ref b7), .val (.int (Int32.ofNat i0)), .val (.int (Int32.ofNat j0)), .val (.int x0), .val (.int (Int32.ofNat i1)), .val (.int (Int32.ofNat j1)), .val (.int x1), .val (.int (Int32.ofNat i2)), .val (.int (Int32.ofNat j2)), .val (.int x2), .val (.int (Int32.ofNat i3)), .val (.int (Int32.ofNat j3)), .val (.int md), .val (.int (G3 i3 (Int32.ofNat j3))), .val (.int dl), .val (.int (Int32.ofNat iq)), .val (.int (Int32.ofNat jq)), .val (.ref r0), .val (.ref r1), .val (.int ((Int32.ofNat iq) * (4 : Int32)))] [(.ref b7), (.int (1 : Int32)), (.ref r0)])) _
    refine XS.iload X91.here hx rfl (hb hby at_322) rfl ?_
    refine XS.iconst X91.here hx rfl (hb hby at_324) ?_
    refine XS.iadd X91.here hx rfl (hb hby at_325) rfl ?_
    show Steps p.tables e below (T91.setTop (mkF m 326 #[.val (.int p0), .val (.int p1), .val (.int p2), .val (.int p3), .val (.int p4), .val (.ref b1), .val (.ref b7), .val (.int (Int32.ofNat i0)), .val (.int (Int32.ofNat j0)), .val (.int x0), .val (.int (Int32.ofNat i1)), .val (.int (Int32.ofNat j1)), .val (.int x1), .val (.int (Int32.ofNat i2)), .val (.int (Int32.ofNat j2)), .val (.int x2), .val (.int (Int32.ofNat i3)), .val (.int (Int32.ofNat j3)), .val (.int md), .val (.int (G3 i3 (Int32.ofNat j3))), .val (.int dl), .val (.int (Int32.ofNat iq)), .val (.int (Int32.ofNat jq)), .val (.ref r0), .val (.ref r1), .val (.int ((Int32.ofNat iq) * (4 : Int32)))] [(.int (((Int32.ofNat iq) * (4 : Int32)) + (1 : Int32))), (.ref b7), (.int (1 : Int32)), (.ref r0)])) _
    exact q
  have k95_ : ∀ t, Steps p.tables e below (T91.setTop (mkF m 326 #[.val (.int p0), .val (.int p1), .val (.int p2), .val (.int p3), .val (.int p4), .val (.ref b1), .val (.ref b7), .val (.int (Int32.ofNat i0)), .val (.int (Int32.ofNat j0)), .val (.int x0), .val (.int (Int32.ofNat i1)), .val (.int (Int32.ofNat j1)), .val (.int x1), .val (.int (Int32.ofNat i2)), .val (.int (Int32.ofNat j2)), .val (.int x2), .val (.int (Int32.ofNat i3)), .val (.int (Int32.ofNat j3)), .val (.int md), .val (.int (G3 i3 (Int32.ofNat j3))), .val (.int dl), .val (.int (Int32.ofNat iq)), .val (.int (Int32.ofNat jq)), .val (.ref r0), .val (.ref r1), .val (.int ((Int32.ofNat iq) * (4 : Int32)))] [(.int (Int32.ofNat (iq * 4 + 1))), (.ref b7), (.int (1 : Int32)), (.ref r0)])) t → Steps p.tables e below (s₁.setTop (mkF m 0 #[.val (.int p0), .val (.int p1), .val (.int p2), .val (.int p3), .val (.int p4), .unset, .unset, .unset, .unset, .unset, .unset, .unset, .unset, .unset, .unset, .unset, .unset, .unset, .unset, .unset, .unset, .unset, .unset, .unset, .unset, .unset] [])) t := fun t q => k94_ t (Eq.mp (congrArg (fun z => Steps p.tables e below (T91.setTop (mkF m 326 #[.val (.int p0), .val (.int p1), .val (.int p2), .val (.int p3), .val (.int p4), .val (.ref b1), .val (.ref b7), .val (.int (Int32.ofNat i0)), .val (.int (Int32.ofNat j0)), .val (.int x0), .val (.int (Int32.ofNat i1)), .val (.int (Int32.ofNat j1)), .val (.int x1), .val (.int (Int32.ofNat i2)), .val (.int (Int32.ofNat j2)), .val (.int x2), .val (.int (Int32.ofNat i3)), .val (.int (Int32.ofNat j3)), .val (.int md), .val (.int (G3 i3 (Int32.ofNat j3))), .val (.int dl), .val (.int (Int32.ofNat iq)), .val (.int (Int32.ofNat jq)), .val (.ref r0), .val (.ref r1), .val (.int ((Int32.ofNat iq) * (4 : Int32)))] [(.int z), (.ref b7), (.int (1 : Int32)), (.ref r0)])) t) (show (Int32.ofNat (iq * 4 + 1)) = (((Int32.ofNat iq) * (4 : Int32)) + (1 : Int32)) from (own_x1 h_iq))) q)
  obtain ⟨cl96, Ar96, q96, S96, M96, H96, G96⟩ := id VM
  have k97_ : ∀ t, Steps p.tables e below (T91.setTop (mkF m 327 #[.val (.int p0), .val (.int p1), .val (.int p2), .val (.int p3), .val (.int p4), .val (.ref b1), .val (.ref b7), .val (.int (Int32.ofNat i0)), .val (.int (Int32.ofNat j0)), .val (.int x0), .val (.int (Int32.ofNat i1)), .val (.int (Int32.ofNat j1)), .val (.int x1), .val (.int (Int32.ofNat i2)), .val (.int (Int32.ofNat j2)), .val (.int x2), .val (.int (Int32.ofNat i3)), .val (.int (Int32.ofNat j3)), .val (.int md), .val (.int (G3 i3 (Int32.ofNat j3))), .val (.int dl), .val (.int (Int32.ofNat iq)), .val (.int (Int32.ofNat jq)), .val (.ref r0), .val (.ref r1), .val (.int ((Int32.ofNat iq) * (4 : Int32)))] [(.int (ms4.getD (iq * 4 + 1) 0)), (.int (1 : Int32)), (.ref r0)])) t → Steps p.tables e below (s₁.setTop (mkF m 0 #[.val (.int p0), .val (.int p1), .val (.int p2), .val (.int p3), .val (.int p4), .unset, .unset, .unset, .unset, .unset, .unset, .unset, .unset, .unset, .unset, .unset, .unset, .unset, .unset, .unset, .unset, .unset, .unset, .unset, .unset, .unset] [])) t := by
    intro t q
    refine k95_ _ ?_
    show Steps p.tables e below (T91.setTop (mkF m 326 #[.val (.int p0), .val (.int p1), .val (.int p2), .val (.int p3), .val (.int p4), .val (.ref b1), .val (.ref b7), .val (.int (Int32.ofNat i0)), .val (.int (Int32.ofNat j0)), .val (.int x0), .val (.int (Int32.ofNat i1)), .val (.int (Int32.ofNat j1)), .val (.int x1), .val (.int (Int32.ofNat i2)), .val (.int (Int32.ofNat j2)), .val (.int x2), .val (.int (Int32.ofNat i3)), .val (.int (Int32.ofNat j3)), .val (.int md), .val (.int (G3 i3 (Int32.ofNat j3))), .val (.int dl), .val (.int (Int32.ofNat iq)), .val (.int (Int32.ofNat jq)), .val (.ref r0), .val (.ref r1), .val (.int ((Int32.ofNat iq) * (4 : Int32)))] [(.int (Int32.ofNat (iq * 4 + 1))), (.ref b7), (.int (1 : Int32)), (.ref r0)])) _
    refine X91.iaload hx (j := (Int32.ofNat (iq * 4 + 1))) (v := (.int (ms4.getD (iq * 4 + 1) 0))) (by rw [hq91]; exact Ar96.1) (State.isArrayOf_alike hZ.alike Ar96.2.1) Ar96.2.2 (inb_of S96 (own_lt8 (i := iq * 4 + 1) (by omega))) (Has.at H96 (inb_of S96 (own_lt8 (i := iq * 4 + 1) (by omega))) (own_gi _ (by omega))) (g := (mkF m 326 #[.val (.int p0), .val (.int p1), .val (.int p2), .val (.int p3), .val (.int p4), .val (.ref b1), .val (.ref b7), .val (.int (Int32.ofNat i0)), .val (.int (Int32.ofNat j0)), .val (.int x0), .val (.int (Int32.ofNat i1)), .val (.int (Int32.ofNat j1)), .val (.int x1), .val (.int (Int32.ofNat i2)), .val (.int (Int32.ofNat j2)), .val (.int x2), .val (.int (Int32.ofNat i3)), .val (.int (Int32.ofNat j3)), .val (.int md), .val (.int (G3 i3 (Int32.ofNat j3))), .val (.int dl), .val (.int (Int32.ofNat iq)), .val (.int (Int32.ofNat jq)), .val (.ref r0), .val (.ref r1), .val (.int ((Int32.ofNat iq) * (4 : Int32)))] [(.int (Int32.ofNat (iq * 4 + 1))), (.ref b7), (.int (1 : Int32)), (.ref r0)])) rfl rfl (hb hby at_326) _ ?_
    show Steps p.tables e below (T91.setTop (mkF m 327 #[.val (.int p0), .val (.int p1), .val (.int p2), .val (.int p3), .val (.int p4), .val (.ref b1), .val (.ref b7), .val (.int (Int32.ofNat i0)), .val (.int (Int32.ofNat j0)), .val (.int x0), .val (.int (Int32.ofNat i1)), .val (.int (Int32.ofNat j1)), .val (.int x1), .val (.int (Int32.ofNat i2)), .val (.int (Int32.ofNat j2)), .val (.int x2), .val (.int (Int32.ofNat i3)), .val (.int (Int32.ofNat j3)), .val (.int md), .val (.int (G3 i3 (Int32.ofNat j3))), .val (.int dl), .val (.int (Int32.ofNat iq)), .val (.int (Int32.ofNat jq)), .val (.ref r0), .val (.ref r1), .val (.int ((Int32.ofNat iq) * (4 : Int32)))] [(.int (ms4.getD (iq * 4 + 1) 0)), (.int (1 : Int32)), (.ref r0)])) _
    exact q
  obtain ⟨_, _, ⟨T98, L98, kk98, n98⟩, -, X98, ⟨Lc98, hQ98, l98, y98, z98⟩, st98⟩ := Jvm.LawKit.callS X91 hx (y := (⟨"com/example/weir/weir/model/HeldTasksColumnPinLaw", "at", "([III)Z"⟩ : MethodName)) hown (mvT hZ (hw _ (List.mem_of_getElem? (i := 27) rfl))) (mvT hZ (hw _ (List.mem_of_getElem? (i := 28) rfl))) (mvT hZ (hw _ (List.mem_of_getElem? (i := 29) rfl))) (mvT hZ (hw _ (List.mem_of_getElem? (i := 30) rfl))) (by decide) (backOf (W := 0) (rmA l Z a0 hw [] r0 (1 : Int32) (ms4.getD (iq * 4 + 1) 0) kr0 (Int32.ofNat jq) xs0 T80.heap n0 Zn VR0 (by decide) (own_ix4 (G := G4) (q := 1) h_jq (by decide) gr0 (M4.2 iq 1 h_iq (by decide)))) hZ (hw _ (List.mem_of_getElem? (i := 30) rfl)) (hw _ (List.mem_of_getElem? (i := 29) rfl)) (by decide) (by decide)) (g := (mkF m 327 #[.val (.int p0), .val (.int p1), .val (.int p2), .val (.int p3), .val (.int p4), .val (.ref b1), .val (.ref b7), .val (.int (Int32.ofNat i0)), .val (.int (Int32.ofNat j0)), .val (.int x0), .val (.int (Int32.ofNat i1)), .val (.int (Int32.ofNat j1)), .val (.int x1), .val (.int (Int32.ofNat i2)), .val (.int (Int32.ofNat j2)), .val (.int x2), .val (.int (Int32.ofNat i3)), .val (.int (Int32.ofNat j3)), .val (.int md), .val (.int (G3 i3 (Int32.ofNat j3))), .val (.int dl), .val (.int (Int32.ofNat iq)), .val (.int (Int32.ofNat jq)), .val (.ref r0), .val (.ref r1), .val (.int ((Int32.ofNat iq) * (4 : Int32)))] [(.int (ms4.getD (iq * 4 + 1) 0)), (.int (1 : Int32)), (.ref r0)])) rfl (by rw [hml]; rfl) (argsL := [(.ref r0), (.int (1 : Int32)), (.int (ms4.getD (iq * 4 + 1) 0))]) (rest := []) (lenOf pd_69762 rfl) rfl (by show 2 * 0 + _ ≤ _; exact Nat.le_of_eq rfl) (hb hby at_327) (fun _ _ => ⟨rfl, hq91, (by decide : 0 + 1 + 2 + 1 + 10 + 10 + 10 + 10 + 1 + 1 + 0 + 0 ≤ _), (by decide : 0 + 2 + 6 + 8 + 54 + 54 + 54 + 54 + 7 + 7 + 0 + 0 ≤ _)⟩)
  dsimp only [Pt.U, Pt.locs, Pt.cells, Pt.slots] at X98 l98 y98 z98 st98 hQ98
  rw [l98, y98, z98] at X98
  obtain ⟨rfl, Nq98, hq98⟩ := hQ98
  have N98 := Fr.app N91 Nq98
  have k99_ : ∀ t, Steps p.tables e below (T98.setTop (mkF m 330 #[.val (.int p0), .val (.int p1), .val (.int p2), .val (.int p3), .val (.int p4), .val (.ref b1), .val (.ref b7), .val (.int (Int32.ofNat i0)), .val (.int (Int32.ofNat j0)), .val (.int x0), .val (.int (Int32.ofNat i1)), .val (.int (Int32.ofNat j1)), .val (.int x1), .val (.int (Int32.ofNat i2)), .val (.int (Int32.ofNat j2)), .val (.int x2), .val (.int (Int32.ofNat i3)), .val (.int (Int32.ofNat j3)), .val (.int md), .val (.int (G3 i3 (Int32.ofNat j3))), .val (.int dl), .val (.int (Int32.ofNat iq)), .val (.int (Int32.ofNat jq)), .val (.ref r0), .val (.ref r1), .val (.int ((Int32.ofNat iq) * (4 : Int32)))] [(.int (1 : Int32))])) t → Steps p.tables e below (s₁.setTop (mkF m 0 #[.val (.int p0), .val (.int p1), .val (.int p2), .val (.int p3), .val (.int p4), .unset, .unset, .unset, .unset, .unset, .unset, .unset, .unset, .unset, .unset, .unset, .unset, .unset, .unset, .unset, .unset, .unset, .unset, .unset, .unset, .unset] [])) t := fun t q => k97_ t (st98 t q)
  have k100_ : ∀ t, Steps p.tables e below (T98.setTop (mkF m 333 #[.val (.int p0), .val (.int p1), .val (.int p2), .val (.int p3), .val (.int p4), .val (.ref b1), .val (.ref b7), .val (.int (Int32.ofNat i0)), .val (.int (Int32.ofNat j0)), .val (.int x0), .val (.int (Int32.ofNat i1)), .val (.int (Int32.ofNat j1)), .val (.int x1), .val (.int (Int32.ofNat i2)), .val (.int (Int32.ofNat j2)), .val (.int x2), .val (.int (Int32.ofNat i3)), .val (.int (Int32.ofNat j3)), .val (.int md), .val (.int (G3 i3 (Int32.ofNat j3))), .val (.int dl), .val (.int (Int32.ofNat iq)), .val (.int (Int32.ofNat jq)), .val (.ref r0), .val (.ref r1), .val (.int ((Int32.ofNat iq) * (4 : Int32)))] [])) t → Steps p.tables e below (s₁.setTop (mkF m 0 #[.val (.int p0), .val (.int p1), .val (.int p2), .val (.int p3), .val (.int p4), .unset, .unset, .unset, .unset, .unset, .unset, .unset, .unset, .unset, .unset, .unset, .unset, .unset, .unset, .unset, .unset, .unset, .unset, .unset, .unset, .unset] [])) t := by
    intro t q
    refine k99_ _ ?_
    show Steps p.tables e below (T98.setTop (mkF m 330 #[.val (.int p0), .val (.int p1), .val (.int p2), .val (.int p3), .val (.int p4), .val (.ref b1), .val (.ref b7), .val (.int (Int32.ofNat i0)), .val (.int (Int32.ofNat j0)), .val (.int x0), .val (.int (Int32.ofNat i1)), .val (.int (Int32.ofNat j1)), .val (.int x1), .val (.int (Int32.ofNat i2)), .val (.int (Int32.ofNat j2)), .val (.int x2), .val (.int (Int32.ofNat i3)), .val (.int (Int32.ofNat j3)), .val (.int md), .val (.int (G3 i3 (Int32.ofNat j3))), .val (.int dl), .val (.int (Int32.ofNat iq)), .val (.int (Int32.ofNat jq)), .val (.ref r0), .val (.ref r1), .val (.int ((Int32.ofNat iq) * (4 : Int32)))] [(.int (1 : Int32))])) _
    refine XS.ifNo X98.here hx rfl (hb hby at_330) rfl ((if0 _ _).trans (feq (by decide)).1) ?_
    show Steps p.tables e below (T98.setTop (mkF m 333 #[.val (.int p0), .val (.int p1), .val (.int p2), .val (.int p3), .val (.int p4), .val (.ref b1), .val (.ref b7), .val (.int (Int32.ofNat i0)), .val (.int (Int32.ofNat j0)), .val (.int x0), .val (.int (Int32.ofNat i1)), .val (.int (Int32.ofNat j1)), .val (.int x1), .val (.int (Int32.ofNat i2)), .val (.int (Int32.ofNat j2)), .val (.int x2), .val (.int (Int32.ofNat i3)), .val (.int (Int32.ofNat j3)), .val (.int md), .val (.int (G3 i3 (Int32.ofNat j3))), .val (.int dl), .val (.int (Int32.ofNat iq)), .val (.int (Int32.ofNat jq)), .val (.ref r0), .val (.ref r1), .val (.int ((Int32.ofNat iq) * (4 : Int32)))] [])) _
    exact q
  have k101_ : ∀ t, Steps p.tables e below (T98.setTop (mkF m 342 #[.val (.int p0), .val (.int p1), .val (.int p2), .val (.int p3), .val (.int p4), .val (.ref b1), .val (.ref b7), .val (.int (Int32.ofNat i0)), .val (.int (Int32.ofNat j0)), .val (.int x0), .val (.int (Int32.ofNat i1)), .val (.int (Int32.ofNat j1)), .val (.int x1), .val (.int (Int32.ofNat i2)), .val (.int (Int32.ofNat j2)), .val (.int x2), .val (.int (Int32.ofNat i3)), .val (.int (Int32.ofNat j3)), .val (.int md), .val (.int (G3 i3 (Int32.ofNat j3))), .val (.int dl), .val (.int (Int32.ofNat iq)), .val (.int (Int32.ofNat jq)), .val (.ref r0), .val (.ref r1), .val (.int ((Int32.ofNat iq) * (4 : Int32)))] [(.int (((Int32.ofNat iq) * (4 : Int32)) + (2 : Int32))), (.ref b7), (.int (2 : Int32)), (.ref r0)])) t → Steps p.tables e below (s₁.setTop (mkF m 0 #[.val (.int p0), .val (.int p1), .val (.int p2), .val (.int p3), .val (.int p4), .unset, .unset, .unset, .unset, .unset, .unset, .unset, .unset, .unset, .unset, .unset, .unset, .unset, .unset, .unset, .unset, .unset, .unset, .unset, .unset, .unset] [])) t := by
    intro t q
    refine k100_ _ ?_
    show Steps p.tables e below (T98.setTop (mkF m 333 #[.val (.int p0), .val (.int p1), .val (.int p2), .val (.int p3), .val (.int p4), .val (.ref b1), .val (.ref b7), .val (.int (Int32.ofNat i0)), .val (.int (Int32.ofNat j0)), .val (.int x0), .val (.int (Int32.ofNat i1)), .val (.int (Int32.ofNat j1)), .val (.int x1), .val (.int (Int32.ofNat i2)), .val (.int (Int32.ofNat j2)), .val (.int x2), .val (.int (Int32.ofNat i3)), .val (.int (Int32.ofNat j3)), .val (.int md), .val (.int (G3 i3 (Int32.ofNat j3))), .val (.int dl), .val (.int (Int32.ofNat iq)), .val (.int (Int32.ofNat jq)), .val (.ref r0), .val (.ref r1), .val (.int ((Int32.ofNat iq) * (4 : Int32)))] [])) _
    refine XS.aload X98.here hx rfl (hb hby at_333) rfl rfl ?_
    refine XS.iconst X98.here hx rfl (hb hby at_335) ?_
    refine XS.aload X98.here hx rfl (hb hby at_336) rfl rfl ?_
    show Steps p.tables e below (T98.setTop (mkF m 338 #[.val (.int p0), .val (.int p1), .val (.int p2), .val (.int p3), .val (.int p4), .val (.ref b1), .val (.ref b7), .val (.int (Int32.ofNat i0)), .val (.int (Int32.ofNat j0)), .val (.int x0), .val (.int (Int32.ofNat i1)), .val (.int (Int32.ofNat j1)), .val (.int x1), .val (.int (Int32.ofNat i2)), .val (.int (Int32.ofNat j2)), .val (.int x2), .val (.int (Int32.ofNat i3)), .val (.int (Int32.ofNat j3)), .val (.int md), .val (.int (G3 i3 (Int32.ofNat j3))), .val (.int dl), .val (.int (Int32.ofNat iq)), .val (.int (Int32.ofNat jq)), .val (.ref r0), .val (.ref r1), .val (.int ((Int32.ofNat iq) * (4 : Int32)))] [(.ref b7), (.int (2 : Int32)), (.ref r0)])) _
    refine XS.iload X98.here hx rfl (hb hby at_338) rfl ?_
    refine XS.iconst X98.here hx rfl (hb hby at_340) ?_
    refine XS.iadd X98.here hx rfl (hb hby at_341) rfl ?_
    show Steps p.tables e below (T98.setTop (mkF m 342 #[.val (.int p0), .val (.int p1), .val (.int p2), .val (.int p3), .val (.int p4), .val (.ref b1), .val (.ref b7), .val (.int (Int32.ofNat i0)), .val (.int (Int32.ofNat j0)), .val (.int x0), .val (.int (Int32.ofNat i1)), .val (.int (Int32.ofNat j1)), .val (.int x1), .val (.int (Int32.ofNat i2)), .val (.int (Int32.ofNat j2)), .val (.int x2), .val (.int (Int32.ofNat i3)), .val (.int (Int32.ofNat j3)), .val (.int md), .val (.int (G3 i3 (Int32.ofNat j3))), .val (.int dl), .val (.int (Int32.ofNat iq)), .val (.int (Int32.ofNat jq)), .val (.ref r0), .val (.ref r1), .val (.int ((Int32.ofNat iq) * (4 : Int32)))] [(.int (((Int32.ofNat iq) * (4 : Int32)) + (2 : Int32))), (.ref b7), (.int (2 : Int32)), (.ref r0)])) _
    exact q
  have k102_ : ∀ t, Steps p.tables e below (T98.setTop (mkF m 342 #[.val (.int p0), .val (.int p1), .val (.int p2), .val (.int p3), .val (.int p4), .val (.ref b1), .val (.ref b7), .val (.int (Int32.ofNat i0)), .val (.int (Int32.ofNat j0)), .val (.int x0), .val (.int (Int32.ofNat i1)), .val (.int (Int32.ofNat j1)), .val (.int x1), .val (.int (Int32.ofNat i2)), .val (.int (Int32.ofNat j2)), .val (.int x2), .val (.int (Int32.ofNat i3)), .val (.int (Int32.ofNat j3)), .val (.int md), .val (.int (G3 i3 (Int32.ofNat j3))), .val (.int dl), .val (.int (Int32.ofNat iq)), .val (.int (Int32.ofNat jq)), .val (.ref r0), .val (.ref r1), .val (.int ((Int32.ofNat iq) * (4 : Int32)))] [(.int (Int32.ofNat (iq * 4 + 2))), (.ref b7), (.int (2 : Int32)), (.ref r0)])) t → Steps p.tables e below (s₁.setTop (mkF m 0 #[.val (.int p0), .val (.int p1), .val (.int p2), .val (.int p3), .val (.int p4), .unset, .unset, .unset, .unset, .unset, .unset, .unset, .unset, .unset, .unset, .unset, .unset, .unset, .unset, .unset, .unset, .unset, .unset, .unset, .unset, .unset] [])) t := fun t q => k101_ t (Eq.mp (congrArg (fun z => Steps p.tables e below (T98.setTop (mkF m 342 #[.val (.int p0), .val (.int p1), .val (.int p2), .val (.int p3), .val (.int p4), .val (.ref b1), .val (.ref b7), .val (.int (Int32.ofNat i0)), .val (.int (Int32.ofNat j0)), .val (.int x0), .val (.int (Int32.ofNat i1)), .val (.int (Int32.ofNat j1)), .val (.int x1), .val (.int (Int32.ofNat i2)), .val (.int (Int32.ofNat j2)), .val (.int x2), .val (.int (Int32.ofNat i3)), .val (.int (Int32.ofNat j3)), .val (.int md), .val (.int (G3 i3 (Int32.ofNat j3))), .val (.int dl), .val (.int (Int32.ofNat iq)), .val (.int (Int32.ofNat jq)), .val (.ref r0), .val (.ref r1), .val (.int ((Int32.ofNat iq) * (4 : Int32)))] [(.int z), (.ref b7), (.int (2 : Int32)), (.ref r0)])) t) (show (Int32.ofNat (iq * 4 + 2)) = (((Int32.ofNat iq) * (4 : Int32)) + (2 : Int32)) from (own_x2 h_iq))) q)
  obtain ⟨cl103, Ar103, q103, S103, M103, H103, G103⟩ := id VM
  have k104_ : ∀ t, Steps p.tables e below (T98.setTop (mkF m 343 #[.val (.int p0), .val (.int p1), .val (.int p2), .val (.int p3), .val (.int p4), .val (.ref b1), .val (.ref b7), .val (.int (Int32.ofNat i0)), .val (.int (Int32.ofNat j0)), .val (.int x0), .val (.int (Int32.ofNat i1)), .val (.int (Int32.ofNat j1)), .val (.int x1), .val (.int (Int32.ofNat i2)), .val (.int (Int32.ofNat j2)), .val (.int x2), .val (.int (Int32.ofNat i3)), .val (.int (Int32.ofNat j3)), .val (.int md), .val (.int (G3 i3 (Int32.ofNat j3))), .val (.int dl), .val (.int (Int32.ofNat iq)), .val (.int (Int32.ofNat jq)), .val (.ref r0), .val (.ref r1), .val (.int ((Int32.ofNat iq) * (4 : Int32)))] [(.int (ms4.getD (iq * 4 + 2) 0)), (.int (2 : Int32)), (.ref r0)])) t → Steps p.tables e below (s₁.setTop (mkF m 0 #[.val (.int p0), .val (.int p1), .val (.int p2), .val (.int p3), .val (.int p4), .unset, .unset, .unset, .unset, .unset, .unset, .unset, .unset, .unset, .unset, .unset, .unset, .unset, .unset, .unset, .unset, .unset, .unset, .unset, .unset, .unset] [])) t := by
    intro t q
    refine k102_ _ ?_
    show Steps p.tables e below (T98.setTop (mkF m 342 #[.val (.int p0), .val (.int p1), .val (.int p2), .val (.int p3), .val (.int p4), .val (.ref b1), .val (.ref b7), .val (.int (Int32.ofNat i0)), .val (.int (Int32.ofNat j0)), .val (.int x0), .val (.int (Int32.ofNat i1)), .val (.int (Int32.ofNat j1)), .val (.int x1), .val (.int (Int32.ofNat i2)), .val (.int (Int32.ofNat j2)), .val (.int x2), .val (.int (Int32.ofNat i3)), .val (.int (Int32.ofNat j3)), .val (.int md), .val (.int (G3 i3 (Int32.ofNat j3))), .val (.int dl), .val (.int (Int32.ofNat iq)), .val (.int (Int32.ofNat jq)), .val (.ref r0), .val (.ref r1), .val (.int ((Int32.ofNat iq) * (4 : Int32)))] [(.int (Int32.ofNat (iq * 4 + 2))), (.ref b7), (.int (2 : Int32)), (.ref r0)])) _
    refine X98.iaload hx (j := (Int32.ofNat (iq * 4 + 2))) (v := (.int (ms4.getD (iq * 4 + 2) 0))) (by rw [hq98]; exact Ar103.1) (State.isArrayOf_alike hZ.alike Ar103.2.1) Ar103.2.2 (inb_of S103 (own_lt8 (i := iq * 4 + 2) (by omega))) (Has.at H103 (inb_of S103 (own_lt8 (i := iq * 4 + 2) (by omega))) (own_gi _ (by omega))) (g := (mkF m 342 #[.val (.int p0), .val (.int p1), .val (.int p2), .val (.int p3), .val (.int p4), .val (.ref b1), .val (.ref b7), .val (.int (Int32.ofNat i0)), .val (.int (Int32.ofNat j0)), .val (.int x0), .val (.int (Int32.ofNat i1)), .val (.int (Int32.ofNat j1)), .val (.int x1), .val (.int (Int32.ofNat i2)), .val (.int (Int32.ofNat j2)), .val (.int x2), .val (.int (Int32.ofNat i3)), .val (.int (Int32.ofNat j3)), .val (.int md), .val (.int (G3 i3 (Int32.ofNat j3))), .val (.int dl), .val (.int (Int32.ofNat iq)), .val (.int (Int32.ofNat jq)), .val (.ref r0), .val (.ref r1), .val (.int ((Int32.ofNat iq) * (4 : Int32)))] [(.int (Int32.ofNat (iq * 4 + 2))), (.ref b7), (.int (2 : Int32)), (.ref r0)])) rfl rfl (hb hby at_342) _ ?_
    show Steps p.tables e below (T98.setTop (mkF m 343 #[.val (.int p0), .val (.int p1), .val (.int p2), .val (.int p3), .val (.int p4), .val (.ref b1), .val (.ref b7), .val (.int (Int32.ofNat i0)), .val (.int (Int32.ofNat j0)), .val (.int x0), .val (.int (Int32.ofNat i1)), .val (.int (Int32.ofNat j1)), .val (.int x1), .val (.int (Int32.ofNat i2)), .val (.int (Int32.ofNat j2)), .val (.int x2), .val (.int (Int32.ofNat i3)), .val (.int (Int32.ofNat j3)), .val (.int md), .val (.int (G3 i3 (Int32.ofNat j3))), .val (.int dl), .val (.int (Int32.ofNat iq)), .val (.int (Int32.ofNat jq)), .val (.ref r0), .val (.ref r1), .val (.int ((Int32.ofNat iq) * (4 : Int32)))] [(.int (ms4.getD (iq * 4 + 2) 0)), (.int (2 : Int32)), (.ref r0)])) _
    exact q
  obtain ⟨_, _, ⟨T105, L105, kk105, n105⟩, -, X105, ⟨Lc105, hQ105, l105, y105, z105⟩, st105⟩ := Jvm.LawKit.callS X98 hx (y := (⟨"com/example/weir/weir/model/HeldTasksColumnPinLaw", "at", "([III)Z"⟩ : MethodName)) hown (mvT hZ (hw _ (List.mem_of_getElem? (i := 27) rfl))) (mvT hZ (hw _ (List.mem_of_getElem? (i := 28) rfl))) (mvT hZ (hw _ (List.mem_of_getElem? (i := 29) rfl))) (mvT hZ (hw _ (List.mem_of_getElem? (i := 30) rfl))) (by decide) (backOf (W := 0) (rmA l Z a0 hw [] r0 (2 : Int32) (ms4.getD (iq * 4 + 2) 0) kr0 (Int32.ofNat jq) xs0 T80.heap n0 Zn VR0 (by decide) (own_ix4 (G := G4) (q := 2) h_jq (by decide) gr0 (M4.2 iq 2 h_iq (by decide)))) hZ (hw _ (List.mem_of_getElem? (i := 30) rfl)) (hw _ (List.mem_of_getElem? (i := 29) rfl)) (by decide) (by decide)) (g := (mkF m 343 #[.val (.int p0), .val (.int p1), .val (.int p2), .val (.int p3), .val (.int p4), .val (.ref b1), .val (.ref b7), .val (.int (Int32.ofNat i0)), .val (.int (Int32.ofNat j0)), .val (.int x0), .val (.int (Int32.ofNat i1)), .val (.int (Int32.ofNat j1)), .val (.int x1), .val (.int (Int32.ofNat i2)), .val (.int (Int32.ofNat j2)), .val (.int x2), .val (.int (Int32.ofNat i3)), .val (.int (Int32.ofNat j3)), .val (.int md), .val (.int (G3 i3 (Int32.ofNat j3))), .val (.int dl), .val (.int (Int32.ofNat iq)), .val (.int (Int32.ofNat jq)), .val (.ref r0), .val (.ref r1), .val (.int ((Int32.ofNat iq) * (4 : Int32)))] [(.int (ms4.getD (iq * 4 + 2) 0)), (.int (2 : Int32)), (.ref r0)])) rfl (by rw [hml]; rfl) (argsL := [(.ref r0), (.int (2 : Int32)), (.int (ms4.getD (iq * 4 + 2) 0))]) (rest := []) (lenOf pd_69762 rfl) rfl (by show 2 * 0 + _ ≤ _; exact Nat.le_of_eq rfl) (hb hby at_343) (fun _ _ => ⟨rfl, hq98, (by decide : 0 + 1 + 2 + 1 + 10 + 10 + 10 + 10 + 1 + 1 + 0 + 0 + 0 ≤ _), (by decide : 0 + 2 + 6 + 8 + 54 + 54 + 54 + 54 + 7 + 7 + 0 + 0 + 0 ≤ _)⟩)
  dsimp only [Pt.U, Pt.locs, Pt.cells, Pt.slots] at X105 l105 y105 z105 st105 hQ105
  rw [l105, y105, z105] at X105
  obtain ⟨rfl, Nq105, hq105⟩ := hQ105
  have N105 := Fr.app N98 Nq105
  have k106_ : ∀ t, Steps p.tables e below (T105.setTop (mkF m 346 #[.val (.int p0), .val (.int p1), .val (.int p2), .val (.int p3), .val (.int p4), .val (.ref b1), .val (.ref b7), .val (.int (Int32.ofNat i0)), .val (.int (Int32.ofNat j0)), .val (.int x0), .val (.int (Int32.ofNat i1)), .val (.int (Int32.ofNat j1)), .val (.int x1), .val (.int (Int32.ofNat i2)), .val (.int (Int32.ofNat j2)), .val (.int x2), .val (.int (Int32.ofNat i3)), .val (.int (Int32.ofNat j3)), .val (.int md), .val (.int (G3 i3 (Int32.ofNat j3))), .val (.int dl), .val (.int (Int32.ofNat iq)), .val (.int (Int32.ofNat jq)), .val (.ref r0), .val (.ref r1), .val (.int ((Int32.ofNat iq) * (4 : Int32)))] [(.int (1 : Int32))])) t → Steps p.tables e below (s₁.setTop (mkF m 0 #[.val (.int p0), .val (.int p1), .val (.int p2), .val (.int p3), .val (.int p4), .unset, .unset, .unset, .unset, .unset, .unset, .unset, .unset, .unset, .unset, .unset, .unset, .unset, .unset, .unset, .unset, .unset, .unset, .unset, .unset, .unset] [])) t := fun t q => k104_ t (st105 t q)
  have k107_ : ∀ t, Steps p.tables e below (T105.setTop (mkF m 349 #[.val (.int p0), .val (.int p1), .val (.int p2), .val (.int p3), .val (.int p4), .val (.ref b1), .val (.ref b7), .val (.int (Int32.ofNat i0)), .val (.int (Int32.ofNat j0)), .val (.int x0), .val (.int (Int32.ofNat i1)), .val (.int (Int32.ofNat j1)), .val (.int x1), .val (.int (Int32.ofNat i2)), .val (.int (Int32.ofNat j2)), .val (.int x2), .val (.int (Int32.ofNat i3)), .val (.int (Int32.ofNat j3)), .val (.int md), .val (.int (G3 i3 (Int32.ofNat j3))), .val (.int dl), .val (.int (Int32.ofNat iq)), .val (.int (Int32.ofNat jq)), .val (.ref r0), .val (.ref r1), .val (.int ((Int32.ofNat iq) * (4 : Int32)))] [])) t → Steps p.tables e below (s₁.setTop (mkF m 0 #[.val (.int p0), .val (.int p1), .val (.int p2), .val (.int p3), .val (.int p4), .unset, .unset, .unset, .unset, .unset, .unset, .unset, .unset, .unset, .unset, .unset, .unset, .unset, .unset, .unset, .unset, .unset, .unset, .unset, .unset, .unset] [])) t := by
    intro t q
    refine k106_ _ ?_
    show Steps p.tables e below (T105.setTop (mkF m 346 #[.val (.int p0), .val (.int p1), .val (.int p2), .val (.int p3), .val (.int p4), .val (.ref b1), .val (.ref b7), .val (.int (Int32.ofNat i0)), .val (.int (Int32.ofNat j0)), .val (.int x0), .val (.int (Int32.ofNat i1)), .val (.int (Int32.ofNat j1)), .val (.int x1), .val (.int (Int32.ofNat i2)), .val (.int (Int32.ofNat j2)), .val (.int x2), .val (.int (Int32.ofNat i3)), .val (.int (Int32.ofNat j3)), .val (.int md), .val (.int (G3 i3 (Int32.ofNat j3))), .val (.int dl), .val (.int (Int32.ofNat iq)), .val (.int (Int32.ofNat jq)), .val (.ref r0), .val (.ref r1), .val (.int ((Int32.ofNat iq) * (4 : Int32)))] [(.int (1 : Int32))])) _
    refine XS.ifNo X105.here hx rfl (hb hby at_346) rfl ((if0 _ _).trans (feq (by decide)).1) ?_
    show Steps p.tables e below (T105.setTop (mkF m 349 #[.val (.int p0), .val (.int p1), .val (.int p2), .val (.int p3), .val (.int p4), .val (.ref b1), .val (.ref b7), .val (.int (Int32.ofNat i0)), .val (.int (Int32.ofNat j0)), .val (.int x0), .val (.int (Int32.ofNat i1)), .val (.int (Int32.ofNat j1)), .val (.int x1), .val (.int (Int32.ofNat i2)), .val (.int (Int32.ofNat j2)), .val (.int x2), .val (.int (Int32.ofNat i3)), .val (.int (Int32.ofNat j3)), .val (.int md), .val (.int (G3 i3 (Int32.ofNat j3))), .val (.int dl), .val (.int (Int32.ofNat iq)), .val (.int (Int32.ofNat jq)), .val (.ref r0), .val (.ref r1), .val (.int ((Int32.ofNat iq) * (4 : Int32)))] [])) _
    exact q
  have k108_ : ∀ t, Steps p.tables e below (T105.setTop (mkF m 358 #[.val (.int p0), .val (.int p1), .val (.int p2), .val (.int p3), .val (.int p4), .val (.ref b1), .val (.ref b7), .val (.int (Int32.ofNat i0)), .val (.int (Int32.ofNat j0)), .val (.int x0), .val (.int (Int32.ofNat i1)), .val (.int (Int32.ofNat j1)), .val (.int x1), .val (.int (Int32.ofNat i2)), .val (.int (Int32.ofNat j2)), .val (.int x2), .val (.int (Int32.ofNat i3)), .val (.int (Int32.ofNat j3)), .val (.int md), .val (.int (G3 i3 (Int32.ofNat j3))), .val (.int dl), .val (.int (Int32.ofNat iq)), .val (.int (Int32.ofNat jq)), .val (.ref r0), .val (.ref r1), .val (.int ((Int32.ofNat iq) * (4 : Int32)))] [(.int (((Int32.ofNat iq) * (4 : Int32)) + (3 : Int32))), (.ref b7), (.int (3 : Int32)), (.ref r0)])) t → Steps p.tables e below (s₁.setTop (mkF m 0 #[.val (.int p0), .val (.int p1), .val (.int p2), .val (.int p3), .val (.int p4), .unset, .unset, .unset, .unset, .unset, .unset, .unset, .unset, .unset, .unset, .unset, .unset, .unset, .unset, .unset, .unset, .unset, .unset, .unset, .unset, .unset] [])) t := by
    intro t q
    refine k107_ _ ?_
    show Steps p.tables e below (T105.setTop (mkF m 349 #[.val (.int p0), .val (.int p1), .val (.int p2), .val (.int p3), .val (.int p4), .val (.ref b1), .val (.ref b7), .val (.int (Int32.ofNat i0)), .val (.int (Int32.ofNat j0)), .val (.int x0), .val (.int (Int32.ofNat i1)), .val (.int (Int32.ofNat j1)), .val (.int x1), .val (.int (Int32.ofNat i2)), .val (.int (Int32.ofNat j2)), .val (.int x2), .val (.int (Int32.ofNat i3)), .val (.int (Int32.ofNat j3)), .val (.int md), .val (.int (G3 i3 (Int32.ofNat j3))), .val (.int dl), .val (.int (Int32.ofNat iq)), .val (.int (Int32.ofNat jq)), .val (.ref r0), .val (.ref r1), .val (.int ((Int32.ofNat iq) * (4 : Int32)))] [])) _
    refine XS.aload X105.here hx rfl (hb hby at_349) rfl rfl ?_
    refine XS.iconst X105.here hx rfl (hb hby at_351) ?_
    refine XS.aload X105.here hx rfl (hb hby at_352) rfl rfl ?_
    show Steps p.tables e below (T105.setTop (mkF m 354 #[.val (.int p0), .val (.int p1), .val (.int p2), .val (.int p3), .val (.int p4), .val (.ref b1), .val (.ref b7), .val (.int (Int32.ofNat i0)), .val (.int (Int32.ofNat j0)), .val (.int x0), .val (.int (Int32.ofNat i1)), .val (.int (Int32.ofNat j1)), .val (.int x1), .val (.int (Int32.ofNat i2)), .val (.int (Int32.ofNat j2)), .val (.int x2), .val (.int (Int32.ofNat i3)), .val (.int (Int32.ofNat j3)), .val (.int md), .val (.int (G3 i3 (Int32.ofNat j3))), .val (.int dl), .val (.int (Int32.ofNat iq)), .val (.int (Int32.ofNat jq)), .val (.ref r0), .val (.ref r1), .val (.int ((Int32.ofNat iq) * (4 : Int32)))] [(.ref b7), (.int (3 : Int32)), (.ref r0)])) _
    refine XS.iload X105.here hx rfl (hb hby at_354) rfl ?_
    refine XS.iconst X105.here hx rfl (hb hby at_356) ?_
    refine XS.iadd X105.here hx rfl (hb hby at_357) rfl ?_
    show Steps p.tables e below (T105.setTop (mkF m 358 #[.val (.int p0), .val (.int p1), .val (.int p2), .val (.int p3), .val (.int p4), .val (.ref b1), .val (.ref b7), .val (.int (Int32.ofNat i0)), .val (.int (Int32.ofNat j0)), .val (.int x0), .val (.int (Int32.ofNat i1)), .val (.int (Int32.ofNat j1)), .val (.int x1), .val (.int (Int32.ofNat i2)), .val (.int (Int32.ofNat j2)), .val (.int x2), .val (.int (Int32.ofNat i3)), .val (.int (Int32.ofNat j3)), .val (.int md), .val (.int (G3 i3 (Int32.ofNat j3))), .val (.int dl), .val (.int (Int32.ofNat iq)), .val (.int (Int32.ofNat jq)), .val (.ref r0), .val (.ref r1), .val (.int ((Int32.ofNat iq) * (4 : Int32)))] [(.int (((Int32.ofNat iq) * (4 : Int32)) + (3 : Int32))), (.ref b7), (.int (3 : Int32)), (.ref r0)])) _
    exact q
  have k109_ : ∀ t, Steps p.tables e below (T105.setTop (mkF m 358 #[.val (.int p0), .val (.int p1), .val (.int p2), .val (.int p3), .val (.int p4), .val (.ref b1), .val (.ref b7), .val (.int (Int32.ofNat i0)), .val (.int (Int32.ofNat j0)), .val (.int x0), .val (.int (Int32.ofNat i1)), .val (.int (Int32.ofNat j1)), .val (.int x1), .val (.int (Int32.ofNat i2)), .val (.int (Int32.ofNat j2)), .val (.int x2), .val (.int (Int32.ofNat i3)), .val (.int (Int32.ofNat j3)), .val (.int md), .val (.int (G3 i3 (Int32.ofNat j3))), .val (.int dl), .val (.int (Int32.ofNat iq)), .val (.int (Int32.ofNat jq)), .val (.ref r0), .val (.ref r1), .val (.int ((Int32.ofNat iq) * (4 : Int32)))] [(.int (Int32.ofNat (iq * 4 + 3))), (.ref b7), (.int (3 : Int32)), (.ref r0)])) t → Steps p.tables e below (s₁.setTop (mkF m 0 #[.val (.int p0), .val (.int p1), .val (.int p2), .val (.int p3), .val (.int p4), .unset, .unset, .unset, .unset, .unset, .unset, .unset, .unset, .unset, .unset, .unset, .unset, .unset, .unset, .unset, .unset, .unset, .unset, .unset, .unset, .unset] [])) t := fun t q => k108_ t (Eq.mp (congrArg (fun z => Steps p.tables e below (T105.setTop (mkF m 358 #[.val (.int p0), .val (.int p1), .val (.int p2), .val (.int p3), .val (.int p4), .val (.ref b1), .val (.ref b7), .val (.int (Int32.ofNat i0)), .val (.int (Int32.ofNat j0)), .val (.int x0), .val (.int (Int32.ofNat i1)), .val (.int (Int32.ofNat j1)), .val (.int x1), .val (.int (Int32.ofNat i2)), .val (.int (Int32.ofNat j2)), .val (.int x2), .val (.int (Int32.ofNat i3)), .val (.int (Int32.ofNat j3)), .val (.int md), .val (.int (G3 i3 (Int32.ofNat j3))), .val (.int dl), .val (.int (Int32.ofNat iq)), .val (.int (Int32.ofNat jq)), .val (.ref r0), .val (.ref r1), .val (.int ((Int32.ofNat iq) * (4 : Int32)))] [(.int z), (.ref b7), (.int (3 : Int32)), (.ref r0)])) t) (show (Int32.ofNat (iq * 4 + 3)) = (((Int32.ofNat iq) * (4 : Int32)) + (3 : Int32)) from (own_x3 h_iq))) q)
  obtain ⟨cl110, Ar110, q110, S110, M110, H110, G110⟩ := id VM
  have k111_ : ∀ t, Steps p.tables e below (T105.setTop (mkF m 359 #[.val (.int p0), .val (.int p1), .val (.int p2), .val (.int p3), .val (.int p4), .val (.ref b1), .val (.ref b7), .val (.int (Int32.ofNat i0)), .val (.int (Int32.ofNat j0)), .val (.int x0), .val (.int (Int32.ofNat i1)), .val (.int (Int32.ofNat j1)), .val (.int x1), .val (.int (Int32.ofNat i2)), .val (.int (Int32.ofNat j2)), .val (.int x2), .val (.int (Int32.ofNat i3)), .val (.int (Int32.ofNat j3)), .val (.int md), .val (.int (G3 i3 (Int32.ofNat j3))), .val (.int dl), .val (.int (Int32.ofNat iq)), .val (.int (Int32.ofNat jq)), .val (.ref r0), .val (.ref r1), .val (.int ((Int32.ofNat iq) * (4 : Int32)))] [(.int (ms4.getD (iq * 4 + 3) 0)), (.int (3 : Int32)), (.ref r0)])) t → Steps p.tables e below (s₁.setTop (mkF m 0 #[.val (.int p0), .val (.int p1), .val (.int p2), .val (.int p3), .val (.int p4), .unset, .unset, .unset, .unset, .unset, .unset, .unset, .unset, .unset, .unset, .unset, .unset, .unset, .unset, .unset, .unset, .unset, .unset, .unset, .unset, .unset] [])) t := by
    intro t q
    refine k109_ _ ?_
    show Steps p.tables e below (T105.setTop (mkF m 358 #[.val (.int p0), .val (.int p1), .val (.int p2), .val (.int p3), .val (.int p4), .val (.ref b1), .val (.ref b7), .val (.int (Int32.ofNat i0)), .val (.int (Int32.ofNat j0)), .val (.int x0), .val (.int (Int32.ofNat i1)), .val (.int (Int32.ofNat j1)), .val (.int x1), .val (.int (Int32.ofNat i2)), .val (.int (Int32.ofNat j2)), .val (.int x2), .val (.int (Int32.ofNat i3)), .val (.int (Int32.ofNat j3)), .val (.int md), .val (.int (G3 i3 (Int32.ofNat j3))), .val (.int dl), .val (.int (Int32.ofNat iq)), .val (.int (Int32.ofNat jq)), .val (.ref r0), .val (.ref r1), .val (.int ((Int32.ofNat iq) * (4 : Int32)))] [(.int (Int32.ofNat (iq * 4 + 3))), (.ref b7), (.int (3 : Int32)), (.ref r0)])) _
    refine X105.iaload hx (j := (Int32.ofNat (iq * 4 + 3))) (v := (.int (ms4.getD (iq * 4 + 3) 0))) (by rw [hq105]; exact Ar110.1) (State.isArrayOf_alike hZ.alike Ar110.2.1) Ar110.2.2 (inb_of S110 (own_lt8 (i := iq * 4 + 3) (by omega))) (Has.at H110 (inb_of S110 (own_lt8 (i := iq * 4 + 3) (by omega))) (own_gi _ (by omega))) (g := (mkF m 358 #[.val (.int p0), .val (.int p1), .val (.int p2), .val (.int p3), .val (.int p4), .val (.ref b1), .val (.ref b7), .val (.int (Int32.ofNat i0)), .val (.int (Int32.ofNat j0)), .val (.int x0), .val (.int (Int32.ofNat i1)), .val (.int (Int32.ofNat j1)), .val (.int x1), .val (.int (Int32.ofNat i2)), .val (.int (Int32.ofNat j2)), .val (.int x2), .val (.int (Int32.ofNat i3)), .val (.int (Int32.ofNat j3)), .val (.int md), .val (.int (G3 i3 (Int32.ofNat j3))), .val (.int dl), .val (.int (Int32.ofNat iq)), .val (.int (Int32.ofNat jq)), .val (.ref r0), .val (.ref r1), .val (.int ((Int32.ofNat iq) * (4 : Int32)))] [(.int (Int32.ofNat (iq * 4 + 3))), (.ref b7), (.int (3 : Int32)), (.ref r0)])) rfl rfl (hb hby at_358) _ ?_
    show Steps p.tables e below (T105.setTop (mkF m 359 #[.val (.int p0), .val (.int p1), .val (.int p2), .val (.int p3), .val (.int p4), .val (.ref b1), .val (.ref b7), .val (.int (Int32.ofNat i0)), .val (.int (Int32.ofNat j0)), .val (.int x0), .val (.int (Int32.ofNat i1)), .val (.int (Int32.ofNat j1)), .val (.int x1), .val (.int (Int32.ofNat i2)), .val (.int (Int32.ofNat j2)), .val (.int x2), .val (.int (Int32.ofNat i3)), .val (.int (Int32.ofNat j3)), .val (.int md), .val (.int (G3 i3 (Int32.ofNat j3))), .val (.int dl), .val (.int (Int32.ofNat iq)), .val (.int (Int32.ofNat jq)), .val (.ref r0), .val (.ref r1), .val (.int ((Int32.ofNat iq) * (4 : Int32)))] [(.int (ms4.getD (iq * 4 + 3) 0)), (.int (3 : Int32)), (.ref r0)])) _
    exact q
  obtain ⟨_, _, ⟨T112, L112, kk112, n112⟩, -, X112, ⟨Lc112, hQ112, l112, y112, z112⟩, st112⟩ := Jvm.LawKit.callS X105 hx (y := (⟨"com/example/weir/weir/model/HeldTasksColumnPinLaw", "at", "([III)Z"⟩ : MethodName)) hown (mvT hZ (hw _ (List.mem_of_getElem? (i := 27) rfl))) (mvT hZ (hw _ (List.mem_of_getElem? (i := 28) rfl))) (mvT hZ (hw _ (List.mem_of_getElem? (i := 29) rfl))) (mvT hZ (hw _ (List.mem_of_getElem? (i := 30) rfl))) (by decide) (backOf (W := 0) (rmA l Z a0 hw [] r0 (3 : Int32) (ms4.getD (iq * 4 + 3) 0) kr0 (Int32.ofNat jq) xs0 T80.heap n0 Zn VR0 (by decide) (own_ix4 (G := G4) (q := 3) h_jq (by decide) gr0 (M4.2 iq 3 h_iq (by decide)))) hZ (hw _ (List.mem_of_getElem? (i := 30) rfl)) (hw _ (List.mem_of_getElem? (i := 29) rfl)) (by decide) (by decide)) (g := (mkF m 359 #[.val (.int p0), .val (.int p1), .val (.int p2), .val (.int p3), .val (.int p4), .val (.ref b1), .val (.ref b7), .val (.int (Int32.ofNat i0)), .val (.int (Int32.ofNat j0)), .val (.int x0), .val (.int (Int32.ofNat i1)), .val (.int (Int32.ofNat j1)), .val (.int x1), .val (.int (Int32.ofNat i2)), .val (.int (Int32.ofNat j2)), .val (.int x2), .val (.int (Int32.ofNat i3)), .val (.int (Int32.ofNat j3)), .val (.int md), .val (.int (G3 i3 (Int32.ofNat j3))), .val (.int dl), .val (.int (Int32.ofNat iq)), .val (.int (Int32.ofNat jq)), .val (.ref r0), .val (.ref r1), .val (.int ((Int32.ofNat iq) * (4 : Int32)))] [(.int (ms4.getD (iq * 4 + 3) 0)), (.int (3 : Int32)), (.ref r0)])) rfl (by rw [hml]; rfl) (argsL := [(.ref r0), (.int (3 : Int32)), (.int (ms4.getD (iq * 4 + 3) 0))]) (rest := []) (lenOf pd_69762 rfl) rfl (by show 2 * 0 + _ ≤ _; exact Nat.le_of_eq rfl) (hb hby at_359) (fun _ _ => ⟨rfl, hq105, (by decide : 0 + 1 + 2 + 1 + 10 + 10 + 10 + 10 + 1 + 1 + 0 + 0 + 0 + 0 ≤ _), (by decide : 0 + 2 + 6 + 8 + 54 + 54 + 54 + 54 + 7 + 7 + 0 + 0 + 0 + 0 ≤ _)⟩)
  dsimp only [Pt.U, Pt.locs, Pt.cells, Pt.slots] at X112 l112 y112 z112 st112 hQ112
  rw [l112, y112, z112] at X112
  obtain ⟨rfl, Nq112, hq112⟩ := hQ112
  have N112 := Fr.app N105 Nq112
  have k113_ : ∀ t, Steps p.tables e below (T112.setTop (mkF m 362 #[.val (.int p0), .val (.int p1), .val (.int p2), .val (.int p3), .val (.int p4), .val (.ref b1), .val (.ref b7), .val (.int (Int32.ofNat i0)), .val (.int (Int32.ofNat j0)), .val (.int x0), .val (.int (Int32.ofNat i1)), .val (.int (Int32.ofNat j1)), .val (.int x1), .val (.int (Int32.ofNat i2)), .val (.int (Int32.ofNat j2)), .val (.int x2), .val (.int (Int32.ofNat i3)), .val (.int (Int32.ofNat j3)), .val (.int md), .val (.int (G3 i3 (Int32.ofNat j3))), .val (.int dl), .val (.int (Int32.ofNat iq)), .val (.int (Int32.ofNat jq)), .val (.ref r0), .val (.ref r1), .val (.int ((Int32.ofNat iq) * (4 : Int32)))] [(.int (1 : Int32))])) t → Steps p.tables e below (s₁.setTop (mkF m 0 #[.val (.int p0), .val (.int p1), .val (.int p2), .val (.int p3), .val (.int p4), .unset, .unset, .unset, .unset, .unset, .unset, .unset, .unset, .unset, .unset, .unset, .unset, .unset, .unset, .unset, .unset, .unset, .unset, .unset, .unset, .unset] [])) t := fun t q => k111_ t (st112 t q)
  have k114_ : ∀ t, Steps p.tables e below (T112.setTop (mkF m 365 #[.val (.int p0), .val (.int p1), .val (.int p2), .val (.int p3), .val (.int p4), .val (.ref b1), .val (.ref b7), .val (.int (Int32.ofNat i0)), .val (.int (Int32.ofNat j0)), .val (.int x0), .val (.int (Int32.ofNat i1)), .val (.int (Int32.ofNat j1)), .val (.int x1), .val (.int (Int32.ofNat i2)), .val (.int (Int32.ofNat j2)), .val (.int x2), .val (.int (Int32.ofNat i3)), .val (.int (Int32.ofNat j3)), .val (.int md), .val (.int (G3 i3 (Int32.ofNat j3))), .val (.int dl), .val (.int (Int32.ofNat iq)), .val (.int (Int32.ofNat jq)), .val (.ref r0), .val (.ref r1), .val (.int ((Int32.ofNat iq) * (4 : Int32)))] [])) t → Steps p.tables e below (s₁.setTop (mkF m 0 #[.val (.int p0), .val (.int p1), .val (.int p2), .val (.int p3), .val (.int p4), .unset, .unset, .unset, .unset, .unset, .unset, .unset, .unset, .unset, .unset, .unset, .unset, .unset, .unset, .unset, .unset, .unset, .unset, .unset, .unset, .unset] [])) t := by
    intro t q
    refine k113_ _ ?_
    show Steps p.tables e below (T112.setTop (mkF m 362 #[.val (.int p0), .val (.int p1), .val (.int p2), .val (.int p3), .val (.int p4), .val (.ref b1), .val (.ref b7), .val (.int (Int32.ofNat i0)), .val (.int (Int32.ofNat j0)), .val (.int x0), .val (.int (Int32.ofNat i1)), .val (.int (Int32.ofNat j1)), .val (.int x1), .val (.int (Int32.ofNat i2)), .val (.int (Int32.ofNat j2)), .val (.int x2), .val (.int (Int32.ofNat i3)), .val (.int (Int32.ofNat j3)), .val (.int md), .val (.int (G3 i3 (Int32.ofNat j3))), .val (.int dl), .val (.int (Int32.ofNat iq)), .val (.int (Int32.ofNat jq)), .val (.ref r0), .val (.ref r1), .val (.int ((Int32.ofNat iq) * (4 : Int32)))] [(.int (1 : Int32))])) _
    refine XS.ifNo X112.here hx rfl (hb hby at_362) rfl ((if0 _ _).trans (feq (by decide)).1) ?_
    show Steps p.tables e below (T112.setTop (mkF m 365 #[.val (.int p0), .val (.int p1), .val (.int p2), .val (.int p3), .val (.int p4), .val (.ref b1), .val (.ref b7), .val (.int (Int32.ofNat i0)), .val (.int (Int32.ofNat j0)), .val (.int x0), .val (.int (Int32.ofNat i1)), .val (.int (Int32.ofNat j1)), .val (.int x1), .val (.int (Int32.ofNat i2)), .val (.int (Int32.ofNat j2)), .val (.int x2), .val (.int (Int32.ofNat i3)), .val (.int (Int32.ofNat j3)), .val (.int md), .val (.int (G3 i3 (Int32.ofNat j3))), .val (.int dl), .val (.int (Int32.ofNat iq)), .val (.int (Int32.ofNat jq)), .val (.ref r0), .val (.ref r1), .val (.int ((Int32.ofNat iq) * (4 : Int32)))] [])) _
    exact q
  have k115_ : ∀ t, Steps p.tables e below (T112.setTop (mkF m 369 #[.val (.int p0), .val (.int p1), .val (.int p2), .val (.int p3), .val (.int p4), .val (.ref b1), .val (.ref b7), .val (.int (Int32.ofNat i0)), .val (.int (Int32.ofNat j0)), .val (.int x0), .val (.int (Int32.ofNat i1)), .val (.int (Int32.ofNat j1)), .val (.int x1), .val (.int (Int32.ofNat i2)), .val (.int (Int32.ofNat j2)), .val (.int x2), .val (.int (Int32.ofNat i3)), .val (.int (Int32.ofNat j3)), .val (.int md), .val (.int (G3 i3 (Int32.ofNat j3))), .val (.int dl), .val (.int (Int32.ofNat iq)), .val (.int (Int32.ofNat jq)), .val (.ref r0), .val (.ref r1), .val (.int ((Int32.ofNat iq) * (4 : Int32)))] [(.int (0 : Int32)), (.int (4 : Int32)), (.ref r0)])) t → Steps p.tables e below (s₁.setTop (mkF m 0 #[.val (.int p0), .val (.int p1), .val (.int p2), .val (.int p3), .val (.int p4), .unset, .unset, .unset, .unset, .unset, .unset, .unset, .unset, .unset, .unset, .unset, .unset, .unset, .unset, .unset, .unset, .unset, .unset, .unset, .unset, .unset] [])) t := by
    intro t q
    refine k114_ _ ?_
    show Steps p.tables e below (T112.setTop (mkF m 365 #[.val (.int p0), .val (.int p1), .val (.int p2), .val (.int p3), .val (.int p4), .val (.ref b1), .val (.ref b7), .val (.int (Int32.ofNat i0)), .val (.int (Int32.ofNat j0)), .val (.int x0), .val (.int (Int32.ofNat i1)), .val (.int (Int32.ofNat j1)), .val (.int x1), .val (.int (Int32.ofNat i2)), .val (.int (Int32.ofNat j2)), .val (.int x2), .val (.int (Int32.ofNat i3)), .val (.int (Int32.ofNat j3)), .val (.int md), .val (.int (G3 i3 (Int32.ofNat j3))), .val (.int dl), .val (.int (Int32.ofNat iq)), .val (.int (Int32.ofNat jq)), .val (.ref r0), .val (.ref r1), .val (.int ((Int32.ofNat iq) * (4 : Int32)))] [])) _
    refine XS.aload X112.here hx rfl (hb hby at_365) rfl rfl ?_
    refine XS.iconst X112.here hx rfl (hb hby at_367) ?_
    refine XS.iconst X112.here hx rfl (hb hby at_368) ?_
    show Steps p.tables e below (T112.setTop (mkF m 369 #[.val (.int p0), .val (.int p1), .val (.int p2), .val (.int p3), .val (.int p4), .val (.ref b1), .val (.ref b7), .val (.int (Int32.ofNat i0)), .val (.int (Int32.ofNat j0)), .val (.int x0), .val (.int (Int32.ofNat i1)), .val (.int (Int32.ofNat j1)), .val (.int x1), .val (.int (Int32.ofNat i2)), .val (.int (Int32.ofNat j2)), .val (.int x2), .val (.int (Int32.ofNat i3)), .val (.int (Int32.ofNat j3)), .val (.int md), .val (.int (G3 i3 (Int32.ofNat j3))), .val (.int dl), .val (.int (Int32.ofNat iq)), .val (.int (Int32.ofNat jq)), .val (.ref r0), .val (.ref r1), .val (.int ((Int32.ofNat iq) * (4 : Int32)))] [(.int (0 : Int32)), (.int (4 : Int32)), (.ref r0)])) _
    exact q
  have z4 : ∀ x, 4 ≤ x → x < 100 → G4 iq (Int32.ofNat x) = 0 := own_G_hi I4 h_iq
  obtain ⟨_, _, ⟨T116, L116, kk116, n116⟩, -, X116, ⟨Lc116, hQ116, l116, y116, z116⟩, st116⟩ := Jvm.LawKit.callS X112 hx (y := (⟨"com/example/weir/weir/model/HeldTasksColumnPinLaw", "at", "([III)Z"⟩ : MethodName)) hown (mvT hZ (hw _ (List.mem_of_getElem? (i := 27) rfl))) (mvT hZ (hw _ (List.mem_of_getElem? (i := 28) rfl))) (mvT hZ (hw _ (List.mem_of_getElem? (i := 29) rfl))) (mvT hZ (hw _ (List.mem_of_getElem? (i := 30) rfl))) (by decide) (backOf (W := 0) (rmA l Z a0 hw [] r0 (4 : Int32) (0 : Int32) kr0 (Int32.ofNat jq) xs0 T80.heap n0 Zn VR0 (by decide) (own_ix0 (q := 4) h_jq (by decide) gr0 (z4 4 (by decide) (by decide)))) hZ (hw _ (List.mem_of_getElem? (i := 30) rfl)) (hw _ (List.mem_of_getElem? (i := 29) rfl)) (by decide) (by decide)) (g := (mkF m 369 #[.val (.int p0), .val (.int p1), .val (.int p2), .val (.int p3), .val (.int p4), .val (.ref b1), .val (.ref b7), .val (.int (Int32.ofNat i0)), .val (.int (Int32.ofNat j0)), .val (.int x0), .val (.int (Int32.ofNat i1)), .val (.int (Int32.ofNat j1)), .val (.int x1), .val (.int (Int32.ofNat i2)), .val (.int (Int32.ofNat j2)), .val (.int x2), .val (.int (Int32.ofNat i3)), .val (.int (Int32.ofNat j3)), .val (.int md), .val (.int (G3 i3 (Int32.ofNat j3))), .val (.int dl), .val (.int (Int32.ofNat iq)), .val (.int (Int32.ofNat jq)), .val (.ref r0), .val (.ref r1), .val (.int ((Int32.ofNat iq) * (4 : Int32)))] [(.int (0 : Int32)), (.int (4 : Int32)), (.ref r0)])) rfl (by rw [hml]; rfl) (argsL := [(.ref r0), (.int (4 : Int32)), (.int (0 : Int32))]) (rest := []) (lenOf pd_69762 rfl) rfl (by show 2 * 0 + _ ≤ _; exact Nat.le_of_eq rfl) (hb hby at_369) (fun _ _ => ⟨rfl, hq112, (by decide : 0 + 1 + 2 + 1 + 10 + 10 + 10 + 10 + 1 + 1 + 0 + 0 + 0 + 0 + 0 ≤ _), (by decide : 0 + 2 + 6 + 8 + 54 + 54 + 54 + 54 + 7 + 7 + 0 + 0 + 0 + 0 + 0 ≤ _)⟩)
  dsimp only [Pt.U, Pt.locs, Pt.cells, Pt.slots] at X116 l116 y116 z116 st116 hQ116
  rw [l116, y116, z116] at X116
  obtain ⟨rfl, Nq116, hq116⟩ := hQ116
  have N116 := Fr.app N112 Nq116
  have k117_ : ∀ t, Steps p.tables e below (T116.setTop (mkF m 372 #[.val (.int p0), .val (.int p1), .val (.int p2), .val (.int p3), .val (.int p4), .val (.ref b1), .val (.ref b7), .val (.int (Int32.ofNat i0)), .val (.int (Int32.ofNat j0)), .val (.int x0), .val (.int (Int32.ofNat i1)), .val (.int (Int32.ofNat j1)), .val (.int x1), .val (.int (Int32.ofNat i2)), .val (.int (Int32.ofNat j2)), .val (.int x2), .val (.int (Int32.ofNat i3)), .val (.int (Int32.ofNat j3)), .val (.int md), .val (.int (G3 i3 (Int32.ofNat j3))), .val (.int dl), .val (.int (Int32.ofNat iq)), .val (.int (Int32.ofNat jq)), .val (.ref r0), .val (.ref r1), .val (.int ((Int32.ofNat iq) * (4 : Int32)))] [(.int (1 : Int32))])) t → Steps p.tables e below (s₁.setTop (mkF m 0 #[.val (.int p0), .val (.int p1), .val (.int p2), .val (.int p3), .val (.int p4), .unset, .unset, .unset, .unset, .unset, .unset, .unset, .unset, .unset, .unset, .unset, .unset, .unset, .unset, .unset, .unset, .unset, .unset, .unset, .unset, .unset] [])) t := fun t q => k115_ t (st116 t q)
  have k118_ : ∀ t, Steps p.tables e below (T116.setTop (mkF m 375 #[.val (.int p0), .val (.int p1), .val (.int p2), .val (.int p3), .val (.int p4), .val (.ref b1), .val (.ref b7), .val (.int (Int32.ofNat i0)), .val (.int (Int32.ofNat j0)), .val (.int x0), .val (.int (Int32.ofNat i1)), .val (.int (Int32.ofNat j1)), .val (.int x1), .val (.int (Int32.ofNat i2)), .val (.int (Int32.ofNat j2)), .val (.int x2), .val (.int (Int32.ofNat i3)), .val (.int (Int32.ofNat j3)), .val (.int md), .val (.int (G3 i3 (Int32.ofNat j3))), .val (.int dl), .val (.int (Int32.ofNat iq)), .val (.int (Int32.ofNat jq)), .val (.ref r0), .val (.ref r1), .val (.int ((Int32.ofNat iq) * (4 : Int32)))] [])) t → Steps p.tables e below (s₁.setTop (mkF m 0 #[.val (.int p0), .val (.int p1), .val (.int p2), .val (.int p3), .val (.int p4), .unset, .unset, .unset, .unset, .unset, .unset, .unset, .unset, .unset, .unset, .unset, .unset, .unset, .unset, .unset, .unset, .unset, .unset, .unset, .unset, .unset] [])) t := by
    intro t q
    refine k117_ _ ?_
    show Steps p.tables e below (T116.setTop (mkF m 372 #[.val (.int p0), .val (.int p1), .val (.int p2), .val (.int p3), .val (.int p4), .val (.ref b1), .val (.ref b7), .val (.int (Int32.ofNat i0)), .val (.int (Int32.ofNat j0)), .val (.int x0), .val (.int (Int32.ofNat i1)), .val (.int (Int32.ofNat j1)), .val (.int x1), .val (.int (Int32.ofNat i2)), .val (.int (Int32.ofNat j2)), .val (.int x2), .val (.int (Int32.ofNat i3)), .val (.int (Int32.ofNat j3)), .val (.int md), .val (.int (G3 i3 (Int32.ofNat j3))), .val (.int dl), .val (.int (Int32.ofNat iq)), .val (.int (Int32.ofNat jq)), .val (.ref r0), .val (.ref r1), .val (.int ((Int32.ofNat iq) * (4 : Int32)))] [(.int (1 : Int32))])) _
    refine XS.ifNo X116.here hx rfl (hb hby at_372) rfl ((if0 _ _).trans (feq (by decide)).1) ?_
    show Steps p.tables e below (T116.setTop (mkF m 375 #[.val (.int p0), .val (.int p1), .val (.int p2), .val (.int p3), .val (.int p4), .val (.ref b1), .val (.ref b7), .val (.int (Int32.ofNat i0)), .val (.int (Int32.ofNat j0)), .val (.int x0), .val (.int (Int32.ofNat i1)), .val (.int (Int32.ofNat j1)), .val (.int x1), .val (.int (Int32.ofNat i2)), .val (.int (Int32.ofNat j2)), .val (.int x2), .val (.int (Int32.ofNat i3)), .val (.int (Int32.ofNat j3)), .val (.int md), .val (.int (G3 i3 (Int32.ofNat j3))), .val (.int dl), .val (.int (Int32.ofNat iq)), .val (.int (Int32.ofNat jq)), .val (.ref r0), .val (.ref r1), .val (.int ((Int32.ofNat iq) * (4 : Int32)))] [])) _
    exact q
  have k119_ : ∀ t, Steps p.tables e below (T116.setTop (mkF m 379 #[.val (.int p0), .val (.int p1), .val (.int p2), .val (.int p3), .val (.int p4), .val (.ref b1), .val (.ref b7), .val (.int (Int32.ofNat i0)), .val (.int (Int32.ofNat j0)), .val (.int x0), .val (.int (Int32.ofNat i1)), .val (.int (Int32.ofNat j1)), .val (.int x1), .val (.int (Int32.ofNat i2)), .val (.int (Int32.ofNat j2)), .val (.int x2), .val (.int (Int32.ofNat i3)), .val (.int (Int32.ofNat j3)), .val (.int md), .val (.int (G3 i3 (Int32.ofNat j3))), .val (.int dl), .val (.int (Int32.ofNat iq)), .val (.int (Int32.ofNat jq)), .val (.ref r0), .val (.ref r1), .val (.int ((Int32.ofNat iq) * (4 : Int32)))] [(.int (0 : Int32)), (.int (5 : Int32)), (.ref r0)])) t → Steps p.tables e below (s₁.setTop (mkF m 0 #[.val (.int p0), .val (.int p1), .val (.int p2), .val (.int p3), .val (.int p4), .unset, .unset, .unset, .unset, .unset, .unset, .unset, .unset, .unset, .unset, .unset, .unset, .unset, .unset, .unset, .unset, .unset, .unset, .unset, .unset, .unset] [])) t := by
    intro t q
    refine k118_ _ ?_
    show Steps p.tables e below (T116.setTop (mkF m 375 #[.val (.int p0), .val (.int p1), .val (.int p2), .val (.int p3), .val (.int p4), .val (.ref b1), .val (.ref b7), .val (.int (Int32.ofNat i0)), .val (.int (Int32.ofNat j0)), .val (.int x0), .val (.int (Int32.ofNat i1)), .val (.int (Int32.ofNat j1)), .val (.int x1), .val (.int (Int32.ofNat i2)), .val (.int (Int32.ofNat j2)), .val (.int x2), .val (.int (Int32.ofNat i3)), .val (.int (Int32.ofNat j3)), .val (.int md), .val (.int (G3 i3 (Int32.ofNat j3))), .val (.int dl), .val (.int (Int32.ofNat iq)), .val (.int (Int32.ofNat jq)), .val (.ref r0), .val (.ref r1), .val (.int ((Int32.ofNat iq) * (4 : Int32)))] [])) _
    refine XS.aload X116.here hx rfl (hb hby at_375) rfl rfl ?_
    refine XS.iconst X116.here hx rfl (hb hby at_377) ?_
    refine XS.iconst X116.here hx rfl (hb hby at_378) ?_
    show Steps p.tables e below (T116.setTop (mkF m 379 #[.val (.int p0), .val (.int p1), .val (.int p2), .val (.int p3), .val (.int p4), .val (.ref b1), .val (.ref b7), .val (.int (Int32.ofNat i0)), .val (.int (Int32.ofNat j0)), .val (.int x0), .val (.int (Int32.ofNat i1)), .val (.int (Int32.ofNat j1)), .val (.int x1), .val (.int (Int32.ofNat i2)), .val (.int (Int32.ofNat j2)), .val (.int x2), .val (.int (Int32.ofNat i3)), .val (.int (Int32.ofNat j3)), .val (.int md), .val (.int (G3 i3 (Int32.ofNat j3))), .val (.int dl), .val (.int (Int32.ofNat iq)), .val (.int (Int32.ofNat jq)), .val (.ref r0), .val (.ref r1), .val (.int ((Int32.ofNat iq) * (4 : Int32)))] [(.int (0 : Int32)), (.int (5 : Int32)), (.ref r0)])) _
    exact q
  obtain ⟨_, _, ⟨T120, L120, kk120, n120⟩, -, X120, ⟨Lc120, hQ120, l120, y120, z120⟩, st120⟩ := Jvm.LawKit.callS X116 hx (y := (⟨"com/example/weir/weir/model/HeldTasksColumnPinLaw", "at", "([III)Z"⟩ : MethodName)) hown (mvT hZ (hw _ (List.mem_of_getElem? (i := 27) rfl))) (mvT hZ (hw _ (List.mem_of_getElem? (i := 28) rfl))) (mvT hZ (hw _ (List.mem_of_getElem? (i := 29) rfl))) (mvT hZ (hw _ (List.mem_of_getElem? (i := 30) rfl))) (by decide) (backOf (W := 0) (rmA l Z a0 hw [] r0 (5 : Int32) (0 : Int32) kr0 (Int32.ofNat jq) xs0 T80.heap n0 Zn VR0 (by decide) (own_ix0 (q := 5) h_jq (by decide) gr0 (z4 5 (by decide) (by decide)))) hZ (hw _ (List.mem_of_getElem? (i := 30) rfl)) (hw _ (List.mem_of_getElem? (i := 29) rfl)) (by decide) (by decide)) (g := (mkF m 379 #[.val (.int p0), .val (.int p1), .val (.int p2), .val (.int p3), .val (.int p4), .val (.ref b1), .val (.ref b7), .val (.int (Int32.ofNat i0)), .val (.int (Int32.ofNat j0)), .val (.int x0), .val (.int (Int32.ofNat i1)), .val (.int (Int32.ofNat j1)), .val (.int x1), .val (.int (Int32.ofNat i2)), .val (.int (Int32.ofNat j2)), .val (.int x2), .val (.int (Int32.ofNat i3)), .val (.int (Int32.ofNat j3)), .val (.int md), .val (.int (G3 i3 (Int32.ofNat j3))), .val (.int dl), .val (.int (Int32.ofNat iq)), .val (.int (Int32.ofNat jq)), .val (.ref r0), .val (.ref r1), .val (.int ((Int32.ofNat iq) * (4 : Int32)))] [(.int (0 : Int32)), (.int (5 : Int32)), (.ref r0)])) rfl (by rw [hml]; rfl) (argsL := [(.ref r0), (.int (5 : Int32)), (.int (0 : Int32))]) (rest := []) (lenOf pd_69762 rfl) rfl (by show 2 * 0 + _ ≤ _; exact Nat.le_of_eq rfl) (hb hby at_379) (fun _ _ => ⟨rfl, hq116, (by decide : 0 + 1 + 2 + 1 + 10 + 10 + 10 + 10 + 1 + 1 + 0 + 0 + 0 + 0 + 0 + 0 ≤ _), (by decide : 0 + 2 + 6 + 8 + 54 + 54 + 54 + 54 + 7 + 7 + 0 + 0 + 0 + 0 + 0 + 0 ≤ _)⟩)
  dsimp only [Pt.U, Pt.locs, Pt.cells, Pt.slots] at X120 l120 y120 z120 st120 hQ120
  rw [l120, y120, z120] at X120
  obtain ⟨rfl, Nq120, hq120⟩ := hQ120
  have N120 := Fr.app N116 Nq120
  have k121_ : ∀ t, Steps p.tables e below (T120.setTop (mkF m 382 #[.val (.int p0), .val (.int p1), .val (.int p2), .val (.int p3), .val (.int p4), .val (.ref b1), .val (.ref b7), .val (.int (Int32.ofNat i0)), .val (.int (Int32.ofNat j0)), .val (.int x0), .val (.int (Int32.ofNat i1)), .val (.int (Int32.ofNat j1)), .val (.int x1), .val (.int (Int32.ofNat i2)), .val (.int (Int32.ofNat j2)), .val (.int x2), .val (.int (Int32.ofNat i3)), .val (.int (Int32.ofNat j3)), .val (.int md), .val (.int (G3 i3 (Int32.ofNat j3))), .val (.int dl), .val (.int (Int32.ofNat iq)), .val (.int (Int32.ofNat jq)), .val (.ref r0), .val (.ref r1), .val (.int ((Int32.ofNat iq) * (4 : Int32)))] [(.int (1 : Int32))])) t → Steps p.tables e below (s₁.setTop (mkF m 0 #[.val (.int p0), .val (.int p1), .val (.int p2), .val (.int p3), .val (.int p4), .unset, .unset, .unset, .unset, .unset, .unset, .unset, .unset, .unset, .unset, .unset, .unset, .unset, .unset, .unset, .unset, .unset, .unset, .unset, .unset, .unset] [])) t := fun t q => k119_ t (st120 t q)
  have k122_ : ∀ t, Steps p.tables e below (T120.setTop (mkF m 385 #[.val (.int p0), .val (.int p1), .val (.int p2), .val (.int p3), .val (.int p4), .val (.ref b1), .val (.ref b7), .val (.int (Int32.ofNat i0)), .val (.int (Int32.ofNat j0)), .val (.int x0), .val (.int (Int32.ofNat i1)), .val (.int (Int32.ofNat j1)), .val (.int x1), .val (.int (Int32.ofNat i2)), .val (.int (Int32.ofNat j2)), .val (.int x2), .val (.int (Int32.ofNat i3)), .val (.int (Int32.ofNat j3)), .val (.int md), .val (.int (G3 i3 (Int32.ofNat j3))), .val (.int dl), .val (.int (Int32.ofNat iq)), .val (.int (Int32.ofNat jq)), .val (.ref r0), .val (.ref r1), .val (.int ((Int32.ofNat iq) * (4 : Int32)))] [])) t → Steps p.tables e below (s₁.setTop (mkF m 0 #[.val (.int p0), .val (.int p1), .val (.int p2), .val (.int p3), .val (.int p4), .unset, .unset, .unset, .unset, .unset, .unset, .unset, .unset, .unset, .unset, .unset, .unset, .unset, .unset, .unset, .unset, .unset, .unset, .unset, .unset, .unset] [])) t := by
    intro t q
    refine k121_ _ ?_
    show Steps p.tables e below (T120.setTop (mkF m 382 #[.val (.int p0), .val (.int p1), .val (.int p2), .val (.int p3), .val (.int p4), .val (.ref b1), .val (.ref b7), .val (.int (Int32.ofNat i0)), .val (.int (Int32.ofNat j0)), .val (.int x0), .val (.int (Int32.ofNat i1)), .val (.int (Int32.ofNat j1)), .val (.int x1), .val (.int (Int32.ofNat i2)), .val (.int (Int32.ofNat j2)), .val (.int x2), .val (.int (Int32.ofNat i3)), .val (.int (Int32.ofNat j3)), .val (.int md), .val (.int (G3 i3 (Int32.ofNat j3))), .val (.int dl), .val (.int (Int32.ofNat iq)), .val (.int (Int32.ofNat jq)), .val (.ref r0), .val (.ref r1), .val (.int ((Int32.ofNat iq) * (4 : Int32)))] [(.int (1 : Int32))])) _
    refine XS.ifNo X120.here hx rfl (hb hby at_382) rfl ((if0 _ _).trans (feq (by decide)).1) ?_
    show Steps p.tables e below (T120.setTop (mkF m 385 #[.val (.int p0), .val (.int p1), .val (.int p2), .val (.int p3), .val (.int p4), .val (.ref b1), .val (.ref b7), .val (.int (Int32.ofNat i0)), .val (.int (Int32.ofNat j0)), .val (.int x0), .val (.int (Int32.ofNat i1)), .val (.int (Int32.ofNat j1)), .val (.int x1), .val (.int (Int32.ofNat i2)), .val (.int (Int32.ofNat j2)), .val (.int x2), .val (.int (Int32.ofNat i3)), .val (.int (Int32.ofNat j3)), .val (.int md), .val (.int (G3 i3 (Int32.ofNat j3))), .val (.int dl), .val (.int (Int32.ofNat iq)), .val (.int (Int32.ofNat jq)), .val (.ref r0), .val (.ref r1), .val (.int ((Int32.ofNat iq) * (4 : Int32)))] [])) _
    exact q
  have k123_ : ∀ t, Steps p.tables e below (T120.setTop (mkF m 390 #[.val (.int p0), .val (.int p1), .val (.int p2), .val (.int p3), .val (.int p4), .val (.ref b1), .val (.ref b7), .val (.int (Int32.ofNat i0)), .val (.int (Int32.ofNat j0)), .val (.int x0), .val (.int (Int32.ofNat i1)), .val (.int (Int32.ofNat j1)), .val (.int x1), .val (.int (Int32.ofNat i2)), .val (.int (Int32.ofNat j2)), .val (.int x2), .val (.int (Int32.ofNat i3)), .val (.int (Int32.ofNat j3)), .val (.int md), .val (.int (G3 i3 (Int32.ofNat j3))), .val (.int dl), .val (.int (Int32.ofNat iq)), .val (.int (Int32.ofNat jq)), .val (.ref r0), .val (.ref r1), .val (.int ((Int32.ofNat iq) * (4 : Int32)))] [(.int (0 : Int32)), (.int (6 : Int32)), (.ref r0)])) t → Steps p.tables e below (s₁.setTop (mkF m 0 #[.val (.int p0), .val (.int p1), .val (.int p2), .val (.int p3), .val (.int p4), .unset, .unset, .unset, .unset, .unset, .unset, .unset, .unset, .unset, .unset, .unset, .unset, .unset, .unset, .unset, .unset, .unset, .unset, .unset, .unset, .unset] [])) t := by
    intro t q
    refine k122_ _ ?_
    show Steps p.tables e below (T120.setTop (mkF m 385 #[.val (.int p0), .val (.int p1), .val (.int p2), .val (.int p3), .val (.int p4), .val (.ref b1), .val (.ref b7), .val (.int (Int32.ofNat i0)), .val (.int (Int32.ofNat j0)), .val (.int x0), .val (.int (Int32.ofNat i1)), .val (.int (Int32.ofNat j1)), .val (.int x1), .val (.int (Int32.ofNat i2)), .val (.int (Int32.ofNat j2)), .val (.int x2), .val (.int (Int32.ofNat i3)), .val (.int (Int32.ofNat j3)), .val (.int md), .val (.int (G3 i3 (Int32.ofNat j3))), .val (.int dl), .val (.int (Int32.ofNat iq)), .val (.int (Int32.ofNat jq)), .val (.ref r0), .val (.ref r1), .val (.int ((Int32.ofNat iq) * (4 : Int32)))] [])) _
    refine XS.aload X120.here hx rfl (hb hby at_385) rfl rfl ?_
    refine XS.bipush X120.here hx rfl (hb hby at_387) ?_
    refine XS.iconst X120.here hx rfl (hb hby at_389) ?_
    show Steps p.tables e below (T120.setTop (mkF m 390 #[.val (.int p0), .val (.int p1), .val (.int p2), .val (.int p3), .val (.int p4), .val (.ref b1), .val (.ref b7), .val (.int (Int32.ofNat i0)), .val (.int (Int32.ofNat j0)), .val (.int x0), .val (.int (Int32.ofNat i1)), .val (.int (Int32.ofNat j1)), .val (.int x1), .val (.int (Int32.ofNat i2)), .val (.int (Int32.ofNat j2)), .val (.int x2), .val (.int (Int32.ofNat i3)), .val (.int (Int32.ofNat j3)), .val (.int md), .val (.int (G3 i3 (Int32.ofNat j3))), .val (.int dl), .val (.int (Int32.ofNat iq)), .val (.int (Int32.ofNat jq)), .val (.ref r0), .val (.ref r1), .val (.int ((Int32.ofNat iq) * (4 : Int32)))] [(.int (0 : Int32)), (.int (6 : Int32)), (.ref r0)])) _
    exact q
  obtain ⟨_, _, ⟨T124, L124, kk124, n124⟩, -, X124, ⟨Lc124, hQ124, l124, y124, z124⟩, st124⟩ := Jvm.LawKit.callS X120 hx (y := (⟨"com/example/weir/weir/model/HeldTasksColumnPinLaw", "at", "([III)Z"⟩ : MethodName)) hown (mvT hZ (hw _ (List.mem_of_getElem? (i := 27) rfl))) (mvT hZ (hw _ (List.mem_of_getElem? (i := 28) rfl))) (mvT hZ (hw _ (List.mem_of_getElem? (i := 29) rfl))) (mvT hZ (hw _ (List.mem_of_getElem? (i := 30) rfl))) (by decide) (backOf (W := 0) (rmA l Z a0 hw [] r0 (6 : Int32) (0 : Int32) kr0 (Int32.ofNat jq) xs0 T80.heap n0 Zn VR0 (by decide) (own_ix0 (q := 6) h_jq (by decide) gr0 (z4 6 (by decide) (by decide)))) hZ (hw _ (List.mem_of_getElem? (i := 30) rfl)) (hw _ (List.mem_of_getElem? (i := 29) rfl)) (by decide) (by decide)) (g := (mkF m 390 #[.val (.int p0), .val (.int p1), .val (.int p2), .val (.int p3), .val (.int p4), .val (.ref b1), .val (.ref b7), .val (.int (Int32.ofNat i0)), .val (.int (Int32.ofNat j0)), .val (.int x0), .val (.int (Int32.ofNat i1)), .val (.int (Int32.ofNat j1)), .val (.int x1), .val (.int (Int32.ofNat i2)), .val (.int (Int32.ofNat j2)), .val (.int x2), .val (.int (Int32.ofNat i3)), .val (.int (Int32.ofNat j3)), .val (.int md), .val (.int (G3 i3 (Int32.ofNat j3))), .val (.int dl), .val (.int (Int32.ofNat iq)), .val (.int (Int32.ofNat jq)), .val (.ref r0), .val (.ref r1), .val (.int ((Int32.ofNat iq) * (4 : Int32)))] [(.int (0 : Int32)), (.int (6 : Int32)), (.ref r0)])) rfl (by rw [hml]; rfl) (argsL := [(.ref r0), (.int (6 : Int32)), (.int (0 : Int32))]) (rest := []) (lenOf pd_69762 rfl) rfl (by show 2 * 0 + _ ≤ _; exact Nat.le_of_eq rfl) (hb hby at_390) (fun _ _ => ⟨rfl, hq120, (by decide : 0 + 1 + 2 + 1 + 10 + 10 + 10 + 10 + 1 + 1 + 0 + 0 + 0 + 0 + 0 + 0 + 0 ≤ _), (by decide : 0 + 2 + 6 + 8 + 54 + 54 + 54 + 54 + 7 + 7 + 0 + 0 + 0 + 0 + 0 + 0 + 0 ≤ _)⟩)
  dsimp only [Pt.U, Pt.locs, Pt.cells, Pt.slots] at X124 l124 y124 z124 st124 hQ124
  rw [l124, y124, z124] at X124
  obtain ⟨rfl, Nq124, hq124⟩ := hQ124
  have N124 := Fr.app N120 Nq124
  have k125_ : ∀ t, Steps p.tables e below (T124.setTop (mkF m 393 #[.val (.int p0), .val (.int p1), .val (.int p2), .val (.int p3), .val (.int p4), .val (.ref b1), .val (.ref b7), .val (.int (Int32.ofNat i0)), .val (.int (Int32.ofNat j0)), .val (.int x0), .val (.int (Int32.ofNat i1)), .val (.int (Int32.ofNat j1)), .val (.int x1), .val (.int (Int32.ofNat i2)), .val (.int (Int32.ofNat j2)), .val (.int x2), .val (.int (Int32.ofNat i3)), .val (.int (Int32.ofNat j3)), .val (.int md), .val (.int (G3 i3 (Int32.ofNat j3))), .val (.int dl), .val (.int (Int32.ofNat iq)), .val (.int (Int32.ofNat jq)), .val (.ref r0), .val (.ref r1), .val (.int ((Int32.ofNat iq) * (4 : Int32)))] [(.int (1 : Int32))])) t → Steps p.tables e below (s₁.setTop (mkF m 0 #[.val (.int p0), .val (.int p1), .val (.int p2), .val (.int p3), .val (.int p4), .unset, .unset, .unset, .unset, .unset, .unset, .unset, .unset, .unset, .unset, .unset, .unset, .unset, .unset, .unset, .unset, .unset, .unset, .unset, .unset, .unset] [])) t := fun t q => k123_ t (st124 t q)
  have k126_ : ∀ t, Steps p.tables e below (T124.setTop (mkF m 396 #[.val (.int p0), .val (.int p1), .val (.int p2), .val (.int p3), .val (.int p4), .val (.ref b1), .val (.ref b7), .val (.int (Int32.ofNat i0)), .val (.int (Int32.ofNat j0)), .val (.int x0), .val (.int (Int32.ofNat i1)), .val (.int (Int32.ofNat j1)), .val (.int x1), .val (.int (Int32.ofNat i2)), .val (.int (Int32.ofNat j2)), .val (.int x2), .val (.int (Int32.ofNat i3)), .val (.int (Int32.ofNat j3)), .val (.int md), .val (.int (G3 i3 (Int32.ofNat j3))), .val (.int dl), .val (.int (Int32.ofNat iq)), .val (.int (Int32.ofNat jq)), .val (.ref r0), .val (.ref r1), .val (.int ((Int32.ofNat iq) * (4 : Int32)))] [])) t → Steps p.tables e below (s₁.setTop (mkF m 0 #[.val (.int p0), .val (.int p1), .val (.int p2), .val (.int p3), .val (.int p4), .unset, .unset, .unset, .unset, .unset, .unset, .unset, .unset, .unset, .unset, .unset, .unset, .unset, .unset, .unset, .unset, .unset, .unset, .unset, .unset, .unset] [])) t := by
    intro t q
    refine k125_ _ ?_
    show Steps p.tables e below (T124.setTop (mkF m 393 #[.val (.int p0), .val (.int p1), .val (.int p2), .val (.int p3), .val (.int p4), .val (.ref b1), .val (.ref b7), .val (.int (Int32.ofNat i0)), .val (.int (Int32.ofNat j0)), .val (.int x0), .val (.int (Int32.ofNat i1)), .val (.int (Int32.ofNat j1)), .val (.int x1), .val (.int (Int32.ofNat i2)), .val (.int (Int32.ofNat j2)), .val (.int x2), .val (.int (Int32.ofNat i3)), .val (.int (Int32.ofNat j3)), .val (.int md), .val (.int (G3 i3 (Int32.ofNat j3))), .val (.int dl), .val (.int (Int32.ofNat iq)), .val (.int (Int32.ofNat jq)), .val (.ref r0), .val (.ref r1), .val (.int ((Int32.ofNat iq) * (4 : Int32)))] [(.int (1 : Int32))])) _
    refine XS.ifNo X124.here hx rfl (hb hby at_393) rfl ((if0 _ _).trans (feq (by decide)).1) ?_
    show Steps p.tables e below (T124.setTop (mkF m 396 #[.val (.int p0), .val (.int p1), .val (.int p2), .val (.int p3), .val (.int p4), .val (.ref b1), .val (.ref b7), .val (.int (Int32.ofNat i0)), .val (.int (Int32.ofNat j0)), .val (.int x0), .val (.int (Int32.ofNat i1)), .val (.int (Int32.ofNat j1)), .val (.int x1), .val (.int (Int32.ofNat i2)), .val (.int (Int32.ofNat j2)), .val (.int x2), .val (.int (Int32.ofNat i3)), .val (.int (Int32.ofNat j3)), .val (.int md), .val (.int (G3 i3 (Int32.ofNat j3))), .val (.int dl), .val (.int (Int32.ofNat iq)), .val (.int (Int32.ofNat jq)), .val (.ref r0), .val (.ref r1), .val (.int ((Int32.ofNat iq) * (4 : Int32)))] [])) _
    exact q
  have k127_ : ∀ t, Steps p.tables e below (T124.setTop (mkF m 401 #[.val (.int p0), .val (.int p1), .val (.int p2), .val (.int p3), .val (.int p4), .val (.ref b1), .val (.ref b7), .val (.int (Int32.ofNat i0)), .val (.int (Int32.ofNat j0)), .val (.int x0), .val (.int (Int32.ofNat i1)), .val (.int (Int32.ofNat j1)), .val (.int x1), .val (.int (Int32.ofNat i2)), .val (.int (Int32.ofNat j2)), .val (.int x2), .val (.int (Int32.ofNat i3)), .val (.int (Int32.ofNat j3)), .val (.int md), .val (.int (G3 i3 (Int32.ofNat j3))), .val (.int dl), .val (.int (Int32.ofNat iq)), .val (.int (Int32.ofNat jq)), .val (.ref r0), .val (.ref r1), .val (.int ((Int32.ofNat iq) * (4 : Int32)))] [(.int (0 : Int32)), (.int (7 : Int32)), (.ref r0)])) t → Steps p.tables e below (s₁.setTop (mkF m 0 #[.val (.int p0), .val (.int p1), .val (.int p2), .val (.int p3), .val (.int p4), .unset, .unset, .unset, .unset, .unset, .unset, .unset, .unset, .unset, .unset, .unset, .unset, .unset, .unset, .unset, .unset, .unset, .unset, .unset, .unset, .unset] [])) t := by
    intro t q
    refine k126_ _ ?_
    show Steps p.tables e below (T124.setTop (mkF m 396 #[.val (.int p0), .val (.int p1), .val (.int p2), .val (.int p3), .val (.int p4), .val (.ref b1), .val (.ref b7), .val (.int (Int32.ofNat i0)), .val (.int (Int32.ofNat j0)), .val (.int x0), .val (.int (Int32.ofNat i1)), .val (.int (Int32.ofNat j1)), .val (.int x1), .val (.int (Int32.ofNat i2)), .val (.int (Int32.ofNat j2)), .val (.int x2), .val (.int (Int32.ofNat i3)), .val (.int (Int32.ofNat j3)), .val (.int md), .val (.int (G3 i3 (Int32.ofNat j3))), .val (.int dl), .val (.int (Int32.ofNat iq)), .val (.int (Int32.ofNat jq)), .val (.ref r0), .val (.ref r1), .val (.int ((Int32.ofNat iq) * (4 : Int32)))] [])) _
    refine XS.aload X124.here hx rfl (hb hby at_396) rfl rfl ?_
    refine XS.bipush X124.here hx rfl (hb hby at_398) ?_
    refine XS.iconst X124.here hx rfl (hb hby at_400) ?_
    show Steps p.tables e below (T124.setTop (mkF m 401 #[.val (.int p0), .val (.int p1), .val (.int p2), .val (.int p3), .val (.int p4), .val (.ref b1), .val (.ref b7), .val (.int (Int32.ofNat i0)), .val (.int (Int32.ofNat j0)), .val (.int x0), .val (.int (Int32.ofNat i1)), .val (.int (Int32.ofNat j1)), .val (.int x1), .val (.int (Int32.ofNat i2)), .val (.int (Int32.ofNat j2)), .val (.int x2), .val (.int (Int32.ofNat i3)), .val (.int (Int32.ofNat j3)), .val (.int md), .val (.int (G3 i3 (Int32.ofNat j3))), .val (.int dl), .val (.int (Int32.ofNat iq)), .val (.int (Int32.ofNat jq)), .val (.ref r0), .val (.ref r1), .val (.int ((Int32.ofNat iq) * (4 : Int32)))] [(.int (0 : Int32)), (.int (7 : Int32)), (.ref r0)])) _
    exact q
  obtain ⟨_, _, ⟨T128, L128, kk128, n128⟩, -, X128, ⟨Lc128, hQ128, l128, y128, z128⟩, st128⟩ := Jvm.LawKit.callS X124 hx (y := (⟨"com/example/weir/weir/model/HeldTasksColumnPinLaw", "at", "([III)Z"⟩ : MethodName)) hown (mvT hZ (hw _ (List.mem_of_getElem? (i := 27) rfl))) (mvT hZ (hw _ (List.mem_of_getElem? (i := 28) rfl))) (mvT hZ (hw _ (List.mem_of_getElem? (i := 29) rfl))) (mvT hZ (hw _ (List.mem_of_getElem? (i := 30) rfl))) (by decide) (backOf (W := 0) (rmA l Z a0 hw [] r0 (7 : Int32) (0 : Int32) kr0 (Int32.ofNat jq) xs0 T80.heap n0 Zn VR0 (by decide) (own_ix0 (q := 7) h_jq (by decide) gr0 (z4 7 (by decide) (by decide)))) hZ (hw _ (List.mem_of_getElem? (i := 30) rfl)) (hw _ (List.mem_of_getElem? (i := 29) rfl)) (by decide) (by decide)) (g := (mkF m 401 #[.val (.int p0), .val (.int p1), .val (.int p2), .val (.int p3), .val (.int p4), .val (.ref b1), .val (.ref b7), .val (.int (Int32.ofNat i0)), .val (.int (Int32.ofNat j0)), .val (.int x0), .val (.int (Int32.ofNat i1)), .val (.int (Int32.ofNat j1)), .val (.int x1), .val (.int (Int32.ofNat i2)), .val (.int (Int32.ofNat j2)), .val (.int x2), .val (.int (Int32.ofNat i3)), .val (.int (Int32.ofNat j3)), .val (.int md), .val (.int (G3 i3 (Int32.ofNat j3))), .val (.int dl), .val (.int (Int32.ofNat iq)), .val (.int (Int32.ofNat jq)), .val (.ref r0), .val (.ref r1), .val (.int ((Int32.ofNat iq) * (4 : Int32)))] [(.int (0 : Int32)), (.int (7 : Int32)), (.ref r0)])) rfl (by rw [hml]; rfl) (argsL := [(.ref r0), (.int (7 : Int32)), (.int (0 : Int32))]) (rest := []) (lenOf pd_69762 rfl) rfl (by show 2 * 0 + _ ≤ _; exact Nat.le_of_eq rfl) (hb hby at_401) (fun _ _ => ⟨rfl, hq124, (by decide : 0 + 1 + 2 + 1 + 10 + 10 + 10 + 10 + 1 + 1 + 0 + 0 + 0 + 0 + 0 + 0 + 0 + 0 ≤ _), (by decide : 0 + 2 + 6 + 8 + 54 + 54 + 54 + 54 + 7 + 7 + 0 + 0 + 0 + 0 + 0 + 0 + 0 + 0 ≤ _)⟩)
  dsimp only [Pt.U, Pt.locs, Pt.cells, Pt.slots] at X128 l128 y128 z128 st128 hQ128
  rw [l128, y128, z128] at X128
  obtain ⟨rfl, Nq128, hq128⟩ := hQ128
  have N128 := Fr.app N124 Nq128
  have k129_ : ∀ t, Steps p.tables e below (T128.setTop (mkF m 404 #[.val (.int p0), .val (.int p1), .val (.int p2), .val (.int p3), .val (.int p4), .val (.ref b1), .val (.ref b7), .val (.int (Int32.ofNat i0)), .val (.int (Int32.ofNat j0)), .val (.int x0), .val (.int (Int32.ofNat i1)), .val (.int (Int32.ofNat j1)), .val (.int x1), .val (.int (Int32.ofNat i2)), .val (.int (Int32.ofNat j2)), .val (.int x2), .val (.int (Int32.ofNat i3)), .val (.int (Int32.ofNat j3)), .val (.int md), .val (.int (G3 i3 (Int32.ofNat j3))), .val (.int dl), .val (.int (Int32.ofNat iq)), .val (.int (Int32.ofNat jq)), .val (.ref r0), .val (.ref r1), .val (.int ((Int32.ofNat iq) * (4 : Int32)))] [(.int (1 : Int32))])) t → Steps p.tables e below (s₁.setTop (mkF m 0 #[.val (.int p0), .val (.int p1), .val (.int p2), .val (.int p3), .val (.int p4), .unset, .unset, .unset, .unset, .unset, .unset, .unset, .unset, .unset, .unset, .unset, .unset, .unset, .unset, .unset, .unset, .unset, .unset, .unset, .unset, .unset] [])) t := fun t q => k127_ t (st128 t q)
  have k130_ : ∀ t, Steps p.tables e below (T128.setTop (mkF m 407 #[.val (.int p0), .val (.int p1), .val (.int p2), .val (.int p3), .val (.int p4), .val (.ref b1), .val (.ref b7), .val (.int (Int32.ofNat i0)), .val (.int (Int32.ofNat j0)), .val (.int x0), .val (.int (Int32.ofNat i1)), .val (.int (Int32.ofNat j1)), .val (.int x1), .val (.int (Int32.ofNat i2)), .val (.int (Int32.ofNat j2)), .val (.int x2), .val (.int (Int32.ofNat i3)), .val (.int (Int32.ofNat j3)), .val (.int md), .val (.int (G3 i3 (Int32.ofNat j3))), .val (.int dl), .val (.int (Int32.ofNat iq)), .val (.int (Int32.ofNat jq)), .val (.ref r0), .val (.ref r1), .val (.int ((Int32.ofNat iq) * (4 : Int32)))] [])) t → Steps p.tables e below (s₁.setTop (mkF m 0 #[.val (.int p0), .val (.int p1), .val (.int p2), .val (.int p3), .val (.int p4), .unset, .unset, .unset, .unset, .unset, .unset, .unset, .unset, .unset, .unset, .unset, .unset, .unset, .unset, .unset, .unset, .unset, .unset, .unset, .unset, .unset] [])) t := by
    intro t q
    refine k129_ _ ?_
    show Steps p.tables e below (T128.setTop (mkF m 404 #[.val (.int p0), .val (.int p1), .val (.int p2), .val (.int p3), .val (.int p4), .val (.ref b1), .val (.ref b7), .val (.int (Int32.ofNat i0)), .val (.int (Int32.ofNat j0)), .val (.int x0), .val (.int (Int32.ofNat i1)), .val (.int (Int32.ofNat j1)), .val (.int x1), .val (.int (Int32.ofNat i2)), .val (.int (Int32.ofNat j2)), .val (.int x2), .val (.int (Int32.ofNat i3)), .val (.int (Int32.ofNat j3)), .val (.int md), .val (.int (G3 i3 (Int32.ofNat j3))), .val (.int dl), .val (.int (Int32.ofNat iq)), .val (.int (Int32.ofNat jq)), .val (.ref r0), .val (.ref r1), .val (.int ((Int32.ofNat iq) * (4 : Int32)))] [(.int (1 : Int32))])) _
    refine XS.ifNo X128.here hx rfl (hb hby at_404) rfl ((if0 _ _).trans (feq (by decide)).1) ?_
    show Steps p.tables e below (T128.setTop (mkF m 407 #[.val (.int p0), .val (.int p1), .val (.int p2), .val (.int p3), .val (.int p4), .val (.ref b1), .val (.ref b7), .val (.int (Int32.ofNat i0)), .val (.int (Int32.ofNat j0)), .val (.int x0), .val (.int (Int32.ofNat i1)), .val (.int (Int32.ofNat j1)), .val (.int x1), .val (.int (Int32.ofNat i2)), .val (.int (Int32.ofNat j2)), .val (.int x2), .val (.int (Int32.ofNat i3)), .val (.int (Int32.ofNat j3)), .val (.int md), .val (.int (G3 i3 (Int32.ofNat j3))), .val (.int dl), .val (.int (Int32.ofNat iq)), .val (.int (Int32.ofNat jq)), .val (.ref r0), .val (.ref r1), .val (.int ((Int32.ofNat iq) * (4 : Int32)))] [])) _
    exact q
  have k131_ : ∀ t, Steps p.tables e below (T128.setTop (mkF m 412 #[.val (.int p0), .val (.int p1), .val (.int p2), .val (.int p3), .val (.int p4), .val (.ref b1), .val (.ref b7), .val (.int (Int32.ofNat i0)), .val (.int (Int32.ofNat j0)), .val (.int x0), .val (.int (Int32.ofNat i1)), .val (.int (Int32.ofNat j1)), .val (.int x1), .val (.int (Int32.ofNat i2)), .val (.int (Int32.ofNat j2)), .val (.int x2), .val (.int (Int32.ofNat i3)), .val (.int (Int32.ofNat j3)), .val (.int md), .val (.int (G3 i3 (Int32.ofNat j3))), .val (.int dl), .val (.int (Int32.ofNat iq)), .val (.int (Int32.ofNat jq)), .val (.ref r0), .val (.ref r1), .val (.int ((Int32.ofNat iq) * (4 : Int32)))] [(.int (1 : Int32))])) t → Steps p.tables e below (s₁.setTop (mkF m 0 #[.val (.int p0), .val (.int p1), .val (.int p2), .val (.int p3), .val (.int p4), .unset, .unset, .unset, .unset, .unset, .unset, .unset, .unset, .unset, .unset, .unset, .unset, .unset, .unset, .unset, .unset, .unset, .unset, .unset, .unset, .unset] [])) t := by
    intro t q
    refine k130_ _ ?_
    show Steps p.tables e below (T128.setTop (mkF m 407 #[.val (.int p0), .val (.int p1), .val (.int p2), .val (.int p3), .val (.int p4), .val (.ref b1), .val (.ref b7), .val (.int (Int32.ofNat i0)), .val (.int (Int32.ofNat j0)), .val (.int x0), .val (.int (Int32.ofNat i1)), .val (.int (Int32.ofNat j1)), .val (.int x1), .val (.int (Int32.ofNat i2)), .val (.int (Int32.ofNat j2)), .val (.int x2), .val (.int (Int32.ofNat i3)), .val (.int (Int32.ofNat j3)), .val (.int md), .val (.int (G3 i3 (Int32.ofNat j3))), .val (.int dl), .val (.int (Int32.ofNat iq)), .val (.int (Int32.ofNat jq)), .val (.ref r0), .val (.ref r1), .val (.int ((Int32.ofNat iq) * (4 : Int32)))] [])) _
    refine XS.iconst X128.here hx rfl (hb hby at_407) ?_
    refine XS.goto X128.here hx rfl (pc0 := 408) (pc' := 412) rfl (hb hby at_408) (by decide) (by decide) ?_
    show Steps p.tables e below (T128.setTop (mkF m 412 #[.val (.int p0), .val (.int p1), .val (.int p2), .val (.int p3), .val (.int p4), .val (.ref b1), .val (.ref b7), .val (.int (Int32.ofNat i0)), .val (.int (Int32.ofNat j0)), .val (.int x0), .val (.int (Int32.ofNat i1)), .val (.int (Int32.ofNat j1)), .val (.int x1), .val (.int (Int32.ofNat i2)), .val (.int (Int32.ofNat j2)), .val (.int x2), .val (.int (Int32.ofNat i3)), .val (.int (Int32.ofNat j3)), .val (.int md), .val (.int (G3 i3 (Int32.ofNat j3))), .val (.int dl), .val (.int (Int32.ofNat iq)), .val (.int (Int32.ofNat jq)), .val (.ref r0), .val (.ref r1), .val (.int ((Int32.ofNat iq) * (4 : Int32)))] [(.int (1 : Int32))])) _
    exact q
  obtain ⟨fs, hr, hrun, hended, hW, hsame⟩ := X128.leave (v := some (.int (1 : Int32))) (fun h => by rw [Bd.returns] at h; cases h)
  refine ⟨_, _, pre0 _ (k131_ _ ?_), hrun, hended, _, _, rfl, ?_, ⟨_, rfl⟩, hW, hsame.mono (by decide) (by decide)⟩
  · show Steps p.tables e below (T128.setTop (mkF m 412 #[.val (.int p0), .val (.int p1), .val (.int p2), .val (.int p3), .val (.int p4), .val (.ref b1), .val (.ref b7), .val (.int (Int32.ofNat i0)), .val (.int (Int32.ofNat j0)), .val (.int x0), .val (.int (Int32.ofNat i1)), .val (.int (Int32.ofNat j1)), .val (.int x1), .val (.int (Int32.ofNat i2)), .val (.int (Int32.ofNat j2)), .val (.int x2), .val (.int (Int32.ofNat i3)), .val (.int (Int32.ofNat j3)), .val (.int md), .val (.int (G3 i3 (Int32.ofNat j3))), .val (.int dl), .val (.int (Int32.ofNat iq)), .val (.int (Int32.ofNat jq)), .val (.ref r0), .val (.ref r1), .val (.int ((Int32.ofNat iq) * (4 : Int32)))] [(.int (1 : Int32))])) _
    exact retN X128 hx (t := .boolean) Bd.returns (by simp) (hb hby at_412) hr
  · show Q0 Z p0 p1 p2 p3 p4 h0 n0 _ T128.heap _
    rw [hq128]
    exact ⟨rfl, N128⟩
set_option maxRecDepth 65536 in
set_option maxHeartbeats 40000000 in
theorem comes_1 {Post : Tables → Env → Array Value → State → Outcome → State → Prop} (hpost : ∀ tb e args s v u, (limb_1_1.after args s (.returned v) u = true ∧ limb_1_2.after args s (.returned v) u = true ∧ True) → FrameEnd s (.returned v) u (Jvm.fieldLocs frame_1_writes args s ++ Jvm.arrayLocs frame_1_arrays args s ++ Jvm.staticLocs frame_1_statics s) 56 256 → Post tb e args s (.returned v) u) :
    ArmFor flags0 classFile x code maxLocals ret World_1 tables_1 room_1 Calls_1 rest_1 Pre_1 Post := by
  intro l hfl _ _ p e ha hc hk s m args below hf hA hF happ hP
  obtain ⟨hcalls, hrest, hpre⟩ := hP
  obtain ⟨-, -, -, hnamed, -, -, -, hat⟩ := (Spec.applies_iff hf).mp happ
  obtain ⟨hg, hn⟩ := and_e (Cond.before_iff.mp (show (Jvm.Cond.and given_1 narrow_1).before args s = true from hpre))
  obtain ⟨hcnt, hg0⟩ := and_e hg
  obtain ⟨hi0, hg1⟩ := and_e hg0
  obtain ⟨hi1, hg2⟩ := and_e hg1
  obtain ⟨hi2, hg3⟩ := and_e hg2
  obtain ⟨hi3, hg4⟩ := and_e hg3
  have hi4 := hg4
  obtain ⟨w0, w1, w2, w3, w4, rfl⟩ : ∃ w0 w1 w2 w3 w4 : Value, args = #[w0, w1, w2, w3, w4] := by
    have hs : args.size = 5 := by simpa [Cond.value, given_1] using hcnt
    obtain ⟨L⟩ := args
    match L, hs with
    | [w0, w1, w2, w3, w4], _ => exact ⟨w0, w1, w2, w3, w4, rfl⟩
  have hw := fun d (hd : d ∈ tables_1) => atoms_spec (ws := Jvm.Cond.code x code maxLocals ret :: tables_1) hat d (List.mem_cons_of_mem _ hd)
  have hfit : Fit s := fun {y c} hc i hi => by
    obtain ⟨ha, rfl⟩ := Array.getElem?_eq_some_iff.mp hc
    have q := List.all_eq_true.mp ((Array.all_eq_true_iff_forall_mem.mp hF) _ (Array.getElem_mem ha)) i (List.mem_range.mpr hi)
    simpa [Array.getElem?_eq_getElem hi] using q
  obtain ⟨i0, ei0⟩ := is_v hi0
  obtain rfl : w0 = (.int i0) := Option.some.inj ei0
  obtain ⟨i1, ei1⟩ := is_v hi1
  obtain rfl : w1 = (.int i1) := Option.some.inj ei1
  obtain ⟨i2, ei2⟩ := is_v hi2
  obtain rfl : w2 = (.int i2) := Option.some.inj ei2
  obtain ⟨i3, ei3⟩ := is_v hi3
  obtain rfl : w3 = (.int i3) := Option.some.inj ei3
  obtain ⟨i4, ei4⟩ := is_v hi4
  obtain rfl : w4 = (.int i4) := Option.some.inj ei4
  obtain ⟨n, o, h1, h2, h3, _, L, rfl, ⟨rfl, N⟩, hq⟩ := rm0 l s _ hw tables_1 i0 i1 i2 i3 i4  s.heap s.heap.size (Nat.le_refl _)  p e ha hc hk s m _ below hf ((Spec.applies_iff_loose hf).mp happ).1 ⟨rfl, State.Warmed39.refl s, rfl⟩ trivial
  refine ⟨n, _, h1, h2, h3, hpost _ _ _ _ _ _ ⟨Cond.after_iff.mpr rfl, Cond.after_iff.mpr (eq_i res_at (Term.int_eval (1)) rfl), trivial⟩ ⟨hq.1, hq.2.1, (hq.2.2.sift fun y hy => Or.inr (N y hy)).mono (by decide) (by decide)⟩⟩
theorem main_1_1 : Claimed_1_1 := comes_1 fun _ _ _ _ _ _ h hF => ⟨h.1, hF⟩
theorem main_1_2 : Claimed_1_2 := comes_1 fun _ _ _ _ _ _ h hF => ⟨h.2.1, hF⟩
end Jvm.Pilot.@@N@@
namespace Jvm.Pilot.@@N@@
open Jvm Jvm.ClassFile Sem Op Lib Jvm.Free Jvm.Stand Jvm.Pilot.@@N@@.Jvm.D
/-! MADE BY PROGRAM (witnessworld.py) out of the Statement's table words and the real class files: 12 classes; the members and pool entries that the words name. The judged class is class 1, her method 2. -/
namespace start1
open Jvm.ClassFile
def u (s : String) : CpInfo := .utf8 (stringToUtf16 s)
/-- a pool by its gaps: so many unusable entries, then the entry; so many at the end -/
def gap : Nat → List CpInfo → List CpInfo
  | 0, r => r
  | n + 1, r => .unusable :: gap n r
def poolList (es : List (Nat × CpInfo)) (last : Nat) : List CpInfo := es.foldr (fun e r => gap e.1 (e.2 :: r)) (gap last [])
def pool (es : List (Nat × CpInfo)) (last : Nat) : Array CpInfo := ⟨poolList es last⟩
def fileOf (pool : Array CpInfo) (this : Nat) (attrs : Array Attribute := #[]) (ms : Array MethodInfo := #[]) (fl : Nat := 33) (sup : Nat := 0) (ifs : Array Nat := #[]) (fds : Array FieldInfo := #[]) : ClassFile where
  minorVersion := 0
  majorVersion := 65
  constantPool := pool
  accessFlags := fl
  thisClass := this
  superClass := sup
  interfaces := ifs
  fields := fds
  methods := ms
  attributes := attrs
def plain (name : String) (sup : Option ClassId) : Class where
  name := name
  kind := .ordinary
  loader := none
  accessFlags := 33
  super := sup
  interfaces := #[]
  cf := none
  fields := #[]
  methods := #[]
  instanceTypes := #[]
  staticTypes := #[]
  resolved := #[]
  callSites := []
  init := .initialized
  statics := none
  mirror := none

def pool0 : Array CpInfo := pool [(5, u "<init>"), (0, u "()V"), (1, .class_ 10), (1, u "java/lang/Object")] 113

def k0c0 : Code := { maxStack := 0, maxLocals := 1, code := object_method_1_code, exceptionTable := #[], attributes := #[] }
def k0m0 : Method := { name := "<init>", desc := "()V", sig := { parameters := [], returnType := none }, accessFlags := 1, code := some k0c0 }
/-- java/lang/Object -/
def k0 : Class := { plain "java/lang/Object" none with
  accessFlags := 33
  interfaces := #[]
  cf := some (fileOf pool0 8 #[] #[{ accessFlags := 1, nameIndex := 5, descriptorIndex := 6, attributes := #[] }] 33 0 #[] #[])
  fields := #[]
  methods := #[k0m0]
  instanceTypes := #[]
  staticTypes := #[]
  resolved := Array.replicate 124 none
  statics := none }

def pool1 : Array CpInfo := pool [(2, .class_ 4), (1, u "java/lang/Object"), (0, u "<init>"), (0, u "()V"), (0, .class_ 8), (0, u "com/example/weir/weir/model/HeldTasks"), (0, .methodref 7 10), (0, .nameAndType 5 11), (0, u "(II)V"), (0, .integer 268435455), (0, .methodref 7 14), (0, .nameAndType 15 16), (0, u "add"), (0, u "(III)V"), (0, .methodref 7 18), (0, .nameAndType 19 20), (0, u "column"), (0, u "(II)[I"), (0, .methodref 22 23), (0, .class_ 24), (0, .nameAndType 25 26), (0, u "com/example/weir/weir/model/HeldTasksColumnPinLaw"), (0, u "at"), (0, u "([III)Z"), (3, u "law"), (0, u "(IIIII)Z")] 4

def k1m0 : Method := { name := "<init>", desc := "()V", sig := { parameters := [], returnType := none }, accessFlags := 1, code := none }
def k1c1 : Code := { maxStack := 2, maxLocals := 3, code := method_2_code, exceptionTable := #[], attributes := #[] }
def k1m1 : Method := { name := "at", desc := "([III)Z", sig := { parameters := [(.array .int), .int, .int], returnType := some .boolean }, accessFlags := 10, code := some k1c1 }
def k1c2 : Code := { maxStack := 5, maxLocals := 26, code := code, exceptionTable := #[], attributes := #[] }
def k1m2 : Method := { name := "law", desc := "(IIIII)Z", sig := { parameters := [.int, .int, .int, .int, .int], returnType := some .boolean }, accessFlags := 9, code := some k1c2 }
/-- com/example/weir/weir/model/HeldTasksColumnPinLaw -/
def k1 : Class := { plain "com/example/weir/weir/model/HeldTasksColumnPinLaw" (some 0) with
  accessFlags := 49
  interfaces := #[]
  cf := some (fileOf pool1 22 #[] #[{ accessFlags := 1, nameIndex := 5, descriptorIndex := 6, attributes := #[] }, { accessFlags := 10, nameIndex := 25, descriptorIndex := 26, attributes := #[] }, { accessFlags := 9, nameIndex := 30, descriptorIndex := 31, attributes := #[] }] 49 2 #[] #[])
  fields := #[]
  methods := #[k1m0, k1m1, k1m2]
  instanceTypes := #[]
  staticTypes := #[]
  resolved := Array.replicate 36 none
  statics := none }

def pool2 : Array CpInfo := pool [(1, .methodref 2 3), (0, .class_ 4), (0, .nameAndType 5 6), (0, u "java/lang/Object"), (0, u "<init>"), (0, u "()V"), (0, .class_ 8), (0, u "com/example/weir/weir/model/HeldTasks$Counts"), (0, .fieldref 10 11), (0, .class_ 12), (0, .nameAndType 13 14), (0, u "com/example/weir/weir/model/HeldTasks"), (0, u "byNode"), (0, u "[Lcom/example/weir/weir/model/HeldTasks$Counts;"), (0, .fieldref 10 16), (0, .nameAndType 17 14), (0, u "byPlace"), (2, u "(II)V"), (4, .methodref 7 26), (0, .nameAndType 27 28), (0, u "get"), (0, u "(I)I"), (0, .methodref 10 30), (0, .nameAndType 27 31), (0, u "(II)I"), (0, .methodref 10 33), (0, .nameAndType 34 35), (0, u "put"), (0, u "(III)V"), (6, u "keys"), (1, .fieldref 7 45), (0, .nameAndType 42 46), (0, u "[I"), (0, .fieldref 7 48), (0, .nameAndType 49 46), (0, u "counts"), (13, .methodref 7 3), (0, .methodref 7 65), (0, .nameAndType 34 20), (2, u "NONE"), (7, u "add"), (2, u "column"), (0, u "(II)[I")] 21

def k2c0 : Code := { maxStack := 2, maxLocals := 3, code := prog_81_method_1_code, exceptionTable := #[], attributes := #[] }
def k2m0 : Method := { name := "<init>", desc := "(II)V", sig := { parameters := [.int, .int], returnType := none }, accessFlags := 1, code := some k2c0 }
def k2c1 : Code := { maxStack := 2, maxLocals := 4, code := prog_81_method_3_code, exceptionTable := #[], attributes := #[] }
def k2m1 : Method := { name := "get", desc := "(II)I", sig := { parameters := [.int, .int], returnType := some .int }, accessFlags := 1, code := some k2c1 }
def k2c2 : Code := { maxStack := 6, maxLocals := 4, code := prog_81_method_4_code, exceptionTable := #[], attributes := #[] }
def k2m2 : Method := { name := "add", desc := "(III)V", sig := { parameters := [.int, .int, .int], returnType := none }, accessFlags := 1, code := some k2c2 }
def k2c3 : Code := { maxStack := 4, maxLocals := 7, code := prog_81_method_8_code, exceptionTable := #[], attributes := #[] }
def k2m3 : Method := { name := "column", desc := "(II)[I", sig := { parameters := [.int, .int], returnType := some (.array .int) }, accessFlags := 1, code := some k2c3 }
def k2c4 : Code := { maxStack := 5, maxLocals := 4, code := prog_81_method_10_code, exceptionTable := #[], attributes := #[] }
def k2m4 : Method := { name := "put", desc := "(III)V", sig := { parameters := [.int, .int, .int], returnType := none }, accessFlags := 2, code := some k2c4 }
/-- com/example/weir/weir/model/HeldTasks -/
def k2 : Class := { plain "com/example/weir/weir/model/HeldTasks" (some 0) with
  accessFlags := 49
  interfaces := #[]
  cf := some (fileOf pool2 10 #[.nestMembers #[7]] #[{ accessFlags := 1, nameIndex := 5, descriptorIndex := 20, attributes := #[] }, { accessFlags := 1, nameIndex := 27, descriptorIndex := 31, attributes := #[] }, { accessFlags := 1, nameIndex := 76, descriptorIndex := 35, attributes := #[] }, { accessFlags := 1, nameIndex := 79, descriptorIndex := 80, attributes := #[] }, { accessFlags := 2, nameIndex := 34, descriptorIndex := 35, attributes := #[] }] 49 2 #[] #[{ accessFlags := 26, nameIndex := 68, descriptorIndex := 46, attributes := #[] }, { accessFlags := 18, nameIndex := 13, descriptorIndex := 14, attributes := #[] }, { accessFlags := 18, nameIndex := 17, descriptorIndex := 14, attributes := #[] }])
  fields := #[{ name := "NONE", type := (.array .int), accessFlags := 26, slot := 0, constantValue := 0 }, { name := "byNode", type := (.array (.object "com/example/weir/weir/model/HeldTasks$Counts")), accessFlags := 18, slot := 0, constantValue := 0 }, { name := "byPlace", type := (.array (.object "com/example/weir/weir/model/HeldTasks$Counts")), accessFlags := 18, slot := 1, constantValue := 0 }]
  methods := #[k2m0, k2m1, k2m2, k2m3, k2m4]
  instanceTypes := #[(.array (.object "com/example/weir/weir/model/HeldTasks$Counts")), (.array (.object "com/example/weir/weir/model/HeldTasks$Counts"))]
  staticTypes := #[(.array .int)]
  resolved := ((((Array.replicate 102 none).set! 7 (some (.cls 3))).set! 44 (some (.field 3 0))).set! 47 (some (.field 3 1))).set! 63 (some (.method ⟨3, 0⟩))
  statics := none }

def pool3 : Array CpInfo := pool [(1, .methodref 2 3), (0, .class_ 4), (0, .nameAndType 5 6), (0, u "java/lang/Object"), (0, u "<init>"), (0, u "()V"), (0, .fieldref 8 9), (0, .class_ 10), (0, .nameAndType 11 12), (0, u "com/example/weir/weir/model/HeldTasks$Counts"), (0, u "keys"), (0, u "[I"), (0, .fieldref 8 14), (0, .nameAndType 15 12), (0, u "counts"), (0, .methodref 8 17), (0, .nameAndType 18 19), (0, u "home"), (0, u "(II)I"), (0, .methodref 8 21), (0, .nameAndType 22 23), (0, u "takeOut"), (0, u "(I)V"), (0, .fieldref 8 25), (0, .nameAndType 26 27), (0, u "size"), (0, u "I"), (0, .methodref 8 29), (0, .nameAndType 30 6), (0, u "grow"), (1, .class_ 34), (1, u "java/util/Arrays"), (2, .methodref 32 38), (0, .nameAndType 39 40), (0, u "fill"), (0, u "([II)V"), (0, .methodref 8 42), (0, .nameAndType 43 44), (0, u "put"), (0, u "(II)V"), (0, .integer 2654435769), (2, u "get"), (0, u "(I)I"), (6, .class_ 57), (0, u "com/example/weir/weir/model/HeldTasks")] 2

def k3c0 : Code := { maxStack := 5, maxLocals := 1, code := prog_82_method_1_code, exceptionTable := #[], attributes := #[] }
def k3m0 : Method := { name := "<init>", desc := "()V", sig := { parameters := [], returnType := none }, accessFlags := 2, code := some k3c0 }
def k3c1 : Code := { maxStack := 2, maxLocals := 4, code := prog_82_method_2_code, exceptionTable := #[], attributes := #[] }
def k3m1 : Method := { name := "get", desc := "(I)I", sig := { parameters := [.int], returnType := some .int }, accessFlags := 0, code := some k3c1 }
def k3c2 : Code := { maxStack := 3, maxLocals := 5, code := prog_82_method_3_code, exceptionTable := #[], attributes := #[] }
def k3m2 : Method := { name := "put", desc := "(II)V", sig := { parameters := [.int, .int], returnType := none }, accessFlags := 0, code := some k3c2 }
def k3c3 : Code := { maxStack := 4, maxLocals := 7, code := prog_82_method_5_code, exceptionTable := #[], attributes := #[] }
def k3m3 : Method := { name := "takeOut", desc := "(I)V", sig := { parameters := [.int], returnType := none }, accessFlags := 2, code := some k3c3 }
def k3c4 : Code := { maxStack := 4, maxLocals := 4, code := prog_82_method_6_code, exceptionTable := #[], attributes := #[] }
def k3m4 : Method := { name := "grow", desc := "()V", sig := { parameters := [], returnType := none }, accessFlags := 2, code := some k3c4 }
def k3c5 : Code := { maxStack := 3, maxLocals := 3, code := prog_82_method_7_code, exceptionTable := #[], attributes := #[] }
def k3m5 : Method := { name := "home", desc := "(II)I", sig := { parameters := [.int, .int], returnType := some .int }, accessFlags := 10, code := some k3c5 }
/-- com/example/weir/weir/model/HeldTasks$Counts -/
def k3 : Class := { plain "com/example/weir/weir/model/HeldTasks$Counts" (some 0) with
  accessFlags := 48
  interfaces := #[]
  cf := some (fileOf pool3 8 #[.nestHost 56] #[{ accessFlags := 2, nameIndex := 5, descriptorIndex := 6, attributes := #[] }, { accessFlags := 0, nameIndex := 48, descriptorIndex := 49, attributes := #[] }, { accessFlags := 0, nameIndex := 43, descriptorIndex := 44, attributes := #[] }, { accessFlags := 2, nameIndex := 22, descriptorIndex := 23, attributes := #[] }, { accessFlags := 2, nameIndex := 30, descriptorIndex := 6, attributes := #[] }, { accessFlags := 10, nameIndex := 18, descriptorIndex := 19, attributes := #[] }] 48 2 #[] #[{ accessFlags := 2, nameIndex := 11, descriptorIndex := 12, attributes := #[] }, { accessFlags := 2, nameIndex := 15, descriptorIndex := 12, attributes := #[] }, { accessFlags := 2, nameIndex := 26, descriptorIndex := 27, attributes := #[] }])
  fields := #[{ name := "keys", type := (.array .int), accessFlags := 2, slot := 0, constantValue := 0 }, { name := "counts", type := (.array .int), accessFlags := 2, slot := 1, constantValue := 0 }, { name := "size", type := .int, accessFlags := 2, slot := 2, constantValue := 0 }]
  methods := #[k3m0, k3m1, k3m2, k3m3, k3m4, k3m5]
  instanceTypes := #[(.array .int), (.array .int), .int]
  staticTypes := #[]
  resolved := Array.replicate 60 none
  statics := none }

def pool4 : Array CpInfo := pool [(2, .class_ 4), (1, u "java/lang/Object"), (0, u "<init>"), (0, u "()V"), (7, .class_ 16), (1, u "java/util/Arrays"), (57, .class_ 76), (1, u "java/util/Arrays$NaturalOrder"), (36, .class_ 115), (1, u "java/util/Arrays$LegacyMergeSort"), (1, u "Z"), (257, .class_ 376), (0, u "java/util/Arrays$ArrayList"), (68, u "$assertionsDisabled"), (269, u "MIN_ARRAY_SORT_GRAN"), (0, u "I"), (2, u "INSERTIONSORT_THRESHOLD"), (120, u "fill"), (4, u "([II)V"), (129, .class_ 976), (0, u "java/util/Arrays$ArrayItr")] 52

def k4m0 : Method := { name := "<init>", desc := "()V", sig := { parameters := [], returnType := none }, accessFlags := 2, code := none }
def k4c1 : Code := { maxStack := 3, maxLocals := 4, code := jdk_65_method_103_code, exceptionTable := #[], attributes := #[] }
def k4m1 : Method := { name := "fill", desc := "([II)V", sig := { parameters := [(.array .int), .int], returnType := none }, accessFlags := 9, code := some k4c1 }
/-- java/util/Arrays -/
def k4 : Class := { plain "java/util/Arrays" (some 0) with
  accessFlags := 49
  interfaces := #[]
  cf := some (fileOf pool4 14 #[.nestMembers #[975, 375, 113, 74]] #[{ accessFlags := 2, nameIndex := 5, descriptorIndex := 6, attributes := #[] }, { accessFlags := 9, nameIndex := 840, descriptorIndex := 845, attributes := #[] }] 49 2 #[] #[{ accessFlags := 26, nameIndex := 715, descriptorIndex := 716, attributes := #[] }, { accessFlags := 26, nameIndex := 719, descriptorIndex := 716, attributes := #[] }, { accessFlags := 4120, nameIndex := 445, descriptorIndex := 117, attributes := #[] }])
  fields := #[{ name := "MIN_ARRAY_SORT_GRAN", type := .int, accessFlags := 26, slot := 0, constantValue := 0 }, { name := "INSERTIONSORT_THRESHOLD", type := .int, accessFlags := 26, slot := 1, constantValue := 0 }, { name := "$assertionsDisabled", type := .boolean, accessFlags := 4120, slot := 2, constantValue := 0 }]
  methods := #[k4m0, k4m1]
  instanceTypes := #[]
  staticTypes := #[.int, .int, .boolean]
  resolved := Array.replicate 1029 none
  statics := none }

def pool5 : Array CpInfo := pool [(1, u "java/lang/Cloneable"), (0, .class_ 1), (0, u "java/lang/Object"), (0, .class_ 3)] 3

/-- java/lang/Cloneable -/
def k5 : Class := { plain "java/lang/Cloneable" (some 0) with
  accessFlags := 1537
  interfaces := #[]
  cf := some (fileOf pool5 2 #[] #[] 1537 4 #[] #[])
  fields := #[]
  methods := #[]
  instanceTypes := #[]
  staticTypes := #[]
  resolved := Array.replicate 8 none
  statics := none }

def pool6 : Array CpInfo := pool [(1, u "java/io/Serializable"), (0, .class_ 1), (0, u "java/lang/Object"), (0, .class_ 3)] 3

/-- java/io/Serializable -/
def k6 : Class := { plain "java/io/Serializable" (some 0) with
  accessFlags := 1537
  interfaces := #[]
  cf := some (fileOf pool6 2 #[] #[] 1537 4 #[] #[])
  fields := #[]
  methods := #[]
  instanceTypes := #[]
  staticTypes := #[]
  resolved := Array.replicate 8 none
  statics := none }

/-- the primitive byte -/
def k7 : Class := { plain "byte" none with kind := .primitive 'B', accessFlags := 0x411 }
/-- [B -/
def k8 : Class := { plain "[B" (some 0) with kind := .array 7 .byte, interfaces := #[5, 6], accessFlags := 1041 }

/-- the primitive int -/
def k9 : Class := { plain "int" none with kind := .primitive 'I', accessFlags := 0x411 }
/-- [I -/
def k10 : Class := { plain "[I" (some 0) with kind := .array 9 .int, interfaces := #[5, 6], accessFlags := 1041 }

/-- [Lcom/example/weir/weir/model/HeldTasks$Counts; -/
def k11 : Class := { plain "[Lcom/example/weir/weir/model/HeldTasks$Counts;" (some 0) with kind := .array 3 (.object "com/example/weir/weir/model/HeldTasks$Counts"), interfaces := #[5, 6], accessFlags := 1041 }

def heap : Heap := #[]
def classes : Array Class := #[k0, k1, k2, k3, k4, k5, k6, k7, k8, k9, k10, k11]
def interned : List (Array UInt16 × Addr) := []
def slotsUsed : Nat := 0
def theMethod : MethodId := ⟨1, 2⟩
def args0 : Array Value := #[.int 5, .int 5, .int 5, .int 5, .int 5]
def aboutOver (below : List Frame) : State where
  vm := { classes := classes, interned := interned.toArray }
  heap := heap
  slotsUsed := slotsUsed
  threads := #[{ frames := .invoking theMethod args0 :: below }]
def below0 : List Frame := [.native { method := ⟨0, 0⟩, args := #[] }]
def about1 : State := aboutOver below0
def p0 : Program := .bare "" "" ""
def e0 : Env := launch0.env 0 0 0
theorem w_frames : about1.frames = Frame.invoking theMethod args0 :: below0 := rfl
set_option maxRecDepth 65536 in
theorem w_args : argsFit about1.vm theMethod args0 = true := by decide +kernel
set_option maxRecDepth 65536 in
theorem w_heap : heapFits about1 = true := by decide +kernel
set_option maxRecDepth 65536 in
theorem w_runnable : about1.curStatus? = some .runnable := by decide +kernel
set_option maxRecDepth 65536 in
theorem w_alone : about1.alone = true := by decide +kernel
set_option maxRecDepth 65536 in
theorem w_named : about1.methodNamed? x = some theMethod := by decide +kernel
set_option maxRecDepth 65536 in
theorem w_hears : about1.hears theMethod below0 = true := by decide +kernel
set_option maxRecDepth 65536 in
theorem w_ripe : about1.ripe theMethod args0 below0 = true := by decide +kernel
theorem w_running : about1.status = .running := rfl
set_option maxRecDepth 65536 in
theorem w_room : about1.hasRoom e0.platform room_1 = true :=
  launch0.hasRoom_least _ room_1 (by decide +kernel) (by decide +kernel) (by decide +kernel) (by decide +kernel) (by decide +kernel) (by decide +kernel)
theorem allAtoms_all (ts : List Jvm.Cond) (a : Array Jvm.Value) (st : Jvm.State) : (allAtoms ts).before a st = ts.all (fun c => c.before a st) := by
  induction ts with
  | nil => rfl
  | cons c t ih =>
    show (Jvm.Cond.and c (allAtoms t)).before a st = _
    rw [Jvm.Cond.before_and, ih, List.all_cons]
def words1 : List Jvm.Cond := Jvm.Cond.code x code maxLocals ret :: tables_1
/-- a 'code' word, met by the world's own term for the bytes: nothing is compared byte by byte -/
theorem code_word {y : MethodName} {bytes : ByteArray} {mx : Nat} {rt : Option FieldType} {a : Array Value} {s : State} {m : MethodId} {meth : Method} {c : Code} (h1 : s.methodNamed? y = some m) (h2 : s.vm.method? m = some meth) (h3 : meth.code = some c) (h4 : c.code = bytes)
    (h5 : (c.maxLocals == mx && c.exceptionTable.isEmpty && decide (c.maxStack ≤ mostOperands) && decide (meth.sig.returnType = rt) && !meth.locks && decide (parseMethodDescriptor y.desc = some meth.sig)) = true) : (Jvm.Cond.code y bytes mx rt).before a s = true := by
  simp only [Bool.and_eq_true, beq_iff_eq, Bool.not_eq_true', decide_eq_true_eq] at h5
  obtain ⟨⟨⟨⟨⟨g1, g2⟩, g3⟩, g4⟩, g5⟩, g6⟩ := h5
  simp [Cond.before, Cond.holds, Cond.value, h1, h2, h3, h4, g1, g2, g3, g4, g5, g6]
def isCode : Jvm.Cond → Bool
  | .code _ _ _ _ => true
  | _ => false
theorem all_split {L : List Jvm.Cond} {P : Jvm.Cond → Bool} (h1 : L.all (fun c => isCode c || P c) = true) (h2 : ∀ c ∈ L.filter isCode, P c = true) : L.all P = true := by
  refine List.all_eq_true.mpr fun c hc => ?_
  have h := List.all_eq_true.mp h1 c hc
  rcases Bool.eq_false_or_eq_true (isCode c) with hi | hi
  · exact h2 c (List.mem_filter.mpr ⟨hc, hi⟩)
  · simpa [hi] using h
set_option maxRecDepth 65536 in
theorem w_c0 : (Jvm.Cond.code x code maxLocals ret).before args0 about1 = true := code_word (m := ⟨1, 2⟩) (meth := k1m2) (c := k1c2) (by decide +kernel) rfl rfl rfl (by decide +kernel)
set_option maxRecDepth 65536 in
theorem w_c1 : (Jvm.Cond.code ({ cls := "com/example/weir/weir/model/HeldTasks", name := "<init>", desc := "(II)V" } : Jvm.MethodName) prog_81_method_1_code (3 : Nat) (Option.none : Option Jvm.ClassFile.FieldType)).before args0 about1 = true := code_word (m := ⟨2, 0⟩) (meth := k2m0) (c := k2c0) (by decide +kernel) rfl rfl rfl (by decide +kernel)
set_option maxRecDepth 65536 in
theorem w_c2 : (Jvm.Cond.code ({ cls := "java/lang/Object", name := "<init>", desc := "()V" } : Jvm.MethodName) object_method_1_code (1 : Nat) (Option.none : Option Jvm.ClassFile.FieldType)).before args0 about1 = true := code_word (m := ⟨0, 0⟩) (meth := k0m0) (c := k0c0) (by decide +kernel) rfl rfl rfl (by decide +kernel)
set_option maxRecDepth 65536 in
theorem w_c3 : (Jvm.Cond.code ({ cls := "com/example/weir/weir/model/HeldTasks", name := "add", desc := "(III)V" } : Jvm.MethodName) prog_81_method_4_code (4 : Nat) (Option.none : Option Jvm.ClassFile.FieldType)).before args0 about1 = true := code_word (m := ⟨2, 2⟩) (meth := k2m2) (c := k2c2) (by decide +kernel) rfl rfl rfl (by decide +kernel)
set_option maxRecDepth 65536 in
theorem w_c4 : (Jvm.Cond.code ({ cls := "com/example/weir/weir/model/HeldTasks", name := "column", desc := "(II)[I" } : Jvm.MethodName) prog_81_method_8_code (7 : Nat) (Option.some (Jvm.ClassFile.FieldType.array Jvm.ClassFile.FieldType.int))).before args0 about1 = true := code_word (m := ⟨2, 3⟩) (meth := k2m3) (c := k2c3) (by decide +kernel) rfl rfl rfl (by decide +kernel)
set_option maxRecDepth 65536 in
theorem w_c5 : (Jvm.Cond.code ({ cls := "com/example/weir/weir/model/HeldTasksColumnPinLaw", name := "at", desc := "([III)Z" } : Jvm.MethodName) method_2_code (3 : Nat) (Option.some Jvm.ClassFile.FieldType.boolean)).before args0 about1 = true := code_word (m := ⟨1, 1⟩) (meth := k1m1) (c := k1c1) (by decide +kernel) rfl rfl rfl (by decide +kernel)
set_option maxRecDepth 65536 in
theorem w_c6 : (Jvm.Cond.code ({ cls := "com/example/weir/weir/model/HeldTasks", name := "get", desc := "(II)I" } : Jvm.MethodName) prog_81_method_3_code (4 : Nat) (Option.some Jvm.ClassFile.FieldType.int)).before args0 about1 = true := code_word (m := ⟨2, 1⟩) (meth := k2m1) (c := k2c1) (by decide +kernel) rfl rfl rfl (by decide +kernel)
set_option maxRecDepth 65536 in
theorem w_c7 : (Jvm.Cond.code ({ cls := "com/example/weir/weir/model/HeldTasks", name := "put", desc := "(III)V" } : Jvm.MethodName) prog_81_method_10_code (4 : Nat) (Option.none : Option Jvm.ClassFile.FieldType)).before args0 about1 = true := code_word (m := ⟨2, 4⟩) (meth := k2m4) (c := k2c4) (by decide +kernel) rfl rfl rfl (by decide +kernel)
set_option maxRecDepth 65536 in
theorem w_c8 : (Jvm.Cond.code ({ cls := "com/example/weir/weir/model/HeldTasks$Counts", name := "<init>", desc := "()V" } : Jvm.MethodName) prog_82_method_1_code (1 : Nat) (Option.none : Option Jvm.ClassFile.FieldType)).before args0 about1 = true := code_word (m := ⟨3, 0⟩) (meth := k3m0) (c := k3c0) (by decide +kernel) rfl rfl rfl (by decide +kernel)
set_option maxRecDepth 65536 in
theorem w_c9 : (Jvm.Cond.code ({ cls := "com/example/weir/weir/model/HeldTasks$Counts", name := "put", desc := "(II)V" } : Jvm.MethodName) prog_82_method_3_code (5 : Nat) (Option.none : Option Jvm.ClassFile.FieldType)).before args0 about1 = true := code_word (m := ⟨3, 2⟩) (meth := k3m2) (c := k3c2) (by decide +kernel) rfl rfl rfl (by decide +kernel)
set_option maxRecDepth 65536 in
theorem w_c10 : (Jvm.Cond.code ({ cls := "com/example/weir/weir/model/HeldTasks$Counts", name := "home", desc := "(II)I" } : Jvm.MethodName) prog_82_method_7_code (3 : Nat) (Option.some Jvm.ClassFile.FieldType.int)).before args0 about1 = true := code_word (m := ⟨3, 5⟩) (meth := k3m5) (c := k3c5) (by decide +kernel) rfl rfl rfl (by decide +kernel)
set_option maxRecDepth 65536 in
theorem w_c11 : (Jvm.Cond.code ({ cls := "com/example/weir/weir/model/HeldTasks$Counts", name := "get", desc := "(I)I" } : Jvm.MethodName) prog_82_method_2_code (4 : Nat) (Option.some Jvm.ClassFile.FieldType.int)).before args0 about1 = true := code_word (m := ⟨3, 1⟩) (meth := k3m1) (c := k3c1) (by decide +kernel) rfl rfl rfl (by decide +kernel)
set_option maxRecDepth 65536 in
theorem w_c12 : (Jvm.Cond.code ({ cls := "com/example/weir/weir/model/HeldTasks$Counts", name := "takeOut", desc := "(I)V" } : Jvm.MethodName) prog_82_method_5_code (7 : Nat) (Option.none : Option Jvm.ClassFile.FieldType)).before args0 about1 = true := code_word (m := ⟨3, 3⟩) (meth := k3m3) (c := k3c3) (by decide +kernel) rfl rfl rfl (by decide +kernel)
set_option maxRecDepth 65536 in
theorem w_c13 : (Jvm.Cond.code ({ cls := "com/example/weir/weir/model/HeldTasks$Counts", name := "grow", desc := "()V" } : Jvm.MethodName) prog_82_method_6_code (4 : Nat) (Option.none : Option Jvm.ClassFile.FieldType)).before args0 about1 = true := code_word (m := ⟨3, 4⟩) (meth := k3m4) (c := k3c4) (by decide +kernel) rfl rfl rfl (by decide +kernel)
set_option maxRecDepth 65536 in
theorem w_c14 : (Jvm.Cond.code ({ cls := "java/util/Arrays", name := "fill", desc := "([II)V" } : Jvm.MethodName) jdk_65_method_103_code (4 : Nat) (Option.none : Option Jvm.ClassFile.FieldType)).before args0 about1 = true := code_word (m := ⟨4, 1⟩) (meth := k4m1) (c := k4c1) (by decide +kernel) rfl rfl rfl (by decide +kernel)
def codes1 : List Jvm.Cond := [Jvm.Cond.code x code maxLocals ret, Jvm.Cond.code ({ cls := "com/example/weir/weir/model/HeldTasks", name := "<init>", desc := "(II)V" } : Jvm.MethodName) prog_81_method_1_code (3 : Nat) (Option.none : Option Jvm.ClassFile.FieldType), Jvm.Cond.code ({ cls := "java/lang/Object", name := "<init>", desc := "()V" } : Jvm.MethodName) object_method_1_code (1 : Nat) (Option.none : Option Jvm.ClassFile.FieldType), Jvm.Cond.code ({ cls := "com/example/weir/weir/model/HeldTasks", name := "add", desc := "(III)V" } : Jvm.MethodName) prog_81_method_4_code (4 : Nat) (Option.none : Option Jvm.ClassFile.FieldType), Jvm.Cond.code ({ cls := "com/example/weir/weir/model/HeldTasks", name := "column", desc := "(II)[I" } : Jvm.MethodName) prog_81_method_8_code (7 : Nat) (Option.some (Jvm.ClassFile.FieldType.array Jvm.ClassFile.FieldType.int)), Jvm.Cond.code ({ cls := "com/example/weir/weir/model/HeldTasksColumnPinLaw", name := "at", desc := "([III)Z" } : Jvm.MethodName) method_2_code (3 : Nat) (Option.some Jvm.ClassFile.FieldType.boolean), Jvm.Cond.code ({ cls := "com/example/weir/weir/model/HeldTasks", name := "get", desc := "(II)I" } : Jvm.MethodName) prog_81_method_3_code (4 : Nat) (Option.some Jvm.ClassFile.FieldType.int), Jvm.Cond.code ({ cls := "com/example/weir/weir/model/HeldTasks", name := "put", desc := "(III)V" } : Jvm.MethodName) prog_81_method_10_code (4 : Nat) (Option.none : Option Jvm.ClassFile.FieldType), Jvm.Cond.code ({ cls := "com/example/weir/weir/model/HeldTasks$Counts", name := "<init>", desc := "()V" } : Jvm.MethodName) prog_82_method_1_code (1 : Nat) (Option.none : Option Jvm.ClassFile.FieldType), Jvm.Cond.code ({ cls := "com/example/weir/weir/model/HeldTasks$Counts", name := "put", desc := "(II)V" } : Jvm.MethodName) prog_82_method_3_code (5 : Nat) (Option.none : Option Jvm.ClassFile.FieldType), Jvm.Cond.code ({ cls := "com/example/weir/weir/model/HeldTasks$Counts", name := "home", desc := "(II)I" } : Jvm.MethodName) prog_82_method_7_code (3 : Nat) (Option.some Jvm.ClassFile.FieldType.int), Jvm.Cond.code ({ cls := "com/example/weir/weir/model/HeldTasks$Counts", name := "get", desc := "(I)I" } : Jvm.MethodName) prog_82_method_2_code (4 : Nat) (Option.some Jvm.ClassFile.FieldType.int), Jvm.Cond.code ({ cls := "com/example/weir/weir/model/HeldTasks$Counts", name := "takeOut", desc := "(I)V" } : Jvm.MethodName) prog_82_method_5_code (7 : Nat) (Option.none : Option Jvm.ClassFile.FieldType), Jvm.Cond.code ({ cls := "com/example/weir/weir/model/HeldTasks$Counts", name := "grow", desc := "()V" } : Jvm.MethodName) prog_82_method_6_code (4 : Nat) (Option.none : Option Jvm.ClassFile.FieldType), Jvm.Cond.code ({ cls := "java/util/Arrays", name := "fill", desc := "([II)V" } : Jvm.MethodName) jdk_65_method_103_code (4 : Nat) (Option.none : Option Jvm.ClassFile.FieldType)]
set_option maxRecDepth 65536 in
theorem codes_eq : words1.filter isCode = codes1 := rfl
theorem w_codes : ∀ c ∈ words1.filter isCode, c.before args0 about1 = true := by
  rw [codes_eq]
  intro c hc
  simp only [codes1, List.mem_cons, List.not_mem_nil, or_false] at hc
  rcases hc with rfl | rfl | rfl | rfl | rfl | rfl | rfl | rfl | rfl | rfl | rfl | rfl | rfl | rfl | rfl
  · exact w_c0
  · exact w_c1
  · exact w_c2
  · exact w_c3
  · exact w_c4
  · exact w_c5
  · exact w_c6
  · exact w_c7
  · exact w_c8
  · exact w_c9
  · exact w_c10
  · exact w_c11
  · exact w_c12
  · exact w_c13
  · exact w_c14
set_option maxRecDepth 65536 in
theorem w_t1 : (words1.take 24).all (fun c => isCode c || c.before args0 about1) = true := by decide +kernel
set_option maxRecDepth 65536 in
theorem w_t2 : ((words1.drop 24).take 24).all (fun c => isCode c || c.before args0 about1) = true := by decide +kernel
set_option maxRecDepth 65536 in
theorem w_t3 : (((words1.drop 24).drop 24).take 24).all (fun c => isCode c || c.before args0 about1) = true := by decide +kernel
set_option maxRecDepth 65536 in
theorem w_t4 : (((words1.drop 24).drop 24).drop 24).all (fun c => isCode c || c.before args0 about1) = true := by decide +kernel
theorem w_tables : (allAtoms (Jvm.Cond.code x code maxLocals ret :: tables_1)).before args0 about1 = true := by
  rw [allAtoms_all]
  show words1.all (fun c => c.before args0 about1) = true
  refine all_split ?_ w_codes
  rw [← List.take_append_drop 24 words1, List.all_append, w_t1, ← List.take_append_drop 24 (words1.drop 24), List.all_append, w_t2, ← List.take_append_drop 24 ((words1.drop 24).drop 24), List.all_append, w_t3, w_t4]
  rfl
set_option maxRecDepth 65536 in
theorem w_case : (Jvm.Cond.and given_1 narrow_1).before args0 about1 = true := by decide +kernel
theorem w_applies : (headSpec (Jvm.Cond.code x code maxLocals ret :: tables_1) room_1).applies x e0.platform about1 = true :=
  (Spec.applies_iff w_frames).mpr ⟨w_running, w_runnable, w_alone, w_named, w_hears, w_ripe, w_room, w_tables⟩
theorem atStart : AtStart classFile x code maxLocals ret World_1 tables_1 room_1 Calls_1 rest_1 Pre_1 launch0 p0 e0 about1 theMethod args0 below0 :=
  ⟨lists_1, trivial, launch0.admits_env _ _ _, launch0.least_env, fairChoices_fair.cas, fairChoices_fair.clock, w_frames, w_args, w_heap, w_applies, trivial, trivial, w_case⟩
end start1
theorem witness_1 : WitnessClaimed_1 := ⟨start1.p0, start1.e0, start1.about1, start1.theMethod, start1.args0, start1.below0, start1.atStart⟩
end Jvm.Pilot.@@N@@
