import JvmDerived
import JvmDerived.Pilot.@@N@@Statement
import JvmDerived.Pilot.@@N@@Code
set_option linter.unusedVariables false
set_option linter.unusedSimpArgs false
namespace Jvm.RoadKit
open Sem ClassFile Op Lib Jvm.Stand Jvm.Free Jvm.LawKit
section New
variable {p : Program} {l : Launch} {e : Env} {R : Room} {s : State} {m : MethodId} {args : Array Value} {below : List Frame} {meth : Method} {c : Code} {T : State} {locs : List Loc} {cells slots : Nat}
theorem retI (X : Stand p l e R s m args below meth c T locs cells slots) (hx : p.tables.exec = Jvm.exec) {pc : Nat} {Ls : Array Slot} {z : Int32} {rest : List Value} (hret : meth.sig.returnType = some .int) (hd : decode c.code pc = .ok (.ireturn, 1)) {fs : List Frame}
    (hl : ∀ (f : JFrame) (acts : List Action), f.method = m → f.locked = none → f.entered = [] → (doReturn e (T.setTop f) acts (some (.int z))).1 = T.setFrames fs) : Steps p.tables e below (T.setTop (mkF m pc Ls (.int z :: rest))) (T.setFrames fs) := by
  have hm' : T.vm.method? m = some meth := X.method'
  have hn : narrow .int (.int z) = .int z := rfl
  show Steps p.tables e below (T.setTop { method := m, pc := pc, locals := Ls, stack := _ :: rest, locked := none }) _
  jvm_step X.here [X.here.top, hx, hd, hm', hret, hn]
  first | (intro acts; rw [hl _ acts rfl rfl rfl]) | rw [hl _ _ rfl rfl rfl]
  exact Steps.refl _
end New
end Jvm.RoadKit
namespace Jvm.RoadKit
open Sem ClassFile Op Lib Jvm.Stand Jvm.Free Jvm.LawKit
theorem own_lsw {tb : Tables} [Ours tb] {e : Env} {below : List Frame} {T target : State} {m : MethodId} {c : Code} {g : JFrame} (h : At T m c below) (hx : tb.exec = Jvm.exec) (hg : g.method = m) {dflt : Int} {pairs : Array (Int × Int)} {len : Nat} {pc0 pc' : Nat} (hpc : g.pc = pc0) (hd : decode c.code g.pc = .ok (.lookupswitch dflt pairs, len)) {i : Int32} {rest : List Value} (hs : g.stack = .int i :: rest) {o : Int}
    (hoff : lookupswitch.offset pairs.toList dflt i.toInt = o) (hso : (pairs.toList.zip (pairs.toList.drop 1)).all (fun (a, next) => a.1 < next.1) = true) (ho : 0 ≤ (pc0 : Int) + o) (hp : ((pc0 : Int) + o).toNat = pc')
    (hr : Steps tb e below (T.setTop { g with pc := pc', stack := rest }) target) : Steps tb e below (T.setTop g) target := by
  subst hg hpc hp
  jvm_step h [h.top, hx, hd, hs, hoff, ho, lookupswitch.wp_chain]
  exact ⟨by simpa using hso, hr⟩
theorem own_off_no {k d : Int} : ∀ {L : List (Int × Int)}, (∀ q ∈ L, ¬ q.1 = k) → lookupswitch.offset L d k = d
  | [], _ => rfl
  | (a, o) :: r, h => by rw [lookupswitch.offset_cons, if_neg (h (a, o) (List.mem_cons_self ..))]; exact own_off_no fun q hq => h q (List.mem_cons_of_mem _ hq)
theorem own_ne_lit {x k : Int32} (h : ¬ x = k) {z : Int} (hz : k.toInt = z) : ¬ z = x.toInt := fun q => h (Int32.toInt_inj.mp (by rw [← q, hz]))
def own_rem (x y : Int32) : Int32 := x - (x / y) * y
def bi (P : Prop) [Decidable P] : Int32 := if P then 1 else 0
theorem bi_t {P : Prop} [Decidable P] (h : P) : bi P = 1 := if_pos h
theorem bi_f {P : Prop} [Decidable P] (h : ¬ P) : bi P = 0 := if_neg h
theorem bi_nar {P : Prop} [Decidable P] : nar .boolean (bi P) = bi P := by unfold bi; split <;> rfl
theorem bi_0 {P : Prop} [Decidable P] : (bi P = 0) ↔ ¬ P := by unfold bi; split <;> simp_all
theorem bi_inj {P Q : Prop} [Decidable P] [Decidable Q] (h : P ↔ Q) : bi P = bi Q := by unfold bi; simp only [h]
end Jvm.RoadKit
namespace Jvm.RoadKit
open Sem ClassFile Op Lib Jvm.Stand Jvm.Free Jvm.LawKit
section OwnWords
variable {args : Array Value} {s : State} {idx : List Nat} {t i : Term} {aT : Addr} {cl : Cell} {b k A B z : Int32}
theorem own_or {G Y : Cond} (h : (Cond.or G Y).value args s none s idx = some true) (hg : G.value args s none s idx = some false) : Y.value args s none s idx = some true := by
  simpa only [Cond.value, hg] using h
theorem own_el (h : (Cond.eq (.elem t i) (.int b)).value args s none s idx = some true) (ht : t.eval args s none idx s = some (.ref aT)) (hi : i.eval args s none idx s = some (.int k)) (hc : s.heap[aT]? = some cl) : atv cl k = b := by
  obtain ⟨x, y, e1, e2, -, -⟩ := cmp_v (Or.inl h)
  obtain ⟨-, e3⟩ := elem_in e1 ht hi hc
  have e4 : (Term.int b).eval args s none idx s = some (.int b) := rfl
  cases e4.symm.trans e2
  have e5 : x = .int b := by cases x <;> simp [Cond.value, e1, e4] at h; rw [h]
  subst e5
  exact atv_of e3
theorem own_r1 (h : (Cond.all t (.or (.le (.int A) (.index 0)) (.eq (.elem t (.index 0)) (.int b)))).value args s none s [] = some true) (ht : ∀ idx, t.eval args s none idx s = some (.ref aT)) (hc : s.heap[aT]? = some cl) (ha : s.arrayAt? aT = some cl) {n : Nat} (hn : n < cl.slots.size) (h1 : ¬ A ≤ n.toInt32) : atv cl n.toInt32 = b := by
  have q := Cond.all_elim (ht []) ha h n hn
  exact own_el (own_or q (by simp [Cond.value, Term.eval, h1])) (ht _) (by simp [Term.eval]) hc
theorem own_r2 (h : (Cond.all t (.or (.lt (.index 0) (.int A)) (.or (.le (.int B) (.index 0)) (.eq (.elem t (.index 0)) (.int b))))).value args s none s [] = some true) (ht : ∀ idx, t.eval args s none idx s = some (.ref aT)) (hc : s.heap[aT]? = some cl) (ha : s.arrayAt? aT = some cl) {n : Nat} (hn : n < cl.slots.size) (h1 : ¬ n.toInt32 < A) (h2 : ¬ B ≤ n.toInt32) : atv cl n.toInt32 = b := by
  have q := Cond.all_elim (ht []) ha h n hn
  exact own_el (own_or (own_or q (by simp [Cond.value, Term.eval, h1])) (by simp [Cond.value, Term.eval, h2])) (ht _) (by simp [Term.eval]) hc
theorem own_len (h : (Cond.eq (.length t) (.int z)).value args s none s idx = some true) (ht : t.eval args s none idx s = some (.ref aT)) (ha : s.arrayAt? aT = some cl) : cl.slots.size < 2 ^ 31 ∧ cl.slots.size.toInt32 = z := by
  by_cases q : cl.slots.size < 2 ^ 31
  · simp [Cond.value, Term.eval, ht, ha, q] at h; exact ⟨q, h⟩
  · simp [Cond.value, Term.eval, ht, ha, q] at h
theorem own_sta_idx {C n d : String} {v : Value} (h : (Term.static C n d).eval args s none [] s = some v) (idx : List Nat) : (Term.static C n d).eval args s none idx s = some v := by
  simp only [Term.eval] at h ⊢; exact h
end OwnWords
theorem own_toInt_ofNat {n : Nat} (h : n < 2147483648) : (Int32.ofNat n).toInt = n := Int32.toInt_ofNat_small h
theorem own_of_rng {c : Int32} (h0 : ¬ c < 0) : c = Int32.ofNat c.toInt.toNat := by
  have h0' : 0 ≤ c.toInt := by rw [Int32.lt_iff_toInt_lt] at h0; have : (0 : Int32).toInt = 0 := rfl; omega
  have := c.toInt_lt
  apply Int32.toInt_inj.mp
  rw [own_toInt_ofNat (by omega)]; omega
end Jvm.RoadKit
namespace Jvm.RoadKit
open Sem ClassFile Op Lib Jvm.Stand Jvm.Free Jvm.LawKit
theorem own_ord {args : Array Value} {s : State} {t : Term} {a : Addr} {k : Int32} {C n d : String} (h : (Cond.eq (.field t C n d) (.int k)).value args s none s [] = some true) (ht : t.eval args s none [] s = some (.ref a)) : s.fieldOf? a C n d = some (.int k) := by
  obtain ⟨x, y, e1, e2, -, -⟩ := cmp_v (Or.inl h)
  have e4 : (Term.int k).eval args s none [] s = some (.int k) := rfl
  have e5 : x = .int k := by cases x <;> simp [Cond.value, e1, e4] at h; rw [h]
  rw [fld_at ht] at e1
  rw [e1, e5]
theorem own_ord_ne {o : Addr → Option Value} {a b : Addr} {j k : Int32} (h1 : o a = some (.int j)) (h2 : o b = some (.int k)) (hjk : ¬ j = k) : ¬ a = b := fun e => by
  subst e; exact hjk (Value.int.inj (Option.some.inj (h1.symm.trans h2)))
theorem own_and7 (x : Int32) : (x &&& 7).toInt = 0 ∨ (x &&& 7).toInt = 1 ∨ (x &&& 7).toInt = 2 ∨ (x &&& 7).toInt = 3 ∨ (x &&& 7).toInt = 4 ∨ (x &&& 7).toInt = 5 ∨ (x &&& 7).toInt = 6 ∨ (x &&& 7).toInt = 7 := by
  have h := c_mask x 7 3 (by decide) (by decide)
  have : ((2 ^ 3 : Nat) : Int) = 8 := rfl
  omega
theorem own_i32 {x k : Int32} {z : Int} (h : x.toInt = z) (hk : k.toInt = z) : x = k := Int32.toInt_inj.mp (h.trans hk.symm)
end Jvm.RoadKit
namespace Jvm.Pilot.@@N@@
open Jvm Jvm.ClassFile Sem Op Lib Jvm.Free Jvm.Stand Jvm.LawKit Jvm.RoadKit Bundle Jvm.Pilot.@@N@@.Jvm.D
def own_ln (a : Int64) : Int32 := (a.toInt32 &&& (536870911 : Int32)) + (1 : Int32)
def own_gp (a : Int64) : Int32 := ((a.toUInt64 >>> ((32 : Int32) &&& 0x3f).toInt64.toUInt64).toInt64).toInt32 &&& (134217727 : Int32)
theorem own_d (s l : Int32) : (s + l) - s = l := by
  apply Int32.toBitVec_inj.mp
  show s.toBitVec + l.toBitVec - s.toBitVec = l.toBitVec
  rw [BitVec.add_comm, BitVec.add_sub_cancel]
theorem own_z (x : Int64) : (0 : Int64) + x = x := Int64.zero_add x
def QL (Z : State) (p1 : Int64) (h0 : Heap) (n0 : Nat) (v : Option Value) (h : Heap) (L : List Loc) : Prop := v = some (.int (own_ln p1)) ∧ Fr n0 L ∧ h = h0
theorem ef_L (m : MethodId) (x0 : Int64) : entryFrame m #[(.long x0)] 2 = mkF m 0 #[.val (.long x0), .second] [] := by first | (simp [entryFrame, mkF, argsToLocals, Value.category]; done) | rfl
theorem pn_JudgedCharactersPinLaw : plainName "com/example/haku/haku/eval/JudgedCharactersPinLaw" = true := by first | (simp [plainName, overriddenIn]; done) | decide +kernel
theorem d_method_3_0 : decode method_3_code 0 = .ok (.lload_n 0, 1) := by decide +kernel
theorem d_method_3_1 : decode method_3_code 1 = .ok (.l2i, 1) := by decide +kernel
theorem d_method_3_2 : decode method_3_code 2 = .ok (.ldc 8, 2) := by decide +kernel
theorem d_method_3_4 : decode method_3_code 4 = .ok (.iand, 1) := by decide +kernel
theorem d_method_3_5 : decode method_3_code 5 = .ok (.iconst 1, 1) := by decide +kernel
theorem d_method_3_6 : decode method_3_code 6 = .ok (.iadd, 1) := by decide +kernel
theorem d_method_3_7 : decode method_3_code 7 = .ok (.ireturn, 1) := by decide +kernel
set_option maxRecDepth 65536 in
set_option maxHeartbeats 40000000 in
theorem rmL (l : Launch) (Z : State) (a0 : Array Value) (hw : ∀ d ∈ tables_1, d.before a0 Z = true) (ws : List Jvm.Cond) (p1 : Int64) (h0 : Heap) (n0 : Nat) (Z0 : n0 ≤ h0.size) :
    MetFree l (⟨"com/example/haku/haku/eval/JudgedCharactersPinLaw", "len", "(J)I"⟩ : MethodName) (head1 (Jvm.Cond.code (⟨"com/example/haku/haku/eval/JudgedCharactersPinLaw", "len", "(J)I"⟩ : MethodName) method_3_code 2 (some .int) :: ws) ({ frames := 0, cells := 0, slots := 0, locals := 0 } : Room)) (fun a' U => a' = #[(.long p1)] ∧ Z.Warmed39 U.vm ∧ U.heap = h0) (fun _ _ _ _ _ => True) (fun _ U o U' => ∃ v L, o = .returned v ∧ QL Z p1 h0 n0 v U'.heap L ∧ FrameEnd U o U' L ({ frames := 0, cells := 0, slots := 0, locals := 0 } : Room).cells ({ frames := 0, cells := 0, slots := 0, locals := 0 } : Room).slots) := by
  refine MetFree.of_bodySF (plainFor_of_name pn_JudgedCharactersPinLaw) hisR ?_
  intro p e s m args below meth c s₁ Bd hml0 hP hK
  obtain ⟨rfl, hZ, hh⟩ := hP
  have hx := Bd.exec
  have hby := Bd.bytes
  have hml : c.maxLocals = 2 := hml0
  have hown : s.vm.findClass "com/example/haku/haku/eval/JudgedCharactersPinLaw" = some m.cls := findClass_of_methodNamed Bd.named
  have hnm := (name_of_methodNamed Bd.named Bd.method).1
  have X0 : Stand p l e ({ frames := 0, cells := 0, slots := 0, locals := 0 } : Room) s m #[(.long p1)] below meth c s₁ [] 0 0 := Stand.of_body Bd
  have e0 : s₁.heap = h0 := by rw [← hh, Bd.state]; rfl
  have N0 := Fr.nil n0
  have Zn := Z0
  have pre0 : ∀ t, Steps p.tables e below (s₁.setTop (mkF m 0 #[.val (.long p1), .second] [])) t → Steps p.tables e below (s₁.setTop (entryFrame m #[(.long p1)] 2)) t := fun t q => castTop (ef_L m p1) q
  have k0 : ∀ t, Steps p.tables e below (s₁.setTop (mkF m 0 #[.val (.long p1), .second] [])) t → Steps p.tables e below (s₁.setTop (mkF m 0 #[.val (.long p1), .second] [])) t := fun t q => q
  have k1_ : ∀ t, Steps p.tables e below (s₁.setTop (mkF m 7 #[.val (.long p1), .second] [(.int (((p1.toInt32) &&& (536870911 : Int32)) + (1 : Int32)))])) t → Steps p.tables e below (s₁.setTop (mkF m 0 #[.val (.long p1), .second] [])) t := by
    intro t q
    refine k0 _ ?_
    show Steps p.tables e below (s₁.setTop (mkF m 0 #[.val (.long p1), .second] [])) _
    refine XS.lloadN X0.here hx rfl (hb hby d_method_3_0) rfl ?_
    show Steps p.tables e below (s₁.setTop (mkF m 1 #[.val (.long p1), .second] [(.long p1)])) _
    refine XS.l2i X0.here hx rfl (hb hby d_method_3_1) rfl ?_
    show Steps p.tables e below (s₁.setTop (mkF m 2 #[.val (.long p1), .second] [(.int (p1.toInt32))])) _
    refine X0.ldcInt hx hown (mvT hZ (hw _ (List.mem_of_getElem? (i := 4) rfl))) (g := (mkF m 2 #[.val (.long p1), .second] [(.int (p1.toInt32))])) rfl (hb hby d_method_3_2) _ ?_
    show Steps p.tables e below (s₁.setTop (mkF m 4 #[.val (.long p1), .second] [(.int (536870911 : Int32)), (.int (p1.toInt32))])) _
    refine XS.iand X0.here hx rfl (hb hby d_method_3_4) rfl ?_
    show Steps p.tables e below (s₁.setTop (mkF m 5 #[.val (.long p1), .second] [(.int ((p1.toInt32) &&& (536870911 : Int32)))])) _
    refine XS.iconst X0.here hx rfl (hb hby d_method_3_5) ?_
    show Steps p.tables e below (s₁.setTop (mkF m 6 #[.val (.long p1), .second] [(.int (1 : Int32)), (.int ((p1.toInt32) &&& (536870911 : Int32)))])) _
    refine XS.iadd X0.here hx rfl (hb hby d_method_3_6) rfl ?_
    show Steps p.tables e below (s₁.setTop (mkF m 7 #[.val (.long p1), .second] [(.int (((p1.toInt32) &&& (536870911 : Int32)) + (1 : Int32)))])) _
    exact q
  obtain ⟨fs, hr, hrun, hended, hW, hsame⟩ := X0.leave (v := some (.int (((p1.toInt32) &&& (536870911 : Int32)) + (1 : Int32)))) (fun h => by rw [Bd.returns] at h; cases h)
  refine ⟨_, _, pre0 _ (k1_ _ ?_), hrun, hended, _, _, rfl, ?_, ⟨_, rfl⟩, hW, hsame.mono (by decide) (by decide)⟩
  · show Steps p.tables e below (s₁.setTop (mkF m 7 #[.val (.long p1), .second] [(.int (((p1.toInt32) &&& (536870911 : Int32)) + (1 : Int32)))])) _
    exact retI X0 hx Bd.returns (hb hby d_method_3_7) hr
  · show QL Z p1 h0 n0 _ s₁.heap _
    rw [e0]
    exact ⟨rfl, N0, rfl⟩
def QG (Z : State) (p1 : Int64) (h0 : Heap) (n0 : Nat) (v : Option Value) (h : Heap) (L : List Loc) : Prop := v = some (.int (own_gp p1)) ∧ Fr n0 L ∧ h = h0
theorem ef_G (m : MethodId) (x0 : Int64) : entryFrame m #[(.long x0)] 2 = mkF m 0 #[.val (.long x0), .second] [] := by first | (simp [entryFrame, mkF, argsToLocals, Value.category]; done) | rfl
theorem d_method_2_0 : decode method_2_code 0 = .ok (.lload_n 0, 1) := by decide +kernel
theorem d_method_2_1 : decode method_2_code 1 = .ok (.bipush 32, 2) := by decide +kernel
theorem d_method_2_3 : decode method_2_code 3 = .ok (.lushr, 1) := by decide +kernel
theorem d_method_2_4 : decode method_2_code 4 = .ok (.l2i, 1) := by decide +kernel
theorem d_method_2_5 : decode method_2_code 5 = .ok (.ldc 7, 2) := by decide +kernel
theorem d_method_2_7 : decode method_2_code 7 = .ok (.iand, 1) := by decide +kernel
theorem d_method_2_8 : decode method_2_code 8 = .ok (.ireturn, 1) := by decide +kernel
set_option maxRecDepth 65536 in
set_option maxHeartbeats 40000000 in
theorem rmG (l : Launch) (Z : State) (a0 : Array Value) (hw : ∀ d ∈ tables_1, d.before a0 Z = true) (ws : List Jvm.Cond) (p1 : Int64) (h0 : Heap) (n0 : Nat) (Z0 : n0 ≤ h0.size) :
    MetFree l (⟨"com/example/haku/haku/eval/JudgedCharactersPinLaw", "gap", "(J)I"⟩ : MethodName) (head1 (Jvm.Cond.code (⟨"com/example/haku/haku/eval/JudgedCharactersPinLaw", "gap", "(J)I"⟩ : MethodName) method_2_code 2 (some .int) :: ws) ({ frames := 0, cells := 0, slots := 0, locals := 0 } : Room)) (fun a' U => a' = #[(.long p1)] ∧ Z.Warmed39 U.vm ∧ U.heap = h0) (fun _ _ _ _ _ => True) (fun _ U o U' => ∃ v L, o = .returned v ∧ QG Z p1 h0 n0 v U'.heap L ∧ FrameEnd U o U' L ({ frames := 0, cells := 0, slots := 0, locals := 0 } : Room).cells ({ frames := 0, cells := 0, slots := 0, locals := 0 } : Room).slots) := by
  refine MetFree.of_bodySF (plainFor_of_name pn_JudgedCharactersPinLaw) hisR ?_
  intro p e s m args below meth c s₁ Bd hml0 hP hK
  obtain ⟨rfl, hZ, hh⟩ := hP
  have hx := Bd.exec
  have hby := Bd.bytes
  have hml : c.maxLocals = 2 := hml0
  have hown : s.vm.findClass "com/example/haku/haku/eval/JudgedCharactersPinLaw" = some m.cls := findClass_of_methodNamed Bd.named
  have hnm := (name_of_methodNamed Bd.named Bd.method).1
  have X0 : Stand p l e ({ frames := 0, cells := 0, slots := 0, locals := 0 } : Room) s m #[(.long p1)] below meth c s₁ [] 0 0 := Stand.of_body Bd
  have e0 : s₁.heap = h0 := by rw [← hh, Bd.state]; rfl
  have N0 := Fr.nil n0
  have Zn := Z0
  have pre0 : ∀ t, Steps p.tables e below (s₁.setTop (mkF m 0 #[.val (.long p1), .second] [])) t → Steps p.tables e below (s₁.setTop (entryFrame m #[(.long p1)] 2)) t := fun t q => castTop (ef_G m p1) q
  have k0 : ∀ t, Steps p.tables e below (s₁.setTop (mkF m 0 #[.val (.long p1), .second] [])) t → Steps p.tables e below (s₁.setTop (mkF m 0 #[.val (.long p1), .second] [])) t := fun t q => q
  have k1_ : ∀ t, Steps p.tables e below (s₁.setTop (mkF m 8 #[.val (.long p1), .second] [(.int ((((p1.toUInt64 >>> ((32 : Int32) &&& 0x3f).toInt64.toUInt64).toInt64).toInt32) &&& (134217727 : Int32)))])) t → Steps p.tables e below (s₁.setTop (mkF m 0 #[.val (.long p1), .second] [])) t := by
    intro t q
    refine k0 _ ?_
    show Steps p.tables e below (s₁.setTop (mkF m 0 #[.val (.long p1), .second] [])) _
    refine XS.lloadN X0.here hx rfl (hb hby d_method_2_0) rfl ?_
    show Steps p.tables e below (s₁.setTop (mkF m 1 #[.val (.long p1), .second] [(.long p1)])) _
    refine XS.bipush X0.here hx rfl (hb hby d_method_2_1) ?_
    show Steps p.tables e below (s₁.setTop (mkF m 3 #[.val (.long p1), .second] [(.int (32 : Int32)), (.long p1)])) _
    refine XS.lushr X0.here hx rfl (hb hby d_method_2_3) rfl ?_
    show Steps p.tables e below (s₁.setTop (mkF m 4 #[.val (.long p1), .second] [(.long ((p1.toUInt64 >>> ((32 : Int32) &&& 0x3f).toInt64.toUInt64).toInt64))])) _
    refine XS.l2i X0.here hx rfl (hb hby d_method_2_4) rfl ?_
    show Steps p.tables e below (s₁.setTop (mkF m 5 #[.val (.long p1), .second] [(.int (((p1.toUInt64 >>> ((32 : Int32) &&& 0x3f).toInt64.toUInt64).toInt64).toInt32))])) _
    refine X0.ldcInt hx hown (mvT hZ (hw _ (List.mem_of_getElem? (i := 8) rfl))) (g := (mkF m 5 #[.val (.long p1), .second] [(.int (((p1.toUInt64 >>> ((32 : Int32) &&& 0x3f).toInt64.toUInt64).toInt64).toInt32))])) rfl (hb hby d_method_2_5) _ ?_
    show Steps p.tables e below (s₁.setTop (mkF m 7 #[.val (.long p1), .second] [(.int (134217727 : Int32)), (.int (((p1.toUInt64 >>> ((32 : Int32) &&& 0x3f).toInt64.toUInt64).toInt64).toInt32))])) _
    refine XS.iand X0.here hx rfl (hb hby d_method_2_7) rfl ?_
    show Steps p.tables e below (s₁.setTop (mkF m 8 #[.val (.long p1), .second] [(.int ((((p1.toUInt64 >>> ((32 : Int32) &&& 0x3f).toInt64.toUInt64).toInt64).toInt32) &&& (134217727 : Int32)))])) _
    exact q
  obtain ⟨fs, hr, hrun, hended, hW, hsame⟩ := X0.leave (v := some (.int ((((p1.toUInt64 >>> ((32 : Int32) &&& 0x3f).toInt64.toUInt64).toInt64).toInt32) &&& (134217727 : Int32)))) (fun h => by rw [Bd.returns] at h; cases h)
  refine ⟨_, _, pre0 _ (k1_ _ ?_), hrun, hended, _, _, rfl, ?_, ⟨_, rfl⟩, hW, hsame.mono (by decide) (by decide)⟩
  · show Steps p.tables e below (s₁.setTop (mkF m 8 #[.val (.long p1), .second] [(.int ((((p1.toUInt64 >>> ((32 : Int32) &&& 0x3f).toInt64.toUInt64).toInt64).toInt32) &&& (134217727 : Int32)))])) _
    exact retI X0 hx Bd.returns (hb hby d_method_2_8) hr
  · show QG Z p1 h0 n0 _ s₁.heap _
    rw [e0]
    exact ⟨rfl, N0, rfl⟩
def QR (Z : State) (a : Addr) (h0 : Heap) (n0 : Nat) (v : Option Value) (h : Heap) (L : List Loc) : Prop := v = none ∧ Fr n0 L ∧ h = h0
theorem ef_R (m : MethodId) (x0 : Addr) : entryFrame m #[(.ref x0)] 1 = mkF m 0 #[.val (.ref x0)] [] := by first | (simp [entryFrame, mkF, argsToLocals, Value.category]; done) | rfl
theorem pn_Record : plainName "java/lang/Record" = true := by first | (simp [plainName, overriddenIn]; done) | decide +kernel
theorem d_jdk_30_method_1_0 : decode jdk_30_method_1_code 0 = .ok (.aload_n 0, 1) := by decide +kernel
theorem d_jdk_30_method_1_1 : decode jdk_30_method_1_code 1 = .ok (.invokespecial 1, 3) := by decide +kernel
theorem d_jdk_30_method_1_4 : decode jdk_30_method_1_code 4 = .ok (.return_, 1) := by decide +kernel
set_option maxRecDepth 65536 in
set_option maxHeartbeats 40000000 in
theorem rmR (l : Launch) (Z : State) (a0 : Array Value) (hw : ∀ d ∈ tables_1, d.before a0 Z = true) (ws : List Jvm.Cond) (a : Addr) (h0 : Heap) (n0 : Nat) (Z0 : n0 ≤ h0.size) :
    MetFree l (⟨"java/lang/Record", "<init>", "()V"⟩ : MethodName) (head1 (Jvm.Cond.code (⟨"java/lang/Record", "<init>", "()V"⟩ : MethodName) jdk_30_method_1_code 1 none :: ws) ({ frames := 1, cells := 0, slots := 0, locals := 12 } : Room)) (fun a' U => a' = #[(.ref a)] ∧ Z.Warmed39 U.vm ∧ U.heap = h0) (fun _ _ _ _ _ => True) (fun _ U o U' => ∃ v L, o = .returned v ∧ QR Z a h0 n0 v U'.heap L ∧ FrameEnd U o U' L ({ frames := 1, cells := 0, slots := 0, locals := 12 } : Room).cells ({ frames := 1, cells := 0, slots := 0, locals := 12 } : Room).slots) := by
  refine MetFree.of_bodySF (plainFor_of_name pn_Record) hisR ?_
  intro p e s m args below meth c s₁ Bd hml0 hP hK
  obtain ⟨rfl, hZ, hh⟩ := hP
  have hx := Bd.exec
  have hby := Bd.bytes
  have hml : c.maxLocals = 1 := hml0
  have hown : s.vm.findClass "java/lang/Record" = some m.cls := findClass_of_methodNamed Bd.named
  have hnm := (name_of_methodNamed Bd.named Bd.method).1
  have X0 : Stand p l e ({ frames := 1, cells := 0, slots := 0, locals := 12 } : Room) s m #[(.ref a)] below meth c s₁ [] 0 0 := Stand.of_body Bd
  have e0 : s₁.heap = h0 := by rw [← hh, Bd.state]; rfl
  have N0 := Fr.nil n0
  have Zn := Z0
  have pre0 : ∀ t, Steps p.tables e below (s₁.setTop (mkF m 0 #[.val (.ref a)] [])) t → Steps p.tables e below (s₁.setTop (entryFrame m #[(.ref a)] 1)) t := fun t q => castTop (ef_R m a) q
  have k0 : ∀ t, Steps p.tables e below (s₁.setTop (mkF m 0 #[.val (.ref a)] [])) t → Steps p.tables e below (s₁.setTop (mkF m 0 #[.val (.ref a)] [])) t := fun t q => q
  have k1_ : ∀ t, Steps p.tables e below (s₁.setTop (mkF m 1 #[.val (.ref a)] [(.ref a)])) t → Steps p.tables e below (s₁.setTop (mkF m 0 #[.val (.ref a)] [])) t := by
    intro t q
    refine k0 _ ?_
    show Steps p.tables e below (s₁.setTop (mkF m 0 #[.val (.ref a)] [])) _
    refine XS.aloadN X0.here hx rfl (hb hby d_jdk_30_method_1_0) rfl rfl ?_
    show Steps p.tables e below (s₁.setTop (mkF m 1 #[.val (.ref a)] [(.ref a)])) _
    exact q
  obtain ⟨T2, X2, e2, st2⟩ := initO X0 hx hZ hown (hw _ (List.mem_of_getElem? (i := 21) rfl)) (hw _ (List.mem_of_getElem? (i := 22) rfl)) (hw _ (List.mem_of_getElem? (i := 23) rfl)) e0 (g := (mkF m 1 #[.val (.ref a)] [(.ref a)])) rfl (by rw [hml]; rfl) rfl (hb hby d_jdk_30_method_1_1) (by decide) (W := 0) (by show 2 * 0 + _ ≤ _; exact Nat.le_of_eq rfl) (by decide)
  have k3_ : ∀ t, Steps p.tables e below (T2.setTop (mkF m 4 #[.val (.ref a)] [])) t → Steps p.tables e below (s₁.setTop (mkF m 0 #[.val (.ref a)] [])) t := fun t q => k1_ t (st2 t q)
  obtain ⟨fs, hr, hrun, hended, hW, hsame⟩ := X2.leave (v := none) (fun _ => rfl)
  refine ⟨_, _, pre0 _ (k3_ _ ?_), hrun, hended, _, _, rfl, ?_, ⟨_, rfl⟩, hW, hsame.mono (by decide) (by decide)⟩
  · show Steps p.tables e below (T2.setTop (mkF m 4 #[.val (.ref a)] [])) _
    exact X2.returnOut hx Bd.returns (hb hby d_jdk_30_method_1_4) hr
  · show QR Z a h0 n0 _ T2.heap _
    rw [e2]
    exact ⟨rfl, N0, rfl⟩
def QI (Z : State) (a : Addr) (ln : Int32) (sa : Addr) (ea : Addr) (h0 : Heap) (n0 : Nat) (v : Option Value) (h : Heap) (L : List Loc) : Prop := v = none ∧ Fr n0 L ∧ Keep h0 h [a] ∧ Exa Z h a "com/example/haku/haku/eval/FocusedJudgments$Judged" ∧ Fld Z h a "com/example/haku/haku/eval/FocusedJudgments$Judged" "starts" "[I" (.ref sa) ∧ Fld Z h a "com/example/haku/haku/eval/FocusedJudgments$Judged" "ends" "[I" (.ref ea)
theorem ef_I (m : MethodId) (x0 : Addr) (x1 : Int32) (x2 : Addr) (x3 : Addr) : entryFrame m #[(.ref x0), (.int x1), (.ref x2), (.ref x3)] 4 = mkF m 0 #[.val (.ref x0), .val (.int x1), .val (.ref x2), .val (.ref x3)] [] := by first | (simp [entryFrame, mkF, argsToLocals, Value.category]; done) | rfl
theorem pn_FocusedJudgments_Judged : plainName "com/example/haku/haku/eval/FocusedJudgments$Judged" = true := by first | (simp [plainName, overriddenIn]; done) | decide +kernel
theorem d_prog_33_method_1_0 : decode prog_33_method_1_code 0 = .ok (.aload_n 0, 1) := by decide +kernel
theorem pd_48334 : parseMethodDescriptor "()V" = some ⟨[], none⟩ := by decide +kernel
theorem d_prog_33_method_1_1 : decode prog_33_method_1_code 1 = .ok (.invokespecial 1, 3) := by decide +kernel
theorem d_prog_33_method_1_4 : decode prog_33_method_1_code 4 = .ok (.aload_n 0, 1) := by decide +kernel
theorem d_prog_33_method_1_5 : decode prog_33_method_1_code 5 = .ok (.iload_n 1, 1) := by decide +kernel
theorem d_prog_33_method_1_6 : decode prog_33_method_1_code 6 = .ok (.putfield 7, 3) := by decide +kernel
theorem d_prog_33_method_1_9 : decode prog_33_method_1_code 9 = .ok (.aload_n 0, 1) := by decide +kernel
theorem d_prog_33_method_1_10 : decode prog_33_method_1_code 10 = .ok (.aload_n 2, 1) := by decide +kernel
theorem d_prog_33_method_1_11 : decode prog_33_method_1_code 11 = .ok (.putfield 13, 3) := by decide +kernel
theorem d_prog_33_method_1_14 : decode prog_33_method_1_code 14 = .ok (.aload_n 0, 1) := by decide +kernel
theorem d_prog_33_method_1_15 : decode prog_33_method_1_code 15 = .ok (.aload_n 3, 1) := by decide +kernel
theorem d_prog_33_method_1_16 : decode prog_33_method_1_code 16 = .ok (.putfield 17, 3) := by decide +kernel
theorem d_prog_33_method_1_19 : decode prog_33_method_1_code 19 = .ok (.return_, 1) := by decide +kernel
set_option maxRecDepth 65536 in
set_option maxHeartbeats 40000000 in
theorem rmI (l : Launch) (Z : State) (a0 : Array Value) (hw : ∀ d ∈ tables_1, d.before a0 Z = true) (ws : List Jvm.Cond) (a : Addr) (ln : Int32) (sa : Addr) (ea : Addr) (h0 : Heap) (n0 : Nat) (Z0 : n0 ≤ h0.size) (EA : Exa Z h0 a "com/example/haku/haku/eval/FocusedJudgments$Judged") (F1 : Fld Z h0 a "com/example/haku/haku/eval/FocusedJudgments$Judged" "line" "I" (.int (0 : Int32))) (F2 : Fld Z h0 a "com/example/haku/haku/eval/FocusedJudgments$Judged" "starts" "[I" .null) (F3 : Fld Z h0 a "com/example/haku/haku/eval/FocusedJudgments$Judged" "ends" "[I" .null) (ga : n0 ≤ a) :
    MetFree l (⟨"com/example/haku/haku/eval/FocusedJudgments$Judged", "<init>", "(I[I[I)V"⟩ : MethodName) (head1 (Jvm.Cond.code (⟨"com/example/haku/haku/eval/FocusedJudgments$Judged", "<init>", "(I[I[I)V"⟩ : MethodName) prog_33_method_1_code 4 none :: ws) ({ frames := 2, cells := 0, slots := 0, locals := 24 } : Room)) (fun a' U => a' = #[(.ref a), (.int ln), (.ref sa), (.ref ea)] ∧ Z.Warmed39 U.vm ∧ U.heap = h0) (fun _ _ _ _ _ => True) (fun _ U o U' => ∃ v L, o = .returned v ∧ QI Z a ln sa ea h0 n0 v U'.heap L ∧ FrameEnd U o U' L ({ frames := 2, cells := 0, slots := 0, locals := 24 } : Room).cells ({ frames := 2, cells := 0, slots := 0, locals := 24 } : Room).slots) := by
  refine MetFree.of_bodySF (plainFor_of_name pn_FocusedJudgments_Judged) hisR ?_
  intro p e s m args below meth c s₁ Bd hml0 hP hK
  obtain ⟨rfl, hZ, hh⟩ := hP
  have hx := Bd.exec
  have hby := Bd.bytes
  have hml : c.maxLocals = 4 := hml0
  have hown : s.vm.findClass "com/example/haku/haku/eval/FocusedJudgments$Judged" = some m.cls := findClass_of_methodNamed Bd.named
  have hnm := (name_of_methodNamed Bd.named Bd.method).1
  have X0 : Stand p l e ({ frames := 2, cells := 0, slots := 0, locals := 24 } : Room) s m #[(.ref a), (.int ln), (.ref sa), (.ref ea)] below meth c s₁ [] 0 0 := Stand.of_body Bd
  have e0 : s₁.heap = h0 := by rw [← hh, Bd.state]; rfl
  have N0 := Fr.nil n0
  have Zn := Z0
  have pre0 : ∀ t, Steps p.tables e below (s₁.setTop (mkF m 0 #[.val (.ref a), .val (.int ln), .val (.ref sa), .val (.ref ea)] [])) t → Steps p.tables e below (s₁.setTop (entryFrame m #[(.ref a), (.int ln), (.ref sa), (.ref ea)] 4)) t := fun t q => castTop (ef_I m a ln sa ea) q
  have k0 : ∀ t, Steps p.tables e below (s₁.setTop (mkF m 0 #[.val (.ref a), .val (.int ln), .val (.ref sa), .val (.ref ea)] [])) t → Steps p.tables e below (s₁.setTop (mkF m 0 #[.val (.ref a), .val (.int ln), .val (.ref sa), .val (.ref ea)] [])) t := fun t q => q
  have k1_ : ∀ t, Steps p.tables e below (s₁.setTop (mkF m 1 #[.val (.ref a), .val (.int ln), .val (.ref sa), .val (.ref ea)] [(.ref a)])) t → Steps p.tables e below (s₁.setTop (mkF m 0 #[.val (.ref a), .val (.int ln), .val (.ref sa), .val (.ref ea)] [])) t := by
    intro t q
    refine k0 _ ?_
    show Steps p.tables e below (s₁.setTop (mkF m 0 #[.val (.ref a), .val (.int ln), .val (.ref sa), .val (.ref ea)] [])) _
    refine XS.aloadN X0.here hx rfl (hb hby d_prog_33_method_1_0) rfl rfl ?_
    show Steps p.tables e below (s₁.setTop (mkF m 1 #[.val (.ref a), .val (.int ln), .val (.ref sa), .val (.ref ea)] [(.ref a)])) _
    exact q
  obtain ⟨_, _, ⟨T2, L2, kk2, n2⟩, -, X2, ⟨Lc2, hQ2, l2, y2, z2⟩, st2⟩ := X0.specialBack hx (y := (⟨"java/lang/Record", "<init>", "()V"⟩ : MethodName)) rfl hown (mvT hZ (hw _ (List.mem_of_getElem? (i := 16) rfl))) (mvT hZ (hw _ (List.mem_of_getElem? (i := 17) rfl))) (mvT hZ (hw _ (List.mem_of_getElem? (i := 20) rfl))) (by decide) (backOf (W := 0) (rmR l Z a0 hw [] a h0 n0 Zn) hZ (hw _ (List.mem_of_getElem? (i := 20) rfl)) (hw _ (List.mem_of_getElem? (i := 19) rfl)) (by decide) (by decide)) (g := (mkF m 1 #[.val (.ref a), .val (.int ln), .val (.ref sa), .val (.ref ea)] [(.ref a)])) rfl (by rw [hml]; rfl) (Steps.refl _) (a := a) (argsL := []) (rest := []) (lenOf pd_48334 rfl) rfl (by show 2 * 0 + _ ≤ _; exact Nat.le_of_eq rfl) (hb hby d_prog_33_method_1_1) (fun _ _ => ⟨rfl, e0, (by decide : 0 + 0 ≤ _), (by decide : 0 + 0 ≤ _)⟩)
  dsimp only [Pt.U, Pt.locs, Pt.cells, Pt.slots] at X2 l2 y2 z2 st2 hQ2
  subst l2 y2 z2
  obtain ⟨rfl, Nq2, hq2⟩ := hQ2
  have N2 := Fr.app N0 Nq2
  have k3_ : ∀ t, Steps p.tables e below (T2.setTop (mkF m 4 #[.val (.ref a), .val (.int ln), .val (.ref sa), .val (.ref ea)] [])) t → Steps p.tables e below (s₁.setTop (mkF m 0 #[.val (.ref a), .val (.int ln), .val (.ref sa), .val (.ref ea)] [])) t := fun t q => k1_ t (st2.trans q)
  have KP := Keep.refl h0 [a]
  have k4_ : ∀ t, Steps p.tables e below (T2.setTop (mkF m 6 #[.val (.ref a), .val (.int ln), .val (.ref sa), .val (.ref ea)] [(.int ln), (.ref a)])) t → Steps p.tables e below (s₁.setTop (mkF m 0 #[.val (.ref a), .val (.int ln), .val (.ref sa), .val (.ref ea)] [])) t := by
    intro t q
    refine k3_ _ ?_
    show Steps p.tables e below (T2.setTop (mkF m 4 #[.val (.ref a), .val (.int ln), .val (.ref sa), .val (.ref ea)] [])) _
    refine XS.aloadN X2.here hx rfl (hb hby d_prog_33_method_1_4) rfl rfl ?_
    show Steps p.tables e below (T2.setTop (mkF m 5 #[.val (.ref a), .val (.int ln), .val (.ref sa), .val (.ref ea)] [(.ref a)])) _
    refine XS.iloadN X2.here hx rfl (hb hby d_prog_33_method_1_5) rfl ?_
    show Steps p.tables e below (T2.setTop (mkF m 6 #[.val (.ref a), .val (.int ln), .val (.ref sa), .val (.ref ea)] [(.int ln), (.ref a)])) _
    exact q
  obtain ⟨T5, h5, X5, e5, W5, st5⟩ := putF X2 hx hZ hown (host := "") (Or.inl (hw _ (List.mem_of_getElem? (i := 24) rfl))) Via.refl hq2 F1 EA (Or.inr ⟨(hw _ (List.mem_of_getElem? (i := 25) rfl)), rfl, hnm⟩) (hw _ (List.mem_of_getElem? (i := 11) rfl)) (ty := .int) (by decide) rfl rfl (g := (mkF m 6 #[.val (.ref a), .val (.int ln), .val (.ref sa), .val (.ref ea)] [(.int ln), (.ref a)])) rfl rfl (hb hby d_prog_33_method_1_6)
  have k6_ : ∀ t, Steps p.tables e below (T5.setTop (mkF m 9 #[.val (.ref a), .val (.int ln), .val (.ref sa), .val (.ref ea)] [])) t → Steps p.tables e below (s₁.setTop (mkF m 0 #[.val (.ref a), .val (.int ln), .val (.ref sa), .val (.ref ea)] [])) t := fun t q => k4_ t (st5 t q)
  have N5 := Fr.snoc X5 N2 ga
  replace Zn := Nat.le_trans Zn (Keep.of_wr W5).1
  replace EA := EA.wr W5
  replace F2 := F2.other W5 (Or.inr (slot_ne (Or.inr (hw _ (List.mem_of_getElem? (i := 27) rfl))) (Or.inr (hw _ (List.mem_of_getElem? (i := 25) rfl))) (by decide) (t := (.array .int)) (t' := .int) (by decide) (by decide)))
  replace F3 := F3.other W5 (Or.inr (slot_ne (Or.inr (hw _ (List.mem_of_getElem? (i := 29) rfl))) (Or.inr (hw _ (List.mem_of_getElem? (i := 25) rfl))) (by decide) (t := (.array .int)) (t' := .int) (by decide) (by decide)))
  replace F1 := F1.same W5
  replace KP := KP.wr W5 (Or.inl (List.mem_of_getElem? (i := 0) rfl))
  have k7_ : ∀ t, Steps p.tables e below (T5.setTop (mkF m 11 #[.val (.ref a), .val (.int ln), .val (.ref sa), .val (.ref ea)] [(.ref sa), (.ref a)])) t → Steps p.tables e below (s₁.setTop (mkF m 0 #[.val (.ref a), .val (.int ln), .val (.ref sa), .val (.ref ea)] [])) t := by
    intro t q
    refine k6_ _ ?_
    show Steps p.tables e below (T5.setTop (mkF m 9 #[.val (.ref a), .val (.int ln), .val (.ref sa), .val (.ref ea)] [])) _
    refine XS.aloadN X5.here hx rfl (hb hby d_prog_33_method_1_9) rfl rfl ?_
    show Steps p.tables e below (T5.setTop (mkF m 10 #[.val (.ref a), .val (.int ln), .val (.ref sa), .val (.ref ea)] [(.ref a)])) _
    refine XS.aloadN X5.here hx rfl (hb hby d_prog_33_method_1_10) rfl rfl ?_
    show Steps p.tables e below (T5.setTop (mkF m 11 #[.val (.ref a), .val (.int ln), .val (.ref sa), .val (.ref ea)] [(.ref sa), (.ref a)])) _
    exact q
  obtain ⟨T8, h8, X8, e8, W8, st8⟩ := putF X5 hx hZ hown (host := "") (Or.inl (hw _ (List.mem_of_getElem? (i := 26) rfl))) Via.refl e5 F2 EA (Or.inr ⟨(hw _ (List.mem_of_getElem? (i := 27) rfl)), rfl, hnm⟩) (hw _ (List.mem_of_getElem? (i := 11) rfl)) (ty := (.array .int)) (by decide) rfl rfl (g := (mkF m 11 #[.val (.ref a), .val (.int ln), .val (.ref sa), .val (.ref ea)] [(.ref sa), (.ref a)])) rfl rfl (hb hby d_prog_33_method_1_11)
  have k9_ : ∀ t, Steps p.tables e below (T8.setTop (mkF m 14 #[.val (.ref a), .val (.int ln), .val (.ref sa), .val (.ref ea)] [])) t → Steps p.tables e below (s₁.setTop (mkF m 0 #[.val (.ref a), .val (.int ln), .val (.ref sa), .val (.ref ea)] [])) t := fun t q => k7_ t (st8 t q)
  have N8 := Fr.snoc X8 N5 ga
  replace Zn := Nat.le_trans Zn (Keep.of_wr W8).1
  replace EA := EA.wr W8
  replace F1 := F1.other W8 (Or.inr (slot_ne (Or.inr (hw _ (List.mem_of_getElem? (i := 25) rfl))) (Or.inr (hw _ (List.mem_of_getElem? (i := 27) rfl))) (by decide) (t := .int) (t' := (.array .int)) (by decide) (by decide)))
  replace F3 := F3.other W8 (Or.inr (slot_ne (Or.inr (hw _ (List.mem_of_getElem? (i := 29) rfl))) (Or.inr (hw _ (List.mem_of_getElem? (i := 27) rfl))) (by decide) (t := (.array .int)) (t' := (.array .int)) (by decide) (by decide)))
  replace F2 := F2.same W8
  replace KP := KP.wr W8 (Or.inl (List.mem_of_getElem? (i := 0) rfl))
  have k10_ : ∀ t, Steps p.tables e below (T8.setTop (mkF m 16 #[.val (.ref a), .val (.int ln), .val (.ref sa), .val (.ref ea)] [(.ref ea), (.ref a)])) t → Steps p.tables e below (s₁.setTop (mkF m 0 #[.val (.ref a), .val (.int ln), .val (.ref sa), .val (.ref ea)] [])) t := by
    intro t q
    refine k9_ _ ?_
    show Steps p.tables e below (T8.setTop (mkF m 14 #[.val (.ref a), .val (.int ln), .val (.ref sa), .val (.ref ea)] [])) _
    refine XS.aloadN X8.here hx rfl (hb hby d_prog_33_method_1_14) rfl rfl ?_
    show Steps p.tables e below (T8.setTop (mkF m 15 #[.val (.ref a), .val (.int ln), .val (.ref sa), .val (.ref ea)] [(.ref a)])) _
    refine XS.aloadN X8.here hx rfl (hb hby d_prog_33_method_1_15) rfl rfl ?_
    show Steps p.tables e below (T8.setTop (mkF m 16 #[.val (.ref a), .val (.int ln), .val (.ref sa), .val (.ref ea)] [(.ref ea), (.ref a)])) _
    exact q
  obtain ⟨T11, h11, X11, e11, W11, st11⟩ := putF X8 hx hZ hown (host := "") (Or.inl (hw _ (List.mem_of_getElem? (i := 28) rfl))) Via.refl e8 F3 EA (Or.inr ⟨(hw _ (List.mem_of_getElem? (i := 29) rfl)), rfl, hnm⟩) (hw _ (List.mem_of_getElem? (i := 11) rfl)) (ty := (.array .int)) (by decide) rfl rfl (g := (mkF m 16 #[.val (.ref a), .val (.int ln), .val (.ref sa), .val (.ref ea)] [(.ref ea), (.ref a)])) rfl rfl (hb hby d_prog_33_method_1_16)
  have k12_ : ∀ t, Steps p.tables e below (T11.setTop (mkF m 19 #[.val (.ref a), .val (.int ln), .val (.ref sa), .val (.ref ea)] [])) t → Steps p.tables e below (s₁.setTop (mkF m 0 #[.val (.ref a), .val (.int ln), .val (.ref sa), .val (.ref ea)] [])) t := fun t q => k10_ t (st11 t q)
  have N11 := Fr.snoc X11 N8 ga
  replace Zn := Nat.le_trans Zn (Keep.of_wr W11).1
  replace EA := EA.wr W11
  replace F1 := F1.other W11 (Or.inr (slot_ne (Or.inr (hw _ (List.mem_of_getElem? (i := 25) rfl))) (Or.inr (hw _ (List.mem_of_getElem? (i := 29) rfl))) (by decide) (t := .int) (t' := (.array .int)) (by decide) (by decide)))
  replace F2 := F2.other W11 (Or.inr (slot_ne (Or.inr (hw _ (List.mem_of_getElem? (i := 27) rfl))) (Or.inr (hw _ (List.mem_of_getElem? (i := 29) rfl))) (by decide) (t := (.array .int)) (t' := (.array .int)) (by decide) (by decide)))
  replace F3 := F3.same W11
  replace KP := KP.wr W11 (Or.inl (List.mem_of_getElem? (i := 0) rfl))
  obtain ⟨fs, hr, hrun, hended, hW, hsame⟩ := X11.leave (v := none) (fun _ => rfl)
  refine ⟨_, _, pre0 _ (k12_ _ ?_), hrun, hended, _, _, rfl, ?_, ⟨_, rfl⟩, hW, hsame.mono (by decide) (by decide)⟩
  · show Steps p.tables e below (T11.setTop (mkF m 19 #[.val (.ref a), .val (.int ln), .val (.ref sa), .val (.ref ea)] [])) _
    exact X11.returnOut hx Bd.returns (hb hby d_prog_33_method_1_19) hr
  · show QI Z a ln sa ea h0 n0 _ T11.heap _
    rw [e11]
    exact ⟨rfl, N11, KP, EA, F2, F3⟩
def QH0 (Z : State) (a : Addr) (sa : Addr) (ea : Addr) (ks : ClassId) (ke : ClassId) (h0 : Heap) (n0 : Nat) (v : Option Value) (h : Heap) (L : List Loc) : Prop := v = some (.long (0 : Int64)) ∧ Fr n0 L ∧ h = h0
theorem ef_H0 (m : MethodId) (x0 : Addr) : entryFrame m #[(.ref x0)] 4 = mkF m 0 #[.val (.ref x0), .unset, .unset, .unset] [] := by first | (simp [entryFrame, mkF, argsToLocals, Value.category]; done) | rfl
theorem d_prog_33_method_2_0 : decode prog_33_method_2_code 0 = .ok (.lconst 0, 1) := by decide +kernel
theorem d_prog_33_method_2_1 : decode prog_33_method_2_code 1 = .ok (.lstore_n 1, 1) := by decide +kernel
theorem d_prog_33_method_2_2 : decode prog_33_method_2_code 2 = .ok (.iconst 0, 1) := by decide +kernel
theorem d_prog_33_method_2_3 : decode prog_33_method_2_code 3 = .ok (.istore_n 3, 1) := by decide +kernel
theorem d_prog_33_method_2_4 : decode prog_33_method_2_code 4 = .ok (.iload_n 3, 1) := by decide +kernel
theorem d_prog_33_method_2_5 : decode prog_33_method_2_code 5 = .ok (.aload_n 0, 1) := by decide +kernel
theorem d_prog_33_method_2_6 : decode prog_33_method_2_code 6 = .ok (.getfield 13, 3) := by decide +kernel
theorem d_prog_33_method_2_9 : decode prog_33_method_2_code 9 = .ok (.arraylength, 1) := by decide +kernel
theorem d_prog_33_method_2_10 : decode prog_33_method_2_code 10 = .ok (.if_icmp .ge 26, 3) := by decide +kernel
theorem d_prog_33_method_2_36 : decode prog_33_method_2_code 36 = .ok (.lload_n 1, 1) := by decide +kernel
theorem d_prog_33_method_2_37 : decode prog_33_method_2_code 37 = .ok (.lreturn, 1) := by decide +kernel
set_option maxRecDepth 65536 in
set_option maxHeartbeats 40000000 in
theorem rmH0 (l : Launch) (Z : State) (a0 : Array Value) (hw : ∀ d ∈ tables_1, d.before a0 Z = true) (ws : List Jvm.Cond) (a : Addr) (sa : Addr) (ea : Addr) (ks : ClassId) (ke : ClassId) (h0 : Heap) (n0 : Nat) (Z0 : n0 ≤ h0.size) (FS : Fld Z h0 a "com/example/haku/haku/eval/FocusedJudgments$Judged" "starts" "[I" (.ref sa)) (FE : Fld Z h0 a "com/example/haku/haku/eval/FocusedJudgments$Judged" "ends" "[I" (.ref ea)) (VS : Arv Z h0 sa ks .int (0 : Int32) [] (.int (0 : Int32))) (VE : Arv Z h0 ea ke .int (0 : Int32) [] (.int (0 : Int32))) :
    MetFree l (⟨"com/example/haku/haku/eval/FocusedJudgments$Judged", "characters", "()J"⟩ : MethodName) (head1 (Jvm.Cond.code (⟨"com/example/haku/haku/eval/FocusedJudgments$Judged", "characters", "()J"⟩ : MethodName) prog_33_method_2_code 4 (some .long) :: ws) ({ frames := 0, cells := 0, slots := 0, locals := 0 } : Room)) (fun a' U => a' = #[(.ref a)] ∧ Z.Warmed39 U.vm ∧ U.heap = h0) (fun _ _ _ _ _ => True) (fun _ U o U' => ∃ v L, o = .returned v ∧ QH0 Z a sa ea ks ke h0 n0 v U'.heap L ∧ FrameEnd U o U' L ({ frames := 0, cells := 0, slots := 0, locals := 0 } : Room).cells ({ frames := 0, cells := 0, slots := 0, locals := 0 } : Room).slots) := by
  refine MetFree.of_bodySF (plainFor_of_name pn_FocusedJudgments_Judged) hisR ?_
  intro p e s m args below meth c s₁ Bd hml0 hP hK
  obtain ⟨rfl, hZ, hh⟩ := hP
  have hx := Bd.exec
  have hby := Bd.bytes
  have hml : c.maxLocals = 4 := hml0
  have hown : s.vm.findClass "com/example/haku/haku/eval/FocusedJudgments$Judged" = some m.cls := findClass_of_methodNamed Bd.named
  have hnm := (name_of_methodNamed Bd.named Bd.method).1
  have X0 : Stand p l e ({ frames := 0, cells := 0, slots := 0, locals := 0 } : Room) s m #[(.ref a)] below meth c s₁ [] 0 0 := Stand.of_body Bd
  have e0 : s₁.heap = h0 := by rw [← hh, Bd.state]; rfl
  have N0 := Fr.nil n0
  have Zn := Z0
  have pre0 : ∀ t, Steps p.tables e below (s₁.setTop (mkF m 0 #[.val (.ref a), .unset, .unset, .unset] [])) t → Steps p.tables e below (s₁.setTop (entryFrame m #[(.ref a)] 4)) t := fun t q => castTop (ef_H0 m a) q
  have k0 : ∀ t, Steps p.tables e below (s₁.setTop (mkF m 0 #[.val (.ref a), .unset, .unset, .unset] [])) t → Steps p.tables e below (s₁.setTop (mkF m 0 #[.val (.ref a), .unset, .unset, .unset] [])) t := fun t q => q
  obtain ⟨cS, ArS, qS, SS, MS, HS, GS⟩ := VS
  obtain ⟨cE, ArE, qE, SE, ME, HE, GE⟩ := VE
  have k1_ : ∀ t, Steps p.tables e below (s₁.setTop (mkF m 6 #[.val (.ref a), .val (.long (0 : Int64)), .second, .val (.int (0 : Int32))] [(.ref a), (.int (0 : Int32))])) t → Steps p.tables e below (s₁.setTop (mkF m 0 #[.val (.ref a), .unset, .unset, .unset] [])) t := by
    intro t q
    refine k0 _ ?_
    show Steps p.tables e below (s₁.setTop (mkF m 0 #[.val (.ref a), .unset, .unset, .unset] [])) _
    refine XS.lconst X0.here hx rfl (hb hby d_prog_33_method_2_0) ?_
    show Steps p.tables e below (s₁.setTop (mkF m 1 #[.val (.ref a), .unset, .unset, .unset] [(.long (0 : Int64))])) _
    refine XS.lstoreN X0.here hx rfl (hb hby d_prog_33_method_2_1) rfl (l' := #[.val (.ref a), .val (.long (0 : Int64)), .second, .unset]) rfl ?_
    show Steps p.tables e below (s₁.setTop (mkF m 2 #[.val (.ref a), .val (.long (0 : Int64)), .second, .unset] [])) _
    refine XS.iconst X0.here hx rfl (hb hby d_prog_33_method_2_2) ?_
    show Steps p.tables e below (s₁.setTop (mkF m 3 #[.val (.ref a), .val (.long (0 : Int64)), .second, .unset] [(.int (0 : Int32))])) _
    refine XS.istoreN X0.here hx rfl (hb hby d_prog_33_method_2_3) rfl (l' := #[.val (.ref a), .val (.long (0 : Int64)), .second, .val (.int (0 : Int32))]) rfl ?_
    show Steps p.tables e below (s₁.setTop (mkF m 4 #[.val (.ref a), .val (.long (0 : Int64)), .second, .val (.int (0 : Int32))] [])) _
    refine XS.iloadN X0.here hx rfl (hb hby d_prog_33_method_2_4) rfl ?_
    show Steps p.tables e below (s₁.setTop (mkF m 5 #[.val (.ref a), .val (.long (0 : Int64)), .second, .val (.int (0 : Int32))] [(.int (0 : Int32))])) _
    refine XS.aloadN X0.here hx rfl (hb hby d_prog_33_method_2_5) rfl rfl ?_
    show Steps p.tables e below (s₁.setTop (mkF m 6 #[.val (.ref a), .val (.long (0 : Int64)), .second, .val (.int (0 : Int32))] [(.ref a), (.int (0 : Int32))])) _
    exact q
  obtain ⟨T2, X2, e2, st2⟩ := getF X0 hx hZ hown (host := "") (Or.inl (hw _ (List.mem_of_getElem? (i := 26) rfl))) Via.refl e0 FS (g := (mkF m 6 #[.val (.ref a), .val (.long (0 : Int64)), .second, .val (.int (0 : Int32))] [(.ref a), (.int (0 : Int32))])) rfl rfl (hb hby d_prog_33_method_2_6)
  have k3_ : ∀ t, Steps p.tables e below (T2.setTop (mkF m 9 #[.val (.ref a), .val (.long (0 : Int64)), .second, .val (.int (0 : Int32))] [(.ref sa), (.int (0 : Int32))])) t → Steps p.tables e below (s₁.setTop (mkF m 0 #[.val (.ref a), .unset, .unset, .unset] [])) t := fun t q => k1_ t (st2 t q)
  have k4_ : ∀ t, Steps p.tables e below (T2.setTop (mkF m 10 #[.val (.ref a), .val (.long (0 : Int64)), .second, .val (.int (0 : Int32))] [(.int (0 : Int32)), (.int (0 : Int32))])) t → Steps p.tables e below (s₁.setTop (mkF m 0 #[.val (.ref a), .unset, .unset, .unset] [])) t := by
    intro t q
    refine k3_ _ ?_
    show Steps p.tables e below (T2.setTop (mkF m 9 #[.val (.ref a), .val (.long (0 : Int64)), .second, .val (.int (0 : Int32))] [(.ref sa), (.int (0 : Int32))])) _
    refine X2.arraylength hx (by rw [e2]; exact ArS.1) (State.isArrayOf_alike hZ.alike ArS.2.1) (g := (mkF m 9 #[.val (.ref a), .val (.long (0 : Int64)), .second, .val (.int (0 : Int32))] [(.ref sa), (.int (0 : Int32))])) rfl rfl (hb hby d_prog_33_method_2_9) _ ?_
    rw [len_of SS MS]
    show Steps p.tables e below (T2.setTop (mkF m 10 #[.val (.ref a), .val (.long (0 : Int64)), .second, .val (.int (0 : Int32))] [(.int (0 : Int32)), (.int (0 : Int32))])) _
    exact q
  have k5_ : ∀ t, Steps p.tables e below (T2.setTop (mkF m 36 #[.val (.ref a), .val (.long (0 : Int64)), .second, .val (.int (0 : Int32))] [])) t → Steps p.tables e below (s₁.setTop (mkF m 0 #[.val (.ref a), .unset, .unset, .unset] [])) t := by
    intro t q
    refine k4_ _ ?_
    show Steps p.tables e below (T2.setTop (mkF m 10 #[.val (.ref a), .val (.long (0 : Int64)), .second, .val (.int (0 : Int32))] [(.int (0 : Int32)), (.int (0 : Int32))])) _
    refine XS.icmpYes X2.here hx rfl (pc0 := 10) (pc' := 36) rfl (hb hby d_prog_33_method_2_10) rfl (flt (by decide)).2.1 (by decide) (by decide) ?_
    show Steps p.tables e below (T2.setTop (mkF m 36 #[.val (.ref a), .val (.long (0 : Int64)), .second, .val (.int (0 : Int32))] [])) _
    exact q
  have k6_ : ∀ t, Steps p.tables e below (T2.setTop (mkF m 37 #[.val (.ref a), .val (.long (0 : Int64)), .second, .val (.int (0 : Int32))] [(.long (0 : Int64))])) t → Steps p.tables e below (s₁.setTop (mkF m 0 #[.val (.ref a), .unset, .unset, .unset] [])) t := by
    intro t q
    refine k5_ _ ?_
    show Steps p.tables e below (T2.setTop (mkF m 36 #[.val (.ref a), .val (.long (0 : Int64)), .second, .val (.int (0 : Int32))] [])) _
    refine XS.lloadN X2.here hx rfl (hb hby d_prog_33_method_2_36) rfl ?_
    show Steps p.tables e below (T2.setTop (mkF m 37 #[.val (.ref a), .val (.long (0 : Int64)), .second, .val (.int (0 : Int32))] [(.long (0 : Int64))])) _
    exact q
  obtain ⟨fs, hr, hrun, hended, hW, hsame⟩ := X2.leave (v := some (.long (0 : Int64))) (fun h => by rw [Bd.returns] at h; cases h)
  refine ⟨_, _, pre0 _ (k6_ _ ?_), hrun, hended, _, _, rfl, ?_, ⟨_, rfl⟩, hW, hsame.mono (by decide) (by decide)⟩
  · show Steps p.tables e below (T2.setTop (mkF m 37 #[.val (.ref a), .val (.long (0 : Int64)), .second, .val (.int (0 : Int32))] [(.long (0 : Int64))])) _
    exact X2.lreturnOut hx Bd.returns (hb hby d_prog_33_method_2_37) hr
  · show QH0 Z a sa ea ks ke h0 n0 _ T2.heap _
    rw [e2]
    exact ⟨rfl, N0, rfl⟩
def QH1 (Z : State) (a : Addr) (sa : Addr) (ea : Addr) (ks : ClassId) (ke : ClassId) (x0 : Int32) (y0 : Int32) (h0 : Heap) (n0 : Nat) (v : Option Value) (h : Heap) (L : List Loc) : Prop := v = some (.long ((0 : Int64) + ((y0 - x0).toInt64))) ∧ Fr n0 L ∧ h = h0
theorem ef_H1 (m : MethodId) (x0 : Addr) : entryFrame m #[(.ref x0)] 4 = mkF m 0 #[.val (.ref x0), .unset, .unset, .unset] [] := by first | (simp [entryFrame, mkF, argsToLocals, Value.category]; done) | rfl
theorem d_prog_33_method_2_13 : decode prog_33_method_2_code 13 = .ok (.lload_n 1, 1) := by decide +kernel
theorem d_prog_33_method_2_14 : decode prog_33_method_2_code 14 = .ok (.aload_n 0, 1) := by decide +kernel
theorem d_prog_33_method_2_15 : decode prog_33_method_2_code 15 = .ok (.getfield 17, 3) := by decide +kernel
theorem d_prog_33_method_2_18 : decode prog_33_method_2_code 18 = .ok (.iload_n 3, 1) := by decide +kernel
theorem d_prog_33_method_2_19 : decode prog_33_method_2_code 19 = .ok (.iaload, 1) := by decide +kernel
theorem d_prog_33_method_2_20 : decode prog_33_method_2_code 20 = .ok (.aload_n 0, 1) := by decide +kernel
theorem d_prog_33_method_2_21 : decode prog_33_method_2_code 21 = .ok (.getfield 13, 3) := by decide +kernel
theorem d_prog_33_method_2_24 : decode prog_33_method_2_code 24 = .ok (.iload_n 3, 1) := by decide +kernel
theorem d_prog_33_method_2_25 : decode prog_33_method_2_code 25 = .ok (.iaload, 1) := by decide +kernel
theorem d_prog_33_method_2_26 : decode prog_33_method_2_code 26 = .ok (.isub, 1) := by decide +kernel
theorem d_prog_33_method_2_27 : decode prog_33_method_2_code 27 = .ok (.i2l, 1) := by decide +kernel
theorem d_prog_33_method_2_28 : decode prog_33_method_2_code 28 = .ok (.ladd, 1) := by decide +kernel
theorem d_prog_33_method_2_29 : decode prog_33_method_2_code 29 = .ok (.lstore_n 1, 1) := by decide +kernel
theorem d_prog_33_method_2_30 : decode prog_33_method_2_code 30 = .ok (.iinc 3 1, 3) := by decide +kernel
theorem d_prog_33_method_2_33 : decode prog_33_method_2_code 33 = .ok (.goto (-29), 3) := by decide +kernel
set_option maxRecDepth 65536 in
set_option maxHeartbeats 40000000 in
theorem rmH1 (l : Launch) (Z : State) (a0 : Array Value) (hw : ∀ d ∈ tables_1, d.before a0 Z = true) (ws : List Jvm.Cond) (a : Addr) (sa : Addr) (ea : Addr) (ks : ClassId) (ke : ClassId) (x0 : Int32) (y0 : Int32) (h0 : Heap) (n0 : Nat) (Z0 : n0 ≤ h0.size) (FS : Fld Z h0 a "com/example/haku/haku/eval/FocusedJudgments$Judged" "starts" "[I" (.ref sa)) (FE : Fld Z h0 a "com/example/haku/haku/eval/FocusedJudgments$Judged" "ends" "[I" (.ref ea)) (VS : Arv Z h0 sa ks .int (1 : Int32) [(.int x0)] (.int (0 : Int32))) (VE : Arv Z h0 ea ke .int (1 : Int32) [(.int y0)] (.int (0 : Int32))) :
    MetFree l (⟨"com/example/haku/haku/eval/FocusedJudgments$Judged", "characters", "()J"⟩ : MethodName) (head1 (Jvm.Cond.code (⟨"com/example/haku/haku/eval/FocusedJudgments$Judged", "characters", "()J"⟩ : MethodName) prog_33_method_2_code 4 (some .long) :: ws) ({ frames := 0, cells := 0, slots := 0, locals := 0 } : Room)) (fun a' U => a' = #[(.ref a)] ∧ Z.Warmed39 U.vm ∧ U.heap = h0) (fun _ _ _ _ _ => True) (fun _ U o U' => ∃ v L, o = .returned v ∧ QH1 Z a sa ea ks ke x0 y0 h0 n0 v U'.heap L ∧ FrameEnd U o U' L ({ frames := 0, cells := 0, slots := 0, locals := 0 } : Room).cells ({ frames := 0, cells := 0, slots := 0, locals := 0 } : Room).slots) := by
  refine MetFree.of_bodySF (plainFor_of_name pn_FocusedJudgments_Judged) hisR ?_
  intro p e s m args below meth c s₁ Bd hml0 hP hK
  obtain ⟨rfl, hZ, hh⟩ := hP
  have hx := Bd.exec
  have hby := Bd.bytes
  have hml : c.maxLocals = 4 := hml0
  have hown : s.vm.findClass "com/example/haku/haku/eval/FocusedJudgments$Judged" = some m.cls := findClass_of_methodNamed Bd.named
  have hnm := (name_of_methodNamed Bd.named Bd.method).1
  have X0 : Stand p l e ({ frames := 0, cells := 0, slots := 0, locals := 0 } : Room) s m #[(.ref a)] below meth c s₁ [] 0 0 := Stand.of_body Bd
  have e0 : s₁.heap = h0 := by rw [← hh, Bd.state]; rfl
  have N0 := Fr.nil n0
  have Zn := Z0
  have pre0 : ∀ t, Steps p.tables e below (s₁.setTop (mkF m 0 #[.val (.ref a), .unset, .unset, .unset] [])) t → Steps p.tables e below (s₁.setTop (entryFrame m #[(.ref a)] 4)) t := fun t q => castTop (ef_H1 m a) q
  have k0 : ∀ t, Steps p.tables e below (s₁.setTop (mkF m 0 #[.val (.ref a), .unset, .unset, .unset] [])) t → Steps p.tables e below (s₁.setTop (mkF m 0 #[.val (.ref a), .unset, .unset, .unset] [])) t := fun t q => q
  obtain ⟨cS, ArS, qS, SS, MS, HS, GS⟩ := VS
  obtain ⟨cE, ArE, qE, SE, ME, HE, GE⟩ := VE
  have k1_ : ∀ t, Steps p.tables e below (s₁.setTop (mkF m 6 #[.val (.ref a), .val (.long (0 : Int64)), .second, .val (.int (0 : Int32))] [(.ref a), (.int (0 : Int32))])) t → Steps p.tables e below (s₁.setTop (mkF m 0 #[.val (.ref a), .unset, .unset, .unset] [])) t := by
    intro t q
    refine k0 _ ?_
    show Steps p.tables e below (s₁.setTop (mkF m 0 #[.val (.ref a), .unset, .unset, .unset] [])) _
    refine XS.lconst X0.here hx rfl (hb hby d_prog_33_method_2_0) ?_
    show Steps p.tables e below (s₁.setTop (mkF m 1 #[.val (.ref a), .unset, .unset, .unset] [(.long (0 : Int64))])) _
    refine XS.lstoreN X0.here hx rfl (hb hby d_prog_33_method_2_1) rfl (l' := #[.val (.ref a), .val (.long (0 : Int64)), .second, .unset]) rfl ?_
    show Steps p.tables e below (s₁.setTop (mkF m 2 #[.val (.ref a), .val (.long (0 : Int64)), .second, .unset] [])) _
    refine XS.iconst X0.here hx rfl (hb hby d_prog_33_method_2_2) ?_
    show Steps p.tables e below (s₁.setTop (mkF m 3 #[.val (.ref a), .val (.long (0 : Int64)), .second, .unset] [(.int (0 : Int32))])) _
    refine XS.istoreN X0.here hx rfl (hb hby d_prog_33_method_2_3) rfl (l' := #[.val (.ref a), .val (.long (0 : Int64)), .second, .val (.int (0 : Int32))]) rfl ?_
    show Steps p.tables e below (s₁.setTop (mkF m 4 #[.val (.ref a), .val (.long (0 : Int64)), .second, .val (.int (0 : Int32))] [])) _
    refine XS.iloadN X0.here hx rfl (hb hby d_prog_33_method_2_4) rfl ?_
    show Steps p.tables e below (s₁.setTop (mkF m 5 #[.val (.ref a), .val (.long (0 : Int64)), .second, .val (.int (0 : Int32))] [(.int (0 : Int32))])) _
    refine XS.aloadN X0.here hx rfl (hb hby d_prog_33_method_2_5) rfl rfl ?_
    show Steps p.tables e below (s₁.setTop (mkF m 6 #[.val (.ref a), .val (.long (0 : Int64)), .second, .val (.int (0 : Int32))] [(.ref a), (.int (0 : Int32))])) _
    exact q
  obtain ⟨T2, X2, e2, st2⟩ := getF X0 hx hZ hown (host := "") (Or.inl (hw _ (List.mem_of_getElem? (i := 26) rfl))) Via.refl e0 FS (g := (mkF m 6 #[.val (.ref a), .val (.long (0 : Int64)), .second, .val (.int (0 : Int32))] [(.ref a), (.int (0 : Int32))])) rfl rfl (hb hby d_prog_33_method_2_6)
  have k3_ : ∀ t, Steps p.tables e below (T2.setTop (mkF m 9 #[.val (.ref a), .val (.long (0 : Int64)), .second, .val (.int (0 : Int32))] [(.ref sa), (.int (0 : Int32))])) t → Steps p.tables e below (s₁.setTop (mkF m 0 #[.val (.ref a), .unset, .unset, .unset] [])) t := fun t q => k1_ t (st2 t q)
  have k4_ : ∀ t, Steps p.tables e below (T2.setTop (mkF m 10 #[.val (.ref a), .val (.long (0 : Int64)), .second, .val (.int (0 : Int32))] [(.int (1 : Int32)), (.int (0 : Int32))])) t → Steps p.tables e below (s₁.setTop (mkF m 0 #[.val (.ref a), .unset, .unset, .unset] [])) t := by
    intro t q
    refine k3_ _ ?_
    show Steps p.tables e below (T2.setTop (mkF m 9 #[.val (.ref a), .val (.long (0 : Int64)), .second, .val (.int (0 : Int32))] [(.ref sa), (.int (0 : Int32))])) _
    refine X2.arraylength hx (by rw [e2]; exact ArS.1) (State.isArrayOf_alike hZ.alike ArS.2.1) (g := (mkF m 9 #[.val (.ref a), .val (.long (0 : Int64)), .second, .val (.int (0 : Int32))] [(.ref sa), (.int (0 : Int32))])) rfl rfl (hb hby d_prog_33_method_2_9) _ ?_
    rw [len_of SS MS]
    show Steps p.tables e below (T2.setTop (mkF m 10 #[.val (.ref a), .val (.long (0 : Int64)), .second, .val (.int (0 : Int32))] [(.int (1 : Int32)), (.int (0 : Int32))])) _
    exact q
  have k5_ : ∀ t, Steps p.tables e below (T2.setTop (mkF m 13 #[.val (.ref a), .val (.long (0 : Int64)), .second, .val (.int (0 : Int32))] [])) t → Steps p.tables e below (s₁.setTop (mkF m 0 #[.val (.ref a), .unset, .unset, .unset] [])) t := by
    intro t q
    refine k4_ _ ?_
    show Steps p.tables e below (T2.setTop (mkF m 10 #[.val (.ref a), .val (.long (0 : Int64)), .second, .val (.int (0 : Int32))] [(.int (1 : Int32)), (.int (0 : Int32))])) _
    refine XS.icmpNo X2.here hx rfl (hb hby d_prog_33_method_2_10) rfl (tlt (by decide)).2.1 ?_
    show Steps p.tables e below (T2.setTop (mkF m 13 #[.val (.ref a), .val (.long (0 : Int64)), .second, .val (.int (0 : Int32))] [])) _
    exact q
  have k6_ : ∀ t, Steps p.tables e below (T2.setTop (mkF m 15 #[.val (.ref a), .val (.long (0 : Int64)), .second, .val (.int (0 : Int32))] [(.ref a), (.long (0 : Int64))])) t → Steps p.tables e below (s₁.setTop (mkF m 0 #[.val (.ref a), .unset, .unset, .unset] [])) t := by
    intro t q
    refine k5_ _ ?_
    show Steps p.tables e below (T2.setTop (mkF m 13 #[.val (.ref a), .val (.long (0 : Int64)), .second, .val (.int (0 : Int32))] [])) _
    refine XS.lloadN X2.here hx rfl (hb hby d_prog_33_method_2_13) rfl ?_
    show Steps p.tables e below (T2.setTop (mkF m 14 #[.val (.ref a), .val (.long (0 : Int64)), .second, .val (.int (0 : Int32))] [(.long (0 : Int64))])) _
    refine XS.aloadN X2.here hx rfl (hb hby d_prog_33_method_2_14) rfl rfl ?_
    show Steps p.tables e below (T2.setTop (mkF m 15 #[.val (.ref a), .val (.long (0 : Int64)), .second, .val (.int (0 : Int32))] [(.ref a), (.long (0 : Int64))])) _
    exact q
  obtain ⟨T7, X7, e7, st7⟩ := getF X2 hx hZ hown (host := "") (Or.inl (hw _ (List.mem_of_getElem? (i := 28) rfl))) Via.refl e2 FE (g := (mkF m 15 #[.val (.ref a), .val (.long (0 : Int64)), .second, .val (.int (0 : Int32))] [(.ref a), (.long (0 : Int64))])) rfl rfl (hb hby d_prog_33_method_2_15)
  have k8_ : ∀ t, Steps p.tables e below (T7.setTop (mkF m 18 #[.val (.ref a), .val (.long (0 : Int64)), .second, .val (.int (0 : Int32))] [(.ref ea), (.long (0 : Int64))])) t → Steps p.tables e below (s₁.setTop (mkF m 0 #[.val (.ref a), .unset, .unset, .unset] [])) t := fun t q => k6_ t (st7 t q)
  have k9_ : ∀ t, Steps p.tables e below (T7.setTop (mkF m 21 #[.val (.ref a), .val (.long (0 : Int64)), .second, .val (.int (0 : Int32))] [(.ref a), (.int y0), (.long (0 : Int64))])) t → Steps p.tables e below (s₁.setTop (mkF m 0 #[.val (.ref a), .unset, .unset, .unset] [])) t := by
    intro t q
    refine k8_ _ ?_
    show Steps p.tables e below (T7.setTop (mkF m 18 #[.val (.ref a), .val (.long (0 : Int64)), .second, .val (.int (0 : Int32))] [(.ref ea), (.long (0 : Int64))])) _
    refine XS.iloadN X7.here hx rfl (hb hby d_prog_33_method_2_18) rfl ?_
    show Steps p.tables e below (T7.setTop (mkF m 19 #[.val (.ref a), .val (.long (0 : Int64)), .second, .val (.int (0 : Int32))] [(.int (0 : Int32)), (.ref ea), (.long (0 : Int64))])) _
    refine X7.iaload hx (j := (0 : Int32)) (v := (.int y0)) (by rw [e7]; exact ArE.1) (State.isArrayOf_alike hZ.alike ArE.2.1) ArE.2.2 (inb_of SE ⟨by decide, by decide⟩) (HE.at (inb_of SE ⟨by decide, by decide⟩) rfl) (g := (mkF m 19 #[.val (.ref a), .val (.long (0 : Int64)), .second, .val (.int (0 : Int32))] [(.int (0 : Int32)), (.ref ea), (.long (0 : Int64))])) rfl rfl (hb hby d_prog_33_method_2_19) _ ?_
    show Steps p.tables e below (T7.setTop (mkF m 20 #[.val (.ref a), .val (.long (0 : Int64)), .second, .val (.int (0 : Int32))] [(.int y0), (.long (0 : Int64))])) _
    refine XS.aloadN X7.here hx rfl (hb hby d_prog_33_method_2_20) rfl rfl ?_
    show Steps p.tables e below (T7.setTop (mkF m 21 #[.val (.ref a), .val (.long (0 : Int64)), .second, .val (.int (0 : Int32))] [(.ref a), (.int y0), (.long (0 : Int64))])) _
    exact q
  obtain ⟨T10, X10, e10, st10⟩ := getF X7 hx hZ hown (host := "") (Or.inl (hw _ (List.mem_of_getElem? (i := 26) rfl))) Via.refl e7 FS (g := (mkF m 21 #[.val (.ref a), .val (.long (0 : Int64)), .second, .val (.int (0 : Int32))] [(.ref a), (.int y0), (.long (0 : Int64))])) rfl rfl (hb hby d_prog_33_method_2_21)
  have k11_ : ∀ t, Steps p.tables e below (T10.setTop (mkF m 24 #[.val (.ref a), .val (.long (0 : Int64)), .second, .val (.int (0 : Int32))] [(.ref sa), (.int y0), (.long (0 : Int64))])) t → Steps p.tables e below (s₁.setTop (mkF m 0 #[.val (.ref a), .unset, .unset, .unset] [])) t := fun t q => k9_ t (st10 t q)
  have k12_ : ∀ t, Steps p.tables e below (T10.setTop (mkF m 4 #[.val (.ref a), .val (.long ((0 : Int64) + ((y0 - x0).toInt64))), .second, .val (.int ((0 : Int32) + (1 : Int32)))] [])) t → Steps p.tables e below (s₁.setTop (mkF m 0 #[.val (.ref a), .unset, .unset, .unset] [])) t := by
    intro t q
    refine k11_ _ ?_
    show Steps p.tables e below (T10.setTop (mkF m 24 #[.val (.ref a), .val (.long (0 : Int64)), .second, .val (.int (0 : Int32))] [(.ref sa), (.int y0), (.long (0 : Int64))])) _
    refine XS.iloadN X10.here hx rfl (hb hby d_prog_33_method_2_24) rfl ?_
    show Steps p.tables e below (T10.setTop (mkF m 25 #[.val (.ref a), .val (.long (0 : Int64)), .second, .val (.int (0 : Int32))] [(.int (0 : Int32)), (.ref sa), (.int y0), (.long (0 : Int64))])) _
    refine X10.iaload hx (j := (0 : Int32)) (v := (.int x0)) (by rw [e10]; exact ArS.1) (State.isArrayOf_alike hZ.alike ArS.2.1) ArS.2.2 (inb_of SS ⟨by decide, by decide⟩) (HS.at (inb_of SS ⟨by decide, by decide⟩) rfl) (g := (mkF m 25 #[.val (.ref a), .val (.long (0 : Int64)), .second, .val (.int (0 : Int32))] [(.int (0 : Int32)), (.ref sa), (.int y0), (.long (0 : Int64))])) rfl rfl (hb hby d_prog_33_method_2_25) _ ?_
    show Steps p.tables e below (T10.setTop (mkF m 26 #[.val (.ref a), .val (.long (0 : Int64)), .second, .val (.int (0 : Int32))] [(.int x0), (.int y0), (.long (0 : Int64))])) _
    refine XS.isub X10.here hx rfl (hb hby d_prog_33_method_2_26) rfl ?_
    show Steps p.tables e below (T10.setTop (mkF m 27 #[.val (.ref a), .val (.long (0 : Int64)), .second, .val (.int (0 : Int32))] [(.int (y0 - x0)), (.long (0 : Int64))])) _
    refine XS.i2l X10.here hx rfl (hb hby d_prog_33_method_2_27) rfl ?_
    show Steps p.tables e below (T10.setTop (mkF m 28 #[.val (.ref a), .val (.long (0 : Int64)), .second, .val (.int (0 : Int32))] [(.long ((y0 - x0).toInt64)), (.long (0 : Int64))])) _
    refine XS.ladd X10.here hx rfl (hb hby d_prog_33_method_2_28) rfl ?_
    show Steps p.tables e below (T10.setTop (mkF m 29 #[.val (.ref a), .val (.long (0 : Int64)), .second, .val (.int (0 : Int32))] [(.long ((0 : Int64) + ((y0 - x0).toInt64)))])) _
    refine XS.lstoreN X10.here hx rfl (hb hby d_prog_33_method_2_29) rfl (l' := #[.val (.ref a), .val (.long ((0 : Int64) + ((y0 - x0).toInt64))), .second, .val (.int (0 : Int32))]) rfl ?_
    show Steps p.tables e below (T10.setTop (mkF m 30 #[.val (.ref a), .val (.long ((0 : Int64) + ((y0 - x0).toInt64))), .second, .val (.int (0 : Int32))] [])) _
    refine XS.iinc X10.here hx rfl (hb hby d_prog_33_method_2_30) rfl (l' := #[.val (.ref a), .val (.long ((0 : Int64) + ((y0 - x0).toInt64))), .second, .val (.int ((0 : Int32) + (1 : Int32)))]) rfl ?_
    show Steps p.tables e below (T10.setTop (mkF m 33 #[.val (.ref a), .val (.long ((0 : Int64) + ((y0 - x0).toInt64))), .second, .val (.int ((0 : Int32) + (1 : Int32)))] [])) _
    refine XS.goto X10.here hx rfl (pc0 := 33) (pc' := 4) rfl (hb hby d_prog_33_method_2_33) (by decide) (by decide) ?_
    show Steps p.tables e below (T10.setTop (mkF m 4 #[.val (.ref a), .val (.long ((0 : Int64) + ((y0 - x0).toInt64))), .second, .val (.int ((0 : Int32) + (1 : Int32)))] [])) _
    exact q
  have k13_ : ∀ t, Steps p.tables e below (T10.setTop (mkF m 6 #[.val (.ref a), .val (.long ((0 : Int64) + ((y0 - x0).toInt64))), .second, .val (.int ((0 : Int32) + (1 : Int32)))] [(.ref a), (.int ((0 : Int32) + (1 : Int32)))])) t → Steps p.tables e below (s₁.setTop (mkF m 0 #[.val (.ref a), .unset, .unset, .unset] [])) t := by
    intro t q
    refine k12_ _ ?_
    show Steps p.tables e below (T10.setTop (mkF m 4 #[.val (.ref a), .val (.long ((0 : Int64) + ((y0 - x0).toInt64))), .second, .val (.int ((0 : Int32) + (1 : Int32)))] [])) _
    refine XS.iloadN X10.here hx rfl (hb hby d_prog_33_method_2_4) rfl ?_
    show Steps p.tables e below (T10.setTop (mkF m 5 #[.val (.ref a), .val (.long ((0 : Int64) + ((y0 - x0).toInt64))), .second, .val (.int ((0 : Int32) + (1 : Int32)))] [(.int ((0 : Int32) + (1 : Int32)))])) _
    refine XS.aloadN X10.here hx rfl (hb hby d_prog_33_method_2_5) rfl rfl ?_
    show Steps p.tables e below (T10.setTop (mkF m 6 #[.val (.ref a), .val (.long ((0 : Int64) + ((y0 - x0).toInt64))), .second, .val (.int ((0 : Int32) + (1 : Int32)))] [(.ref a), (.int ((0 : Int32) + (1 : Int32)))])) _
    exact q
  obtain ⟨T14, X14, e14, st14⟩ := getF X10 hx hZ hown (host := "") (Or.inl (hw _ (List.mem_of_getElem? (i := 26) rfl))) Via.refl e10 FS (g := (mkF m 6 #[.val (.ref a), .val (.long ((0 : Int64) + ((y0 - x0).toInt64))), .second, .val (.int ((0 : Int32) + (1 : Int32)))] [(.ref a), (.int ((0 : Int32) + (1 : Int32)))])) rfl rfl (hb hby d_prog_33_method_2_6)
  have k15_ : ∀ t, Steps p.tables e below (T14.setTop (mkF m 9 #[.val (.ref a), .val (.long ((0 : Int64) + ((y0 - x0).toInt64))), .second, .val (.int ((0 : Int32) + (1 : Int32)))] [(.ref sa), (.int ((0 : Int32) + (1 : Int32)))])) t → Steps p.tables e below (s₁.setTop (mkF m 0 #[.val (.ref a), .unset, .unset, .unset] [])) t := fun t q => k13_ t (st14 t q)
  have k16_ : ∀ t, Steps p.tables e below (T14.setTop (mkF m 10 #[.val (.ref a), .val (.long ((0 : Int64) + ((y0 - x0).toInt64))), .second, .val (.int ((0 : Int32) + (1 : Int32)))] [(.int (1 : Int32)), (.int ((0 : Int32) + (1 : Int32)))])) t → Steps p.tables e below (s₁.setTop (mkF m 0 #[.val (.ref a), .unset, .unset, .unset] [])) t := by
    intro t q
    refine k15_ _ ?_
    show Steps p.tables e below (T14.setTop (mkF m 9 #[.val (.ref a), .val (.long ((0 : Int64) + ((y0 - x0).toInt64))), .second, .val (.int ((0 : Int32) + (1 : Int32)))] [(.ref sa), (.int ((0 : Int32) + (1 : Int32)))])) _
    refine X14.arraylength hx (by rw [e14]; exact ArS.1) (State.isArrayOf_alike hZ.alike ArS.2.1) (g := (mkF m 9 #[.val (.ref a), .val (.long ((0 : Int64) + ((y0 - x0).toInt64))), .second, .val (.int ((0 : Int32) + (1 : Int32)))] [(.ref sa), (.int ((0 : Int32) + (1 : Int32)))])) rfl rfl (hb hby d_prog_33_method_2_9) _ ?_
    rw [len_of SS MS]
    show Steps p.tables e below (T14.setTop (mkF m 10 #[.val (.ref a), .val (.long ((0 : Int64) + ((y0 - x0).toInt64))), .second, .val (.int ((0 : Int32) + (1 : Int32)))] [(.int (1 : Int32)), (.int ((0 : Int32) + (1 : Int32)))])) _
    exact q
  have k17_ : ∀ t, Steps p.tables e below (T14.setTop (mkF m 36 #[.val (.ref a), .val (.long ((0 : Int64) + ((y0 - x0).toInt64))), .second, .val (.int ((0 : Int32) + (1 : Int32)))] [])) t → Steps p.tables e below (s₁.setTop (mkF m 0 #[.val (.ref a), .unset, .unset, .unset] [])) t := by
    intro t q
    refine k16_ _ ?_
    show Steps p.tables e below (T14.setTop (mkF m 10 #[.val (.ref a), .val (.long ((0 : Int64) + ((y0 - x0).toInt64))), .second, .val (.int ((0 : Int32) + (1 : Int32)))] [(.int (1 : Int32)), (.int ((0 : Int32) + (1 : Int32)))])) _
    refine XS.icmpYes X14.here hx rfl (pc0 := 10) (pc' := 36) rfl (hb hby d_prog_33_method_2_10) rfl (flt (by decide)).2.1 (by decide) (by decide) ?_
    show Steps p.tables e below (T14.setTop (mkF m 36 #[.val (.ref a), .val (.long ((0 : Int64) + ((y0 - x0).toInt64))), .second, .val (.int ((0 : Int32) + (1 : Int32)))] [])) _
    exact q
  have k18_ : ∀ t, Steps p.tables e below (T14.setTop (mkF m 37 #[.val (.ref a), .val (.long ((0 : Int64) + ((y0 - x0).toInt64))), .second, .val (.int ((0 : Int32) + (1 : Int32)))] [(.long ((0 : Int64) + ((y0 - x0).toInt64)))])) t → Steps p.tables e below (s₁.setTop (mkF m 0 #[.val (.ref a), .unset, .unset, .unset] [])) t := by
    intro t q
    refine k17_ _ ?_
    show Steps p.tables e below (T14.setTop (mkF m 36 #[.val (.ref a), .val (.long ((0 : Int64) + ((y0 - x0).toInt64))), .second, .val (.int ((0 : Int32) + (1 : Int32)))] [])) _
    refine XS.lloadN X14.here hx rfl (hb hby d_prog_33_method_2_36) rfl ?_
    show Steps p.tables e below (T14.setTop (mkF m 37 #[.val (.ref a), .val (.long ((0 : Int64) + ((y0 - x0).toInt64))), .second, .val (.int ((0 : Int32) + (1 : Int32)))] [(.long ((0 : Int64) + ((y0 - x0).toInt64)))])) _
    exact q
  obtain ⟨fs, hr, hrun, hended, hW, hsame⟩ := X14.leave (v := some (.long ((0 : Int64) + ((y0 - x0).toInt64)))) (fun h => by rw [Bd.returns] at h; cases h)
  refine ⟨_, _, pre0 _ (k18_ _ ?_), hrun, hended, _, _, rfl, ?_, ⟨_, rfl⟩, hW, hsame.mono (by decide) (by decide)⟩
  · show Steps p.tables e below (T14.setTop (mkF m 37 #[.val (.ref a), .val (.long ((0 : Int64) + ((y0 - x0).toInt64))), .second, .val (.int ((0 : Int32) + (1 : Int32)))] [(.long ((0 : Int64) + ((y0 - x0).toInt64)))])) _
    exact X14.lreturnOut hx Bd.returns (hb hby d_prog_33_method_2_37) hr
  · show QH1 Z a sa ea ks ke x0 y0 h0 n0 _ T14.heap _
    rw [e14]
    exact ⟨rfl, N0, rfl⟩
def QH2 (Z : State) (a : Addr) (sa : Addr) (ea : Addr) (ks : ClassId) (ke : ClassId) (x0 : Int32) (x1 : Int32) (y0 : Int32) (y1 : Int32) (h0 : Heap) (n0 : Nat) (v : Option Value) (h : Heap) (L : List Loc) : Prop := v = some (.long (((0 : Int64) + ((y0 - x0).toInt64)) + ((y1 - x1).toInt64))) ∧ Fr n0 L ∧ h = h0
theorem ef_H2 (m : MethodId) (x0 : Addr) : entryFrame m #[(.ref x0)] 4 = mkF m 0 #[.val (.ref x0), .unset, .unset, .unset] [] := by first | (simp [entryFrame, mkF, argsToLocals, Value.category]; done) | rfl
set_option maxRecDepth 65536 in
set_option maxHeartbeats 40000000 in
theorem rmH2 (l : Launch) (Z : State) (a0 : Array Value) (hw : ∀ d ∈ tables_1, d.before a0 Z = true) (ws : List Jvm.Cond) (a : Addr) (sa : Addr) (ea : Addr) (ks : ClassId) (ke : ClassId) (x0 : Int32) (x1 : Int32) (y0 : Int32) (y1 : Int32) (h0 : Heap) (n0 : Nat) (Z0 : n0 ≤ h0.size) (FS : Fld Z h0 a "com/example/haku/haku/eval/FocusedJudgments$Judged" "starts" "[I" (.ref sa)) (FE : Fld Z h0 a "com/example/haku/haku/eval/FocusedJudgments$Judged" "ends" "[I" (.ref ea)) (VS : Arv Z h0 sa ks .int (2 : Int32) [(.int x0), (.int x1)] (.int (0 : Int32))) (VE : Arv Z h0 ea ke .int (2 : Int32) [(.int y0), (.int y1)] (.int (0 : Int32))) :
    MetFree l (⟨"com/example/haku/haku/eval/FocusedJudgments$Judged", "characters", "()J"⟩ : MethodName) (head1 (Jvm.Cond.code (⟨"com/example/haku/haku/eval/FocusedJudgments$Judged", "characters", "()J"⟩ : MethodName) prog_33_method_2_code 4 (some .long) :: ws) ({ frames := 0, cells := 0, slots := 0, locals := 0 } : Room)) (fun a' U => a' = #[(.ref a)] ∧ Z.Warmed39 U.vm ∧ U.heap = h0) (fun _ _ _ _ _ => True) (fun _ U o U' => ∃ v L, o = .returned v ∧ QH2 Z a sa ea ks ke x0 x1 y0 y1 h0 n0 v U'.heap L ∧ FrameEnd U o U' L ({ frames := 0, cells := 0, slots := 0, locals := 0 } : Room).cells ({ frames := 0, cells := 0, slots := 0, locals := 0 } : Room).slots) := by
  refine MetFree.of_bodySF (plainFor_of_name pn_FocusedJudgments_Judged) hisR ?_
  intro p e s m args below meth c s₁ Bd hml0 hP hK
  obtain ⟨rfl, hZ, hh⟩ := hP
  have hx := Bd.exec
  have hby := Bd.bytes
  have hml : c.maxLocals = 4 := hml0
  have hown : s.vm.findClass "com/example/haku/haku/eval/FocusedJudgments$Judged" = some m.cls := findClass_of_methodNamed Bd.named
  have hnm := (name_of_methodNamed Bd.named Bd.method).1
  have X0 : Stand p l e ({ frames := 0, cells := 0, slots := 0, locals := 0 } : Room) s m #[(.ref a)] below meth c s₁ [] 0 0 := Stand.of_body Bd
  have e0 : s₁.heap = h0 := by rw [← hh, Bd.state]; rfl
  have N0 := Fr.nil n0
  have Zn := Z0
  have pre0 : ∀ t, Steps p.tables e below (s₁.setTop (mkF m 0 #[.val (.ref a), .unset, .unset, .unset] [])) t → Steps p.tables e below (s₁.setTop (entryFrame m #[(.ref a)] 4)) t := fun t q => castTop (ef_H2 m a) q
  have k0 : ∀ t, Steps p.tables e below (s₁.setTop (mkF m 0 #[.val (.ref a), .unset, .unset, .unset] [])) t → Steps p.tables e below (s₁.setTop (mkF m 0 #[.val (.ref a), .unset, .unset, .unset] [])) t := fun t q => q
  obtain ⟨cS, ArS, qS, SS, MS, HS, GS⟩ := VS
  obtain ⟨cE, ArE, qE, SE, ME, HE, GE⟩ := VE
  have k1_ : ∀ t, Steps p.tables e below (s₁.setTop (mkF m 6 #[.val (.ref a), .val (.long (0 : Int64)), .second, .val (.int (0 : Int32))] [(.ref a), (.int (0 : Int32))])) t → Steps p.tables e below (s₁.setTop (mkF m 0 #[.val (.ref a), .unset, .unset, .unset] [])) t := by
    intro t q
    refine k0 _ ?_
    show Steps p.tables e below (s₁.setTop (mkF m 0 #[.val (.ref a), .unset, .unset, .unset] [])) _
    refine XS.lconst X0.here hx rfl (hb hby d_prog_33_method_2_0) ?_
    show Steps p.tables e below (s₁.setTop (mkF m 1 #[.val (.ref a), .unset, .unset, .unset] [(.long (0 : Int64))])) _
    refine XS.lstoreN X0.here hx rfl (hb hby d_prog_33_method_2_1) rfl (l' := #[.val (.ref a), .val (.long (0 : Int64)), .second, .unset]) rfl ?_
    show Steps p.tables e below (s₁.setTop (mkF m 2 #[.val (.ref a), .val (.long (0 : Int64)), .second, .unset] [])) _
    refine XS.iconst X0.here hx rfl (hb hby d_prog_33_method_2_2) ?_
    show Steps p.tables e below (s₁.setTop (mkF m 3 #[.val (.ref a), .val (.long (0 : Int64)), .second, .unset] [(.int (0 : Int32))])) _
    refine XS.istoreN X0.here hx rfl (hb hby d_prog_33_method_2_3) rfl (l' := #[.val (.ref a), .val (.long (0 : Int64)), .second, .val (.int (0 : Int32))]) rfl ?_
    show Steps p.tables e below (s₁.setTop (mkF m 4 #[.val (.ref a), .val (.long (0 : Int64)), .second, .val (.int (0 : Int32))] [])) _
    refine XS.iloadN X0.here hx rfl (hb hby d_prog_33_method_2_4) rfl ?_
    show Steps p.tables e below (s₁.setTop (mkF m 5 #[.val (.ref a), .val (.long (0 : Int64)), .second, .val (.int (0 : Int32))] [(.int (0 : Int32))])) _
    refine XS.aloadN X0.here hx rfl (hb hby d_prog_33_method_2_5) rfl rfl ?_
    show Steps p.tables e below (s₁.setTop (mkF m 6 #[.val (.ref a), .val (.long (0 : Int64)), .second, .val (.int (0 : Int32))] [(.ref a), (.int (0 : Int32))])) _
    exact q
  obtain ⟨T2, X2, e2, st2⟩ := getF X0 hx hZ hown (host := "") (Or.inl (hw _ (List.mem_of_getElem? (i := 26) rfl))) Via.refl e0 FS (g := (mkF m 6 #[.val (.ref a), .val (.long (0 : Int64)), .second, .val (.int (0 : Int32))] [(.ref a), (.int (0 : Int32))])) rfl rfl (hb hby d_prog_33_method_2_6)
  have k3_ : ∀ t, Steps p.tables e below (T2.setTop (mkF m 9 #[.val (.ref a), .val (.long (0 : Int64)), .second, .val (.int (0 : Int32))] [(.ref sa), (.int (0 : Int32))])) t → Steps p.tables e below (s₁.setTop (mkF m 0 #[.val (.ref a), .unset, .unset, .unset] [])) t := fun t q => k1_ t (st2 t q)
  have k4_ : ∀ t, Steps p.tables e below (T2.setTop (mkF m 10 #[.val (.ref a), .val (.long (0 : Int64)), .second, .val (.int (0 : Int32))] [(.int (2 : Int32)), (.int (0 : Int32))])) t → Steps p.tables e below (s₁.setTop (mkF m 0 #[.val (.ref a), .unset, .unset, .unset] [])) t := by
    intro t q
    refine k3_ _ ?_
    show Steps p.tables e below (T2.setTop (mkF m 9 #[.val (.ref a), .val (.long (0 : Int64)), .second, .val (.int (0 : Int32))] [(.ref sa), (.int (0 : Int32))])) _
    refine X2.arraylength hx (by rw [e2]; exact ArS.1) (State.isArrayOf_alike hZ.alike ArS.2.1) (g := (mkF m 9 #[.val (.ref a), .val (.long (0 : Int64)), .second, .val (.int (0 : Int32))] [(.ref sa), (.int (0 : Int32))])) rfl rfl (hb hby d_prog_33_method_2_9) _ ?_
    rw [len_of SS MS]
    show Steps p.tables e below (T2.setTop (mkF m 10 #[.val (.ref a), .val (.long (0 : Int64)), .second, .val (.int (0 : Int32))] [(.int (2 : Int32)), (.int (0 : Int32))])) _
    exact q
  have k5_ : ∀ t, Steps p.tables e below (T2.setTop (mkF m 13 #[.val (.ref a), .val (.long (0 : Int64)), .second, .val (.int (0 : Int32))] [])) t → Steps p.tables e below (s₁.setTop (mkF m 0 #[.val (.ref a), .unset, .unset, .unset] [])) t := by
    intro t q
    refine k4_ _ ?_
    show Steps p.tables e below (T2.setTop (mkF m 10 #[.val (.ref a), .val (.long (0 : Int64)), .second, .val (.int (0 : Int32))] [(.int (2 : Int32)), (.int (0 : Int32))])) _
    refine XS.icmpNo X2.here hx rfl (hb hby d_prog_33_method_2_10) rfl (tlt (by decide)).2.1 ?_
    show Steps p.tables e below (T2.setTop (mkF m 13 #[.val (.ref a), .val (.long (0 : Int64)), .second, .val (.int (0 : Int32))] [])) _
    exact q
  have k6_ : ∀ t, Steps p.tables e below (T2.setTop (mkF m 15 #[.val (.ref a), .val (.long (0 : Int64)), .second, .val (.int (0 : Int32))] [(.ref a), (.long (0 : Int64))])) t → Steps p.tables e below (s₁.setTop (mkF m 0 #[.val (.ref a), .unset, .unset, .unset] [])) t := by
    intro t q
    refine k5_ _ ?_
    show Steps p.tables e below (T2.setTop (mkF m 13 #[.val (.ref a), .val (.long (0 : Int64)), .second, .val (.int (0 : Int32))] [])) _
    refine XS.lloadN X2.here hx rfl (hb hby d_prog_33_method_2_13) rfl ?_
    show Steps p.tables e below (T2.setTop (mkF m 14 #[.val (.ref a), .val (.long (0 : Int64)), .second, .val (.int (0 : Int32))] [(.long (0 : Int64))])) _
    refine XS.aloadN X2.here hx rfl (hb hby d_prog_33_method_2_14) rfl rfl ?_
    show Steps p.tables e below (T2.setTop (mkF m 15 #[.val (.ref a), .val (.long (0 : Int64)), .second, .val (.int (0 : Int32))] [(.ref a), (.long (0 : Int64))])) _
    exact q
  obtain ⟨T7, X7, e7, st7⟩ := getF X2 hx hZ hown (host := "") (Or.inl (hw _ (List.mem_of_getElem? (i := 28) rfl))) Via.refl e2 FE (g := (mkF m 15 #[.val (.ref a), .val (.long (0 : Int64)), .second, .val (.int (0 : Int32))] [(.ref a), (.long (0 : Int64))])) rfl rfl (hb hby d_prog_33_method_2_15)
  have k8_ : ∀ t, Steps p.tables e below (T7.setTop (mkF m 18 #[.val (.ref a), .val (.long (0 : Int64)), .second, .val (.int (0 : Int32))] [(.ref ea), (.long (0 : Int64))])) t → Steps p.tables e below (s₁.setTop (mkF m 0 #[.val (.ref a), .unset, .unset, .unset] [])) t := fun t q => k6_ t (st7 t q)
  have k9_ : ∀ t, Steps p.tables e below (T7.setTop (mkF m 21 #[.val (.ref a), .val (.long (0 : Int64)), .second, .val (.int (0 : Int32))] [(.ref a), (.int y0), (.long (0 : Int64))])) t → Steps p.tables e below (s₁.setTop (mkF m 0 #[.val (.ref a), .unset, .unset, .unset] [])) t := by
    intro t q
    refine k8_ _ ?_
    show Steps p.tables e below (T7.setTop (mkF m 18 #[.val (.ref a), .val (.long (0 : Int64)), .second, .val (.int (0 : Int32))] [(.ref ea), (.long (0 : Int64))])) _
    refine XS.iloadN X7.here hx rfl (hb hby d_prog_33_method_2_18) rfl ?_
    show Steps p.tables e below (T7.setTop (mkF m 19 #[.val (.ref a), .val (.long (0 : Int64)), .second, .val (.int (0 : Int32))] [(.int (0 : Int32)), (.ref ea), (.long (0 : Int64))])) _
    refine X7.iaload hx (j := (0 : Int32)) (v := (.int y0)) (by rw [e7]; exact ArE.1) (State.isArrayOf_alike hZ.alike ArE.2.1) ArE.2.2 (inb_of SE ⟨by decide, by decide⟩) (HE.at (inb_of SE ⟨by decide, by decide⟩) rfl) (g := (mkF m 19 #[.val (.ref a), .val (.long (0 : Int64)), .second, .val (.int (0 : Int32))] [(.int (0 : Int32)), (.ref ea), (.long (0 : Int64))])) rfl rfl (hb hby d_prog_33_method_2_19) _ ?_
    show Steps p.tables e below (T7.setTop (mkF m 20 #[.val (.ref a), .val (.long (0 : Int64)), .second, .val (.int (0 : Int32))] [(.int y0), (.long (0 : Int64))])) _
    refine XS.aloadN X7.here hx rfl (hb hby d_prog_33_method_2_20) rfl rfl ?_
    show Steps p.tables e below (T7.setTop (mkF m 21 #[.val (.ref a), .val (.long (0 : Int64)), .second, .val (.int (0 : Int32))] [(.ref a), (.int y0), (.long (0 : Int64))])) _
    exact q
  obtain ⟨T10, X10, e10, st10⟩ := getF X7 hx hZ hown (host := "") (Or.inl (hw _ (List.mem_of_getElem? (i := 26) rfl))) Via.refl e7 FS (g := (mkF m 21 #[.val (.ref a), .val (.long (0 : Int64)), .second, .val (.int (0 : Int32))] [(.ref a), (.int y0), (.long (0 : Int64))])) rfl rfl (hb hby d_prog_33_method_2_21)
  have k11_ : ∀ t, Steps p.tables e below (T10.setTop (mkF m 24 #[.val (.ref a), .val (.long (0 : Int64)), .second, .val (.int (0 : Int32))] [(.ref sa), (.int y0), (.long (0 : Int64))])) t → Steps p.tables e below (s₁.setTop (mkF m 0 #[.val (.ref a), .unset, .unset, .unset] [])) t := fun t q => k9_ t (st10 t q)
  have k12_ : ∀ t, Steps p.tables e below (T10.setTop (mkF m 4 #[.val (.ref a), .val (.long ((0 : Int64) + ((y0 - x0).toInt64))), .second, .val (.int ((0 : Int32) + (1 : Int32)))] [])) t → Steps p.tables e below (s₁.setTop (mkF m 0 #[.val (.ref a), .unset, .unset, .unset] [])) t := by
    intro t q
    refine k11_ _ ?_
    show Steps p.tables e below (T10.setTop (mkF m 24 #[.val (.ref a), .val (.long (0 : Int64)), .second, .val (.int (0 : Int32))] [(.ref sa), (.int y0), (.long (0 : Int64))])) _
    refine XS.iloadN X10.here hx rfl (hb hby d_prog_33_method_2_24) rfl ?_
    show Steps p.tables e below (T10.setTop (mkF m 25 #[.val (.ref a), .val (.long (0 : Int64)), .second, .val (.int (0 : Int32))] [(.int (0 : Int32)), (.ref sa), (.int y0), (.long (0 : Int64))])) _
    refine X10.iaload hx (j := (0 : Int32)) (v := (.int x0)) (by rw [e10]; exact ArS.1) (State.isArrayOf_alike hZ.alike ArS.2.1) ArS.2.2 (inb_of SS ⟨by decide, by decide⟩) (HS.at (inb_of SS ⟨by decide, by decide⟩) rfl) (g := (mkF m 25 #[.val (.ref a), .val (.long (0 : Int64)), .second, .val (.int (0 : Int32))] [(.int (0 : Int32)), (.ref sa), (.int y0), (.long (0 : Int64))])) rfl rfl (hb hby d_prog_33_method_2_25) _ ?_
    show Steps p.tables e below (T10.setTop (mkF m 26 #[.val (.ref a), .val (.long (0 : Int64)), .second, .val (.int (0 : Int32))] [(.int x0), (.int y0), (.long (0 : Int64))])) _
    refine XS.isub X10.here hx rfl (hb hby d_prog_33_method_2_26) rfl ?_
    show Steps p.tables e below (T10.setTop (mkF m 27 #[.val (.ref a), .val (.long (0 : Int64)), .second, .val (.int (0 : Int32))] [(.int (y0 - x0)), (.long (0 : Int64))])) _
    refine XS.i2l X10.here hx rfl (hb hby d_prog_33_method_2_27) rfl ?_
    show Steps p.tables e below (T10.setTop (mkF m 28 #[.val (.ref a), .val (.long (0 : Int64)), .second, .val (.int (0 : Int32))] [(.long ((y0 - x0).toInt64)), (.long (0 : Int64))])) _
    refine XS.ladd X10.here hx rfl (hb hby d_prog_33_method_2_28) rfl ?_
    show Steps p.tables e below (T10.setTop (mkF m 29 #[.val (.ref a), .val (.long (0 : Int64)), .second, .val (.int (0 : Int32))] [(.long ((0 : Int64) + ((y0 - x0).toInt64)))])) _
    refine XS.lstoreN X10.here hx rfl (hb hby d_prog_33_method_2_29) rfl (l' := #[.val (.ref a), .val (.long ((0 : Int64) + ((y0 - x0).toInt64))), .second, .val (.int (0 : Int32))]) rfl ?_
    show Steps p.tables e below (T10.setTop (mkF m 30 #[.val (.ref a), .val (.long ((0 : Int64) + ((y0 - x0).toInt64))), .second, .val (.int (0 : Int32))] [])) _
    refine XS.iinc X10.here hx rfl (hb hby d_prog_33_method_2_30) rfl (l' := #[.val (.ref a), .val (.long ((0 : Int64) + ((y0 - x0).toInt64))), .second, .val (.int ((0 : Int32) + (1 : Int32)))]) rfl ?_
    show Steps p.tables e below (T10.setTop (mkF m 33 #[.val (.ref a), .val (.long ((0 : Int64) + ((y0 - x0).toInt64))), .second, .val (.int ((0 : Int32) + (1 : Int32)))] [])) _
    refine XS.goto X10.here hx rfl (pc0 := 33) (pc' := 4) rfl (hb hby d_prog_33_method_2_33) (by decide) (by decide) ?_
    show Steps p.tables e below (T10.setTop (mkF m 4 #[.val (.ref a), .val (.long ((0 : Int64) + ((y0 - x0).toInt64))), .second, .val (.int ((0 : Int32) + (1 : Int32)))] [])) _
    exact q
  have k13_ : ∀ t, Steps p.tables e below (T10.setTop (mkF m 6 #[.val (.ref a), .val (.long ((0 : Int64) + ((y0 - x0).toInt64))), .second, .val (.int ((0 : Int32) + (1 : Int32)))] [(.ref a), (.int ((0 : Int32) + (1 : Int32)))])) t → Steps p.tables e below (s₁.setTop (mkF m 0 #[.val (.ref a), .unset, .unset, .unset] [])) t := by
    intro t q
    refine k12_ _ ?_
    show Steps p.tables e below (T10.setTop (mkF m 4 #[.val (.ref a), .val (.long ((0 : Int64) + ((y0 - x0).toInt64))), .second, .val (.int ((0 : Int32) + (1 : Int32)))] [])) _
    refine XS.iloadN X10.here hx rfl (hb hby d_prog_33_method_2_4) rfl ?_
    show Steps p.tables e below (T10.setTop (mkF m 5 #[.val (.ref a), .val (.long ((0 : Int64) + ((y0 - x0).toInt64))), .second, .val (.int ((0 : Int32) + (1 : Int32)))] [(.int ((0 : Int32) + (1 : Int32)))])) _
    refine XS.aloadN X10.here hx rfl (hb hby d_prog_33_method_2_5) rfl rfl ?_
    show Steps p.tables e below (T10.setTop (mkF m 6 #[.val (.ref a), .val (.long ((0 : Int64) + ((y0 - x0).toInt64))), .second, .val (.int ((0 : Int32) + (1 : Int32)))] [(.ref a), (.int ((0 : Int32) + (1 : Int32)))])) _
    exact q
  obtain ⟨T14, X14, e14, st14⟩ := getF X10 hx hZ hown (host := "") (Or.inl (hw _ (List.mem_of_getElem? (i := 26) rfl))) Via.refl e10 FS (g := (mkF m 6 #[.val (.ref a), .val (.long ((0 : Int64) + ((y0 - x0).toInt64))), .second, .val (.int ((0 : Int32) + (1 : Int32)))] [(.ref a), (.int ((0 : Int32) + (1 : Int32)))])) rfl rfl (hb hby d_prog_33_method_2_6)
  have k15_ : ∀ t, Steps p.tables e below (T14.setTop (mkF m 9 #[.val (.ref a), .val (.long ((0 : Int64) + ((y0 - x0).toInt64))), .second, .val (.int ((0 : Int32) + (1 : Int32)))] [(.ref sa), (.int ((0 : Int32) + (1 : Int32)))])) t → Steps p.tables e below (s₁.setTop (mkF m 0 #[.val (.ref a), .unset, .unset, .unset] [])) t := fun t q => k13_ t (st14 t q)
  have k16_ : ∀ t, Steps p.tables e below (T14.setTop (mkF m 10 #[.val (.ref a), .val (.long ((0 : Int64) + ((y0 - x0).toInt64))), .second, .val (.int ((0 : Int32) + (1 : Int32)))] [(.int (2 : Int32)), (.int ((0 : Int32) + (1 : Int32)))])) t → Steps p.tables e below (s₁.setTop (mkF m 0 #[.val (.ref a), .unset, .unset, .unset] [])) t := by
    intro t q
    refine k15_ _ ?_
    show Steps p.tables e below (T14.setTop (mkF m 9 #[.val (.ref a), .val (.long ((0 : Int64) + ((y0 - x0).toInt64))), .second, .val (.int ((0 : Int32) + (1 : Int32)))] [(.ref sa), (.int ((0 : Int32) + (1 : Int32)))])) _
    refine X14.arraylength hx (by rw [e14]; exact ArS.1) (State.isArrayOf_alike hZ.alike ArS.2.1) (g := (mkF m 9 #[.val (.ref a), .val (.long ((0 : Int64) + ((y0 - x0).toInt64))), .second, .val (.int ((0 : Int32) + (1 : Int32)))] [(.ref sa), (.int ((0 : Int32) + (1 : Int32)))])) rfl rfl (hb hby d_prog_33_method_2_9) _ ?_
    rw [len_of SS MS]
    show Steps p.tables e below (T14.setTop (mkF m 10 #[.val (.ref a), .val (.long ((0 : Int64) + ((y0 - x0).toInt64))), .second, .val (.int ((0 : Int32) + (1 : Int32)))] [(.int (2 : Int32)), (.int ((0 : Int32) + (1 : Int32)))])) _
    exact q
  have k17_ : ∀ t, Steps p.tables e below (T14.setTop (mkF m 13 #[.val (.ref a), .val (.long ((0 : Int64) + ((y0 - x0).toInt64))), .second, .val (.int ((0 : Int32) + (1 : Int32)))] [])) t → Steps p.tables e below (s₁.setTop (mkF m 0 #[.val (.ref a), .unset, .unset, .unset] [])) t := by
    intro t q
    refine k16_ _ ?_
    show Steps p.tables e below (T14.setTop (mkF m 10 #[.val (.ref a), .val (.long ((0 : Int64) + ((y0 - x0).toInt64))), .second, .val (.int ((0 : Int32) + (1 : Int32)))] [(.int (2 : Int32)), (.int ((0 : Int32) + (1 : Int32)))])) _
    refine XS.icmpNo X14.here hx rfl (hb hby d_prog_33_method_2_10) rfl (tlt (by decide)).2.1 ?_
    show Steps p.tables e below (T14.setTop (mkF m 13 #[.val (.ref a), .val (.long ((0 : Int64) + ((y0 - x0).toInt64))), .second, .val (.int ((0 : Int32) + (1 : Int32)))] [])) _
    exact q
  have k18_ : ∀ t, Steps p.tables e below (T14.setTop (mkF m 15 #[.val (.ref a), .val (.long ((0 : Int64) + ((y0 - x0).toInt64))), .second, .val (.int ((0 : Int32) + (1 : Int32)))] [(.ref a), (.long ((0 : Int64) + ((y0 - x0).toInt64)))])) t → Steps p.tables e below (s₁.setTop (mkF m 0 #[.val (.ref a), .unset, .unset, .unset] [])) t := by
    intro t q
    refine k17_ _ ?_
    show Steps p.tables e below (T14.setTop (mkF m 13 #[.val (.ref a), .val (.long ((0 : Int64) + ((y0 - x0).toInt64))), .second, .val (.int ((0 : Int32) + (1 : Int32)))] [])) _
    refine XS.lloadN X14.here hx rfl (hb hby d_prog_33_method_2_13) rfl ?_
    show Steps p.tables e below (T14.setTop (mkF m 14 #[.val (.ref a), .val (.long ((0 : Int64) + ((y0 - x0).toInt64))), .second, .val (.int ((0 : Int32) + (1 : Int32)))] [(.long ((0 : Int64) + ((y0 - x0).toInt64)))])) _
    refine XS.aloadN X14.here hx rfl (hb hby d_prog_33_method_2_14) rfl rfl ?_
    show Steps p.tables e below (T14.setTop (mkF m 15 #[.val (.ref a), .val (.long ((0 : Int64) + ((y0 - x0).toInt64))), .second, .val (.int ((0 : Int32) + (1 : Int32)))] [(.ref a), (.long ((0 : Int64) + ((y0 - x0).toInt64)))])) _
    exact q
  obtain ⟨T19, X19, e19, st19⟩ := getF X14 hx hZ hown (host := "") (Or.inl (hw _ (List.mem_of_getElem? (i := 28) rfl))) Via.refl e14 FE (g := (mkF m 15 #[.val (.ref a), .val (.long ((0 : Int64) + ((y0 - x0).toInt64))), .second, .val (.int ((0 : Int32) + (1 : Int32)))] [(.ref a), (.long ((0 : Int64) + ((y0 - x0).toInt64)))])) rfl rfl (hb hby d_prog_33_method_2_15)
  have k20_ : ∀ t, Steps p.tables e below (T19.setTop (mkF m 18 #[.val (.ref a), .val (.long ((0 : Int64) + ((y0 - x0).toInt64))), .second, .val (.int ((0 : Int32) + (1 : Int32)))] [(.ref ea), (.long ((0 : Int64) + ((y0 - x0).toInt64)))])) t → Steps p.tables e below (s₁.setTop (mkF m 0 #[.val (.ref a), .unset, .unset, .unset] [])) t := fun t q => k18_ t (st19 t q)
  have k21_ : ∀ t, Steps p.tables e below (T19.setTop (mkF m 21 #[.val (.ref a), .val (.long ((0 : Int64) + ((y0 - x0).toInt64))), .second, .val (.int ((0 : Int32) + (1 : Int32)))] [(.ref a), (.int y1), (.long ((0 : Int64) + ((y0 - x0).toInt64)))])) t → Steps p.tables e below (s₁.setTop (mkF m 0 #[.val (.ref a), .unset, .unset, .unset] [])) t := by
    intro t q
    refine k20_ _ ?_
    show Steps p.tables e below (T19.setTop (mkF m 18 #[.val (.ref a), .val (.long ((0 : Int64) + ((y0 - x0).toInt64))), .second, .val (.int ((0 : Int32) + (1 : Int32)))] [(.ref ea), (.long ((0 : Int64) + ((y0 - x0).toInt64)))])) _
    refine XS.iloadN X19.here hx rfl (hb hby d_prog_33_method_2_18) rfl ?_
    show Steps p.tables e below (T19.setTop (mkF m 19 #[.val (.ref a), .val (.long ((0 : Int64) + ((y0 - x0).toInt64))), .second, .val (.int ((0 : Int32) + (1 : Int32)))] [(.int ((0 : Int32) + (1 : Int32))), (.ref ea), (.long ((0 : Int64) + ((y0 - x0).toInt64)))])) _
    refine X19.iaload hx (j := ((0 : Int32) + (1 : Int32))) (v := (.int y1)) (by rw [e19]; exact ArE.1) (State.isArrayOf_alike hZ.alike ArE.2.1) ArE.2.2 (inb_of SE ⟨by decide, by decide⟩) (HE.at (inb_of SE ⟨by decide, by decide⟩) rfl) (g := (mkF m 19 #[.val (.ref a), .val (.long ((0 : Int64) + ((y0 - x0).toInt64))), .second, .val (.int ((0 : Int32) + (1 : Int32)))] [(.int ((0 : Int32) + (1 : Int32))), (.ref ea), (.long ((0 : Int64) + ((y0 - x0).toInt64)))])) rfl rfl (hb hby d_prog_33_method_2_19) _ ?_
    show Steps p.tables e below (T19.setTop (mkF m 20 #[.val (.ref a), .val (.long ((0 : Int64) + ((y0 - x0).toInt64))), .second, .val (.int ((0 : Int32) + (1 : Int32)))] [(.int y1), (.long ((0 : Int64) + ((y0 - x0).toInt64)))])) _
    refine XS.aloadN X19.here hx rfl (hb hby d_prog_33_method_2_20) rfl rfl ?_
    show Steps p.tables e below (T19.setTop (mkF m 21 #[.val (.ref a), .val (.long ((0 : Int64) + ((y0 - x0).toInt64))), .second, .val (.int ((0 : Int32) + (1 : Int32)))] [(.ref a), (.int y1), (.long ((0 : Int64) + ((y0 - x0).toInt64)))])) _
    exact q
  obtain ⟨T22, X22, e22, st22⟩ := getF X19 hx hZ hown (host := "") (Or.inl (hw _ (List.mem_of_getElem? (i := 26) rfl))) Via.refl e19 FS (g := (mkF m 21 #[.val (.ref a), .val (.long ((0 : Int64) + ((y0 - x0).toInt64))), .second, .val (.int ((0 : Int32) + (1 : Int32)))] [(.ref a), (.int y1), (.long ((0 : Int64) + ((y0 - x0).toInt64)))])) rfl rfl (hb hby d_prog_33_method_2_21)
  have k23_ : ∀ t, Steps p.tables e below (T22.setTop (mkF m 24 #[.val (.ref a), .val (.long ((0 : Int64) + ((y0 - x0).toInt64))), .second, .val (.int ((0 : Int32) + (1 : Int32)))] [(.ref sa), (.int y1), (.long ((0 : Int64) + ((y0 - x0).toInt64)))])) t → Steps p.tables e below (s₁.setTop (mkF m 0 #[.val (.ref a), .unset, .unset, .unset] [])) t := fun t q => k21_ t (st22 t q)
  have k24_ : ∀ t, Steps p.tables e below (T22.setTop (mkF m 4 #[.val (.ref a), .val (.long (((0 : Int64) + ((y0 - x0).toInt64)) + ((y1 - x1).toInt64))), .second, .val (.int (((0 : Int32) + (1 : Int32)) + (1 : Int32)))] [])) t → Steps p.tables e below (s₁.setTop (mkF m 0 #[.val (.ref a), .unset, .unset, .unset] [])) t := by
    intro t q
    refine k23_ _ ?_
    show Steps p.tables e below (T22.setTop (mkF m 24 #[.val (.ref a), .val (.long ((0 : Int64) + ((y0 - x0).toInt64))), .second, .val (.int ((0 : Int32) + (1 : Int32)))] [(.ref sa), (.int y1), (.long ((0 : Int64) + ((y0 - x0).toInt64)))])) _
    refine XS.iloadN X22.here hx rfl (hb hby d_prog_33_method_2_24) rfl ?_
    show Steps p.tables e below (T22.setTop (mkF m 25 #[.val (.ref a), .val (.long ((0 : Int64) + ((y0 - x0).toInt64))), .second, .val (.int ((0 : Int32) + (1 : Int32)))] [(.int ((0 : Int32) + (1 : Int32))), (.ref sa), (.int y1), (.long ((0 : Int64) + ((y0 - x0).toInt64)))])) _
    refine X22.iaload hx (j := ((0 : Int32) + (1 : Int32))) (v := (.int x1)) (by rw [e22]; exact ArS.1) (State.isArrayOf_alike hZ.alike ArS.2.1) ArS.2.2 (inb_of SS ⟨by decide, by decide⟩) (HS.at (inb_of SS ⟨by decide, by decide⟩) rfl) (g := (mkF m 25 #[.val (.ref a), .val (.long ((0 : Int64) + ((y0 - x0).toInt64))), .second, .val (.int ((0 : Int32) + (1 : Int32)))] [(.int ((0 : Int32) + (1 : Int32))), (.ref sa), (.int y1), (.long ((0 : Int64) + ((y0 - x0).toInt64)))])) rfl rfl (hb hby d_prog_33_method_2_25) _ ?_
    show Steps p.tables e below (T22.setTop (mkF m 26 #[.val (.ref a), .val (.long ((0 : Int64) + ((y0 - x0).toInt64))), .second, .val (.int ((0 : Int32) + (1 : Int32)))] [(.int x1), (.int y1), (.long ((0 : Int64) + ((y0 - x0).toInt64)))])) _
    refine XS.isub X22.here hx rfl (hb hby d_prog_33_method_2_26) rfl ?_
    show Steps p.tables e below (T22.setTop (mkF m 27 #[.val (.ref a), .val (.long ((0 : Int64) + ((y0 - x0).toInt64))), .second, .val (.int ((0 : Int32) + (1 : Int32)))] [(.int (y1 - x1)), (.long ((0 : Int64) + ((y0 - x0).toInt64)))])) _
    refine XS.i2l X22.here hx rfl (hb hby d_prog_33_method_2_27) rfl ?_
    show Steps p.tables e below (T22.setTop (mkF m 28 #[.val (.ref a), .val (.long ((0 : Int64) + ((y0 - x0).toInt64))), .second, .val (.int ((0 : Int32) + (1 : Int32)))] [(.long ((y1 - x1).toInt64)), (.long ((0 : Int64) + ((y0 - x0).toInt64)))])) _
    refine XS.ladd X22.here hx rfl (hb hby d_prog_33_method_2_28) rfl ?_
    show Steps p.tables e below (T22.setTop (mkF m 29 #[.val (.ref a), .val (.long ((0 : Int64) + ((y0 - x0).toInt64))), .second, .val (.int ((0 : Int32) + (1 : Int32)))] [(.long (((0 : Int64) + ((y0 - x0).toInt64)) + ((y1 - x1).toInt64)))])) _
    refine XS.lstoreN X22.here hx rfl (hb hby d_prog_33_method_2_29) rfl (l' := #[.val (.ref a), .val (.long (((0 : Int64) + ((y0 - x0).toInt64)) + ((y1 - x1).toInt64))), .second, .val (.int ((0 : Int32) + (1 : Int32)))]) rfl ?_
    show Steps p.tables e below (T22.setTop (mkF m 30 #[.val (.ref a), .val (.long (((0 : Int64) + ((y0 - x0).toInt64)) + ((y1 - x1).toInt64))), .second, .val (.int ((0 : Int32) + (1 : Int32)))] [])) _
    refine XS.iinc X22.here hx rfl (hb hby d_prog_33_method_2_30) rfl (l' := #[.val (.ref a), .val (.long (((0 : Int64) + ((y0 - x0).toInt64)) + ((y1 - x1).toInt64))), .second, .val (.int (((0 : Int32) + (1 : Int32)) + (1 : Int32)))]) rfl ?_
    show Steps p.tables e below (T22.setTop (mkF m 33 #[.val (.ref a), .val (.long (((0 : Int64) + ((y0 - x0).toInt64)) + ((y1 - x1).toInt64))), .second, .val (.int (((0 : Int32) + (1 : Int32)) + (1 : Int32)))] [])) _
    refine XS.goto X22.here hx rfl (pc0 := 33) (pc' := 4) rfl (hb hby d_prog_33_method_2_33) (by decide) (by decide) ?_
    show Steps p.tables e below (T22.setTop (mkF m 4 #[.val (.ref a), .val (.long (((0 : Int64) + ((y0 - x0).toInt64)) + ((y1 - x1).toInt64))), .second, .val (.int (((0 : Int32) + (1 : Int32)) + (1 : Int32)))] [])) _
    exact q
  have k25_ : ∀ t, Steps p.tables e below (T22.setTop (mkF m 6 #[.val (.ref a), .val (.long (((0 : Int64) + ((y0 - x0).toInt64)) + ((y1 - x1).toInt64))), .second, .val (.int (((0 : Int32) + (1 : Int32)) + (1 : Int32)))] [(.ref a), (.int (((0 : Int32) + (1 : Int32)) + (1 : Int32)))])) t → Steps p.tables e below (s₁.setTop (mkF m 0 #[.val (.ref a), .unset, .unset, .unset] [])) t := by
    intro t q
    refine k24_ _ ?_
    show Steps p.tables e below (T22.setTop (mkF m 4 #[.val (.ref a), .val (.long (((0 : Int64) + ((y0 - x0).toInt64)) + ((y1 - x1).toInt64))), .second, .val (.int (((0 : Int32) + (1 : Int32)) + (1 : Int32)))] [])) _
    refine XS.iloadN X22.here hx rfl (hb hby d_prog_33_method_2_4) rfl ?_
    show Steps p.tables e below (T22.setTop (mkF m 5 #[.val (.ref a), .val (.long (((0 : Int64) + ((y0 - x0).toInt64)) + ((y1 - x1).toInt64))), .second, .val (.int (((0 : Int32) + (1 : Int32)) + (1 : Int32)))] [(.int (((0 : Int32) + (1 : Int32)) + (1 : Int32)))])) _
    refine XS.aloadN X22.here hx rfl (hb hby d_prog_33_method_2_5) rfl rfl ?_
    show Steps p.tables e below (T22.setTop (mkF m 6 #[.val (.ref a), .val (.long (((0 : Int64) + ((y0 - x0).toInt64)) + ((y1 - x1).toInt64))), .second, .val (.int (((0 : Int32) + (1 : Int32)) + (1 : Int32)))] [(.ref a), (.int (((0 : Int32) + (1 : Int32)) + (1 : Int32)))])) _
    exact q
  obtain ⟨T26, X26, e26, st26⟩ := getF X22 hx hZ hown (host := "") (Or.inl (hw _ (List.mem_of_getElem? (i := 26) rfl))) Via.refl e22 FS (g := (mkF m 6 #[.val (.ref a), .val (.long (((0 : Int64) + ((y0 - x0).toInt64)) + ((y1 - x1).toInt64))), .second, .val (.int (((0 : Int32) + (1 : Int32)) + (1 : Int32)))] [(.ref a), (.int (((0 : Int32) + (1 : Int32)) + (1 : Int32)))])) rfl rfl (hb hby d_prog_33_method_2_6)
  have k27_ : ∀ t, Steps p.tables e below (T26.setTop (mkF m 9 #[.val (.ref a), .val (.long (((0 : Int64) + ((y0 - x0).toInt64)) + ((y1 - x1).toInt64))), .second, .val (.int (((0 : Int32) + (1 : Int32)) + (1 : Int32)))] [(.ref sa), (.int (((0 : Int32) + (1 : Int32)) + (1 : Int32)))])) t → Steps p.tables e below (s₁.setTop (mkF m 0 #[.val (.ref a), .unset, .unset, .unset] [])) t := fun t q => k25_ t (st26 t q)
  have k28_ : ∀ t, Steps p.tables e below (T26.setTop (mkF m 10 #[.val (.ref a), .val (.long (((0 : Int64) + ((y0 - x0).toInt64)) + ((y1 - x1).toInt64))), .second, .val (.int (((0 : Int32) + (1 : Int32)) + (1 : Int32)))] [(.int (2 : Int32)), (.int (((0 : Int32) + (1 : Int32)) + (1 : Int32)))])) t → Steps p.tables e below (s₁.setTop (mkF m 0 #[.val (.ref a), .unset, .unset, .unset] [])) t := by
    intro t q
    refine k27_ _ ?_
    show Steps p.tables e below (T26.setTop (mkF m 9 #[.val (.ref a), .val (.long (((0 : Int64) + ((y0 - x0).toInt64)) + ((y1 - x1).toInt64))), .second, .val (.int (((0 : Int32) + (1 : Int32)) + (1 : Int32)))] [(.ref sa), (.int (((0 : Int32) + (1 : Int32)) + (1 : Int32)))])) _
    refine X26.arraylength hx (by rw [e26]; exact ArS.1) (State.isArrayOf_alike hZ.alike ArS.2.1) (g := (mkF m 9 #[.val (.ref a), .val (.long (((0 : Int64) + ((y0 - x0).toInt64)) + ((y1 - x1).toInt64))), .second, .val (.int (((0 : Int32) + (1 : Int32)) + (1 : Int32)))] [(.ref sa), (.int (((0 : Int32) + (1 : Int32)) + (1 : Int32)))])) rfl rfl (hb hby d_prog_33_method_2_9) _ ?_
    rw [len_of SS MS]
    show Steps p.tables e below (T26.setTop (mkF m 10 #[.val (.ref a), .val (.long (((0 : Int64) + ((y0 - x0).toInt64)) + ((y1 - x1).toInt64))), .second, .val (.int (((0 : Int32) + (1 : Int32)) + (1 : Int32)))] [(.int (2 : Int32)), (.int (((0 : Int32) + (1 : Int32)) + (1 : Int32)))])) _
    exact q
  have k29_ : ∀ t, Steps p.tables e below (T26.setTop (mkF m 36 #[.val (.ref a), .val (.long (((0 : Int64) + ((y0 - x0).toInt64)) + ((y1 - x1).toInt64))), .second, .val (.int (((0 : Int32) + (1 : Int32)) + (1 : Int32)))] [])) t → Steps p.tables e below (s₁.setTop (mkF m 0 #[.val (.ref a), .unset, .unset, .unset] [])) t := by
    intro t q
    refine k28_ _ ?_
    show Steps p.tables e below (T26.setTop (mkF m 10 #[.val (.ref a), .val (.long (((0 : Int64) + ((y0 - x0).toInt64)) + ((y1 - x1).toInt64))), .second, .val (.int (((0 : Int32) + (1 : Int32)) + (1 : Int32)))] [(.int (2 : Int32)), (.int (((0 : Int32) + (1 : Int32)) + (1 : Int32)))])) _
    refine XS.icmpYes X26.here hx rfl (pc0 := 10) (pc' := 36) rfl (hb hby d_prog_33_method_2_10) rfl (flt (by decide)).2.1 (by decide) (by decide) ?_
    show Steps p.tables e below (T26.setTop (mkF m 36 #[.val (.ref a), .val (.long (((0 : Int64) + ((y0 - x0).toInt64)) + ((y1 - x1).toInt64))), .second, .val (.int (((0 : Int32) + (1 : Int32)) + (1 : Int32)))] [])) _
    exact q
  have k30_ : ∀ t, Steps p.tables e below (T26.setTop (mkF m 37 #[.val (.ref a), .val (.long (((0 : Int64) + ((y0 - x0).toInt64)) + ((y1 - x1).toInt64))), .second, .val (.int (((0 : Int32) + (1 : Int32)) + (1 : Int32)))] [(.long (((0 : Int64) + ((y0 - x0).toInt64)) + ((y1 - x1).toInt64)))])) t → Steps p.tables e below (s₁.setTop (mkF m 0 #[.val (.ref a), .unset, .unset, .unset] [])) t := by
    intro t q
    refine k29_ _ ?_
    show Steps p.tables e below (T26.setTop (mkF m 36 #[.val (.ref a), .val (.long (((0 : Int64) + ((y0 - x0).toInt64)) + ((y1 - x1).toInt64))), .second, .val (.int (((0 : Int32) + (1 : Int32)) + (1 : Int32)))] [])) _
    refine XS.lloadN X26.here hx rfl (hb hby d_prog_33_method_2_36) rfl ?_
    show Steps p.tables e below (T26.setTop (mkF m 37 #[.val (.ref a), .val (.long (((0 : Int64) + ((y0 - x0).toInt64)) + ((y1 - x1).toInt64))), .second, .val (.int (((0 : Int32) + (1 : Int32)) + (1 : Int32)))] [(.long (((0 : Int64) + ((y0 - x0).toInt64)) + ((y1 - x1).toInt64)))])) _
    exact q
  obtain ⟨fs, hr, hrun, hended, hW, hsame⟩ := X26.leave (v := some (.long (((0 : Int64) + ((y0 - x0).toInt64)) + ((y1 - x1).toInt64)))) (fun h => by rw [Bd.returns] at h; cases h)
  refine ⟨_, _, pre0 _ (k30_ _ ?_), hrun, hended, _, _, rfl, ?_, ⟨_, rfl⟩, hW, hsame.mono (by decide) (by decide)⟩
  · show Steps p.tables e below (T26.setTop (mkF m 37 #[.val (.ref a), .val (.long (((0 : Int64) + ((y0 - x0).toInt64)) + ((y1 - x1).toInt64))), .second, .val (.int (((0 : Int32) + (1 : Int32)) + (1 : Int32)))] [(.long (((0 : Int64) + ((y0 - x0).toInt64)) + ((y1 - x1).toInt64)))])) _
    exact X26.lreturnOut hx Bd.returns (hb hby d_prog_33_method_2_37) hr
  · show QH2 Z a sa ea ks ke x0 x1 y0 y1 h0 n0 _ T26.heap _
    rw [e26]
    exact ⟨rfl, N0, rfl⟩
def QH3 (Z : State) (a : Addr) (sa : Addr) (ea : Addr) (ks : ClassId) (ke : ClassId) (x0 : Int32) (x1 : Int32) (x2 : Int32) (y0 : Int32) (y1 : Int32) (y2 : Int32) (h0 : Heap) (n0 : Nat) (v : Option Value) (h : Heap) (L : List Loc) : Prop := v = some (.long ((((0 : Int64) + ((y0 - x0).toInt64)) + ((y1 - x1).toInt64)) + ((y2 - x2).toInt64))) ∧ Fr n0 L ∧ h = h0
theorem ef_H3 (m : MethodId) (x0 : Addr) : entryFrame m #[(.ref x0)] 4 = mkF m 0 #[.val (.ref x0), .unset, .unset, .unset] [] := by first | (simp [entryFrame, mkF, argsToLocals, Value.category]; done) | rfl
set_option maxRecDepth 65536 in
set_option maxHeartbeats 40000000 in
theorem rmH3 (l : Launch) (Z : State) (a0 : Array Value) (hw : ∀ d ∈ tables_1, d.before a0 Z = true) (ws : List Jvm.Cond) (a : Addr) (sa : Addr) (ea : Addr) (ks : ClassId) (ke : ClassId) (x0 : Int32) (x1 : Int32) (x2 : Int32) (y0 : Int32) (y1 : Int32) (y2 : Int32) (h0 : Heap) (n0 : Nat) (Z0 : n0 ≤ h0.size) (FS : Fld Z h0 a "com/example/haku/haku/eval/FocusedJudgments$Judged" "starts" "[I" (.ref sa)) (FE : Fld Z h0 a "com/example/haku/haku/eval/FocusedJudgments$Judged" "ends" "[I" (.ref ea)) (VS : Arv Z h0 sa ks .int (3 : Int32) [(.int x0), (.int x1), (.int x2)] (.int (0 : Int32))) (VE : Arv Z h0 ea ke .int (3 : Int32) [(.int y0), (.int y1), (.int y2)] (.int (0 : Int32))) :
    MetFree l (⟨"com/example/haku/haku/eval/FocusedJudgments$Judged", "characters", "()J"⟩ : MethodName) (head1 (Jvm.Cond.code (⟨"com/example/haku/haku/eval/FocusedJudgments$Judged", "characters", "()J"⟩ : MethodName) prog_33_method_2_code 4 (some .long) :: ws) ({ frames := 0, cells := 0, slots := 0, locals := 0 } : Room)) (fun a' U => a' = #[(.ref a)] ∧ Z.Warmed39 U.vm ∧ U.heap = h0) (fun _ _ _ _ _ => True) (fun _ U o U' => ∃ v L, o = .returned v ∧ QH3 Z a sa ea ks ke x0 x1 x2 y0 y1 y2 h0 n0 v U'.heap L ∧ FrameEnd U o U' L ({ frames := 0, cells := 0, slots := 0, locals := 0 } : Room).cells ({ frames := 0, cells := 0, slots := 0, locals := 0 } : Room).slots) := by
  refine MetFree.of_bodySF (plainFor_of_name pn_FocusedJudgments_Judged) hisR ?_
  intro p e s m args below meth c s₁ Bd hml0 hP hK
  obtain ⟨rfl, hZ, hh⟩ := hP
  have hx := Bd.exec
  have hby := Bd.bytes
  have hml : c.maxLocals = 4 := hml0
  have hown : s.vm.findClass "com/example/haku/haku/eval/FocusedJudgments$Judged" = some m.cls := findClass_of_methodNamed Bd.named
  have hnm := (name_of_methodNamed Bd.named Bd.method).1
  have X0 : Stand p l e ({ frames := 0, cells := 0, slots := 0, locals := 0 } : Room) s m #[(.ref a)] below meth c s₁ [] 0 0 := Stand.of_body Bd
  have e0 : s₁.heap = h0 := by rw [← hh, Bd.state]; rfl
  have N0 := Fr.nil n0
  have Zn := Z0
  have pre0 : ∀ t, Steps p.tables e below (s₁.setTop (mkF m 0 #[.val (.ref a), .unset, .unset, .unset] [])) t → Steps p.tables e below (s₁.setTop (entryFrame m #[(.ref a)] 4)) t := fun t q => castTop (ef_H3 m a) q
  have k0 : ∀ t, Steps p.tables e below (s₁.setTop (mkF m 0 #[.val (.ref a), .unset, .unset, .unset] [])) t → Steps p.tables e below (s₁.setTop (mkF m 0 #[.val (.ref a), .unset, .unset, .unset] [])) t := fun t q => q
  obtain ⟨cS, ArS, qS, SS, MS, HS, GS⟩ := VS
  obtain ⟨cE, ArE, qE, SE, ME, HE, GE⟩ := VE
  have k1_ : ∀ t, Steps p.tables e below (s₁.setTop (mkF m 6 #[.val (.ref a), .val (.long (0 : Int64)), .second, .val (.int (0 : Int32))] [(.ref a), (.int (0 : Int32))])) t → Steps p.tables e below (s₁.setTop (mkF m 0 #[.val (.ref a), .unset, .unset, .unset] [])) t := by
    intro t q
    refine k0 _ ?_
    show Steps p.tables e below (s₁.setTop (mkF m 0 #[.val (.ref a), .unset, .unset, .unset] [])) _
    refine XS.lconst X0.here hx rfl (hb hby d_prog_33_method_2_0) ?_
    show Steps p.tables e below (s₁.setTop (mkF m 1 #[.val (.ref a), .unset, .unset, .unset] [(.long (0 : Int64))])) _
    refine XS.lstoreN X0.here hx rfl (hb hby d_prog_33_method_2_1) rfl (l' := #[.val (.ref a), .val (.long (0 : Int64)), .second, .unset]) rfl ?_
    show Steps p.tables e below (s₁.setTop (mkF m 2 #[.val (.ref a), .val (.long (0 : Int64)), .second, .unset] [])) _
    refine XS.iconst X0.here hx rfl (hb hby d_prog_33_method_2_2) ?_
    show Steps p.tables e below (s₁.setTop (mkF m 3 #[.val (.ref a), .val (.long (0 : Int64)), .second, .unset] [(.int (0 : Int32))])) _
    refine XS.istoreN X0.here hx rfl (hb hby d_prog_33_method_2_3) rfl (l' := #[.val (.ref a), .val (.long (0 : Int64)), .second, .val (.int (0 : Int32))]) rfl ?_
    show Steps p.tables e below (s₁.setTop (mkF m 4 #[.val (.ref a), .val (.long (0 : Int64)), .second, .val (.int (0 : Int32))] [])) _
    refine XS.iloadN X0.here hx rfl (hb hby d_prog_33_method_2_4) rfl ?_
    show Steps p.tables e below (s₁.setTop (mkF m 5 #[.val (.ref a), .val (.long (0 : Int64)), .second, .val (.int (0 : Int32))] [(.int (0 : Int32))])) _
    refine XS.aloadN X0.here hx rfl (hb hby d_prog_33_method_2_5) rfl rfl ?_
    show Steps p.tables e below (s₁.setTop (mkF m 6 #[.val (.ref a), .val (.long (0 : Int64)), .second, .val (.int (0 : Int32))] [(.ref a), (.int (0 : Int32))])) _
    exact q
  obtain ⟨T2, X2, e2, st2⟩ := getF X0 hx hZ hown (host := "") (Or.inl (hw _ (List.mem_of_getElem? (i := 26) rfl))) Via.refl e0 FS (g := (mkF m 6 #[.val (.ref a), .val (.long (0 : Int64)), .second, .val (.int (0 : Int32))] [(.ref a), (.int (0 : Int32))])) rfl rfl (hb hby d_prog_33_method_2_6)
  have k3_ : ∀ t, Steps p.tables e below (T2.setTop (mkF m 9 #[.val (.ref a), .val (.long (0 : Int64)), .second, .val (.int (0 : Int32))] [(.ref sa), (.int (0 : Int32))])) t → Steps p.tables e below (s₁.setTop (mkF m 0 #[.val (.ref a), .unset, .unset, .unset] [])) t := fun t q => k1_ t (st2 t q)
  have k4_ : ∀ t, Steps p.tables e below (T2.setTop (mkF m 10 #[.val (.ref a), .val (.long (0 : Int64)), .second, .val (.int (0 : Int32))] [(.int (3 : Int32)), (.int (0 : Int32))])) t → Steps p.tables e below (s₁.setTop (mkF m 0 #[.val (.ref a), .unset, .unset, .unset] [])) t := by
    intro t q
    refine k3_ _ ?_
    show Steps p.tables e below (T2.setTop (mkF m 9 #[.val (.ref a), .val (.long (0 : Int64)), .second, .val (.int (0 : Int32))] [(.ref sa), (.int (0 : Int32))])) _
    refine X2.arraylength hx (by rw [e2]; exact ArS.1) (State.isArrayOf_alike hZ.alike ArS.2.1) (g := (mkF m 9 #[.val (.ref a), .val (.long (0 : Int64)), .second, .val (.int (0 : Int32))] [(.ref sa), (.int (0 : Int32))])) rfl rfl (hb hby d_prog_33_method_2_9) _ ?_
    rw [len_of SS MS]
    show Steps p.tables e below (T2.setTop (mkF m 10 #[.val (.ref a), .val (.long (0 : Int64)), .second, .val (.int (0 : Int32))] [(.int (3 : Int32)), (.int (0 : Int32))])) _
    exact q
  have k5_ : ∀ t, Steps p.tables e below (T2.setTop (mkF m 13 #[.val (.ref a), .val (.long (0 : Int64)), .second, .val (.int (0 : Int32))] [])) t → Steps p.tables e below (s₁.setTop (mkF m 0 #[.val (.ref a), .unset, .unset, .unset] [])) t := by
    intro t q
    refine k4_ _ ?_
    show Steps p.tables e below (T2.setTop (mkF m 10 #[.val (.ref a), .val (.long (0 : Int64)), .second, .val (.int (0 : Int32))] [(.int (3 : Int32)), (.int (0 : Int32))])) _
    refine XS.icmpNo X2.here hx rfl (hb hby d_prog_33_method_2_10) rfl (tlt (by decide)).2.1 ?_
    show Steps p.tables e below (T2.setTop (mkF m 13 #[.val (.ref a), .val (.long (0 : Int64)), .second, .val (.int (0 : Int32))] [])) _
    exact q
  have k6_ : ∀ t, Steps p.tables e below (T2.setTop (mkF m 15 #[.val (.ref a), .val (.long (0 : Int64)), .second, .val (.int (0 : Int32))] [(.ref a), (.long (0 : Int64))])) t → Steps p.tables e below (s₁.setTop (mkF m 0 #[.val (.ref a), .unset, .unset, .unset] [])) t := by
    intro t q
    refine k5_ _ ?_
    show Steps p.tables e below (T2.setTop (mkF m 13 #[.val (.ref a), .val (.long (0 : Int64)), .second, .val (.int (0 : Int32))] [])) _
    refine XS.lloadN X2.here hx rfl (hb hby d_prog_33_method_2_13) rfl ?_
    show Steps p.tables e below (T2.setTop (mkF m 14 #[.val (.ref a), .val (.long (0 : Int64)), .second, .val (.int (0 : Int32))] [(.long (0 : Int64))])) _
    refine XS.aloadN X2.here hx rfl (hb hby d_prog_33_method_2_14) rfl rfl ?_
    show Steps p.tables e below (T2.setTop (mkF m 15 #[.val (.ref a), .val (.long (0 : Int64)), .second, .val (.int (0 : Int32))] [(.ref a), (.long (0 : Int64))])) _
    exact q
  obtain ⟨T7, X7, e7, st7⟩ := getF X2 hx hZ hown (host := "") (Or.inl (hw _ (List.mem_of_getElem? (i := 28) rfl))) Via.refl e2 FE (g := (mkF m 15 #[.val (.ref a), .val (.long (0 : Int64)), .second, .val (.int (0 : Int32))] [(.ref a), (.long (0 : Int64))])) rfl rfl (hb hby d_prog_33_method_2_15)
  have k8_ : ∀ t, Steps p.tables e below (T7.setTop (mkF m 18 #[.val (.ref a), .val (.long (0 : Int64)), .second, .val (.int (0 : Int32))] [(.ref ea), (.long (0 : Int64))])) t → Steps p.tables e below (s₁.setTop (mkF m 0 #[.val (.ref a), .unset, .unset, .unset] [])) t := fun t q => k6_ t (st7 t q)
  have k9_ : ∀ t, Steps p.tables e below (T7.setTop (mkF m 21 #[.val (.ref a), .val (.long (0 : Int64)), .second, .val (.int (0 : Int32))] [(.ref a), (.int y0), (.long (0 : Int64))])) t → Steps p.tables e below (s₁.setTop (mkF m 0 #[.val (.ref a), .unset, .unset, .unset] [])) t := by
    intro t q
    refine k8_ _ ?_
    show Steps p.tables e below (T7.setTop (mkF m 18 #[.val (.ref a), .val (.long (0 : Int64)), .second, .val (.int (0 : Int32))] [(.ref ea), (.long (0 : Int64))])) _
    refine XS.iloadN X7.here hx rfl (hb hby d_prog_33_method_2_18) rfl ?_
    show Steps p.tables e below (T7.setTop (mkF m 19 #[.val (.ref a), .val (.long (0 : Int64)), .second, .val (.int (0 : Int32))] [(.int (0 : Int32)), (.ref ea), (.long (0 : Int64))])) _
    refine X7.iaload hx (j := (0 : Int32)) (v := (.int y0)) (by rw [e7]; exact ArE.1) (State.isArrayOf_alike hZ.alike ArE.2.1) ArE.2.2 (inb_of SE ⟨by decide, by decide⟩) (HE.at (inb_of SE ⟨by decide, by decide⟩) rfl) (g := (mkF m 19 #[.val (.ref a), .val (.long (0 : Int64)), .second, .val (.int (0 : Int32))] [(.int (0 : Int32)), (.ref ea), (.long (0 : Int64))])) rfl rfl (hb hby d_prog_33_method_2_19) _ ?_
    show Steps p.tables e below (T7.setTop (mkF m 20 #[.val (.ref a), .val (.long (0 : Int64)), .second, .val (.int (0 : Int32))] [(.int y0), (.long (0 : Int64))])) _
    refine XS.aloadN X7.here hx rfl (hb hby d_prog_33_method_2_20) rfl rfl ?_
    show Steps p.tables e below (T7.setTop (mkF m 21 #[.val (.ref a), .val (.long (0 : Int64)), .second, .val (.int (0 : Int32))] [(.ref a), (.int y0), (.long (0 : Int64))])) _
    exact q
  obtain ⟨T10, X10, e10, st10⟩ := getF X7 hx hZ hown (host := "") (Or.inl (hw _ (List.mem_of_getElem? (i := 26) rfl))) Via.refl e7 FS (g := (mkF m 21 #[.val (.ref a), .val (.long (0 : Int64)), .second, .val (.int (0 : Int32))] [(.ref a), (.int y0), (.long (0 : Int64))])) rfl rfl (hb hby d_prog_33_method_2_21)
  have k11_ : ∀ t, Steps p.tables e below (T10.setTop (mkF m 24 #[.val (.ref a), .val (.long (0 : Int64)), .second, .val (.int (0 : Int32))] [(.ref sa), (.int y0), (.long (0 : Int64))])) t → Steps p.tables e below (s₁.setTop (mkF m 0 #[.val (.ref a), .unset, .unset, .unset] [])) t := fun t q => k9_ t (st10 t q)
  have k12_ : ∀ t, Steps p.tables e below (T10.setTop (mkF m 4 #[.val (.ref a), .val (.long ((0 : Int64) + ((y0 - x0).toInt64))), .second, .val (.int ((0 : Int32) + (1 : Int32)))] [])) t → Steps p.tables e below (s₁.setTop (mkF m 0 #[.val (.ref a), .unset, .unset, .unset] [])) t := by
    intro t q
    refine k11_ _ ?_
    show Steps p.tables e below (T10.setTop (mkF m 24 #[.val (.ref a), .val (.long (0 : Int64)), .second, .val (.int (0 : Int32))] [(.ref sa), (.int y0), (.long (0 : Int64))])) _
    refine XS.iloadN X10.here hx rfl (hb hby d_prog_33_method_2_24) rfl ?_
    show Steps p.tables e below (T10.setTop (mkF m 25 #[.val (.ref a), .val (.long (0 : Int64)), .second, .val (.int (0 : Int32))] [(.int (0 : Int32)), (.ref sa), (.int y0), (.long (0 : Int64))])) _
    refine X10.iaload hx (j := (0 : Int32)) (v := (.int x0)) (by rw [e10]; exact ArS.1) (State.isArrayOf_alike hZ.alike ArS.2.1) ArS.2.2 (inb_of SS ⟨by decide, by decide⟩) (HS.at (inb_of SS ⟨by decide, by decide⟩) rfl) (g := (mkF m 25 #[.val (.ref a), .val (.long (0 : Int64)), .second, .val (.int (0 : Int32))] [(.int (0 : Int32)), (.ref sa), (.int y0), (.long (0 : Int64))])) rfl rfl (hb hby d_prog_33_method_2_25) _ ?_
    show Steps p.tables e below (T10.setTop (mkF m 26 #[.val (.ref a), .val (.long (0 : Int64)), .second, .val (.int (0 : Int32))] [(.int x0), (.int y0), (.long (0 : Int64))])) _
    refine XS.isub X10.here hx rfl (hb hby d_prog_33_method_2_26) rfl ?_
    show Steps p.tables e below (T10.setTop (mkF m 27 #[.val (.ref a), .val (.long (0 : Int64)), .second, .val (.int (0 : Int32))] [(.int (y0 - x0)), (.long (0 : Int64))])) _
    refine XS.i2l X10.here hx rfl (hb hby d_prog_33_method_2_27) rfl ?_
    show Steps p.tables e below (T10.setTop (mkF m 28 #[.val (.ref a), .val (.long (0 : Int64)), .second, .val (.int (0 : Int32))] [(.long ((y0 - x0).toInt64)), (.long (0 : Int64))])) _
    refine XS.ladd X10.here hx rfl (hb hby d_prog_33_method_2_28) rfl ?_
    show Steps p.tables e below (T10.setTop (mkF m 29 #[.val (.ref a), .val (.long (0 : Int64)), .second, .val (.int (0 : Int32))] [(.long ((0 : Int64) + ((y0 - x0).toInt64)))])) _
    refine XS.lstoreN X10.here hx rfl (hb hby d_prog_33_method_2_29) rfl (l' := #[.val (.ref a), .val (.long ((0 : Int64) + ((y0 - x0).toInt64))), .second, .val (.int (0 : Int32))]) rfl ?_
    show Steps p.tables e below (T10.setTop (mkF m 30 #[.val (.ref a), .val (.long ((0 : Int64) + ((y0 - x0).toInt64))), .second, .val (.int (0 : Int32))] [])) _
    refine XS.iinc X10.here hx rfl (hb hby d_prog_33_method_2_30) rfl (l' := #[.val (.ref a), .val (.long ((0 : Int64) + ((y0 - x0).toInt64))), .second, .val (.int ((0 : Int32) + (1 : Int32)))]) rfl ?_
    show Steps p.tables e below (T10.setTop (mkF m 33 #[.val (.ref a), .val (.long ((0 : Int64) + ((y0 - x0).toInt64))), .second, .val (.int ((0 : Int32) + (1 : Int32)))] [])) _
    refine XS.goto X10.here hx rfl (pc0 := 33) (pc' := 4) rfl (hb hby d_prog_33_method_2_33) (by decide) (by decide) ?_
    show Steps p.tables e below (T10.setTop (mkF m 4 #[.val (.ref a), .val (.long ((0 : Int64) + ((y0 - x0).toInt64))), .second, .val (.int ((0 : Int32) + (1 : Int32)))] [])) _
    exact q
  have k13_ : ∀ t, Steps p.tables e below (T10.setTop (mkF m 6 #[.val (.ref a), .val (.long ((0 : Int64) + ((y0 - x0).toInt64))), .second, .val (.int ((0 : Int32) + (1 : Int32)))] [(.ref a), (.int ((0 : Int32) + (1 : Int32)))])) t → Steps p.tables e below (s₁.setTop (mkF m 0 #[.val (.ref a), .unset, .unset, .unset] [])) t := by
    intro t q
    refine k12_ _ ?_
    show Steps p.tables e below (T10.setTop (mkF m 4 #[.val (.ref a), .val (.long ((0 : Int64) + ((y0 - x0).toInt64))), .second, .val (.int ((0 : Int32) + (1 : Int32)))] [])) _
    refine XS.iloadN X10.here hx rfl (hb hby d_prog_33_method_2_4) rfl ?_
    show Steps p.tables e below (T10.setTop (mkF m 5 #[.val (.ref a), .val (.long ((0 : Int64) + ((y0 - x0).toInt64))), .second, .val (.int ((0 : Int32) + (1 : Int32)))] [(.int ((0 : Int32) + (1 : Int32)))])) _
    refine XS.aloadN X10.here hx rfl (hb hby d_prog_33_method_2_5) rfl rfl ?_
    show Steps p.tables e below (T10.setTop (mkF m 6 #[.val (.ref a), .val (.long ((0 : Int64) + ((y0 - x0).toInt64))), .second, .val (.int ((0 : Int32) + (1 : Int32)))] [(.ref a), (.int ((0 : Int32) + (1 : Int32)))])) _
    exact q
  obtain ⟨T14, X14, e14, st14⟩ := getF X10 hx hZ hown (host := "") (Or.inl (hw _ (List.mem_of_getElem? (i := 26) rfl))) Via.refl e10 FS (g := (mkF m 6 #[.val (.ref a), .val (.long ((0 : Int64) + ((y0 - x0).toInt64))), .second, .val (.int ((0 : Int32) + (1 : Int32)))] [(.ref a), (.int ((0 : Int32) + (1 : Int32)))])) rfl rfl (hb hby d_prog_33_method_2_6)
  have k15_ : ∀ t, Steps p.tables e below (T14.setTop (mkF m 9 #[.val (.ref a), .val (.long ((0 : Int64) + ((y0 - x0).toInt64))), .second, .val (.int ((0 : Int32) + (1 : Int32)))] [(.ref sa), (.int ((0 : Int32) + (1 : Int32)))])) t → Steps p.tables e below (s₁.setTop (mkF m 0 #[.val (.ref a), .unset, .unset, .unset] [])) t := fun t q => k13_ t (st14 t q)
  have k16_ : ∀ t, Steps p.tables e below (T14.setTop (mkF m 10 #[.val (.ref a), .val (.long ((0 : Int64) + ((y0 - x0).toInt64))), .second, .val (.int ((0 : Int32) + (1 : Int32)))] [(.int (3 : Int32)), (.int ((0 : Int32) + (1 : Int32)))])) t → Steps p.tables e below (s₁.setTop (mkF m 0 #[.val (.ref a), .unset, .unset, .unset] [])) t := by
    intro t q
    refine k15_ _ ?_
    show Steps p.tables e below (T14.setTop (mkF m 9 #[.val (.ref a), .val (.long ((0 : Int64) + ((y0 - x0).toInt64))), .second, .val (.int ((0 : Int32) + (1 : Int32)))] [(.ref sa), (.int ((0 : Int32) + (1 : Int32)))])) _
    refine X14.arraylength hx (by rw [e14]; exact ArS.1) (State.isArrayOf_alike hZ.alike ArS.2.1) (g := (mkF m 9 #[.val (.ref a), .val (.long ((0 : Int64) + ((y0 - x0).toInt64))), .second, .val (.int ((0 : Int32) + (1 : Int32)))] [(.ref sa), (.int ((0 : Int32) + (1 : Int32)))])) rfl rfl (hb hby d_prog_33_method_2_9) _ ?_
    rw [len_of SS MS]
    show Steps p.tables e below (T14.setTop (mkF m 10 #[.val (.ref a), .val (.long ((0 : Int64) + ((y0 - x0).toInt64))), .second, .val (.int ((0 : Int32) + (1 : Int32)))] [(.int (3 : Int32)), (.int ((0 : Int32) + (1 : Int32)))])) _
    exact q
  have k17_ : ∀ t, Steps p.tables e below (T14.setTop (mkF m 13 #[.val (.ref a), .val (.long ((0 : Int64) + ((y0 - x0).toInt64))), .second, .val (.int ((0 : Int32) + (1 : Int32)))] [])) t → Steps p.tables e below (s₁.setTop (mkF m 0 #[.val (.ref a), .unset, .unset, .unset] [])) t := by
    intro t q
    refine k16_ _ ?_
    show Steps p.tables e below (T14.setTop (mkF m 10 #[.val (.ref a), .val (.long ((0 : Int64) + ((y0 - x0).toInt64))), .second, .val (.int ((0 : Int32) + (1 : Int32)))] [(.int (3 : Int32)), (.int ((0 : Int32) + (1 : Int32)))])) _
    refine XS.icmpNo X14.here hx rfl (hb hby d_prog_33_method_2_10) rfl (tlt (by decide)).2.1 ?_
    show Steps p.tables e below (T14.setTop (mkF m 13 #[.val (.ref a), .val (.long ((0 : Int64) + ((y0 - x0).toInt64))), .second, .val (.int ((0 : Int32) + (1 : Int32)))] [])) _
    exact q
  have k18_ : ∀ t, Steps p.tables e below (T14.setTop (mkF m 15 #[.val (.ref a), .val (.long ((0 : Int64) + ((y0 - x0).toInt64))), .second, .val (.int ((0 : Int32) + (1 : Int32)))] [(.ref a), (.long ((0 : Int64) + ((y0 - x0).toInt64)))])) t → Steps p.tables e below (s₁.setTop (mkF m 0 #[.val (.ref a), .unset, .unset, .unset] [])) t := by
    intro t q
    refine k17_ _ ?_
    show Steps p.tables e below (T14.setTop (mkF m 13 #[.val (.ref a), .val (.long ((0 : Int64) + ((y0 - x0).toInt64))), .second, .val (.int ((0 : Int32) + (1 : Int32)))] [])) _
    refine XS.lloadN X14.here hx rfl (hb hby d_prog_33_method_2_13) rfl ?_
    show Steps p.tables e below (T14.setTop (mkF m 14 #[.val (.ref a), .val (.long ((0 : Int64) + ((y0 - x0).toInt64))), .second, .val (.int ((0 : Int32) + (1 : Int32)))] [(.long ((0 : Int64) + ((y0 - x0).toInt64)))])) _
    refine XS.aloadN X14.here hx rfl (hb hby d_prog_33_method_2_14) rfl rfl ?_
    show Steps p.tables e below (T14.setTop (mkF m 15 #[.val (.ref a), .val (.long ((0 : Int64) + ((y0 - x0).toInt64))), .second, .val (.int ((0 : Int32) + (1 : Int32)))] [(.ref a), (.long ((0 : Int64) + ((y0 - x0).toInt64)))])) _
    exact q
  obtain ⟨T19, X19, e19, st19⟩ := getF X14 hx hZ hown (host := "") (Or.inl (hw _ (List.mem_of_getElem? (i := 28) rfl))) Via.refl e14 FE (g := (mkF m 15 #[.val (.ref a), .val (.long ((0 : Int64) + ((y0 - x0).toInt64))), .second, .val (.int ((0 : Int32) + (1 : Int32)))] [(.ref a), (.long ((0 : Int64) + ((y0 - x0).toInt64)))])) rfl rfl (hb hby d_prog_33_method_2_15)
  have k20_ : ∀ t, Steps p.tables e below (T19.setTop (mkF m 18 #[.val (.ref a), .val (.long ((0 : Int64) + ((y0 - x0).toInt64))), .second, .val (.int ((0 : Int32) + (1 : Int32)))] [(.ref ea), (.long ((0 : Int64) + ((y0 - x0).toInt64)))])) t → Steps p.tables e below (s₁.setTop (mkF m 0 #[.val (.ref a), .unset, .unset, .unset] [])) t := fun t q => k18_ t (st19 t q)
  have k21_ : ∀ t, Steps p.tables e below (T19.setTop (mkF m 21 #[.val (.ref a), .val (.long ((0 : Int64) + ((y0 - x0).toInt64))), .second, .val (.int ((0 : Int32) + (1 : Int32)))] [(.ref a), (.int y1), (.long ((0 : Int64) + ((y0 - x0).toInt64)))])) t → Steps p.tables e below (s₁.setTop (mkF m 0 #[.val (.ref a), .unset, .unset, .unset] [])) t := by
    intro t q
    refine k20_ _ ?_
    show Steps p.tables e below (T19.setTop (mkF m 18 #[.val (.ref a), .val (.long ((0 : Int64) + ((y0 - x0).toInt64))), .second, .val (.int ((0 : Int32) + (1 : Int32)))] [(.ref ea), (.long ((0 : Int64) + ((y0 - x0).toInt64)))])) _
    refine XS.iloadN X19.here hx rfl (hb hby d_prog_33_method_2_18) rfl ?_
    show Steps p.tables e below (T19.setTop (mkF m 19 #[.val (.ref a), .val (.long ((0 : Int64) + ((y0 - x0).toInt64))), .second, .val (.int ((0 : Int32) + (1 : Int32)))] [(.int ((0 : Int32) + (1 : Int32))), (.ref ea), (.long ((0 : Int64) + ((y0 - x0).toInt64)))])) _
    refine X19.iaload hx (j := ((0 : Int32) + (1 : Int32))) (v := (.int y1)) (by rw [e19]; exact ArE.1) (State.isArrayOf_alike hZ.alike ArE.2.1) ArE.2.2 (inb_of SE ⟨by decide, by decide⟩) (HE.at (inb_of SE ⟨by decide, by decide⟩) rfl) (g := (mkF m 19 #[.val (.ref a), .val (.long ((0 : Int64) + ((y0 - x0).toInt64))), .second, .val (.int ((0 : Int32) + (1 : Int32)))] [(.int ((0 : Int32) + (1 : Int32))), (.ref ea), (.long ((0 : Int64) + ((y0 - x0).toInt64)))])) rfl rfl (hb hby d_prog_33_method_2_19) _ ?_
    show Steps p.tables e below (T19.setTop (mkF m 20 #[.val (.ref a), .val (.long ((0 : Int64) + ((y0 - x0).toInt64))), .second, .val (.int ((0 : Int32) + (1 : Int32)))] [(.int y1), (.long ((0 : Int64) + ((y0 - x0).toInt64)))])) _
    refine XS.aloadN X19.here hx rfl (hb hby d_prog_33_method_2_20) rfl rfl ?_
    show Steps p.tables e below (T19.setTop (mkF m 21 #[.val (.ref a), .val (.long ((0 : Int64) + ((y0 - x0).toInt64))), .second, .val (.int ((0 : Int32) + (1 : Int32)))] [(.ref a), (.int y1), (.long ((0 : Int64) + ((y0 - x0).toInt64)))])) _
    exact q
  obtain ⟨T22, X22, e22, st22⟩ := getF X19 hx hZ hown (host := "") (Or.inl (hw _ (List.mem_of_getElem? (i := 26) rfl))) Via.refl e19 FS (g := (mkF m 21 #[.val (.ref a), .val (.long ((0 : Int64) + ((y0 - x0).toInt64))), .second, .val (.int ((0 : Int32) + (1 : Int32)))] [(.ref a), (.int y1), (.long ((0 : Int64) + ((y0 - x0).toInt64)))])) rfl rfl (hb hby d_prog_33_method_2_21)
  have k23_ : ∀ t, Steps p.tables e below (T22.setTop (mkF m 24 #[.val (.ref a), .val (.long ((0 : Int64) + ((y0 - x0).toInt64))), .second, .val (.int ((0 : Int32) + (1 : Int32)))] [(.ref sa), (.int y1), (.long ((0 : Int64) + ((y0 - x0).toInt64)))])) t → Steps p.tables e below (s₁.setTop (mkF m 0 #[.val (.ref a), .unset, .unset, .unset] [])) t := fun t q => k21_ t (st22 t q)
  have k24_ : ∀ t, Steps p.tables e below (T22.setTop (mkF m 4 #[.val (.ref a), .val (.long (((0 : Int64) + ((y0 - x0).toInt64)) + ((y1 - x1).toInt64))), .second, .val (.int (((0 : Int32) + (1 : Int32)) + (1 : Int32)))] [])) t → Steps p.tables e below (s₁.setTop (mkF m 0 #[.val (.ref a), .unset, .unset, .unset] [])) t := by
    intro t q
    refine k23_ _ ?_
    show Steps p.tables e below (T22.setTop (mkF m 24 #[.val (.ref a), .val (.long ((0 : Int64) + ((y0 - x0).toInt64))), .second, .val (.int ((0 : Int32) + (1 : Int32)))] [(.ref sa), (.int y1), (.long ((0 : Int64) + ((y0 - x0).toInt64)))])) _
    refine XS.iloadN X22.here hx rfl (hb hby d_prog_33_method_2_24) rfl ?_
    show Steps p.tables e below (T22.setTop (mkF m 25 #[.val (.ref a), .val (.long ((0 : Int64) + ((y0 - x0).toInt64))), .second, .val (.int ((0 : Int32) + (1 : Int32)))] [(.int ((0 : Int32) + (1 : Int32))), (.ref sa), (.int y1), (.long ((0 : Int64) + ((y0 - x0).toInt64)))])) _
    refine X22.iaload hx (j := ((0 : Int32) + (1 : Int32))) (v := (.int x1)) (by rw [e22]; exact ArS.1) (State.isArrayOf_alike hZ.alike ArS.2.1) ArS.2.2 (inb_of SS ⟨by decide, by decide⟩) (HS.at (inb_of SS ⟨by decide, by decide⟩) rfl) (g := (mkF m 25 #[.val (.ref a), .val (.long ((0 : Int64) + ((y0 - x0).toInt64))), .second, .val (.int ((0 : Int32) + (1 : Int32)))] [(.int ((0 : Int32) + (1 : Int32))), (.ref sa), (.int y1), (.long ((0 : Int64) + ((y0 - x0).toInt64)))])) rfl rfl (hb hby d_prog_33_method_2_25) _ ?_
    show Steps p.tables e below (T22.setTop (mkF m 26 #[.val (.ref a), .val (.long ((0 : Int64) + ((y0 - x0).toInt64))), .second, .val (.int ((0 : Int32) + (1 : Int32)))] [(.int x1), (.int y1), (.long ((0 : Int64) + ((y0 - x0).toInt64)))])) _
    refine XS.isub X22.here hx rfl (hb hby d_prog_33_method_2_26) rfl ?_
    show Steps p.tables e below (T22.setTop (mkF m 27 #[.val (.ref a), .val (.long ((0 : Int64) + ((y0 - x0).toInt64))), .second, .val (.int ((0 : Int32) + (1 : Int32)))] [(.int (y1 - x1)), (.long ((0 : Int64) + ((y0 - x0).toInt64)))])) _
    refine XS.i2l X22.here hx rfl (hb hby d_prog_33_method_2_27) rfl ?_
    show Steps p.tables e below (T22.setTop (mkF m 28 #[.val (.ref a), .val (.long ((0 : Int64) + ((y0 - x0).toInt64))), .second, .val (.int ((0 : Int32) + (1 : Int32)))] [(.long ((y1 - x1).toInt64)), (.long ((0 : Int64) + ((y0 - x0).toInt64)))])) _
    refine XS.ladd X22.here hx rfl (hb hby d_prog_33_method_2_28) rfl ?_
    show Steps p.tables e below (T22.setTop (mkF m 29 #[.val (.ref a), .val (.long ((0 : Int64) + ((y0 - x0).toInt64))), .second, .val (.int ((0 : Int32) + (1 : Int32)))] [(.long (((0 : Int64) + ((y0 - x0).toInt64)) + ((y1 - x1).toInt64)))])) _
    refine XS.lstoreN X22.here hx rfl (hb hby d_prog_33_method_2_29) rfl (l' := #[.val (.ref a), .val (.long (((0 : Int64) + ((y0 - x0).toInt64)) + ((y1 - x1).toInt64))), .second, .val (.int ((0 : Int32) + (1 : Int32)))]) rfl ?_
    show Steps p.tables e below (T22.setTop (mkF m 30 #[.val (.ref a), .val (.long (((0 : Int64) + ((y0 - x0).toInt64)) + ((y1 - x1).toInt64))), .second, .val (.int ((0 : Int32) + (1 : Int32)))] [])) _
    refine XS.iinc X22.here hx rfl (hb hby d_prog_33_method_2_30) rfl (l' := #[.val (.ref a), .val (.long (((0 : Int64) + ((y0 - x0).toInt64)) + ((y1 - x1).toInt64))), .second, .val (.int (((0 : Int32) + (1 : Int32)) + (1 : Int32)))]) rfl ?_
    show Steps p.tables e below (T22.setTop (mkF m 33 #[.val (.ref a), .val (.long (((0 : Int64) + ((y0 - x0).toInt64)) + ((y1 - x1).toInt64))), .second, .val (.int (((0 : Int32) + (1 : Int32)) + (1 : Int32)))] [])) _
    refine XS.goto X22.here hx rfl (pc0 := 33) (pc' := 4) rfl (hb hby d_prog_33_method_2_33) (by decide) (by decide) ?_
    show Steps p.tables e below (T22.setTop (mkF m 4 #[.val (.ref a), .val (.long (((0 : Int64) + ((y0 - x0).toInt64)) + ((y1 - x1).toInt64))), .second, .val (.int (((0 : Int32) + (1 : Int32)) + (1 : Int32)))] [])) _
    exact q
  have k25_ : ∀ t, Steps p.tables e below (T22.setTop (mkF m 6 #[.val (.ref a), .val (.long (((0 : Int64) + ((y0 - x0).toInt64)) + ((y1 - x1).toInt64))), .second, .val (.int (((0 : Int32) + (1 : Int32)) + (1 : Int32)))] [(.ref a), (.int (((0 : Int32) + (1 : Int32)) + (1 : Int32)))])) t → Steps p.tables e below (s₁.setTop (mkF m 0 #[.val (.ref a), .unset, .unset, .unset] [])) t := by
    intro t q
    refine k24_ _ ?_
    show Steps p.tables e below (T22.setTop (mkF m 4 #[.val (.ref a), .val (.long (((0 : Int64) + ((y0 - x0).toInt64)) + ((y1 - x1).toInt64))), .second, .val (.int (((0 : Int32) + (1 : Int32)) + (1 : Int32)))] [])) _
    refine XS.iloadN X22.here hx rfl (hb hby d_prog_33_method_2_4) rfl ?_
    show Steps p.tables e below (T22.setTop (mkF m 5 #[.val (.ref a), .val (.long (((0 : Int64) + ((y0 - x0).toInt64)) + ((y1 - x1).toInt64))), .second, .val (.int (((0 : Int32) + (1 : Int32)) + (1 : Int32)))] [(.int (((0 : Int32) + (1 : Int32)) + (1 : Int32)))])) _
    refine XS.aloadN X22.here hx rfl (hb hby d_prog_33_method_2_5) rfl rfl ?_
    show Steps p.tables e below (T22.setTop (mkF m 6 #[.val (.ref a), .val (.long (((0 : Int64) + ((y0 - x0).toInt64)) + ((y1 - x1).toInt64))), .second, .val (.int (((0 : Int32) + (1 : Int32)) + (1 : Int32)))] [(.ref a), (.int (((0 : Int32) + (1 : Int32)) + (1 : Int32)))])) _
    exact q
  obtain ⟨T26, X26, e26, st26⟩ := getF X22 hx hZ hown (host := "") (Or.inl (hw _ (List.mem_of_getElem? (i := 26) rfl))) Via.refl e22 FS (g := (mkF m 6 #[.val (.ref a), .val (.long (((0 : Int64) + ((y0 - x0).toInt64)) + ((y1 - x1).toInt64))), .second, .val (.int (((0 : Int32) + (1 : Int32)) + (1 : Int32)))] [(.ref a), (.int (((0 : Int32) + (1 : Int32)) + (1 : Int32)))])) rfl rfl (hb hby d_prog_33_method_2_6)
  have k27_ : ∀ t, Steps p.tables e below (T26.setTop (mkF m 9 #[.val (.ref a), .val (.long (((0 : Int64) + ((y0 - x0).toInt64)) + ((y1 - x1).toInt64))), .second, .val (.int (((0 : Int32) + (1 : Int32)) + (1 : Int32)))] [(.ref sa), (.int (((0 : Int32) + (1 : Int32)) + (1 : Int32)))])) t → Steps p.tables e below (s₁.setTop (mkF m 0 #[.val (.ref a), .unset, .unset, .unset] [])) t := fun t q => k25_ t (st26 t q)
  have k28_ : ∀ t, Steps p.tables e below (T26.setTop (mkF m 10 #[.val (.ref a), .val (.long (((0 : Int64) + ((y0 - x0).toInt64)) + ((y1 - x1).toInt64))), .second, .val (.int (((0 : Int32) + (1 : Int32)) + (1 : Int32)))] [(.int (3 : Int32)), (.int (((0 : Int32) + (1 : Int32)) + (1 : Int32)))])) t → Steps p.tables e below (s₁.setTop (mkF m 0 #[.val (.ref a), .unset, .unset, .unset] [])) t := by
    intro t q
    refine k27_ _ ?_
    show Steps p.tables e below (T26.setTop (mkF m 9 #[.val (.ref a), .val (.long (((0 : Int64) + ((y0 - x0).toInt64)) + ((y1 - x1).toInt64))), .second, .val (.int (((0 : Int32) + (1 : Int32)) + (1 : Int32)))] [(.ref sa), (.int (((0 : Int32) + (1 : Int32)) + (1 : Int32)))])) _
    refine X26.arraylength hx (by rw [e26]; exact ArS.1) (State.isArrayOf_alike hZ.alike ArS.2.1) (g := (mkF m 9 #[.val (.ref a), .val (.long (((0 : Int64) + ((y0 - x0).toInt64)) + ((y1 - x1).toInt64))), .second, .val (.int (((0 : Int32) + (1 : Int32)) + (1 : Int32)))] [(.ref sa), (.int (((0 : Int32) + (1 : Int32)) + (1 : Int32)))])) rfl rfl (hb hby d_prog_33_method_2_9) _ ?_
    rw [len_of SS MS]
    show Steps p.tables e below (T26.setTop (mkF m 10 #[.val (.ref a), .val (.long (((0 : Int64) + ((y0 - x0).toInt64)) + ((y1 - x1).toInt64))), .second, .val (.int (((0 : Int32) + (1 : Int32)) + (1 : Int32)))] [(.int (3 : Int32)), (.int (((0 : Int32) + (1 : Int32)) + (1 : Int32)))])) _
    exact q
  have k29_ : ∀ t, Steps p.tables e below (T26.setTop (mkF m 13 #[.val (.ref a), .val (.long (((0 : Int64) + ((y0 - x0).toInt64)) + ((y1 - x1).toInt64))), .second, .val (.int (((0 : Int32) + (1 : Int32)) + (1 : Int32)))] [])) t → Steps p.tables e below (s₁.setTop (mkF m 0 #[.val (.ref a), .unset, .unset, .unset] [])) t := by
    intro t q
    refine k28_ _ ?_
    show Steps p.tables e below (T26.setTop (mkF m 10 #[.val (.ref a), .val (.long (((0 : Int64) + ((y0 - x0).toInt64)) + ((y1 - x1).toInt64))), .second, .val (.int (((0 : Int32) + (1 : Int32)) + (1 : Int32)))] [(.int (3 : Int32)), (.int (((0 : Int32) + (1 : Int32)) + (1 : Int32)))])) _
    refine XS.icmpNo X26.here hx rfl (hb hby d_prog_33_method_2_10) rfl (tlt (by decide)).2.1 ?_
    show Steps p.tables e below (T26.setTop (mkF m 13 #[.val (.ref a), .val (.long (((0 : Int64) + ((y0 - x0).toInt64)) + ((y1 - x1).toInt64))), .second, .val (.int (((0 : Int32) + (1 : Int32)) + (1 : Int32)))] [])) _
    exact q
  have k30_ : ∀ t, Steps p.tables e below (T26.setTop (mkF m 15 #[.val (.ref a), .val (.long (((0 : Int64) + ((y0 - x0).toInt64)) + ((y1 - x1).toInt64))), .second, .val (.int (((0 : Int32) + (1 : Int32)) + (1 : Int32)))] [(.ref a), (.long (((0 : Int64) + ((y0 - x0).toInt64)) + ((y1 - x1).toInt64)))])) t → Steps p.tables e below (s₁.setTop (mkF m 0 #[.val (.ref a), .unset, .unset, .unset] [])) t := by
    intro t q
    refine k29_ _ ?_
    show Steps p.tables e below (T26.setTop (mkF m 13 #[.val (.ref a), .val (.long (((0 : Int64) + ((y0 - x0).toInt64)) + ((y1 - x1).toInt64))), .second, .val (.int (((0 : Int32) + (1 : Int32)) + (1 : Int32)))] [])) _
    refine XS.lloadN X26.here hx rfl (hb hby d_prog_33_method_2_13) rfl ?_
    show Steps p.tables e below (T26.setTop (mkF m 14 #[.val (.ref a), .val (.long (((0 : Int64) + ((y0 - x0).toInt64)) + ((y1 - x1).toInt64))), .second, .val (.int (((0 : Int32) + (1 : Int32)) + (1 : Int32)))] [(.long (((0 : Int64) + ((y0 - x0).toInt64)) + ((y1 - x1).toInt64)))])) _
    refine XS.aloadN X26.here hx rfl (hb hby d_prog_33_method_2_14) rfl rfl ?_
    show Steps p.tables e below (T26.setTop (mkF m 15 #[.val (.ref a), .val (.long (((0 : Int64) + ((y0 - x0).toInt64)) + ((y1 - x1).toInt64))), .second, .val (.int (((0 : Int32) + (1 : Int32)) + (1 : Int32)))] [(.ref a), (.long (((0 : Int64) + ((y0 - x0).toInt64)) + ((y1 - x1).toInt64)))])) _
    exact q
  obtain ⟨T31, X31, e31, st31⟩ := getF X26 hx hZ hown (host := "") (Or.inl (hw _ (List.mem_of_getElem? (i := 28) rfl))) Via.refl e26 FE (g := (mkF m 15 #[.val (.ref a), .val (.long (((0 : Int64) + ((y0 - x0).toInt64)) + ((y1 - x1).toInt64))), .second, .val (.int (((0 : Int32) + (1 : Int32)) + (1 : Int32)))] [(.ref a), (.long (((0 : Int64) + ((y0 - x0).toInt64)) + ((y1 - x1).toInt64)))])) rfl rfl (hb hby d_prog_33_method_2_15)
  have k32_ : ∀ t, Steps p.tables e below (T31.setTop (mkF m 18 #[.val (.ref a), .val (.long (((0 : Int64) + ((y0 - x0).toInt64)) + ((y1 - x1).toInt64))), .second, .val (.int (((0 : Int32) + (1 : Int32)) + (1 : Int32)))] [(.ref ea), (.long (((0 : Int64) + ((y0 - x0).toInt64)) + ((y1 - x1).toInt64)))])) t → Steps p.tables e below (s₁.setTop (mkF m 0 #[.val (.ref a), .unset, .unset, .unset] [])) t := fun t q => k30_ t (st31 t q)
  have k33_ : ∀ t, Steps p.tables e below (T31.setTop (mkF m 21 #[.val (.ref a), .val (.long (((0 : Int64) + ((y0 - x0).toInt64)) + ((y1 - x1).toInt64))), .second, .val (.int (((0 : Int32) + (1 : Int32)) + (1 : Int32)))] [(.ref a), (.int y2), (.long (((0 : Int64) + ((y0 - x0).toInt64)) + ((y1 - x1).toInt64)))])) t → Steps p.tables e below (s₁.setTop (mkF m 0 #[.val (.ref a), .unset, .unset, .unset] [])) t := by
    intro t q
    refine k32_ _ ?_
    show Steps p.tables e below (T31.setTop (mkF m 18 #[.val (.ref a), .val (.long (((0 : Int64) + ((y0 - x0).toInt64)) + ((y1 - x1).toInt64))), .second, .val (.int (((0 : Int32) + (1 : Int32)) + (1 : Int32)))] [(.ref ea), (.long (((0 : Int64) + ((y0 - x0).toInt64)) + ((y1 - x1).toInt64)))])) _
    refine XS.iloadN X31.here hx rfl (hb hby d_prog_33_method_2_18) rfl ?_
    show Steps p.tables e below (T31.setTop (mkF m 19 #[.val (.ref a), .val (.long (((0 : Int64) + ((y0 - x0).toInt64)) + ((y1 - x1).toInt64))), .second, .val (.int (((0 : Int32) + (1 : Int32)) + (1 : Int32)))] [(.int (((0 : Int32) + (1 : Int32)) + (1 : Int32))), (.ref ea), (.long (((0 : Int64) + ((y0 - x0).toInt64)) + ((y1 - x1).toInt64)))])) _
    refine X31.iaload hx (j := (((0 : Int32) + (1 : Int32)) + (1 : Int32))) (v := (.int y2)) (by rw [e31]; exact ArE.1) (State.isArrayOf_alike hZ.alike ArE.2.1) ArE.2.2 (inb_of SE ⟨by decide, by decide⟩) (HE.at (inb_of SE ⟨by decide, by decide⟩) rfl) (g := (mkF m 19 #[.val (.ref a), .val (.long (((0 : Int64) + ((y0 - x0).toInt64)) + ((y1 - x1).toInt64))), .second, .val (.int (((0 : Int32) + (1 : Int32)) + (1 : Int32)))] [(.int (((0 : Int32) + (1 : Int32)) + (1 : Int32))), (.ref ea), (.long (((0 : Int64) + ((y0 - x0).toInt64)) + ((y1 - x1).toInt64)))])) rfl rfl (hb hby d_prog_33_method_2_19) _ ?_
    show Steps p.tables e below (T31.setTop (mkF m 20 #[.val (.ref a), .val (.long (((0 : Int64) + ((y0 - x0).toInt64)) + ((y1 - x1).toInt64))), .second, .val (.int (((0 : Int32) + (1 : Int32)) + (1 : Int32)))] [(.int y2), (.long (((0 : Int64) + ((y0 - x0).toInt64)) + ((y1 - x1).toInt64)))])) _
    refine XS.aloadN X31.here hx rfl (hb hby d_prog_33_method_2_20) rfl rfl ?_
    show Steps p.tables e below (T31.setTop (mkF m 21 #[.val (.ref a), .val (.long (((0 : Int64) + ((y0 - x0).toInt64)) + ((y1 - x1).toInt64))), .second, .val (.int (((0 : Int32) + (1 : Int32)) + (1 : Int32)))] [(.ref a), (.int y2), (.long (((0 : Int64) + ((y0 - x0).toInt64)) + ((y1 - x1).toInt64)))])) _
    exact q
  obtain ⟨T34, X34, e34, st34⟩ := getF X31 hx hZ hown (host := "") (Or.inl (hw _ (List.mem_of_getElem? (i := 26) rfl))) Via.refl e31 FS (g := (mkF m 21 #[.val (.ref a), .val (.long (((0 : Int64) + ((y0 - x0).toInt64)) + ((y1 - x1).toInt64))), .second, .val (.int (((0 : Int32) + (1 : Int32)) + (1 : Int32)))] [(.ref a), (.int y2), (.long (((0 : Int64) + ((y0 - x0).toInt64)) + ((y1 - x1).toInt64)))])) rfl rfl (hb hby d_prog_33_method_2_21)
  have k35_ : ∀ t, Steps p.tables e below (T34.setTop (mkF m 24 #[.val (.ref a), .val (.long (((0 : Int64) + ((y0 - x0).toInt64)) + ((y1 - x1).toInt64))), .second, .val (.int (((0 : Int32) + (1 : Int32)) + (1 : Int32)))] [(.ref sa), (.int y2), (.long (((0 : Int64) + ((y0 - x0).toInt64)) + ((y1 - x1).toInt64)))])) t → Steps p.tables e below (s₁.setTop (mkF m 0 #[.val (.ref a), .unset, .unset, .unset] [])) t := fun t q => k33_ t (st34 t q)
  have k36_ : ∀ t, Steps p.tables e below (T34.setTop (mkF m 4 #[.val (.ref a), .val (.long ((((0 : Int64) + ((y0 - x0).toInt64)) + ((y1 - x1).toInt64)) + ((y2 - x2).toInt64))), .second, .val (.int ((((0 : Int32) + (1 : Int32)) + (1 : Int32)) + (1 : Int32)))] [])) t → Steps p.tables e below (s₁.setTop (mkF m 0 #[.val (.ref a), .unset, .unset, .unset] [])) t := by
    intro t q
    refine k35_ _ ?_
    show Steps p.tables e below (T34.setTop (mkF m 24 #[.val (.ref a), .val (.long (((0 : Int64) + ((y0 - x0).toInt64)) + ((y1 - x1).toInt64))), .second, .val (.int (((0 : Int32) + (1 : Int32)) + (1 : Int32)))] [(.ref sa), (.int y2), (.long (((0 : Int64) + ((y0 - x0).toInt64)) + ((y1 - x1).toInt64)))])) _
    refine XS.iloadN X34.here hx rfl (hb hby d_prog_33_method_2_24) rfl ?_
    show Steps p.tables e below (T34.setTop (mkF m 25 #[.val (.ref a), .val (.long (((0 : Int64) + ((y0 - x0).toInt64)) + ((y1 - x1).toInt64))), .second, .val (.int (((0 : Int32) + (1 : Int32)) + (1 : Int32)))] [(.int (((0 : Int32) + (1 : Int32)) + (1 : Int32))), (.ref sa), (.int y2), (.long (((0 : Int64) + ((y0 - x0).toInt64)) + ((y1 - x1).toInt64)))])) _
    refine X34.iaload hx (j := (((0 : Int32) + (1 : Int32)) + (1 : Int32))) (v := (.int x2)) (by rw [e34]; exact ArS.1) (State.isArrayOf_alike hZ.alike ArS.2.1) ArS.2.2 (inb_of SS ⟨by decide, by decide⟩) (HS.at (inb_of SS ⟨by decide, by decide⟩) rfl) (g := (mkF m 25 #[.val (.ref a), .val (.long (((0 : Int64) + ((y0 - x0).toInt64)) + ((y1 - x1).toInt64))), .second, .val (.int (((0 : Int32) + (1 : Int32)) + (1 : Int32)))] [(.int (((0 : Int32) + (1 : Int32)) + (1 : Int32))), (.ref sa), (.int y2), (.long (((0 : Int64) + ((y0 - x0).toInt64)) + ((y1 - x1).toInt64)))])) rfl rfl (hb hby d_prog_33_method_2_25) _ ?_
    show Steps p.tables e below (T34.setTop (mkF m 26 #[.val (.ref a), .val (.long (((0 : Int64) + ((y0 - x0).toInt64)) + ((y1 - x1).toInt64))), .second, .val (.int (((0 : Int32) + (1 : Int32)) + (1 : Int32)))] [(.int x2), (.int y2), (.long (((0 : Int64) + ((y0 - x0).toInt64)) + ((y1 - x1).toInt64)))])) _
    refine XS.isub X34.here hx rfl (hb hby d_prog_33_method_2_26) rfl ?_
    show Steps p.tables e below (T34.setTop (mkF m 27 #[.val (.ref a), .val (.long (((0 : Int64) + ((y0 - x0).toInt64)) + ((y1 - x1).toInt64))), .second, .val (.int (((0 : Int32) + (1 : Int32)) + (1 : Int32)))] [(.int (y2 - x2)), (.long (((0 : Int64) + ((y0 - x0).toInt64)) + ((y1 - x1).toInt64)))])) _
    refine XS.i2l X34.here hx rfl (hb hby d_prog_33_method_2_27) rfl ?_
    show Steps p.tables e below (T34.setTop (mkF m 28 #[.val (.ref a), .val (.long (((0 : Int64) + ((y0 - x0).toInt64)) + ((y1 - x1).toInt64))), .second, .val (.int (((0 : Int32) + (1 : Int32)) + (1 : Int32)))] [(.long ((y2 - x2).toInt64)), (.long (((0 : Int64) + ((y0 - x0).toInt64)) + ((y1 - x1).toInt64)))])) _
    refine XS.ladd X34.here hx rfl (hb hby d_prog_33_method_2_28) rfl ?_
    show Steps p.tables e below (T34.setTop (mkF m 29 #[.val (.ref a), .val (.long (((0 : Int64) + ((y0 - x0).toInt64)) + ((y1 - x1).toInt64))), .second, .val (.int (((0 : Int32) + (1 : Int32)) + (1 : Int32)))] [(.long ((((0 : Int64) + ((y0 - x0).toInt64)) + ((y1 - x1).toInt64)) + ((y2 - x2).toInt64)))])) _
    refine XS.lstoreN X34.here hx rfl (hb hby d_prog_33_method_2_29) rfl (l' := #[.val (.ref a), .val (.long ((((0 : Int64) + ((y0 - x0).toInt64)) + ((y1 - x1).toInt64)) + ((y2 - x2).toInt64))), .second, .val (.int (((0 : Int32) + (1 : Int32)) + (1 : Int32)))]) rfl ?_
    show Steps p.tables e below (T34.setTop (mkF m 30 #[.val (.ref a), .val (.long ((((0 : Int64) + ((y0 - x0).toInt64)) + ((y1 - x1).toInt64)) + ((y2 - x2).toInt64))), .second, .val (.int (((0 : Int32) + (1 : Int32)) + (1 : Int32)))] [])) _
    refine XS.iinc X34.here hx rfl (hb hby d_prog_33_method_2_30) rfl (l' := #[.val (.ref a), .val (.long ((((0 : Int64) + ((y0 - x0).toInt64)) + ((y1 - x1).toInt64)) + ((y2 - x2).toInt64))), .second, .val (.int ((((0 : Int32) + (1 : Int32)) + (1 : Int32)) + (1 : Int32)))]) rfl ?_
    show Steps p.tables e below (T34.setTop (mkF m 33 #[.val (.ref a), .val (.long ((((0 : Int64) + ((y0 - x0).toInt64)) + ((y1 - x1).toInt64)) + ((y2 - x2).toInt64))), .second, .val (.int ((((0 : Int32) + (1 : Int32)) + (1 : Int32)) + (1 : Int32)))] [])) _
    refine XS.goto X34.here hx rfl (pc0 := 33) (pc' := 4) rfl (hb hby d_prog_33_method_2_33) (by decide) (by decide) ?_
    show Steps p.tables e below (T34.setTop (mkF m 4 #[.val (.ref a), .val (.long ((((0 : Int64) + ((y0 - x0).toInt64)) + ((y1 - x1).toInt64)) + ((y2 - x2).toInt64))), .second, .val (.int ((((0 : Int32) + (1 : Int32)) + (1 : Int32)) + (1 : Int32)))] [])) _
    exact q
  have k37_ : ∀ t, Steps p.tables e below (T34.setTop (mkF m 6 #[.val (.ref a), .val (.long ((((0 : Int64) + ((y0 - x0).toInt64)) + ((y1 - x1).toInt64)) + ((y2 - x2).toInt64))), .second, .val (.int ((((0 : Int32) + (1 : Int32)) + (1 : Int32)) + (1 : Int32)))] [(.ref a), (.int ((((0 : Int32) + (1 : Int32)) + (1 : Int32)) + (1 : Int32)))])) t → Steps p.tables e below (s₁.setTop (mkF m 0 #[.val (.ref a), .unset, .unset, .unset] [])) t := by
    intro t q
    refine k36_ _ ?_
    show Steps p.tables e below (T34.setTop (mkF m 4 #[.val (.ref a), .val (.long ((((0 : Int64) + ((y0 - x0).toInt64)) + ((y1 - x1).toInt64)) + ((y2 - x2).toInt64))), .second, .val (.int ((((0 : Int32) + (1 : Int32)) + (1 : Int32)) + (1 : Int32)))] [])) _
    refine XS.iloadN X34.here hx rfl (hb hby d_prog_33_method_2_4) rfl ?_
    show Steps p.tables e below (T34.setTop (mkF m 5 #[.val (.ref a), .val (.long ((((0 : Int64) + ((y0 - x0).toInt64)) + ((y1 - x1).toInt64)) + ((y2 - x2).toInt64))), .second, .val (.int ((((0 : Int32) + (1 : Int32)) + (1 : Int32)) + (1 : Int32)))] [(.int ((((0 : Int32) + (1 : Int32)) + (1 : Int32)) + (1 : Int32)))])) _
    refine XS.aloadN X34.here hx rfl (hb hby d_prog_33_method_2_5) rfl rfl ?_
    show Steps p.tables e below (T34.setTop (mkF m 6 #[.val (.ref a), .val (.long ((((0 : Int64) + ((y0 - x0).toInt64)) + ((y1 - x1).toInt64)) + ((y2 - x2).toInt64))), .second, .val (.int ((((0 : Int32) + (1 : Int32)) + (1 : Int32)) + (1 : Int32)))] [(.ref a), (.int ((((0 : Int32) + (1 : Int32)) + (1 : Int32)) + (1 : Int32)))])) _
    exact q
  obtain ⟨T38, X38, e38, st38⟩ := getF X34 hx hZ hown (host := "") (Or.inl (hw _ (List.mem_of_getElem? (i := 26) rfl))) Via.refl e34 FS (g := (mkF m 6 #[.val (.ref a), .val (.long ((((0 : Int64) + ((y0 - x0).toInt64)) + ((y1 - x1).toInt64)) + ((y2 - x2).toInt64))), .second, .val (.int ((((0 : Int32) + (1 : Int32)) + (1 : Int32)) + (1 : Int32)))] [(.ref a), (.int ((((0 : Int32) + (1 : Int32)) + (1 : Int32)) + (1 : Int32)))])) rfl rfl (hb hby d_prog_33_method_2_6)
  have k39_ : ∀ t, Steps p.tables e below (T38.setTop (mkF m 9 #[.val (.ref a), .val (.long ((((0 : Int64) + ((y0 - x0).toInt64)) + ((y1 - x1).toInt64)) + ((y2 - x2).toInt64))), .second, .val (.int ((((0 : Int32) + (1 : Int32)) + (1 : Int32)) + (1 : Int32)))] [(.ref sa), (.int ((((0 : Int32) + (1 : Int32)) + (1 : Int32)) + (1 : Int32)))])) t → Steps p.tables e below (s₁.setTop (mkF m 0 #[.val (.ref a), .unset, .unset, .unset] [])) t := fun t q => k37_ t (st38 t q)
  have k40_ : ∀ t, Steps p.tables e below (T38.setTop (mkF m 10 #[.val (.ref a), .val (.long ((((0 : Int64) + ((y0 - x0).toInt64)) + ((y1 - x1).toInt64)) + ((y2 - x2).toInt64))), .second, .val (.int ((((0 : Int32) + (1 : Int32)) + (1 : Int32)) + (1 : Int32)))] [(.int (3 : Int32)), (.int ((((0 : Int32) + (1 : Int32)) + (1 : Int32)) + (1 : Int32)))])) t → Steps p.tables e below (s₁.setTop (mkF m 0 #[.val (.ref a), .unset, .unset, .unset] [])) t := by
    intro t q
    refine k39_ _ ?_
    show Steps p.tables e below (T38.setTop (mkF m 9 #[.val (.ref a), .val (.long ((((0 : Int64) + ((y0 - x0).toInt64)) + ((y1 - x1).toInt64)) + ((y2 - x2).toInt64))), .second, .val (.int ((((0 : Int32) + (1 : Int32)) + (1 : Int32)) + (1 : Int32)))] [(.ref sa), (.int ((((0 : Int32) + (1 : Int32)) + (1 : Int32)) + (1 : Int32)))])) _
    refine X38.arraylength hx (by rw [e38]; exact ArS.1) (State.isArrayOf_alike hZ.alike ArS.2.1) (g := (mkF m 9 #[.val (.ref a), .val (.long ((((0 : Int64) + ((y0 - x0).toInt64)) + ((y1 - x1).toInt64)) + ((y2 - x2).toInt64))), .second, .val (.int ((((0 : Int32) + (1 : Int32)) + (1 : Int32)) + (1 : Int32)))] [(.ref sa), (.int ((((0 : Int32) + (1 : Int32)) + (1 : Int32)) + (1 : Int32)))])) rfl rfl (hb hby d_prog_33_method_2_9) _ ?_
    rw [len_of SS MS]
    show Steps p.tables e below (T38.setTop (mkF m 10 #[.val (.ref a), .val (.long ((((0 : Int64) + ((y0 - x0).toInt64)) + ((y1 - x1).toInt64)) + ((y2 - x2).toInt64))), .second, .val (.int ((((0 : Int32) + (1 : Int32)) + (1 : Int32)) + (1 : Int32)))] [(.int (3 : Int32)), (.int ((((0 : Int32) + (1 : Int32)) + (1 : Int32)) + (1 : Int32)))])) _
    exact q
  have k41_ : ∀ t, Steps p.tables e below (T38.setTop (mkF m 36 #[.val (.ref a), .val (.long ((((0 : Int64) + ((y0 - x0).toInt64)) + ((y1 - x1).toInt64)) + ((y2 - x2).toInt64))), .second, .val (.int ((((0 : Int32) + (1 : Int32)) + (1 : Int32)) + (1 : Int32)))] [])) t → Steps p.tables e below (s₁.setTop (mkF m 0 #[.val (.ref a), .unset, .unset, .unset] [])) t := by
    intro t q
    refine k40_ _ ?_
    show Steps p.tables e below (T38.setTop (mkF m 10 #[.val (.ref a), .val (.long ((((0 : Int64) + ((y0 - x0).toInt64)) + ((y1 - x1).toInt64)) + ((y2 - x2).toInt64))), .second, .val (.int ((((0 : Int32) + (1 : Int32)) + (1 : Int32)) + (1 : Int32)))] [(.int (3 : Int32)), (.int ((((0 : Int32) + (1 : Int32)) + (1 : Int32)) + (1 : Int32)))])) _
    refine XS.icmpYes X38.here hx rfl (pc0 := 10) (pc' := 36) rfl (hb hby d_prog_33_method_2_10) rfl (flt (by decide)).2.1 (by decide) (by decide) ?_
    show Steps p.tables e below (T38.setTop (mkF m 36 #[.val (.ref a), .val (.long ((((0 : Int64) + ((y0 - x0).toInt64)) + ((y1 - x1).toInt64)) + ((y2 - x2).toInt64))), .second, .val (.int ((((0 : Int32) + (1 : Int32)) + (1 : Int32)) + (1 : Int32)))] [])) _
    exact q
  have k42_ : ∀ t, Steps p.tables e below (T38.setTop (mkF m 37 #[.val (.ref a), .val (.long ((((0 : Int64) + ((y0 - x0).toInt64)) + ((y1 - x1).toInt64)) + ((y2 - x2).toInt64))), .second, .val (.int ((((0 : Int32) + (1 : Int32)) + (1 : Int32)) + (1 : Int32)))] [(.long ((((0 : Int64) + ((y0 - x0).toInt64)) + ((y1 - x1).toInt64)) + ((y2 - x2).toInt64)))])) t → Steps p.tables e below (s₁.setTop (mkF m 0 #[.val (.ref a), .unset, .unset, .unset] [])) t := by
    intro t q
    refine k41_ _ ?_
    show Steps p.tables e below (T38.setTop (mkF m 36 #[.val (.ref a), .val (.long ((((0 : Int64) + ((y0 - x0).toInt64)) + ((y1 - x1).toInt64)) + ((y2 - x2).toInt64))), .second, .val (.int ((((0 : Int32) + (1 : Int32)) + (1 : Int32)) + (1 : Int32)))] [])) _
    refine XS.lloadN X38.here hx rfl (hb hby d_prog_33_method_2_36) rfl ?_
    show Steps p.tables e below (T38.setTop (mkF m 37 #[.val (.ref a), .val (.long ((((0 : Int64) + ((y0 - x0).toInt64)) + ((y1 - x1).toInt64)) + ((y2 - x2).toInt64))), .second, .val (.int ((((0 : Int32) + (1 : Int32)) + (1 : Int32)) + (1 : Int32)))] [(.long ((((0 : Int64) + ((y0 - x0).toInt64)) + ((y1 - x1).toInt64)) + ((y2 - x2).toInt64)))])) _
    exact q
  obtain ⟨fs, hr, hrun, hended, hW, hsame⟩ := X38.leave (v := some (.long ((((0 : Int64) + ((y0 - x0).toInt64)) + ((y1 - x1).toInt64)) + ((y2 - x2).toInt64)))) (fun h => by rw [Bd.returns] at h; cases h)
  refine ⟨_, _, pre0 _ (k42_ _ ?_), hrun, hended, _, _, rfl, ?_, ⟨_, rfl⟩, hW, hsame.mono (by decide) (by decide)⟩
  · show Steps p.tables e below (T38.setTop (mkF m 37 #[.val (.ref a), .val (.long ((((0 : Int64) + ((y0 - x0).toInt64)) + ((y1 - x1).toInt64)) + ((y2 - x2).toInt64))), .second, .val (.int ((((0 : Int32) + (1 : Int32)) + (1 : Int32)) + (1 : Int32)))] [(.long ((((0 : Int64) + ((y0 - x0).toInt64)) + ((y1 - x1).toInt64)) + ((y2 - x2).toInt64)))])) _
    exact X38.lreturnOut hx Bd.returns (hb hby d_prog_33_method_2_37) hr
  · show QH3 Z a sa ea ks ke x0 x1 x2 y0 y1 y2 h0 n0 _ T38.heap _
    rw [e38]
    exact ⟨rfl, N0, rfl⟩
def Q0 (Z : State) (p0 : Int32) (p1 : Int64) (p2 : Int64) (p3 : Int64) (h0 : Heap) (n0 : Nat) (v : Option Value) (h : Heap) (L : List Loc) : Prop := v = some (.int 1) ∧ Fr n0 L
theorem ef_0 (m : MethodId) (x0 : Int32) (x1 : Int64) (x2 : Int64) (x3 : Int64) : entryFrame m #[(.int x0), (.long x1), (.long x2), (.long x3)] maxLocals = mkF m 0 #[.val (.int x0), .val (.long x1), .second, .val (.long x2), .second, .val (.long x3), .second, .unset, .unset, .unset, .unset, .unset, .unset, .unset, .unset, .unset, .unset, .unset, .unset, .unset, .unset, .unset, .unset] [] := by first | (simp [entryFrame, mkF, argsToLocals, Value.category, maxLocals]; done) | rfl
theorem pd_28724 : parseMethodDescriptor "(J)I" = some ⟨[.long], some .int⟩ := by decide +kernel
theorem pd_32956 : parseMethodDescriptor "(I[I[I)V" = some ⟨[.int, (.array .int), (.array .int)], none⟩ := by decide +kernel
theorem pd_48322 : parseMethodDescriptor "()J" = some ⟨[], some .long⟩ := by decide +kernel
set_option maxRecDepth 65536 in
set_option maxHeartbeats 40000000 in
theorem rm0 (l : Launch) (Z : State) (a0 : Array Value) (hw : ∀ d ∈ tables_1, d.before a0 Z = true) (ws : List Jvm.Cond) (p0 : Int32) (p1 : Int64) (p2 : Int64) (p3 : Int64) (h0 : Heap) (n0 : Nat) (Z0 : n0 ≤ h0.size) :
    MetFree l x (head1 (Jvm.Cond.code x code maxLocals ret :: ws) room_1) (fun a' U => a' = #[(.int p0), (.long p1), (.long p2), (.long p3)] ∧ Z.Warmed39 U.vm ∧ U.heap = h0) (fun _ _ _ _ _ => True) (fun _ U o U' => ∃ v L, o = .returned v ∧ Q0 Z p0 p1 p2 p3 h0 n0 v U'.heap L ∧ FrameEnd U o U' L room_1.cells room_1.slots) := by
  refine MetFree.of_bodySF (plainFor_of_name pn_JudgedCharactersPinLaw) hisR ?_
  intro p e s m args below meth c s₁ Bd hml0 hP hK
  obtain ⟨rfl, hZ, hh⟩ := hP
  have hx := Bd.exec
  have hby := Bd.bytes
  have hml : c.maxLocals = 23 := hml0
  have hown : s.vm.findClass "com/example/haku/haku/eval/JudgedCharactersPinLaw" = some m.cls := findClass_of_methodNamed Bd.named
  have hnm := (name_of_methodNamed Bd.named Bd.method).1
  have X0 : Stand p l e room_1 s m #[(.int p0), (.long p1), (.long p2), (.long p3)] below meth c s₁ [] 0 0 := Stand.of_body Bd
  have e0 : s₁.heap = h0 := by rw [← hh, Bd.state]; rfl
  have N0 := Fr.nil n0
  have Zn := Z0
  have pre0 : ∀ t, Steps p.tables e below (s₁.setTop (mkF m 0 #[.val (.int p0), .val (.long p1), .second, .val (.long p2), .second, .val (.long p3), .second, .unset, .unset, .unset, .unset, .unset, .unset, .unset, .unset, .unset, .unset, .unset, .unset, .unset, .unset, .unset, .unset] [])) t → Steps p.tables e below (s₁.setTop (entryFrame m #[(.int p0), (.long p1), (.long p2), (.long p3)] maxLocals)) t := fun t q => castTop (ef_0 m p0 p1 p2 p3) q
  have k0 : ∀ t, Steps p.tables e below (s₁.setTop (mkF m 0 #[.val (.int p0), .val (.long p1), .second, .val (.long p2), .second, .val (.long p3), .second, .unset, .unset, .unset, .unset, .unset, .unset, .unset, .unset, .unset, .unset, .unset, .unset, .unset, .unset, .unset, .unset] [])) t → Steps p.tables e below (s₁.setTop (mkF m 0 #[.val (.int p0), .val (.long p1), .second, .val (.long p2), .second, .val (.long p3), .second, .unset, .unset, .unset, .unset, .unset, .unset, .unset, .unset, .unset, .unset, .unset, .unset, .unset, .unset, .unset, .unset] [])) t := fun t q => q
  have k1_ : ∀ t, Steps p.tables e below (s₁.setTop (mkF m 11 #[.val (.int p0), .val (.long p1), .second, .val (.long p2), .second, .val (.long p3), .second, .val (.int (p0 &&& (3 : Int32))), .val (.int (p0 >>> ((2 : Int32) &&& 31))), .unset, .unset, .unset, .unset, .unset, .unset, .unset, .unset, .unset, .unset, .unset, .unset, .unset, .unset] [(.long p1)])) t → Steps p.tables e below (s₁.setTop (mkF m 0 #[.val (.int p0), .val (.long p1), .second, .val (.long p2), .second, .val (.long p3), .second, .unset, .unset, .unset, .unset, .unset, .unset, .unset, .unset, .unset, .unset, .unset, .unset, .unset, .unset, .unset, .unset] [])) t := by
    intro t q
    refine k0 _ ?_
    show Steps p.tables e below (s₁.setTop (mkF m 0 #[.val (.int p0), .val (.long p1), .second, .val (.long p2), .second, .val (.long p3), .second, .unset, .unset, .unset, .unset, .unset, .unset, .unset, .unset, .unset, .unset, .unset, .unset, .unset, .unset, .unset, .unset] [])) _
    refine XS.iloadN X0.here hx rfl (hb hby at_0) rfl ?_
    show Steps p.tables e below (s₁.setTop (mkF m 1 #[.val (.int p0), .val (.long p1), .second, .val (.long p2), .second, .val (.long p3), .second, .unset, .unset, .unset, .unset, .unset, .unset, .unset, .unset, .unset, .unset, .unset, .unset, .unset, .unset, .unset, .unset] [(.int p0)])) _
    refine XS.iconst X0.here hx rfl (hb hby at_1) ?_
    show Steps p.tables e below (s₁.setTop (mkF m 2 #[.val (.int p0), .val (.long p1), .second, .val (.long p2), .second, .val (.long p3), .second, .unset, .unset, .unset, .unset, .unset, .unset, .unset, .unset, .unset, .unset, .unset, .unset, .unset, .unset, .unset, .unset] [(.int (3 : Int32)), (.int p0)])) _
    refine XS.iand X0.here hx rfl (hb hby at_2) rfl ?_
    show Steps p.tables e below (s₁.setTop (mkF m 3 #[.val (.int p0), .val (.long p1), .second, .val (.long p2), .second, .val (.long p3), .second, .unset, .unset, .unset, .unset, .unset, .unset, .unset, .unset, .unset, .unset, .unset, .unset, .unset, .unset, .unset, .unset] [(.int (p0 &&& (3 : Int32)))])) _
    refine XS.istore X0.here hx rfl (hb hby at_3) rfl (l' := #[.val (.int p0), .val (.long p1), .second, .val (.long p2), .second, .val (.long p3), .second, .val (.int (p0 &&& (3 : Int32))), .unset, .unset, .unset, .unset, .unset, .unset, .unset, .unset, .unset, .unset, .unset, .unset, .unset, .unset, .unset]) rfl ?_
    show Steps p.tables e below (s₁.setTop (mkF m 5 #[.val (.int p0), .val (.long p1), .second, .val (.long p2), .second, .val (.long p3), .second, .val (.int (p0 &&& (3 : Int32))), .unset, .unset, .unset, .unset, .unset, .unset, .unset, .unset, .unset, .unset, .unset, .unset, .unset, .unset, .unset] [])) _
    refine XS.iloadN X0.here hx rfl (hb hby at_5) rfl ?_
    show Steps p.tables e below (s₁.setTop (mkF m 6 #[.val (.int p0), .val (.long p1), .second, .val (.long p2), .second, .val (.long p3), .second, .val (.int (p0 &&& (3 : Int32))), .unset, .unset, .unset, .unset, .unset, .unset, .unset, .unset, .unset, .unset, .unset, .unset, .unset, .unset, .unset] [(.int p0)])) _
    refine XS.iconst X0.here hx rfl (hb hby at_6) ?_
    show Steps p.tables e below (s₁.setTop (mkF m 7 #[.val (.int p0), .val (.long p1), .second, .val (.long p2), .second, .val (.long p3), .second, .val (.int (p0 &&& (3 : Int32))), .unset, .unset, .unset, .unset, .unset, .unset, .unset, .unset, .unset, .unset, .unset, .unset, .unset, .unset, .unset] [(.int (2 : Int32)), (.int p0)])) _
    refine XS.ishr X0.here hx rfl (hb hby at_7) rfl ?_
    show Steps p.tables e below (s₁.setTop (mkF m 8 #[.val (.int p0), .val (.long p1), .second, .val (.long p2), .second, .val (.long p3), .second, .val (.int (p0 &&& (3 : Int32))), .unset, .unset, .unset, .unset, .unset, .unset, .unset, .unset, .unset, .unset, .unset, .unset, .unset, .unset, .unset] [(.int (p0 >>> ((2 : Int32) &&& 31)))])) _
    refine XS.istore X0.here hx rfl (hb hby at_8) rfl (l' := #[.val (.int p0), .val (.long p1), .second, .val (.long p2), .second, .val (.long p3), .second, .val (.int (p0 &&& (3 : Int32))), .val (.int (p0 >>> ((2 : Int32) &&& 31))), .unset, .unset, .unset, .unset, .unset, .unset, .unset, .unset, .unset, .unset, .unset, .unset, .unset, .unset]) rfl ?_
    show Steps p.tables e below (s₁.setTop (mkF m 10 #[.val (.int p0), .val (.long p1), .second, .val (.long p2), .second, .val (.long p3), .second, .val (.int (p0 &&& (3 : Int32))), .val (.int (p0 >>> ((2 : Int32) &&& 31))), .unset, .unset, .unset, .unset, .unset, .unset, .unset, .unset, .unset, .unset, .unset, .unset, .unset, .unset] [])) _
    refine XS.lloadN X0.here hx rfl (hb hby at_10) rfl ?_
    show Steps p.tables e below (s₁.setTop (mkF m 11 #[.val (.int p0), .val (.long p1), .second, .val (.long p2), .second, .val (.long p3), .second, .val (.int (p0 &&& (3 : Int32))), .val (.int (p0 >>> ((2 : Int32) &&& 31))), .unset, .unset, .unset, .unset, .unset, .unset, .unset, .unset, .unset, .unset, .unset, .unset, .unset, .unset] [(.long p1)])) _
    exact q
  obtain ⟨_, _, ⟨T2, L2, kk2, n2⟩, -, X2, ⟨Lc2, hQ2, l2, y2, z2⟩, st2⟩ := Jvm.LawKit.callS X0 hx (y := (⟨"com/example/haku/haku/eval/JudgedCharactersPinLaw", "len", "(J)I"⟩ : MethodName)) hown (mvT hZ (hw _ (List.mem_of_getElem? (i := 0) rfl))) (mvT hZ (hw _ (List.mem_of_getElem? (i := 1) rfl))) (mvT hZ (hw _ (List.mem_of_getElem? (i := 2) rfl))) (mvT hZ (hw _ (List.mem_of_getElem? (i := 3) rfl))) (by decide) (backOf (W := 0) (rmL l Z a0 hw [] p1 h0 n0 Z0) hZ (hw _ (List.mem_of_getElem? (i := 3) rfl)) (hw _ (List.mem_of_getElem? (i := 2) rfl)) (by decide) (by decide)) (g := (mkF m 11 #[.val (.int p0), .val (.long p1), .second, .val (.long p2), .second, .val (.long p3), .second, .val (.int (p0 &&& (3 : Int32))), .val (.int (p0 >>> ((2 : Int32) &&& 31))), .unset, .unset, .unset, .unset, .unset, .unset, .unset, .unset, .unset, .unset, .unset, .unset, .unset, .unset] [(.long p1)])) rfl (by rw [hml]; rfl) (argsL := [(.long p1)]) (rest := []) (lenOf pd_28724 rfl) rfl (by show 2 * 0 + _ ≤ _; exact Nat.le_of_eq rfl) (hb hby at_11) (fun _ _ => ⟨rfl, e0, (by decide : 0 + 0 ≤ _), (by decide : 0 + 0 ≤ _)⟩)
  dsimp only [Pt.U, Pt.locs, Pt.cells, Pt.slots] at X2 l2 y2 z2 st2 hQ2
  subst l2 y2 z2
  obtain ⟨hv, Nq2, hq2⟩ := hQ2
  obtain ⟨l0, e_l0⟩ : ∃ z, z = own_ln p1 := ⟨_, rfl⟩
  rw [← e_l0] at hv
  subst hv
  have N2 := Fr.app N0 Nq2
  have k3_ : ∀ t, Steps p.tables e below (T2.setTop (mkF m 14 #[.val (.int p0), .val (.long p1), .second, .val (.long p2), .second, .val (.long p3), .second, .val (.int (p0 &&& (3 : Int32))), .val (.int (p0 >>> ((2 : Int32) &&& 31))), .unset, .unset, .unset, .unset, .unset, .unset, .unset, .unset, .unset, .unset, .unset, .unset, .unset, .unset] [(.int l0)])) t → Steps p.tables e below (s₁.setTop (mkF m 0 #[.val (.int p0), .val (.long p1), .second, .val (.long p2), .second, .val (.long p3), .second, .unset, .unset, .unset, .unset, .unset, .unset, .unset, .unset, .unset, .unset, .unset, .unset, .unset, .unset, .unset, .unset] [])) t := fun t q => k1_ t (st2 t q)
  have k4_ : ∀ t, Steps p.tables e below (T2.setTop (mkF m 17 #[.val (.int p0), .val (.long p1), .second, .val (.long p2), .second, .val (.long p3), .second, .val (.int (p0 &&& (3 : Int32))), .val (.int (p0 >>> ((2 : Int32) &&& 31))), .val (.int l0), .unset, .unset, .unset, .unset, .unset, .unset, .unset, .unset, .unset, .unset, .unset, .unset, .unset] [(.long p2)])) t → Steps p.tables e below (s₁.setTop (mkF m 0 #[.val (.int p0), .val (.long p1), .second, .val (.long p2), .second, .val (.long p3), .second, .unset, .unset, .unset, .unset, .unset, .unset, .unset, .unset, .unset, .unset, .unset, .unset, .unset, .unset, .unset, .unset] [])) t := by
    intro t q
    refine k3_ _ ?_
    show Steps p.tables e below (T2.setTop (mkF m 14 #[.val (.int p0), .val (.long p1), .second, .val (.long p2), .second, .val (.long p3), .second, .val (.int (p0 &&& (3 : Int32))), .val (.int (p0 >>> ((2 : Int32) &&& 31))), .unset, .unset, .unset, .unset, .unset, .unset, .unset, .unset, .unset, .unset, .unset, .unset, .unset, .unset] [(.int l0)])) _
    refine XS.istore X2.here hx rfl (hb hby at_14) rfl (l' := #[.val (.int p0), .val (.long p1), .second, .val (.long p2), .second, .val (.long p3), .second, .val (.int (p0 &&& (3 : Int32))), .val (.int (p0 >>> ((2 : Int32) &&& 31))), .val (.int l0), .unset, .unset, .unset, .unset, .unset, .unset, .unset, .unset, .unset, .unset, .unset, .unset, .unset]) rfl ?_
    show Steps p.tables e below (T2.setTop (mkF m 16 #[.val (.int p0), .val (.long p1), .second, .val (.long p2), .second, .val (.long p3), .second, .val (.int (p0 &&& (3 : Int32))), .val (.int (p0 >>> ((2 : Int32) &&& 31))), .val (.int l0), .unset, .unset, .unset, .unset, .unset, .unset, .unset, .unset, .unset, .unset, .unset, .unset, .unset] [])) _
    refine XS.lloadN X2.here hx rfl (hb hby at_16) rfl ?_
    show Steps p.tables e below (T2.setTop (mkF m 17 #[.val (.int p0), .val (.long p1), .second, .val (.long p2), .second, .val (.long p3), .second, .val (.int (p0 &&& (3 : Int32))), .val (.int (p0 >>> ((2 : Int32) &&& 31))), .val (.int l0), .unset, .unset, .unset, .unset, .unset, .unset, .unset, .unset, .unset, .unset, .unset, .unset, .unset] [(.long p2)])) _
    exact q
  obtain ⟨_, _, ⟨T5, L5, kk5, n5⟩, -, X5, ⟨Lc5, hQ5, l5, y5, z5⟩, st5⟩ := Jvm.LawKit.callS X2 hx (y := (⟨"com/example/haku/haku/eval/JudgedCharactersPinLaw", "len", "(J)I"⟩ : MethodName)) hown (mvT hZ (hw _ (List.mem_of_getElem? (i := 0) rfl))) (mvT hZ (hw _ (List.mem_of_getElem? (i := 1) rfl))) (mvT hZ (hw _ (List.mem_of_getElem? (i := 2) rfl))) (mvT hZ (hw _ (List.mem_of_getElem? (i := 3) rfl))) (by decide) (backOf (W := 0) (rmL l Z a0 hw [] p2 h0 n0 Z0) hZ (hw _ (List.mem_of_getElem? (i := 3) rfl)) (hw _ (List.mem_of_getElem? (i := 2) rfl)) (by decide) (by decide)) (g := (mkF m 17 #[.val (.int p0), .val (.long p1), .second, .val (.long p2), .second, .val (.long p3), .second, .val (.int (p0 &&& (3 : Int32))), .val (.int (p0 >>> ((2 : Int32) &&& 31))), .val (.int l0), .unset, .unset, .unset, .unset, .unset, .unset, .unset, .unset, .unset, .unset, .unset, .unset, .unset] [(.long p2)])) rfl (by rw [hml]; rfl) (argsL := [(.long p2)]) (rest := []) (lenOf pd_28724 rfl) rfl (by show 2 * 0 + _ ≤ _; exact Nat.le_of_eq rfl) (hb hby at_17) (fun _ _ => ⟨rfl, hq2, (by decide : 0 + 0 + 0 ≤ _), (by decide : 0 + 0 + 0 ≤ _)⟩)
  dsimp only [Pt.U, Pt.locs, Pt.cells, Pt.slots] at X5 l5 y5 z5 st5 hQ5
  subst l5 y5 z5
  obtain ⟨hv, Nq5, hq5⟩ := hQ5
  obtain ⟨l1, e_l1⟩ : ∃ z, z = own_ln p2 := ⟨_, rfl⟩
  rw [← e_l1] at hv
  subst hv
  have N5 := Fr.app N2 Nq5
  have k6_ : ∀ t, Steps p.tables e below (T5.setTop (mkF m 20 #[.val (.int p0), .val (.long p1), .second, .val (.long p2), .second, .val (.long p3), .second, .val (.int (p0 &&& (3 : Int32))), .val (.int (p0 >>> ((2 : Int32) &&& 31))), .val (.int l0), .unset, .unset, .unset, .unset, .unset, .unset, .unset, .unset, .unset, .unset, .unset, .unset, .unset] [(.int l1)])) t → Steps p.tables e below (s₁.setTop (mkF m 0 #[.val (.int p0), .val (.long p1), .second, .val (.long p2), .second, .val (.long p3), .second, .unset, .unset, .unset, .unset, .unset, .unset, .unset, .unset, .unset, .unset, .unset, .unset, .unset, .unset, .unset, .unset] [])) t := fun t q => k4_ t (st5 t q)
  have k7_ : ∀ t, Steps p.tables e below (T5.setTop (mkF m 24 #[.val (.int p0), .val (.long p1), .second, .val (.long p2), .second, .val (.long p3), .second, .val (.int (p0 &&& (3 : Int32))), .val (.int (p0 >>> ((2 : Int32) &&& 31))), .val (.int l0), .val (.int l1), .unset, .unset, .unset, .unset, .unset, .unset, .unset, .unset, .unset, .unset, .unset, .unset] [(.long p3)])) t → Steps p.tables e below (s₁.setTop (mkF m 0 #[.val (.int p0), .val (.long p1), .second, .val (.long p2), .second, .val (.long p3), .second, .unset, .unset, .unset, .unset, .unset, .unset, .unset, .unset, .unset, .unset, .unset, .unset, .unset, .unset, .unset, .unset] [])) t := by
    intro t q
    refine k6_ _ ?_
    show Steps p.tables e below (T5.setTop (mkF m 20 #[.val (.int p0), .val (.long p1), .second, .val (.long p2), .second, .val (.long p3), .second, .val (.int (p0 &&& (3 : Int32))), .val (.int (p0 >>> ((2 : Int32) &&& 31))), .val (.int l0), .unset, .unset, .unset, .unset, .unset, .unset, .unset, .unset, .unset, .unset, .unset, .unset, .unset] [(.int l1)])) _
    refine XS.istore X5.here hx rfl (hb hby at_20) rfl (l' := #[.val (.int p0), .val (.long p1), .second, .val (.long p2), .second, .val (.long p3), .second, .val (.int (p0 &&& (3 : Int32))), .val (.int (p0 >>> ((2 : Int32) &&& 31))), .val (.int l0), .val (.int l1), .unset, .unset, .unset, .unset, .unset, .unset, .unset, .unset, .unset, .unset, .unset, .unset]) rfl ?_
    show Steps p.tables e below (T5.setTop (mkF m 22 #[.val (.int p0), .val (.long p1), .second, .val (.long p2), .second, .val (.long p3), .second, .val (.int (p0 &&& (3 : Int32))), .val (.int (p0 >>> ((2 : Int32) &&& 31))), .val (.int l0), .val (.int l1), .unset, .unset, .unset, .unset, .unset, .unset, .unset, .unset, .unset, .unset, .unset, .unset] [])) _
    refine XS.lload X5.here hx rfl (hb hby at_22) rfl ?_
    show Steps p.tables e below (T5.setTop (mkF m 24 #[.val (.int p0), .val (.long p1), .second, .val (.long p2), .second, .val (.long p3), .second, .val (.int (p0 &&& (3 : Int32))), .val (.int (p0 >>> ((2 : Int32) &&& 31))), .val (.int l0), .val (.int l1), .unset, .unset, .unset, .unset, .unset, .unset, .unset, .unset, .unset, .unset, .unset, .unset] [(.long p3)])) _
    exact q
  obtain ⟨_, _, ⟨T8, L8, kk8, n8⟩, -, X8, ⟨Lc8, hQ8, l8, y8, z8⟩, st8⟩ := Jvm.LawKit.callS X5 hx (y := (⟨"com/example/haku/haku/eval/JudgedCharactersPinLaw", "len", "(J)I"⟩ : MethodName)) hown (mvT hZ (hw _ (List.mem_of_getElem? (i := 0) rfl))) (mvT hZ (hw _ (List.mem_of_getElem? (i := 1) rfl))) (mvT hZ (hw _ (List.mem_of_getElem? (i := 2) rfl))) (mvT hZ (hw _ (List.mem_of_getElem? (i := 3) rfl))) (by decide) (backOf (W := 0) (rmL l Z a0 hw [] p3 h0 n0 Z0) hZ (hw _ (List.mem_of_getElem? (i := 3) rfl)) (hw _ (List.mem_of_getElem? (i := 2) rfl)) (by decide) (by decide)) (g := (mkF m 24 #[.val (.int p0), .val (.long p1), .second, .val (.long p2), .second, .val (.long p3), .second, .val (.int (p0 &&& (3 : Int32))), .val (.int (p0 >>> ((2 : Int32) &&& 31))), .val (.int l0), .val (.int l1), .unset, .unset, .unset, .unset, .unset, .unset, .unset, .unset, .unset, .unset, .unset, .unset] [(.long p3)])) rfl (by rw [hml]; rfl) (argsL := [(.long p3)]) (rest := []) (lenOf pd_28724 rfl) rfl (by show 2 * 0 + _ ≤ _; exact Nat.le_of_eq rfl) (hb hby at_24) (fun _ _ => ⟨rfl, hq5, (by decide : 0 + 0 + 0 + 0 ≤ _), (by decide : 0 + 0 + 0 + 0 ≤ _)⟩)
  dsimp only [Pt.U, Pt.locs, Pt.cells, Pt.slots] at X8 l8 y8 z8 st8 hQ8
  subst l8 y8 z8
  obtain ⟨hv, Nq8, hq8⟩ := hQ8
  obtain ⟨l2, e_l2⟩ : ∃ z, z = own_ln p3 := ⟨_, rfl⟩
  rw [← e_l2] at hv
  subst hv
  have N8 := Fr.app N5 Nq8
  have k9_ : ∀ t, Steps p.tables e below (T8.setTop (mkF m 27 #[.val (.int p0), .val (.long p1), .second, .val (.long p2), .second, .val (.long p3), .second, .val (.int (p0 &&& (3 : Int32))), .val (.int (p0 >>> ((2 : Int32) &&& 31))), .val (.int l0), .val (.int l1), .unset, .unset, .unset, .unset, .unset, .unset, .unset, .unset, .unset, .unset, .unset, .unset] [(.int l2)])) t → Steps p.tables e below (s₁.setTop (mkF m 0 #[.val (.int p0), .val (.long p1), .second, .val (.long p2), .second, .val (.long p3), .second, .unset, .unset, .unset, .unset, .unset, .unset, .unset, .unset, .unset, .unset, .unset, .unset, .unset, .unset, .unset, .unset] [])) t := fun t q => k7_ t (st8 t q)
  have k10_ : ∀ t, Steps p.tables e below (T8.setTop (mkF m 30 #[.val (.int p0), .val (.long p1), .second, .val (.long p2), .second, .val (.long p3), .second, .val (.int (p0 &&& (3 : Int32))), .val (.int (p0 >>> ((2 : Int32) &&& 31))), .val (.int l0), .val (.int l1), .val (.int l2), .unset, .unset, .unset, .unset, .unset, .unset, .unset, .unset, .unset, .unset, .unset] [(.long p1)])) t → Steps p.tables e below (s₁.setTop (mkF m 0 #[.val (.int p0), .val (.long p1), .second, .val (.long p2), .second, .val (.long p3), .second, .unset, .unset, .unset, .unset, .unset, .unset, .unset, .unset, .unset, .unset, .unset, .unset, .unset, .unset, .unset, .unset] [])) t := by
    intro t q
    refine k9_ _ ?_
    show Steps p.tables e below (T8.setTop (mkF m 27 #[.val (.int p0), .val (.long p1), .second, .val (.long p2), .second, .val (.long p3), .second, .val (.int (p0 &&& (3 : Int32))), .val (.int (p0 >>> ((2 : Int32) &&& 31))), .val (.int l0), .val (.int l1), .unset, .unset, .unset, .unset, .unset, .unset, .unset, .unset, .unset, .unset, .unset, .unset] [(.int l2)])) _
    refine XS.istore X8.here hx rfl (hb hby at_27) rfl (l' := #[.val (.int p0), .val (.long p1), .second, .val (.long p2), .second, .val (.long p3), .second, .val (.int (p0 &&& (3 : Int32))), .val (.int (p0 >>> ((2 : Int32) &&& 31))), .val (.int l0), .val (.int l1), .val (.int l2), .unset, .unset, .unset, .unset, .unset, .unset, .unset, .unset, .unset, .unset, .unset]) rfl ?_
    show Steps p.tables e below (T8.setTop (mkF m 29 #[.val (.int p0), .val (.long p1), .second, .val (.long p2), .second, .val (.long p3), .second, .val (.int (p0 &&& (3 : Int32))), .val (.int (p0 >>> ((2 : Int32) &&& 31))), .val (.int l0), .val (.int l1), .val (.int l2), .unset, .unset, .unset, .unset, .unset, .unset, .unset, .unset, .unset, .unset, .unset] [])) _
    refine XS.lloadN X8.here hx rfl (hb hby at_29) rfl ?_
    show Steps p.tables e below (T8.setTop (mkF m 30 #[.val (.int p0), .val (.long p1), .second, .val (.long p2), .second, .val (.long p3), .second, .val (.int (p0 &&& (3 : Int32))), .val (.int (p0 >>> ((2 : Int32) &&& 31))), .val (.int l0), .val (.int l1), .val (.int l2), .unset, .unset, .unset, .unset, .unset, .unset, .unset, .unset, .unset, .unset, .unset] [(.long p1)])) _
    exact q
  obtain ⟨_, _, ⟨T11, L11, kk11, n11⟩, -, X11, ⟨Lc11, hQ11, l11, y11, z11⟩, st11⟩ := Jvm.LawKit.callS X8 hx (y := (⟨"com/example/haku/haku/eval/JudgedCharactersPinLaw", "gap", "(J)I"⟩ : MethodName)) hown (mvT hZ (hw _ (List.mem_of_getElem? (i := 5) rfl))) (mvT hZ (hw _ (List.mem_of_getElem? (i := 6) rfl))) (mvT hZ (hw _ (List.mem_of_getElem? (i := 2) rfl))) (mvT hZ (hw _ (List.mem_of_getElem? (i := 7) rfl))) (by decide) (backOf (W := 0) (rmG l Z a0 hw [] p1 h0 n0 Z0) hZ (hw _ (List.mem_of_getElem? (i := 7) rfl)) (hw _ (List.mem_of_getElem? (i := 2) rfl)) (by decide) (by decide)) (g := (mkF m 30 #[.val (.int p0), .val (.long p1), .second, .val (.long p2), .second, .val (.long p3), .second, .val (.int (p0 &&& (3 : Int32))), .val (.int (p0 >>> ((2 : Int32) &&& 31))), .val (.int l0), .val (.int l1), .val (.int l2), .unset, .unset, .unset, .unset, .unset, .unset, .unset, .unset, .unset, .unset, .unset] [(.long p1)])) rfl (by rw [hml]; rfl) (argsL := [(.long p1)]) (rest := []) (lenOf pd_28724 rfl) rfl (by show 2 * 0 + _ ≤ _; exact Nat.le_of_eq rfl) (hb hby at_30) (fun _ _ => ⟨rfl, hq8, (by decide : 0 + 0 + 0 + 0 + 0 ≤ _), (by decide : 0 + 0 + 0 + 0 + 0 ≤ _)⟩)
  dsimp only [Pt.U, Pt.locs, Pt.cells, Pt.slots] at X11 l11 y11 z11 st11 hQ11
  subst l11 y11 z11
  obtain ⟨hv, Nq11, hq11⟩ := hQ11
  obtain ⟨s0, e_s0⟩ : ∃ z, z = own_gp p1 := ⟨_, rfl⟩
  rw [← e_s0] at hv
  subst hv
  have N11 := Fr.app N8 Nq11
  have k12_ : ∀ t, Steps p.tables e below (T11.setTop (mkF m 33 #[.val (.int p0), .val (.long p1), .second, .val (.long p2), .second, .val (.long p3), .second, .val (.int (p0 &&& (3 : Int32))), .val (.int (p0 >>> ((2 : Int32) &&& 31))), .val (.int l0), .val (.int l1), .val (.int l2), .unset, .unset, .unset, .unset, .unset, .unset, .unset, .unset, .unset, .unset, .unset] [(.int s0)])) t → Steps p.tables e below (s₁.setTop (mkF m 0 #[.val (.int p0), .val (.long p1), .second, .val (.long p2), .second, .val (.long p3), .second, .unset, .unset, .unset, .unset, .unset, .unset, .unset, .unset, .unset, .unset, .unset, .unset, .unset, .unset, .unset, .unset] [])) t := fun t q => k10_ t (st11 t q)
  have k13_ : ∀ t, Steps p.tables e below (T11.setTop (mkF m 47 #[.val (.int p0), .val (.long p1), .second, .val (.long p2), .second, .val (.long p3), .second, .val (.int (p0 &&& (3 : Int32))), .val (.int (p0 >>> ((2 : Int32) &&& 31))), .val (.int l0), .val (.int l1), .val (.int l2), .val (.int s0), .val (.int (s0 + l0)), .unset, .unset, .unset, .unset, .unset, .unset, .unset, .unset, .unset] [(.long p2), (.int ((s0 + l0) + (1 : Int32)))])) t → Steps p.tables e below (s₁.setTop (mkF m 0 #[.val (.int p0), .val (.long p1), .second, .val (.long p2), .second, .val (.long p3), .second, .unset, .unset, .unset, .unset, .unset, .unset, .unset, .unset, .unset, .unset, .unset, .unset, .unset, .unset, .unset, .unset] [])) t := by
    intro t q
    refine k12_ _ ?_
    show Steps p.tables e below (T11.setTop (mkF m 33 #[.val (.int p0), .val (.long p1), .second, .val (.long p2), .second, .val (.long p3), .second, .val (.int (p0 &&& (3 : Int32))), .val (.int (p0 >>> ((2 : Int32) &&& 31))), .val (.int l0), .val (.int l1), .val (.int l2), .unset, .unset, .unset, .unset, .unset, .unset, .unset, .unset, .unset, .unset, .unset] [(.int s0)])) _
    refine XS.istore X11.here hx rfl (hb hby at_33) rfl (l' := #[.val (.int p0), .val (.long p1), .second, .val (.long p2), .second, .val (.long p3), .second, .val (.int (p0 &&& (3 : Int32))), .val (.int (p0 >>> ((2 : Int32) &&& 31))), .val (.int l0), .val (.int l1), .val (.int l2), .val (.int s0), .unset, .unset, .unset, .unset, .unset, .unset, .unset, .unset, .unset, .unset]) rfl ?_
    show Steps p.tables e below (T11.setTop (mkF m 35 #[.val (.int p0), .val (.long p1), .second, .val (.long p2), .second, .val (.long p3), .second, .val (.int (p0 &&& (3 : Int32))), .val (.int (p0 >>> ((2 : Int32) &&& 31))), .val (.int l0), .val (.int l1), .val (.int l2), .val (.int s0), .unset, .unset, .unset, .unset, .unset, .unset, .unset, .unset, .unset, .unset] [])) _
    refine XS.iload X11.here hx rfl (hb hby at_35) rfl ?_
    show Steps p.tables e below (T11.setTop (mkF m 37 #[.val (.int p0), .val (.long p1), .second, .val (.long p2), .second, .val (.long p3), .second, .val (.int (p0 &&& (3 : Int32))), .val (.int (p0 >>> ((2 : Int32) &&& 31))), .val (.int l0), .val (.int l1), .val (.int l2), .val (.int s0), .unset, .unset, .unset, .unset, .unset, .unset, .unset, .unset, .unset, .unset] [(.int s0)])) _
    refine XS.iload X11.here hx rfl (hb hby at_37) rfl ?_
    show Steps p.tables e below (T11.setTop (mkF m 39 #[.val (.int p0), .val (.long p1), .second, .val (.long p2), .second, .val (.long p3), .second, .val (.int (p0 &&& (3 : Int32))), .val (.int (p0 >>> ((2 : Int32) &&& 31))), .val (.int l0), .val (.int l1), .val (.int l2), .val (.int s0), .unset, .unset, .unset, .unset, .unset, .unset, .unset, .unset, .unset, .unset] [(.int l0), (.int s0)])) _
    refine XS.iadd X11.here hx rfl (hb hby at_39) rfl ?_
    show Steps p.tables e below (T11.setTop (mkF m 40 #[.val (.int p0), .val (.long p1), .second, .val (.long p2), .second, .val (.long p3), .second, .val (.int (p0 &&& (3 : Int32))), .val (.int (p0 >>> ((2 : Int32) &&& 31))), .val (.int l0), .val (.int l1), .val (.int l2), .val (.int s0), .unset, .unset, .unset, .unset, .unset, .unset, .unset, .unset, .unset, .unset] [(.int (s0 + l0))])) _
    refine XS.istore X11.here hx rfl (hb hby at_40) rfl (l' := #[.val (.int p0), .val (.long p1), .second, .val (.long p2), .second, .val (.long p3), .second, .val (.int (p0 &&& (3 : Int32))), .val (.int (p0 >>> ((2 : Int32) &&& 31))), .val (.int l0), .val (.int l1), .val (.int l2), .val (.int s0), .val (.int (s0 + l0)), .unset, .unset, .unset, .unset, .unset, .unset, .unset, .unset, .unset]) rfl ?_
    show Steps p.tables e below (T11.setTop (mkF m 42 #[.val (.int p0), .val (.long p1), .second, .val (.long p2), .second, .val (.long p3), .second, .val (.int (p0 &&& (3 : Int32))), .val (.int (p0 >>> ((2 : Int32) &&& 31))), .val (.int l0), .val (.int l1), .val (.int l2), .val (.int s0), .val (.int (s0 + l0)), .unset, .unset, .unset, .unset, .unset, .unset, .unset, .unset, .unset] [])) _
    refine XS.iload X11.here hx rfl (hb hby at_42) rfl ?_
    show Steps p.tables e below (T11.setTop (mkF m 44 #[.val (.int p0), .val (.long p1), .second, .val (.long p2), .second, .val (.long p3), .second, .val (.int (p0 &&& (3 : Int32))), .val (.int (p0 >>> ((2 : Int32) &&& 31))), .val (.int l0), .val (.int l1), .val (.int l2), .val (.int s0), .val (.int (s0 + l0)), .unset, .unset, .unset, .unset, .unset, .unset, .unset, .unset, .unset] [(.int (s0 + l0))])) _
    refine XS.iconst X11.here hx rfl (hb hby at_44) ?_
    show Steps p.tables e below (T11.setTop (mkF m 45 #[.val (.int p0), .val (.long p1), .second, .val (.long p2), .second, .val (.long p3), .second, .val (.int (p0 &&& (3 : Int32))), .val (.int (p0 >>> ((2 : Int32) &&& 31))), .val (.int l0), .val (.int l1), .val (.int l2), .val (.int s0), .val (.int (s0 + l0)), .unset, .unset, .unset, .unset, .unset, .unset, .unset, .unset, .unset] [(.int (1 : Int32)), (.int (s0 + l0))])) _
    refine XS.iadd X11.here hx rfl (hb hby at_45) rfl ?_
    show Steps p.tables e below (T11.setTop (mkF m 46 #[.val (.int p0), .val (.long p1), .second, .val (.long p2), .second, .val (.long p3), .second, .val (.int (p0 &&& (3 : Int32))), .val (.int (p0 >>> ((2 : Int32) &&& 31))), .val (.int l0), .val (.int l1), .val (.int l2), .val (.int s0), .val (.int (s0 + l0)), .unset, .unset, .unset, .unset, .unset, .unset, .unset, .unset, .unset] [(.int ((s0 + l0) + (1 : Int32)))])) _
    refine XS.lloadN X11.here hx rfl (hb hby at_46) rfl ?_
    show Steps p.tables e below (T11.setTop (mkF m 47 #[.val (.int p0), .val (.long p1), .second, .val (.long p2), .second, .val (.long p3), .second, .val (.int (p0 &&& (3 : Int32))), .val (.int (p0 >>> ((2 : Int32) &&& 31))), .val (.int l0), .val (.int l1), .val (.int l2), .val (.int s0), .val (.int (s0 + l0)), .unset, .unset, .unset, .unset, .unset, .unset, .unset, .unset, .unset] [(.long p2), (.int ((s0 + l0) + (1 : Int32)))])) _
    exact q
  obtain ⟨_, _, ⟨T14, L14, kk14, n14⟩, -, X14, ⟨Lc14, hQ14, l14, y14, z14⟩, st14⟩ := Jvm.LawKit.callS X11 hx (y := (⟨"com/example/haku/haku/eval/JudgedCharactersPinLaw", "gap", "(J)I"⟩ : MethodName)) hown (mvT hZ (hw _ (List.mem_of_getElem? (i := 5) rfl))) (mvT hZ (hw _ (List.mem_of_getElem? (i := 6) rfl))) (mvT hZ (hw _ (List.mem_of_getElem? (i := 2) rfl))) (mvT hZ (hw _ (List.mem_of_getElem? (i := 7) rfl))) (by decide) (backOf (W := 1) (rmG l Z a0 hw [] p2 h0 n0 Z0) hZ (hw _ (List.mem_of_getElem? (i := 7) rfl)) (hw _ (List.mem_of_getElem? (i := 2) rfl)) (by decide) (by decide)) (g := (mkF m 47 #[.val (.int p0), .val (.long p1), .second, .val (.long p2), .second, .val (.long p3), .second, .val (.int (p0 &&& (3 : Int32))), .val (.int (p0 >>> ((2 : Int32) &&& 31))), .val (.int l0), .val (.int l1), .val (.int l2), .val (.int s0), .val (.int (s0 + l0)), .unset, .unset, .unset, .unset, .unset, .unset, .unset, .unset, .unset] [(.long p2), (.int ((s0 + l0) + (1 : Int32)))])) rfl (by rw [hml]; rfl) (argsL := [(.long p2)]) (rest := [(.int ((s0 + l0) + (1 : Int32)))]) (lenOf pd_28724 rfl) rfl (by show 2 * 0 + _ ≤ _; exact Nat.le_of_eq rfl) (hb hby at_47) (fun _ _ => ⟨rfl, hq11, (by decide : 0 + 0 + 0 + 0 + 0 + 0 ≤ _), (by decide : 0 + 0 + 0 + 0 + 0 + 0 ≤ _)⟩)
  dsimp only [Pt.U, Pt.locs, Pt.cells, Pt.slots] at X14 l14 y14 z14 st14 hQ14
  subst l14 y14 z14
  obtain ⟨hv, Nq14, hq14⟩ := hQ14
  obtain ⟨g1, e_g1⟩ : ∃ z, z = own_gp p2 := ⟨_, rfl⟩
  rw [← e_g1] at hv
  subst hv
  have N14 := Fr.app N11 Nq14
  have k15_ : ∀ t, Steps p.tables e below (T14.setTop (mkF m 50 #[.val (.int p0), .val (.long p1), .second, .val (.long p2), .second, .val (.long p3), .second, .val (.int (p0 &&& (3 : Int32))), .val (.int (p0 >>> ((2 : Int32) &&& 31))), .val (.int l0), .val (.int l1), .val (.int l2), .val (.int s0), .val (.int (s0 + l0)), .unset, .unset, .unset, .unset, .unset, .unset, .unset, .unset, .unset] [(.int g1), (.int ((s0 + l0) + (1 : Int32)))])) t → Steps p.tables e below (s₁.setTop (mkF m 0 #[.val (.int p0), .val (.long p1), .second, .val (.long p2), .second, .val (.long p3), .second, .unset, .unset, .unset, .unset, .unset, .unset, .unset, .unset, .unset, .unset, .unset, .unset, .unset, .unset, .unset, .unset] [])) t := fun t q => k13_ t (st14 t q)
  have k16_ : ∀ t, Steps p.tables e below (T14.setTop (mkF m 51 #[.val (.int p0), .val (.long p1), .second, .val (.long p2), .second, .val (.long p3), .second, .val (.int (p0 &&& (3 : Int32))), .val (.int (p0 >>> ((2 : Int32) &&& 31))), .val (.int l0), .val (.int l1), .val (.int l2), .val (.int s0), .val (.int (s0 + l0)), .unset, .unset, .unset, .unset, .unset, .unset, .unset, .unset, .unset] [(.int (((s0 + l0) + (1 : Int32)) + g1))])) t → Steps p.tables e below (s₁.setTop (mkF m 0 #[.val (.int p0), .val (.long p1), .second, .val (.long p2), .second, .val (.long p3), .second, .unset, .unset, .unset, .unset, .unset, .unset, .unset, .unset, .unset, .unset, .unset, .unset, .unset, .unset, .unset, .unset] [])) t := by
    intro t q
    refine k15_ _ ?_
    show Steps p.tables e below (T14.setTop (mkF m 50 #[.val (.int p0), .val (.long p1), .second, .val (.long p2), .second, .val (.long p3), .second, .val (.int (p0 &&& (3 : Int32))), .val (.int (p0 >>> ((2 : Int32) &&& 31))), .val (.int l0), .val (.int l1), .val (.int l2), .val (.int s0), .val (.int (s0 + l0)), .unset, .unset, .unset, .unset, .unset, .unset, .unset, .unset, .unset] [(.int g1), (.int ((s0 + l0) + (1 : Int32)))])) _
    refine XS.iadd X14.here hx rfl (hb hby at_50) rfl ?_
    show Steps p.tables e below (T14.setTop (mkF m 51 #[.val (.int p0), .val (.long p1), .second, .val (.long p2), .second, .val (.long p3), .second, .val (.int (p0 &&& (3 : Int32))), .val (.int (p0 >>> ((2 : Int32) &&& 31))), .val (.int l0), .val (.int l1), .val (.int l2), .val (.int s0), .val (.int (s0 + l0)), .unset, .unset, .unset, .unset, .unset, .unset, .unset, .unset, .unset] [(.int (((s0 + l0) + (1 : Int32)) + g1))])) _
    exact q
  obtain ⟨s1, e_s1⟩ : ∃ z, z = (((s0 + l0) + (1 : Int32)) + g1) := ⟨_, rfl⟩
  have k17_ : ∀ t, Steps p.tables e below (T14.setTop (mkF m 51 #[.val (.int p0), .val (.long p1), .second, .val (.long p2), .second, .val (.long p3), .second, .val (.int (p0 &&& (3 : Int32))), .val (.int (p0 >>> ((2 : Int32) &&& 31))), .val (.int l0), .val (.int l1), .val (.int l2), .val (.int s0), .val (.int (s0 + l0)), .unset, .unset, .unset, .unset, .unset, .unset, .unset, .unset, .unset] [(.int s1)])) t → Steps p.tables e below (s₁.setTop (mkF m 0 #[.val (.int p0), .val (.long p1), .second, .val (.long p2), .second, .val (.long p3), .second, .unset, .unset, .unset, .unset, .unset, .unset, .unset, .unset, .unset, .unset, .unset, .unset, .unset, .unset, .unset, .unset] [])) t := by rw [e_s1]; exact k16_
  have k18_ : ∀ t, Steps p.tables e below (T14.setTop (mkF m 66 #[.val (.int p0), .val (.long p1), .second, .val (.long p2), .second, .val (.long p3), .second, .val (.int (p0 &&& (3 : Int32))), .val (.int (p0 >>> ((2 : Int32) &&& 31))), .val (.int l0), .val (.int l1), .val (.int l2), .val (.int s0), .val (.int (s0 + l0)), .val (.int s1), .val (.int (s1 + l1)), .unset, .unset, .unset, .unset, .unset, .unset, .unset] [(.long p3), (.int ((s1 + l1) + (1 : Int32)))])) t → Steps p.tables e below (s₁.setTop (mkF m 0 #[.val (.int p0), .val (.long p1), .second, .val (.long p2), .second, .val (.long p3), .second, .unset, .unset, .unset, .unset, .unset, .unset, .unset, .unset, .unset, .unset, .unset, .unset, .unset, .unset, .unset, .unset] [])) t := by
    intro t q
    refine k17_ _ ?_
    show Steps p.tables e below (T14.setTop (mkF m 51 #[.val (.int p0), .val (.long p1), .second, .val (.long p2), .second, .val (.long p3), .second, .val (.int (p0 &&& (3 : Int32))), .val (.int (p0 >>> ((2 : Int32) &&& 31))), .val (.int l0), .val (.int l1), .val (.int l2), .val (.int s0), .val (.int (s0 + l0)), .unset, .unset, .unset, .unset, .unset, .unset, .unset, .unset, .unset] [(.int s1)])) _
    refine XS.istore X14.here hx rfl (hb hby at_51) rfl (l' := #[.val (.int p0), .val (.long p1), .second, .val (.long p2), .second, .val (.long p3), .second, .val (.int (p0 &&& (3 : Int32))), .val (.int (p0 >>> ((2 : Int32) &&& 31))), .val (.int l0), .val (.int l1), .val (.int l2), .val (.int s0), .val (.int (s0 + l0)), .val (.int s1), .unset, .unset, .unset, .unset, .unset, .unset, .unset, .unset]) rfl ?_
    show Steps p.tables e below (T14.setTop (mkF m 53 #[.val (.int p0), .val (.long p1), .second, .val (.long p2), .second, .val (.long p3), .second, .val (.int (p0 &&& (3 : Int32))), .val (.int (p0 >>> ((2 : Int32) &&& 31))), .val (.int l0), .val (.int l1), .val (.int l2), .val (.int s0), .val (.int (s0 + l0)), .val (.int s1), .unset, .unset, .unset, .unset, .unset, .unset, .unset, .unset] [])) _
    refine XS.iload X14.here hx rfl (hb hby at_53) rfl ?_
    show Steps p.tables e below (T14.setTop (mkF m 55 #[.val (.int p0), .val (.long p1), .second, .val (.long p2), .second, .val (.long p3), .second, .val (.int (p0 &&& (3 : Int32))), .val (.int (p0 >>> ((2 : Int32) &&& 31))), .val (.int l0), .val (.int l1), .val (.int l2), .val (.int s0), .val (.int (s0 + l0)), .val (.int s1), .unset, .unset, .unset, .unset, .unset, .unset, .unset, .unset] [(.int s1)])) _
    refine XS.iload X14.here hx rfl (hb hby at_55) rfl ?_
    show Steps p.tables e below (T14.setTop (mkF m 57 #[.val (.int p0), .val (.long p1), .second, .val (.long p2), .second, .val (.long p3), .second, .val (.int (p0 &&& (3 : Int32))), .val (.int (p0 >>> ((2 : Int32) &&& 31))), .val (.int l0), .val (.int l1), .val (.int l2), .val (.int s0), .val (.int (s0 + l0)), .val (.int s1), .unset, .unset, .unset, .unset, .unset, .unset, .unset, .unset] [(.int l1), (.int s1)])) _
    refine XS.iadd X14.here hx rfl (hb hby at_57) rfl ?_
    show Steps p.tables e below (T14.setTop (mkF m 58 #[.val (.int p0), .val (.long p1), .second, .val (.long p2), .second, .val (.long p3), .second, .val (.int (p0 &&& (3 : Int32))), .val (.int (p0 >>> ((2 : Int32) &&& 31))), .val (.int l0), .val (.int l1), .val (.int l2), .val (.int s0), .val (.int (s0 + l0)), .val (.int s1), .unset, .unset, .unset, .unset, .unset, .unset, .unset, .unset] [(.int (s1 + l1))])) _
    refine XS.istore X14.here hx rfl (hb hby at_58) rfl (l' := #[.val (.int p0), .val (.long p1), .second, .val (.long p2), .second, .val (.long p3), .second, .val (.int (p0 &&& (3 : Int32))), .val (.int (p0 >>> ((2 : Int32) &&& 31))), .val (.int l0), .val (.int l1), .val (.int l2), .val (.int s0), .val (.int (s0 + l0)), .val (.int s1), .val (.int (s1 + l1)), .unset, .unset, .unset, .unset, .unset, .unset, .unset]) rfl ?_
    show Steps p.tables e below (T14.setTop (mkF m 60 #[.val (.int p0), .val (.long p1), .second, .val (.long p2), .second, .val (.long p3), .second, .val (.int (p0 &&& (3 : Int32))), .val (.int (p0 >>> ((2 : Int32) &&& 31))), .val (.int l0), .val (.int l1), .val (.int l2), .val (.int s0), .val (.int (s0 + l0)), .val (.int s1), .val (.int (s1 + l1)), .unset, .unset, .unset, .unset, .unset, .unset, .unset] [])) _
    refine XS.iload X14.here hx rfl (hb hby at_60) rfl ?_
    show Steps p.tables e below (T14.setTop (mkF m 62 #[.val (.int p0), .val (.long p1), .second, .val (.long p2), .second, .val (.long p3), .second, .val (.int (p0 &&& (3 : Int32))), .val (.int (p0 >>> ((2 : Int32) &&& 31))), .val (.int l0), .val (.int l1), .val (.int l2), .val (.int s0), .val (.int (s0 + l0)), .val (.int s1), .val (.int (s1 + l1)), .unset, .unset, .unset, .unset, .unset, .unset, .unset] [(.int (s1 + l1))])) _
    refine XS.iconst X14.here hx rfl (hb hby at_62) ?_
    show Steps p.tables e below (T14.setTop (mkF m 63 #[.val (.int p0), .val (.long p1), .second, .val (.long p2), .second, .val (.long p3), .second, .val (.int (p0 &&& (3 : Int32))), .val (.int (p0 >>> ((2 : Int32) &&& 31))), .val (.int l0), .val (.int l1), .val (.int l2), .val (.int s0), .val (.int (s0 + l0)), .val (.int s1), .val (.int (s1 + l1)), .unset, .unset, .unset, .unset, .unset, .unset, .unset] [(.int (1 : Int32)), (.int (s1 + l1))])) _
    refine XS.iadd X14.here hx rfl (hb hby at_63) rfl ?_
    show Steps p.tables e below (T14.setTop (mkF m 64 #[.val (.int p0), .val (.long p1), .second, .val (.long p2), .second, .val (.long p3), .second, .val (.int (p0 &&& (3 : Int32))), .val (.int (p0 >>> ((2 : Int32) &&& 31))), .val (.int l0), .val (.int l1), .val (.int l2), .val (.int s0), .val (.int (s0 + l0)), .val (.int s1), .val (.int (s1 + l1)), .unset, .unset, .unset, .unset, .unset, .unset, .unset] [(.int ((s1 + l1) + (1 : Int32)))])) _
    refine XS.lload X14.here hx rfl (hb hby at_64) rfl ?_
    show Steps p.tables e below (T14.setTop (mkF m 66 #[.val (.int p0), .val (.long p1), .second, .val (.long p2), .second, .val (.long p3), .second, .val (.int (p0 &&& (3 : Int32))), .val (.int (p0 >>> ((2 : Int32) &&& 31))), .val (.int l0), .val (.int l1), .val (.int l2), .val (.int s0), .val (.int (s0 + l0)), .val (.int s1), .val (.int (s1 + l1)), .unset, .unset, .unset, .unset, .unset, .unset, .unset] [(.long p3), (.int ((s1 + l1) + (1 : Int32)))])) _
    exact q
  obtain ⟨_, _, ⟨T19, L19, kk19, n19⟩, -, X19, ⟨Lc19, hQ19, l19, y19, z19⟩, st19⟩ := Jvm.LawKit.callS X14 hx (y := (⟨"com/example/haku/haku/eval/JudgedCharactersPinLaw", "gap", "(J)I"⟩ : MethodName)) hown (mvT hZ (hw _ (List.mem_of_getElem? (i := 5) rfl))) (mvT hZ (hw _ (List.mem_of_getElem? (i := 6) rfl))) (mvT hZ (hw _ (List.mem_of_getElem? (i := 2) rfl))) (mvT hZ (hw _ (List.mem_of_getElem? (i := 7) rfl))) (by decide) (backOf (W := 1) (rmG l Z a0 hw [] p3 h0 n0 Z0) hZ (hw _ (List.mem_of_getElem? (i := 7) rfl)) (hw _ (List.mem_of_getElem? (i := 2) rfl)) (by decide) (by decide)) (g := (mkF m 66 #[.val (.int p0), .val (.long p1), .second, .val (.long p2), .second, .val (.long p3), .second, .val (.int (p0 &&& (3 : Int32))), .val (.int (p0 >>> ((2 : Int32) &&& 31))), .val (.int l0), .val (.int l1), .val (.int l2), .val (.int s0), .val (.int (s0 + l0)), .val (.int s1), .val (.int (s1 + l1)), .unset, .unset, .unset, .unset, .unset, .unset, .unset] [(.long p3), (.int ((s1 + l1) + (1 : Int32)))])) rfl (by rw [hml]; rfl) (argsL := [(.long p3)]) (rest := [(.int ((s1 + l1) + (1 : Int32)))]) (lenOf pd_28724 rfl) rfl (by show 2 * 0 + _ ≤ _; exact Nat.le_of_eq rfl) (hb hby at_66) (fun _ _ => ⟨rfl, hq14, (by decide : 0 + 0 + 0 + 0 + 0 + 0 + 0 ≤ _), (by decide : 0 + 0 + 0 + 0 + 0 + 0 + 0 ≤ _)⟩)
  dsimp only [Pt.U, Pt.locs, Pt.cells, Pt.slots] at X19 l19 y19 z19 st19 hQ19
  subst l19 y19 z19
  obtain ⟨hv, Nq19, hq19⟩ := hQ19
  obtain ⟨g2, e_g2⟩ : ∃ z, z = own_gp p3 := ⟨_, rfl⟩
  rw [← e_g2] at hv
  subst hv
  have N19 := Fr.app N14 Nq19
  have k20_ : ∀ t, Steps p.tables e below (T19.setTop (mkF m 69 #[.val (.int p0), .val (.long p1), .second, .val (.long p2), .second, .val (.long p3), .second, .val (.int (p0 &&& (3 : Int32))), .val (.int (p0 >>> ((2 : Int32) &&& 31))), .val (.int l0), .val (.int l1), .val (.int l2), .val (.int s0), .val (.int (s0 + l0)), .val (.int s1), .val (.int (s1 + l1)), .unset, .unset, .unset, .unset, .unset, .unset, .unset] [(.int g2), (.int ((s1 + l1) + (1 : Int32)))])) t → Steps p.tables e below (s₁.setTop (mkF m 0 #[.val (.int p0), .val (.long p1), .second, .val (.long p2), .second, .val (.long p3), .second, .unset, .unset, .unset, .unset, .unset, .unset, .unset, .unset, .unset, .unset, .unset, .unset, .unset, .unset, .unset, .unset] [])) t := fun t q => k18_ t (st19 t q)
  have k21_ : ∀ t, Steps p.tables e below (T19.setTop (mkF m 70 #[.val (.int p0), .val (.long p1), .second, .val (.long p2), .second, .val (.long p3), .second, .val (.int (p0 &&& (3 : Int32))), .val (.int (p0 >>> ((2 : Int32) &&& 31))), .val (.int l0), .val (.int l1), .val (.int l2), .val (.int s0), .val (.int (s0 + l0)), .val (.int s1), .val (.int (s1 + l1)), .unset, .unset, .unset, .unset, .unset, .unset, .unset] [(.int (((s1 + l1) + (1 : Int32)) + g2))])) t → Steps p.tables e below (s₁.setTop (mkF m 0 #[.val (.int p0), .val (.long p1), .second, .val (.long p2), .second, .val (.long p3), .second, .unset, .unset, .unset, .unset, .unset, .unset, .unset, .unset, .unset, .unset, .unset, .unset, .unset, .unset, .unset, .unset] [])) t := by
    intro t q
    refine k20_ _ ?_
    show Steps p.tables e below (T19.setTop (mkF m 69 #[.val (.int p0), .val (.long p1), .second, .val (.long p2), .second, .val (.long p3), .second, .val (.int (p0 &&& (3 : Int32))), .val (.int (p0 >>> ((2 : Int32) &&& 31))), .val (.int l0), .val (.int l1), .val (.int l2), .val (.int s0), .val (.int (s0 + l0)), .val (.int s1), .val (.int (s1 + l1)), .unset, .unset, .unset, .unset, .unset, .unset, .unset] [(.int g2), (.int ((s1 + l1) + (1 : Int32)))])) _
    refine XS.iadd X19.here hx rfl (hb hby at_69) rfl ?_
    show Steps p.tables e below (T19.setTop (mkF m 70 #[.val (.int p0), .val (.long p1), .second, .val (.long p2), .second, .val (.long p3), .second, .val (.int (p0 &&& (3 : Int32))), .val (.int (p0 >>> ((2 : Int32) &&& 31))), .val (.int l0), .val (.int l1), .val (.int l2), .val (.int s0), .val (.int (s0 + l0)), .val (.int s1), .val (.int (s1 + l1)), .unset, .unset, .unset, .unset, .unset, .unset, .unset] [(.int (((s1 + l1) + (1 : Int32)) + g2))])) _
    exact q
  obtain ⟨s2, e_s2⟩ : ∃ z, z = (((s1 + l1) + (1 : Int32)) + g2) := ⟨_, rfl⟩
  have k22_ : ∀ t, Steps p.tables e below (T19.setTop (mkF m 70 #[.val (.int p0), .val (.long p1), .second, .val (.long p2), .second, .val (.long p3), .second, .val (.int (p0 &&& (3 : Int32))), .val (.int (p0 >>> ((2 : Int32) &&& 31))), .val (.int l0), .val (.int l1), .val (.int l2), .val (.int s0), .val (.int (s0 + l0)), .val (.int s1), .val (.int (s1 + l1)), .unset, .unset, .unset, .unset, .unset, .unset, .unset] [(.int s2)])) t → Steps p.tables e below (s₁.setTop (mkF m 0 #[.val (.int p0), .val (.long p1), .second, .val (.long p2), .second, .val (.long p3), .second, .unset, .unset, .unset, .unset, .unset, .unset, .unset, .unset, .unset, .unset, .unset, .unset, .unset, .unset, .unset, .unset] [])) t := by rw [e_s2]; exact k21_
  have k23_ : ∀ t, Steps p.tables e below (T19.setTop (mkF m 84 #[.val (.int p0), .val (.long p1), .second, .val (.long p2), .second, .val (.long p3), .second, .val (.int (p0 &&& (3 : Int32))), .val (.int (p0 >>> ((2 : Int32) &&& 31))), .val (.int l0), .val (.int l1), .val (.int l2), .val (.int s0), .val (.int (s0 + l0)), .val (.int s1), .val (.int (s1 + l1)), .val (.int s2), .val (.int (s2 + l2)), .unset, .unset, .val (.long (0 : Int64)), .second, .unset] [(.int (p0 &&& (3 : Int32)))])) t → Steps p.tables e below (s₁.setTop (mkF m 0 #[.val (.int p0), .val (.long p1), .second, .val (.long p2), .second, .val (.long p3), .second, .unset, .unset, .unset, .unset, .unset, .unset, .unset, .unset, .unset, .unset, .unset, .unset, .unset, .unset, .unset, .unset] [])) t := by
    intro t q
    refine k22_ _ ?_
    show Steps p.tables e below (T19.setTop (mkF m 70 #[.val (.int p0), .val (.long p1), .second, .val (.long p2), .second, .val (.long p3), .second, .val (.int (p0 &&& (3 : Int32))), .val (.int (p0 >>> ((2 : Int32) &&& 31))), .val (.int l0), .val (.int l1), .val (.int l2), .val (.int s0), .val (.int (s0 + l0)), .val (.int s1), .val (.int (s1 + l1)), .unset, .unset, .unset, .unset, .unset, .unset, .unset] [(.int s2)])) _
    refine XS.istore X19.here hx rfl (hb hby at_70) rfl (l' := #[.val (.int p0), .val (.long p1), .second, .val (.long p2), .second, .val (.long p3), .second, .val (.int (p0 &&& (3 : Int32))), .val (.int (p0 >>> ((2 : Int32) &&& 31))), .val (.int l0), .val (.int l1), .val (.int l2), .val (.int s0), .val (.int (s0 + l0)), .val (.int s1), .val (.int (s1 + l1)), .val (.int s2), .unset, .unset, .unset, .unset, .unset, .unset]) rfl ?_
    show Steps p.tables e below (T19.setTop (mkF m 72 #[.val (.int p0), .val (.long p1), .second, .val (.long p2), .second, .val (.long p3), .second, .val (.int (p0 &&& (3 : Int32))), .val (.int (p0 >>> ((2 : Int32) &&& 31))), .val (.int l0), .val (.int l1), .val (.int l2), .val (.int s0), .val (.int (s0 + l0)), .val (.int s1), .val (.int (s1 + l1)), .val (.int s2), .unset, .unset, .unset, .unset, .unset, .unset] [])) _
    refine XS.iload X19.here hx rfl (hb hby at_72) rfl ?_
    show Steps p.tables e below (T19.setTop (mkF m 74 #[.val (.int p0), .val (.long p1), .second, .val (.long p2), .second, .val (.long p3), .second, .val (.int (p0 &&& (3 : Int32))), .val (.int (p0 >>> ((2 : Int32) &&& 31))), .val (.int l0), .val (.int l1), .val (.int l2), .val (.int s0), .val (.int (s0 + l0)), .val (.int s1), .val (.int (s1 + l1)), .val (.int s2), .unset, .unset, .unset, .unset, .unset, .unset] [(.int s2)])) _
    refine XS.iload X19.here hx rfl (hb hby at_74) rfl ?_
    show Steps p.tables e below (T19.setTop (mkF m 76 #[.val (.int p0), .val (.long p1), .second, .val (.long p2), .second, .val (.long p3), .second, .val (.int (p0 &&& (3 : Int32))), .val (.int (p0 >>> ((2 : Int32) &&& 31))), .val (.int l0), .val (.int l1), .val (.int l2), .val (.int s0), .val (.int (s0 + l0)), .val (.int s1), .val (.int (s1 + l1)), .val (.int s2), .unset, .unset, .unset, .unset, .unset, .unset] [(.int l2), (.int s2)])) _
    refine XS.iadd X19.here hx rfl (hb hby at_76) rfl ?_
    show Steps p.tables e below (T19.setTop (mkF m 77 #[.val (.int p0), .val (.long p1), .second, .val (.long p2), .second, .val (.long p3), .second, .val (.int (p0 &&& (3 : Int32))), .val (.int (p0 >>> ((2 : Int32) &&& 31))), .val (.int l0), .val (.int l1), .val (.int l2), .val (.int s0), .val (.int (s0 + l0)), .val (.int s1), .val (.int (s1 + l1)), .val (.int s2), .unset, .unset, .unset, .unset, .unset, .unset] [(.int (s2 + l2))])) _
    refine XS.istore X19.here hx rfl (hb hby at_77) rfl (l' := #[.val (.int p0), .val (.long p1), .second, .val (.long p2), .second, .val (.long p3), .second, .val (.int (p0 &&& (3 : Int32))), .val (.int (p0 >>> ((2 : Int32) &&& 31))), .val (.int l0), .val (.int l1), .val (.int l2), .val (.int s0), .val (.int (s0 + l0)), .val (.int s1), .val (.int (s1 + l1)), .val (.int s2), .val (.int (s2 + l2)), .unset, .unset, .unset, .unset, .unset]) rfl ?_
    show Steps p.tables e below (T19.setTop (mkF m 79 #[.val (.int p0), .val (.long p1), .second, .val (.long p2), .second, .val (.long p3), .second, .val (.int (p0 &&& (3 : Int32))), .val (.int (p0 >>> ((2 : Int32) &&& 31))), .val (.int l0), .val (.int l1), .val (.int l2), .val (.int s0), .val (.int (s0 + l0)), .val (.int s1), .val (.int (s1 + l1)), .val (.int s2), .val (.int (s2 + l2)), .unset, .unset, .unset, .unset, .unset] [])) _
    refine XS.lconst X19.here hx rfl (hb hby at_79) ?_
    show Steps p.tables e below (T19.setTop (mkF m 80 #[.val (.int p0), .val (.long p1), .second, .val (.long p2), .second, .val (.long p3), .second, .val (.int (p0 &&& (3 : Int32))), .val (.int (p0 >>> ((2 : Int32) &&& 31))), .val (.int l0), .val (.int l1), .val (.int l2), .val (.int s0), .val (.int (s0 + l0)), .val (.int s1), .val (.int (s1 + l1)), .val (.int s2), .val (.int (s2 + l2)), .unset, .unset, .unset, .unset, .unset] [(.long (0 : Int64))])) _
    refine XS.lstore X19.here hx rfl (hb hby at_80) rfl (l' := #[.val (.int p0), .val (.long p1), .second, .val (.long p2), .second, .val (.long p3), .second, .val (.int (p0 &&& (3 : Int32))), .val (.int (p0 >>> ((2 : Int32) &&& 31))), .val (.int l0), .val (.int l1), .val (.int l2), .val (.int s0), .val (.int (s0 + l0)), .val (.int s1), .val (.int (s1 + l1)), .val (.int s2), .val (.int (s2 + l2)), .unset, .unset, .val (.long (0 : Int64)), .second, .unset]) rfl ?_
    show Steps p.tables e below (T19.setTop (mkF m 82 #[.val (.int p0), .val (.long p1), .second, .val (.long p2), .second, .val (.long p3), .second, .val (.int (p0 &&& (3 : Int32))), .val (.int (p0 >>> ((2 : Int32) &&& 31))), .val (.int l0), .val (.int l1), .val (.int l2), .val (.int s0), .val (.int (s0 + l0)), .val (.int s1), .val (.int (s1 + l1)), .val (.int s2), .val (.int (s2 + l2)), .unset, .unset, .val (.long (0 : Int64)), .second, .unset] [])) _
    refine XS.iload X19.here hx rfl (hb hby at_82) rfl ?_
    show Steps p.tables e below (T19.setTop (mkF m 84 #[.val (.int p0), .val (.long p1), .second, .val (.long p2), .second, .val (.long p3), .second, .val (.int (p0 &&& (3 : Int32))), .val (.int (p0 >>> ((2 : Int32) &&& 31))), .val (.int l0), .val (.int l1), .val (.int l2), .val (.int s0), .val (.int (s0 + l0)), .val (.int s1), .val (.int (s1 + l1)), .val (.int s2), .val (.int (s2 + l2)), .unset, .unset, .val (.long (0 : Int64)), .second, .unset] [(.int (p0 &&& (3 : Int32)))])) _
    exact q
  by_cases hk0 : (p0 &&& (3 : Int32)) = (0 : Int32)
  · have k24_ : ∀ t, Steps p.tables e below (T19.setTop (mkF m 87 #[.val (.int p0), .val (.long p1), .second, .val (.long p2), .second, .val (.long p3), .second, .val (.int (p0 &&& (3 : Int32))), .val (.int (p0 >>> ((2 : Int32) &&& 31))), .val (.int l0), .val (.int l1), .val (.int l2), .val (.int s0), .val (.int (s0 + l0)), .val (.int s1), .val (.int (s1 + l1)), .val (.int s2), .val (.int (s2 + l2)), .unset, .unset, .val (.long (0 : Int64)), .second, .unset] [])) t → Steps p.tables e below (s₁.setTop (mkF m 0 #[.val (.int p0), .val (.long p1), .second, .val (.long p2), .second, .val (.long p3), .second, .unset, .unset, .unset, .unset, .unset, .unset, .unset, .unset, .unset, .unset, .unset, .unset, .unset, .unset, .unset, .unset] [])) t := by
      intro t q
      refine k23_ _ ?_
      show Steps p.tables e below (T19.setTop (mkF m 84 #[.val (.int p0), .val (.long p1), .second, .val (.long p2), .second, .val (.long p3), .second, .val (.int (p0 &&& (3 : Int32))), .val (.int (p0 >>> ((2 : Int32) &&& 31))), .val (.int l0), .val (.int l1), .val (.int l2), .val (.int s0), .val (.int (s0 + l0)), .val (.int s1), .val (.int (s1 + l1)), .val (.int s2), .val (.int (s2 + l2)), .unset, .unset, .val (.long (0 : Int64)), .second, .unset] [(.int (p0 &&& (3 : Int32)))])) _
      refine XS.ifNo X19.here hx rfl (hb hby at_84) rfl ((if0 _ _).trans (teq hk0).2) ?_
      show Steps p.tables e below (T19.setTop (mkF m 87 #[.val (.int p0), .val (.long p1), .second, .val (.long p2), .second, .val (.long p3), .second, .val (.int (p0 &&& (3 : Int32))), .val (.int (p0 >>> ((2 : Int32) &&& 31))), .val (.int l0), .val (.int l1), .val (.int l2), .val (.int s0), .val (.int (s0 + l0)), .val (.int s1), .val (.int (s1 + l1)), .val (.int s2), .val (.int (s2 + l2)), .unset, .unset, .val (.long (0 : Int64)), .second, .unset] [])) _
      exact q
    have k25_ : ∀ t, Steps p.tables e below (T19.setTop (mkF m 88 #[.val (.int p0), .val (.long p1), .second, .val (.long p2), .second, .val (.long p3), .second, .val (.int (p0 &&& (3 : Int32))), .val (.int (p0 >>> ((2 : Int32) &&& 31))), .val (.int l0), .val (.int l1), .val (.int l2), .val (.int s0), .val (.int (s0 + l0)), .val (.int s1), .val (.int (s1 + l1)), .val (.int s2), .val (.int (s2 + l2)), .unset, .unset, .val (.long (0 : Int64)), .second, .unset] [(.int (0 : Int32))])) t → Steps p.tables e below (s₁.setTop (mkF m 0 #[.val (.int p0), .val (.long p1), .second, .val (.long p2), .second, .val (.long p3), .second, .unset, .unset, .unset, .unset, .unset, .unset, .unset, .unset, .unset, .unset, .unset, .unset, .unset, .unset, .unset, .unset] [])) t := by
      intro t q
      refine k24_ _ ?_
      show Steps p.tables e below (T19.setTop (mkF m 87 #[.val (.int p0), .val (.long p1), .second, .val (.long p2), .second, .val (.long p3), .second, .val (.int (p0 &&& (3 : Int32))), .val (.int (p0 >>> ((2 : Int32) &&& 31))), .val (.int l0), .val (.int l1), .val (.int l2), .val (.int s0), .val (.int (s0 + l0)), .val (.int s1), .val (.int (s1 + l1)), .val (.int s2), .val (.int (s2 + l2)), .unset, .unset, .val (.long (0 : Int64)), .second, .unset] [])) _
      refine XS.iconst X19.here hx rfl (hb hby at_87) ?_
      show Steps p.tables e below (T19.setTop (mkF m 88 #[.val (.int p0), .val (.long p1), .second, .val (.long p2), .second, .val (.long p3), .second, .val (.int (p0 &&& (3 : Int32))), .val (.int (p0 >>> ((2 : Int32) &&& 31))), .val (.int l0), .val (.int l1), .val (.int l2), .val (.int s0), .val (.int (s0 + l0)), .val (.int s1), .val (.int (s1 + l1)), .val (.int s2), .val (.int (s2 + l2)), .unset, .unset, .val (.long (0 : Int64)), .second, .unset] [(.int (0 : Int32))])) _
      exact q
    obtain ⟨T26, h26, c26, X26, e26, E26, A26, st26⟩ := newP X19 hx hZ (hw _ (List.mem_of_getElem? (i := 9) rfl)) hq19 (g := (mkF m 88 #[.val (.int p0), .val (.long p1), .second, .val (.long p2), .second, .val (.long p3), .second, .val (.int (p0 &&& (3 : Int32))), .val (.int (p0 >>> ((2 : Int32) &&& 31))), .val (.int l0), .val (.int l1), .val (.int l2), .val (.int s0), .val (.int (s0 + l0)), .val (.int s1), .val (.int (s1 + l1)), .val (.int s2), .val (.int (s2 + l2)), .unset, .unset, .val (.long (0 : Int64)), .second, .unset] [(.int (0 : Int32))])) rfl (hb hby at_88) rfl (by decide) (cap := 0) (by decide) (by decide) (by decide) (by decide)
    obtain ⟨b26, g26⟩ : ∃ z, z = h0.size := ⟨_, rfl⟩
    rw [← g26] at A26 st26
    have k27_ : ∀ t, Steps p.tables e below (T26.setTop (mkF m 90 #[.val (.int p0), .val (.long p1), .second, .val (.long p2), .second, .val (.long p3), .second, .val (.int (p0 &&& (3 : Int32))), .val (.int (p0 >>> ((2 : Int32) &&& 31))), .val (.int l0), .val (.int l1), .val (.int l2), .val (.int s0), .val (.int (s0 + l0)), .val (.int s1), .val (.int (s1 + l1)), .val (.int s2), .val (.int (s2 + l2)), .unset, .unset, .val (.long (0 : Int64)), .second, .unset] [(.ref b26)])) t → Steps p.tables e below (s₁.setTop (mkF m 0 #[.val (.int p0), .val (.long p1), .second, .val (.long p2), .second, .val (.long p3), .second, .unset, .unset, .unset, .unset, .unset, .unset, .unset, .unset, .unset, .unset, .unset, .unset, .unset, .unset, .unset, .unset] [])) t := fun t q => k25_ t (st26 t q)
    have g_b26 : n0 ≤ b26 := Nat.le_trans Zn (Nat.le_of_eq g26.symm)
    replace Zn := Nat.le_trans Zn E26.1
    have V_b26 : Arv Z h26 b26 c26 .int (0 : Int32) [] (.int (0 : Int32)) := (Arv.new A26 (by decide)).pad (pad_rep [] (.int (0 : Int32)) 0)
    have k28_ : ∀ t, Steps p.tables e below (T26.setTop (mkF m 93 #[.val (.int p0), .val (.long p1), .second, .val (.long p2), .second, .val (.long p3), .second, .val (.int (p0 &&& (3 : Int32))), .val (.int (p0 >>> ((2 : Int32) &&& 31))), .val (.int l0), .val (.int l1), .val (.int l2), .val (.int s0), .val (.int (s0 + l0)), .val (.int s1), .val (.int (s1 + l1)), .val (.int s2), .val (.int (s2 + l2)), .val (.ref b26), .unset, .val (.long (0 : Int64)), .second, .unset] [(.int (0 : Int32))])) t → Steps p.tables e below (s₁.setTop (mkF m 0 #[.val (.int p0), .val (.long p1), .second, .val (.long p2), .second, .val (.long p3), .second, .unset, .unset, .unset, .unset, .unset, .unset, .unset, .unset, .unset, .unset, .unset, .unset, .unset, .unset, .unset, .unset] [])) t := by
      intro t q
      refine k27_ _ ?_
      show Steps p.tables e below (T26.setTop (mkF m 90 #[.val (.int p0), .val (.long p1), .second, .val (.long p2), .second, .val (.long p3), .second, .val (.int (p0 &&& (3 : Int32))), .val (.int (p0 >>> ((2 : Int32) &&& 31))), .val (.int l0), .val (.int l1), .val (.int l2), .val (.int s0), .val (.int (s0 + l0)), .val (.int s1), .val (.int (s1 + l1)), .val (.int s2), .val (.int (s2 + l2)), .unset, .unset, .val (.long (0 : Int64)), .second, .unset] [(.ref b26)])) _
      refine XS.astore X26.here hx rfl (hb hby at_90) rfl rfl (l' := #[.val (.int p0), .val (.long p1), .second, .val (.long p2), .second, .val (.long p3), .second, .val (.int (p0 &&& (3 : Int32))), .val (.int (p0 >>> ((2 : Int32) &&& 31))), .val (.int l0), .val (.int l1), .val (.int l2), .val (.int s0), .val (.int (s0 + l0)), .val (.int s1), .val (.int (s1 + l1)), .val (.int s2), .val (.int (s2 + l2)), .val (.ref b26), .unset, .val (.long (0 : Int64)), .second, .unset]) rfl ?_
      show Steps p.tables e below (T26.setTop (mkF m 92 #[.val (.int p0), .val (.long p1), .second, .val (.long p2), .second, .val (.long p3), .second, .val (.int (p0 &&& (3 : Int32))), .val (.int (p0 >>> ((2 : Int32) &&& 31))), .val (.int l0), .val (.int l1), .val (.int l2), .val (.int s0), .val (.int (s0 + l0)), .val (.int s1), .val (.int (s1 + l1)), .val (.int s2), .val (.int (s2 + l2)), .val (.ref b26), .unset, .val (.long (0 : Int64)), .second, .unset] [])) _
      refine XS.iconst X26.here hx rfl (hb hby at_92) ?_
      show Steps p.tables e below (T26.setTop (mkF m 93 #[.val (.int p0), .val (.long p1), .second, .val (.long p2), .second, .val (.long p3), .second, .val (.int (p0 &&& (3 : Int32))), .val (.int (p0 >>> ((2 : Int32) &&& 31))), .val (.int l0), .val (.int l1), .val (.int l2), .val (.int s0), .val (.int (s0 + l0)), .val (.int s1), .val (.int (s1 + l1)), .val (.int s2), .val (.int (s2 + l2)), .val (.ref b26), .unset, .val (.long (0 : Int64)), .second, .unset] [(.int (0 : Int32))])) _
      exact q
    obtain ⟨T29, h29, c29, X29, e29, E29, A29, st29⟩ := newP X26 hx hZ (hw _ (List.mem_of_getElem? (i := 9) rfl)) e26 (g := (mkF m 93 #[.val (.int p0), .val (.long p1), .second, .val (.long p2), .second, .val (.long p3), .second, .val (.int (p0 &&& (3 : Int32))), .val (.int (p0 >>> ((2 : Int32) &&& 31))), .val (.int l0), .val (.int l1), .val (.int l2), .val (.int s0), .val (.int (s0 + l0)), .val (.int s1), .val (.int (s1 + l1)), .val (.int s2), .val (.int (s2 + l2)), .val (.ref b26), .unset, .val (.long (0 : Int64)), .second, .unset] [(.int (0 : Int32))])) rfl (hb hby at_93) rfl (by decide) (cap := 0) (by decide) (by decide) (by decide) (by decide)
    obtain ⟨b29, g29⟩ : ∃ z, z = h26.size := ⟨_, rfl⟩
    rw [← g29] at A29 st29
    have k30_ : ∀ t, Steps p.tables e below (T29.setTop (mkF m 95 #[.val (.int p0), .val (.long p1), .second, .val (.long p2), .second, .val (.long p3), .second, .val (.int (p0 &&& (3 : Int32))), .val (.int (p0 >>> ((2 : Int32) &&& 31))), .val (.int l0), .val (.int l1), .val (.int l2), .val (.int s0), .val (.int (s0 + l0)), .val (.int s1), .val (.int (s1 + l1)), .val (.int s2), .val (.int (s2 + l2)), .val (.ref b26), .unset, .val (.long (0 : Int64)), .second, .unset] [(.ref b29)])) t → Steps p.tables e below (s₁.setTop (mkF m 0 #[.val (.int p0), .val (.long p1), .second, .val (.long p2), .second, .val (.long p3), .second, .unset, .unset, .unset, .unset, .unset, .unset, .unset, .unset, .unset, .unset, .unset, .unset, .unset, .unset, .unset, .unset] [])) t := fun t q => k28_ t (st29 t q)
    have ne_b26_b29 : b26 ≠ b29 := Nat.ne_of_lt (Nat.lt_of_lt_of_le V_b26.lt (Nat.le_of_eq g29.symm))
    have g_b29 : n0 ≤ b29 := Nat.le_trans Zn (Nat.le_of_eq g29.symm)
    replace Zn := Nat.le_trans Zn E29.1
    replace V_b26 := V_b26.ext E29
    have V_b29 : Arv Z h29 b29 c29 .int (0 : Int32) [] (.int (0 : Int32)) := (Arv.new A29 (by decide)).pad (pad_rep [] (.int (0 : Int32)) 0)
    have k31_ : ∀ t, Steps p.tables e below (T29.setTop (mkF m 235 #[.val (.int p0), .val (.long p1), .second, .val (.long p2), .second, .val (.long p3), .second, .val (.int (p0 &&& (3 : Int32))), .val (.int (p0 >>> ((2 : Int32) &&& 31))), .val (.int l0), .val (.int l1), .val (.int l2), .val (.int s0), .val (.int (s0 + l0)), .val (.int s1), .val (.int (s1 + l1)), .val (.int s2), .val (.int (s2 + l2)), .val (.ref b26), .val (.ref b29), .val (.long (0 : Int64)), .second, .unset] [])) t → Steps p.tables e below (s₁.setTop (mkF m 0 #[.val (.int p0), .val (.long p1), .second, .val (.long p2), .second, .val (.long p3), .second, .unset, .unset, .unset, .unset, .unset, .unset, .unset, .unset, .unset, .unset, .unset, .unset, .unset, .unset, .unset, .unset] [])) t := by
      intro t q
      refine k30_ _ ?_
      show Steps p.tables e below (T29.setTop (mkF m 95 #[.val (.int p0), .val (.long p1), .second, .val (.long p2), .second, .val (.long p3), .second, .val (.int (p0 &&& (3 : Int32))), .val (.int (p0 >>> ((2 : Int32) &&& 31))), .val (.int l0), .val (.int l1), .val (.int l2), .val (.int s0), .val (.int (s0 + l0)), .val (.int s1), .val (.int (s1 + l1)), .val (.int s2), .val (.int (s2 + l2)), .val (.ref b26), .unset, .val (.long (0 : Int64)), .second, .unset] [(.ref b29)])) _
      refine XS.astore X29.here hx rfl (hb hby at_95) rfl rfl (l' := #[.val (.int p0), .val (.long p1), .second, .val (.long p2), .second, .val (.long p3), .second, .val (.int (p0 &&& (3 : Int32))), .val (.int (p0 >>> ((2 : Int32) &&& 31))), .val (.int l0), .val (.int l1), .val (.int l2), .val (.int s0), .val (.int (s0 + l0)), .val (.int s1), .val (.int (s1 + l1)), .val (.int s2), .val (.int (s2 + l2)), .val (.ref b26), .val (.ref b29), .val (.long (0 : Int64)), .second, .unset]) rfl ?_
      show Steps p.tables e below (T29.setTop (mkF m 97 #[.val (.int p0), .val (.long p1), .second, .val (.long p2), .second, .val (.long p3), .second, .val (.int (p0 &&& (3 : Int32))), .val (.int (p0 >>> ((2 : Int32) &&& 31))), .val (.int l0), .val (.int l1), .val (.int l2), .val (.int s0), .val (.int (s0 + l0)), .val (.int s1), .val (.int (s1 + l1)), .val (.int s2), .val (.int (s2 + l2)), .val (.ref b26), .val (.ref b29), .val (.long (0 : Int64)), .second, .unset] [])) _
      refine XS.goto X29.here hx rfl (pc0 := 97) (pc' := 235) rfl (hb hby at_97) (by decide) (by decide) ?_
      show Steps p.tables e below (T29.setTop (mkF m 235 #[.val (.int p0), .val (.long p1), .second, .val (.long p2), .second, .val (.long p3), .second, .val (.int (p0 &&& (3 : Int32))), .val (.int (p0 >>> ((2 : Int32) &&& 31))), .val (.int l0), .val (.int l1), .val (.int l2), .val (.int s0), .val (.int (s0 + l0)), .val (.int s1), .val (.int (s1 + l1)), .val (.int s2), .val (.int (s2 + l2)), .val (.ref b26), .val (.ref b29), .val (.long (0 : Int64)), .second, .unset] [])) _
      exact q
    obtain ⟨T32, h32, X32, e32, E32, A32, D32, -, st32⟩ := newO X29 hx hZ hown (hw _ (List.mem_of_getElem? (i := 10) rfl)) (hw _ (List.mem_of_getElem? (i := 11) rfl)) (hw _ (List.mem_of_getElem? (i := 12) rfl)) e29 (g := (mkF m 235 #[.val (.int p0), .val (.long p1), .second, .val (.long p2), .second, .val (.long p3), .second, .val (.int (p0 &&& (3 : Int32))), .val (.int (p0 >>> ((2 : Int32) &&& 31))), .val (.int l0), .val (.int l1), .val (.int l2), .val (.int s0), .val (.int (s0 + l0)), .val (.int s1), .val (.int (s1 + l1)), .val (.int s2), .val (.int (s2 + l2)), .val (.ref b26), .val (.ref b29), .val (.long (0 : Int64)), .second, .unset] [])) rfl (hb hby at_235) (by decide) (by decide)
    obtain ⟨b32, g32⟩ : ∃ z, z = h29.size := ⟨_, rfl⟩
    rw [← g32] at A32 D32 st32
    have k33_ : ∀ t, Steps p.tables e below (T32.setTop (mkF m 238 #[.val (.int p0), .val (.long p1), .second, .val (.long p2), .second, .val (.long p3), .second, .val (.int (p0 &&& (3 : Int32))), .val (.int (p0 >>> ((2 : Int32) &&& 31))), .val (.int l0), .val (.int l1), .val (.int l2), .val (.int s0), .val (.int (s0 + l0)), .val (.int s1), .val (.int (s1 + l1)), .val (.int s2), .val (.int (s2 + l2)), .val (.ref b26), .val (.ref b29), .val (.long (0 : Int64)), .second, .unset] [(.ref b32)])) t → Steps p.tables e below (s₁.setTop (mkF m 0 #[.val (.int p0), .val (.long p1), .second, .val (.long p2), .second, .val (.long p3), .second, .unset, .unset, .unset, .unset, .unset, .unset, .unset, .unset, .unset, .unset, .unset, .unset, .unset, .unset, .unset, .unset] [])) t := fun t q => k31_ t (st32 t q)
    have ne_b26_b32 : b26 ≠ b32 := Nat.ne_of_lt (Nat.lt_of_lt_of_le V_b26.lt (Nat.le_of_eq g32.symm))
    have ne_b29_b32 : b29 ≠ b32 := Nat.ne_of_lt (Nat.lt_of_lt_of_le V_b29.lt (Nat.le_of_eq g32.symm))
    have g_b32 : n0 ≤ b32 := Nat.le_trans Zn (Nat.le_of_eq g32.symm)
    replace Zn := Nat.le_trans Zn E32.1
    replace V_b26 := V_b26.ext E32
    replace V_b29 := V_b29.ext E32
    have F_line : Fld Z h32 b32 "com/example/haku/haku/eval/FocusedJudgments$Judged" "line" "I" (.int (0 : Int32)) := D32 (Or.inr (hw _ (List.mem_of_getElem? (i := 25) rfl))) (ty := .int) (by decide)
    have F_starts : Fld Z h32 b32 "com/example/haku/haku/eval/FocusedJudgments$Judged" "starts" "[I" .null := D32 (Or.inr (hw _ (List.mem_of_getElem? (i := 27) rfl))) (ty := (.array .int)) (by decide)
    have F_ends : Fld Z h32 b32 "com/example/haku/haku/eval/FocusedJudgments$Judged" "ends" "[I" .null := D32 (Or.inr (hw _ (List.mem_of_getElem? (i := 29) rfl))) (ty := (.array .int)) (by decide)
    have k34_ : ∀ t, Steps p.tables e below (T32.setTop (mkF m 245 #[.val (.int p0), .val (.long p1), .second, .val (.long p2), .second, .val (.long p3), .second, .val (.int (p0 &&& (3 : Int32))), .val (.int (p0 >>> ((2 : Int32) &&& 31))), .val (.int l0), .val (.int l1), .val (.int l2), .val (.int s0), .val (.int (s0 + l0)), .val (.int s1), .val (.int (s1 + l1)), .val (.int s2), .val (.int (s2 + l2)), .val (.ref b26), .val (.ref b29), .val (.long (0 : Int64)), .second, .unset] [(.ref b29), (.ref b26), (.int (p0 >>> ((2 : Int32) &&& 31))), (.ref b32), (.ref b32)])) t → Steps p.tables e below (s₁.setTop (mkF m 0 #[.val (.int p0), .val (.long p1), .second, .val (.long p2), .second, .val (.long p3), .second, .unset, .unset, .unset, .unset, .unset, .unset, .unset, .unset, .unset, .unset, .unset, .unset, .unset, .unset, .unset, .unset] [])) t := by
      intro t q
      refine k33_ _ ?_
      show Steps p.tables e below (T32.setTop (mkF m 238 #[.val (.int p0), .val (.long p1), .second, .val (.long p2), .second, .val (.long p3), .second, .val (.int (p0 &&& (3 : Int32))), .val (.int (p0 >>> ((2 : Int32) &&& 31))), .val (.int l0), .val (.int l1), .val (.int l2), .val (.int s0), .val (.int (s0 + l0)), .val (.int s1), .val (.int (s1 + l1)), .val (.int s2), .val (.int (s2 + l2)), .val (.ref b26), .val (.ref b29), .val (.long (0 : Int64)), .second, .unset] [(.ref b32)])) _
      refine XS.dup X32.here hx rfl (hb hby at_238) rfl rfl ?_
      show Steps p.tables e below (T32.setTop (mkF m 239 #[.val (.int p0), .val (.long p1), .second, .val (.long p2), .second, .val (.long p3), .second, .val (.int (p0 &&& (3 : Int32))), .val (.int (p0 >>> ((2 : Int32) &&& 31))), .val (.int l0), .val (.int l1), .val (.int l2), .val (.int s0), .val (.int (s0 + l0)), .val (.int s1), .val (.int (s1 + l1)), .val (.int s2), .val (.int (s2 + l2)), .val (.ref b26), .val (.ref b29), .val (.long (0 : Int64)), .second, .unset] [(.ref b32), (.ref b32)])) _
      refine XS.iload X32.here hx rfl (hb hby at_239) rfl ?_
      show Steps p.tables e below (T32.setTop (mkF m 241 #[.val (.int p0), .val (.long p1), .second, .val (.long p2), .second, .val (.long p3), .second, .val (.int (p0 &&& (3 : Int32))), .val (.int (p0 >>> ((2 : Int32) &&& 31))), .val (.int l0), .val (.int l1), .val (.int l2), .val (.int s0), .val (.int (s0 + l0)), .val (.int s1), .val (.int (s1 + l1)), .val (.int s2), .val (.int (s2 + l2)), .val (.ref b26), .val (.ref b29), .val (.long (0 : Int64)), .second, .unset] [(.int (p0 >>> ((2 : Int32) &&& 31))), (.ref b32), (.ref b32)])) _
      refine XS.aload X32.here hx rfl (hb hby at_241) rfl rfl ?_
      show Steps p.tables e below (T32.setTop (mkF m 243 #[.val (.int p0), .val (.long p1), .second, .val (.long p2), .second, .val (.long p3), .second, .val (.int (p0 &&& (3 : Int32))), .val (.int (p0 >>> ((2 : Int32) &&& 31))), .val (.int l0), .val (.int l1), .val (.int l2), .val (.int s0), .val (.int (s0 + l0)), .val (.int s1), .val (.int (s1 + l1)), .val (.int s2), .val (.int (s2 + l2)), .val (.ref b26), .val (.ref b29), .val (.long (0 : Int64)), .second, .unset] [(.ref b26), (.int (p0 >>> ((2 : Int32) &&& 31))), (.ref b32), (.ref b32)])) _
      refine XS.aload X32.here hx rfl (hb hby at_243) rfl rfl ?_
      show Steps p.tables e below (T32.setTop (mkF m 245 #[.val (.int p0), .val (.long p1), .second, .val (.long p2), .second, .val (.long p3), .second, .val (.int (p0 &&& (3 : Int32))), .val (.int (p0 >>> ((2 : Int32) &&& 31))), .val (.int l0), .val (.int l1), .val (.int l2), .val (.int s0), .val (.int (s0 + l0)), .val (.int s1), .val (.int (s1 + l1)), .val (.int s2), .val (.int (s2 + l2)), .val (.ref b26), .val (.ref b29), .val (.long (0 : Int64)), .second, .unset] [(.ref b29), (.ref b26), (.int (p0 >>> ((2 : Int32) &&& 31))), (.ref b32), (.ref b32)])) _
      exact q
    obtain ⟨_, _, ⟨T35, L35, kk35, n35⟩, -, X35, ⟨Lc35, hQ35, l35, y35, z35⟩, st35⟩ := X32.specialBack hx (y := (⟨"com/example/haku/haku/eval/FocusedJudgments$Judged", "<init>", "(I[I[I)V"⟩ : MethodName)) rfl hown (mvT hZ (hw _ (List.mem_of_getElem? (i := 13) rfl))) (mvT hZ (hw _ (List.mem_of_getElem? (i := 14) rfl))) (mvT hZ (hw _ (List.mem_of_getElem? (i := 15) rfl))) (by decide) (backOf (W := 1) (rmI l Z a0 hw [] b32 (p0 >>> ((2 : Int32) &&& 31)) b26 b29 h32 n0 Zn A32 F_line F_starts F_ends g_b32) hZ (hw _ (List.mem_of_getElem? (i := 15) rfl)) (hw _ (List.mem_of_getElem? (i := 12) rfl)) (by decide) (by decide)) (g := (mkF m 245 #[.val (.int p0), .val (.long p1), .second, .val (.long p2), .second, .val (.long p3), .second, .val (.int (p0 &&& (3 : Int32))), .val (.int (p0 >>> ((2 : Int32) &&& 31))), .val (.int l0), .val (.int l1), .val (.int l2), .val (.int s0), .val (.int (s0 + l0)), .val (.int s1), .val (.int (s1 + l1)), .val (.int s2), .val (.int (s2 + l2)), .val (.ref b26), .val (.ref b29), .val (.long (0 : Int64)), .second, .unset] [(.ref b29), (.ref b26), (.int (p0 >>> ((2 : Int32) &&& 31))), (.ref b32), (.ref b32)])) rfl (by rw [hml]; rfl) (Steps.refl _) (a := b32) (argsL := [(.int (p0 >>> ((2 : Int32) &&& 31))), (.ref b26), (.ref b29)]) (rest := [(.ref b32)]) (lenOf pd_32956 rfl) rfl (by show 2 * 0 + _ ≤ _; exact Nat.le_of_eq rfl) (hb hby at_245) (fun _ _ => ⟨rfl, e32, (by decide : 0 + 0 + 0 + 0 + 0 + 0 + 0 + 1 + 1 + 1 + 0 ≤ _), (by decide : 0 + 0 + 0 + 0 + 0 + 0 + 0 + 0 + 0 + 3 + 0 ≤ _)⟩)
    dsimp only [Pt.U, Pt.locs, Pt.cells, Pt.slots] at X35 l35 y35 z35 st35 hQ35
    subst l35 y35 z35
    obtain ⟨rfl, Nq35, KI, EI, FS, FE⟩ := hQ35
    have N35 := Fr.app N19 Nq35
    have k36_ : ∀ t, Steps p.tables e below (T35.setTop (mkF m 248 #[.val (.int p0), .val (.long p1), .second, .val (.long p2), .second, .val (.long p3), .second, .val (.int (p0 &&& (3 : Int32))), .val (.int (p0 >>> ((2 : Int32) &&& 31))), .val (.int l0), .val (.int l1), .val (.int l2), .val (.int s0), .val (.int (s0 + l0)), .val (.int s1), .val (.int (s1 + l1)), .val (.int s2), .val (.int (s2 + l2)), .val (.ref b26), .val (.ref b29), .val (.long (0 : Int64)), .second, .unset] [(.ref b32)])) t → Steps p.tables e below (s₁.setTop (mkF m 0 #[.val (.int p0), .val (.long p1), .second, .val (.long p2), .second, .val (.long p3), .second, .unset, .unset, .unset, .unset, .unset, .unset, .unset, .unset, .unset, .unset, .unset, .unset, .unset, .unset, .unset, .unset] [])) t := fun t q => k34_ t (st35.trans q)
    replace V_b26 := V_b26.keep KI (ninS ne_b26_b32 nin0)
    replace V_b29 := V_b29.keep KI (ninS ne_b29_b32 nin0)
    replace Zn := Nat.le_trans Zn KI.1
    have k37_ : ∀ t, Steps p.tables e below (T35.setTop (mkF m 252 #[.val (.int p0), .val (.long p1), .second, .val (.long p2), .second, .val (.long p3), .second, .val (.int (p0 &&& (3 : Int32))), .val (.int (p0 >>> ((2 : Int32) &&& 31))), .val (.int l0), .val (.int l1), .val (.int l2), .val (.int s0), .val (.int (s0 + l0)), .val (.int s1), .val (.int (s1 + l1)), .val (.int s2), .val (.int (s2 + l2)), .val (.ref b26), .val (.ref b29), .val (.long (0 : Int64)), .second, .val (.ref b32)] [(.ref b32)])) t → Steps p.tables e below (s₁.setTop (mkF m 0 #[.val (.int p0), .val (.long p1), .second, .val (.long p2), .second, .val (.long p3), .second, .unset, .unset, .unset, .unset, .unset, .unset, .unset, .unset, .unset, .unset, .unset, .unset, .unset, .unset, .unset, .unset] [])) t := by
      intro t q
      refine k36_ _ ?_
      show Steps p.tables e below (T35.setTop (mkF m 248 #[.val (.int p0), .val (.long p1), .second, .val (.long p2), .second, .val (.long p3), .second, .val (.int (p0 &&& (3 : Int32))), .val (.int (p0 >>> ((2 : Int32) &&& 31))), .val (.int l0), .val (.int l1), .val (.int l2), .val (.int s0), .val (.int (s0 + l0)), .val (.int s1), .val (.int (s1 + l1)), .val (.int s2), .val (.int (s2 + l2)), .val (.ref b26), .val (.ref b29), .val (.long (0 : Int64)), .second, .unset] [(.ref b32)])) _
      refine XS.astore X35.here hx rfl (hb hby at_248) rfl rfl (l' := #[.val (.int p0), .val (.long p1), .second, .val (.long p2), .second, .val (.long p3), .second, .val (.int (p0 &&& (3 : Int32))), .val (.int (p0 >>> ((2 : Int32) &&& 31))), .val (.int l0), .val (.int l1), .val (.int l2), .val (.int s0), .val (.int (s0 + l0)), .val (.int s1), .val (.int (s1 + l1)), .val (.int s2), .val (.int (s2 + l2)), .val (.ref b26), .val (.ref b29), .val (.long (0 : Int64)), .second, .val (.ref b32)]) rfl ?_
      show Steps p.tables e below (T35.setTop (mkF m 250 #[.val (.int p0), .val (.long p1), .second, .val (.long p2), .second, .val (.long p3), .second, .val (.int (p0 &&& (3 : Int32))), .val (.int (p0 >>> ((2 : Int32) &&& 31))), .val (.int l0), .val (.int l1), .val (.int l2), .val (.int s0), .val (.int (s0 + l0)), .val (.int s1), .val (.int (s1 + l1)), .val (.int s2), .val (.int (s2 + l2)), .val (.ref b26), .val (.ref b29), .val (.long (0 : Int64)), .second, .val (.ref b32)] [])) _
      refine XS.aload X35.here hx rfl (hb hby at_250) rfl rfl ?_
      show Steps p.tables e below (T35.setTop (mkF m 252 #[.val (.int p0), .val (.long p1), .second, .val (.long p2), .second, .val (.long p3), .second, .val (.int (p0 &&& (3 : Int32))), .val (.int (p0 >>> ((2 : Int32) &&& 31))), .val (.int l0), .val (.int l1), .val (.int l2), .val (.int s0), .val (.int (s0 + l0)), .val (.int s1), .val (.int (s1 + l1)), .val (.int s2), .val (.int (s2 + l2)), .val (.ref b26), .val (.ref b29), .val (.long (0 : Int64)), .second, .val (.ref b32)] [(.ref b32)])) _
      exact q
    obtain ⟨cq38, kq38, q38a, q38b, q38c⟩ := isOf hZ rfl EI
    obtain ⟨_, _, ⟨T38, L38, kk38, n38⟩, -, X38, ⟨Lc38, hQ38, l38, y38, z38⟩, st38⟩ := X35.virtualBack hx (y := (⟨"com/example/haku/haku/eval/FocusedJudgments$Judged", "characters", "()J"⟩ : MethodName)) (z := (⟨"com/example/haku/haku/eval/FocusedJudgments$Judged", "characters", "()J"⟩ : MethodName)) hown (mvT hZ (hw _ (List.mem_of_getElem? (i := 30) rfl))) (mvT hZ (hw _ (List.mem_of_getElem? (i := 31) rfl))) (notFace_of_selects (args := #[]) (mvT hZ (hw _ (List.mem_of_getElem? (i := 33) rfl)))) (mvT hZ (hw _ (List.mem_of_getElem? (i := 33) rfl))) (mvT hZ (hw _ (List.mem_of_getElem? (i := 32) rfl))) (by decide) (backOf (W := 0) (rmH0 l Z a0 hw [] b32 b26 b29 c26 c29 T35.heap n0 Zn FS FE V_b26 V_b29) hZ (hw _ (List.mem_of_getElem? (i := 34) rfl)) (hw _ (List.mem_of_getElem? (i := 12) rfl)) (by decide) (by decide)) q38a q38c (g := (mkF m 252 #[.val (.int p0), .val (.long p1), .second, .val (.long p2), .second, .val (.long p3), .second, .val (.int (p0 &&& (3 : Int32))), .val (.int (p0 >>> ((2 : Int32) &&& 31))), .val (.int l0), .val (.int l1), .val (.int l2), .val (.int s0), .val (.int (s0 + l0)), .val (.int s1), .val (.int (s1 + l1)), .val (.int s2), .val (.int (s2 + l2)), .val (.ref b26), .val (.ref b29), .val (.long (0 : Int64)), .second, .val (.ref b32)] [(.ref b32)])) rfl (by rw [hml]; rfl) (Steps.refl _) (argsL := []) (rest := []) (lenOf pd_48322 rfl) rfl (by show 2 * 0 + _ ≤ _; exact Nat.le_of_eq rfl) (hb hby at_252) (fun _ _ => ⟨rfl, rfl, (by decide : 0 + 0 + 0 + 0 + 0 + 0 + 0 + 1 + 1 + 1 + 0 + 0 ≤ _), (by decide : 0 + 0 + 0 + 0 + 0 + 0 + 0 + 0 + 0 + 3 + 0 + 0 ≤ _)⟩)
    dsimp only [Pt.U, Pt.locs, Pt.cells, Pt.slots] at X38 l38 y38 z38 st38 hQ38
    subst l38 y38 z38
    obtain ⟨rfl, Nq38, hq38⟩ := hQ38
    have N38 := Fr.app N35 Nq38
    have k39_ : ∀ t, Steps p.tables e below (T38.setTop (mkF m 255 #[.val (.int p0), .val (.long p1), .second, .val (.long p2), .second, .val (.long p3), .second, .val (.int (p0 &&& (3 : Int32))), .val (.int (p0 >>> ((2 : Int32) &&& 31))), .val (.int l0), .val (.int l1), .val (.int l2), .val (.int s0), .val (.int (s0 + l0)), .val (.int s1), .val (.int (s1 + l1)), .val (.int s2), .val (.int (s2 + l2)), .val (.ref b26), .val (.ref b29), .val (.long (0 : Int64)), .second, .val (.ref b32)] [(.long (0 : Int64))])) t → Steps p.tables e below (s₁.setTop (mkF m 0 #[.val (.int p0), .val (.long p1), .second, .val (.long p2), .second, .val (.long p3), .second, .unset, .unset, .unset, .unset, .unset, .unset, .unset, .unset, .unset, .unset, .unset, .unset, .unset, .unset, .unset, .unset] [])) t := fun t q => k37_ t (st38.trans q)
    have k40_ : ∀ t, Steps p.tables e below (T38.setTop (mkF m 258 #[.val (.int p0), .val (.long p1), .second, .val (.long p2), .second, .val (.long p3), .second, .val (.int (p0 &&& (3 : Int32))), .val (.int (p0 >>> ((2 : Int32) &&& 31))), .val (.int l0), .val (.int l1), .val (.int l2), .val (.int s0), .val (.int (s0 + l0)), .val (.int s1), .val (.int (s1 + l1)), .val (.int s2), .val (.int (s2 + l2)), .val (.ref b26), .val (.ref b29), .val (.long (0 : Int64)), .second, .val (.ref b32)] [(.int (lcmpW (0 : Int64) (0 : Int64)))])) t → Steps p.tables e below (s₁.setTop (mkF m 0 #[.val (.int p0), .val (.long p1), .second, .val (.long p2), .second, .val (.long p3), .second, .unset, .unset, .unset, .unset, .unset, .unset, .unset, .unset, .unset, .unset, .unset, .unset, .unset, .unset, .unset, .unset] [])) t := by
      intro t q
      refine k39_ _ ?_
      show Steps p.tables e below (T38.setTop (mkF m 255 #[.val (.int p0), .val (.long p1), .second, .val (.long p2), .second, .val (.long p3), .second, .val (.int (p0 &&& (3 : Int32))), .val (.int (p0 >>> ((2 : Int32) &&& 31))), .val (.int l0), .val (.int l1), .val (.int l2), .val (.int s0), .val (.int (s0 + l0)), .val (.int s1), .val (.int (s1 + l1)), .val (.int s2), .val (.int (s2 + l2)), .val (.ref b26), .val (.ref b29), .val (.long (0 : Int64)), .second, .val (.ref b32)] [(.long (0 : Int64))])) _
      refine XS.lload X38.here hx rfl (hb hby at_255) rfl ?_
      show Steps p.tables e below (T38.setTop (mkF m 257 #[.val (.int p0), .val (.long p1), .second, .val (.long p2), .second, .val (.long p3), .second, .val (.int (p0 &&& (3 : Int32))), .val (.int (p0 >>> ((2 : Int32) &&& 31))), .val (.int l0), .val (.int l1), .val (.int l2), .val (.int s0), .val (.int (s0 + l0)), .val (.int s1), .val (.int (s1 + l1)), .val (.int s2), .val (.int (s2 + l2)), .val (.ref b26), .val (.ref b29), .val (.long (0 : Int64)), .second, .val (.ref b32)] [(.long (0 : Int64)), (.long (0 : Int64))])) _
      refine XS.lcmp X38.here hx rfl (hb hby at_257) rfl ?_
      show Steps p.tables e below (T38.setTop (mkF m 258 #[.val (.int p0), .val (.long p1), .second, .val (.long p2), .second, .val (.long p3), .second, .val (.int (p0 &&& (3 : Int32))), .val (.int (p0 >>> ((2 : Int32) &&& 31))), .val (.int l0), .val (.int l1), .val (.int l2), .val (.int s0), .val (.int (s0 + l0)), .val (.int s1), .val (.int (s1 + l1)), .val (.int s2), .val (.int (s2 + l2)), .val (.ref b26), .val (.ref b29), .val (.long (0 : Int64)), .second, .val (.ref b32)] [(.int (lcmpW (0 : Int64) (0 : Int64)))])) _
      exact q
    have k41_ : ∀ t, Steps p.tables e below (T38.setTop (mkF m 261 #[.val (.int p0), .val (.long p1), .second, .val (.long p2), .second, .val (.long p3), .second, .val (.int (p0 &&& (3 : Int32))), .val (.int (p0 >>> ((2 : Int32) &&& 31))), .val (.int l0), .val (.int l1), .val (.int l2), .val (.int s0), .val (.int (s0 + l0)), .val (.int s1), .val (.int (s1 + l1)), .val (.int s2), .val (.int (s2 + l2)), .val (.ref b26), .val (.ref b29), .val (.long (0 : Int64)), .second, .val (.ref b32)] [])) t → Steps p.tables e below (s₁.setTop (mkF m 0 #[.val (.int p0), .val (.long p1), .second, .val (.long p2), .second, .val (.long p3), .second, .unset, .unset, .unset, .unset, .unset, .unset, .unset, .unset, .unset, .unset, .unset, .unset, .unset, .unset, .unset, .unset] [])) t := by
      intro t q
      refine k40_ _ ?_
      show Steps p.tables e below (T38.setTop (mkF m 258 #[.val (.int p0), .val (.long p1), .second, .val (.long p2), .second, .val (.long p3), .second, .val (.int (p0 &&& (3 : Int32))), .val (.int (p0 >>> ((2 : Int32) &&& 31))), .val (.int l0), .val (.int l1), .val (.int l2), .val (.int s0), .val (.int (s0 + l0)), .val (.int s1), .val (.int (s1 + l1)), .val (.int s2), .val (.int (s2 + l2)), .val (.ref b26), .val (.ref b29), .val (.long (0 : Int64)), .second, .val (.ref b32)] [(.int (lcmpW (0 : Int64) (0 : Int64)))])) _
      refine XS.ifNo X38.here hx rfl (hb hby at_258) rfl ((if0 _ _).trans (teq ((lw_eq _ _).mpr rfl)).2) ?_
      show Steps p.tables e below (T38.setTop (mkF m 261 #[.val (.int p0), .val (.long p1), .second, .val (.long p2), .second, .val (.long p3), .second, .val (.int (p0 &&& (3 : Int32))), .val (.int (p0 >>> ((2 : Int32) &&& 31))), .val (.int l0), .val (.int l1), .val (.int l2), .val (.int s0), .val (.int (s0 + l0)), .val (.int s1), .val (.int (s1 + l1)), .val (.int s2), .val (.int (s2 + l2)), .val (.ref b26), .val (.ref b29), .val (.long (0 : Int64)), .second, .val (.ref b32)] [])) _
      exact q
    have k42_ : ∀ t, Steps p.tables e below (T38.setTop (mkF m 266 #[.val (.int p0), .val (.long p1), .second, .val (.long p2), .second, .val (.long p3), .second, .val (.int (p0 &&& (3 : Int32))), .val (.int (p0 >>> ((2 : Int32) &&& 31))), .val (.int l0), .val (.int l1), .val (.int l2), .val (.int s0), .val (.int (s0 + l0)), .val (.int s1), .val (.int (s1 + l1)), .val (.int s2), .val (.int (s2 + l2)), .val (.ref b26), .val (.ref b29), .val (.long (0 : Int64)), .second, .val (.ref b32)] [(.int (1 : Int32))])) t → Steps p.tables e below (s₁.setTop (mkF m 0 #[.val (.int p0), .val (.long p1), .second, .val (.long p2), .second, .val (.long p3), .second, .unset, .unset, .unset, .unset, .unset, .unset, .unset, .unset, .unset, .unset, .unset, .unset, .unset, .unset, .unset, .unset] [])) t := by
      intro t q
      refine k41_ _ ?_
      show Steps p.tables e below (T38.setTop (mkF m 261 #[.val (.int p0), .val (.long p1), .second, .val (.long p2), .second, .val (.long p3), .second, .val (.int (p0 &&& (3 : Int32))), .val (.int (p0 >>> ((2 : Int32) &&& 31))), .val (.int l0), .val (.int l1), .val (.int l2), .val (.int s0), .val (.int (s0 + l0)), .val (.int s1), .val (.int (s1 + l1)), .val (.int s2), .val (.int (s2 + l2)), .val (.ref b26), .val (.ref b29), .val (.long (0 : Int64)), .second, .val (.ref b32)] [])) _
      refine XS.iconst X38.here hx rfl (hb hby at_261) ?_
      show Steps p.tables e below (T38.setTop (mkF m 262 #[.val (.int p0), .val (.long p1), .second, .val (.long p2), .second, .val (.long p3), .second, .val (.int (p0 &&& (3 : Int32))), .val (.int (p0 >>> ((2 : Int32) &&& 31))), .val (.int l0), .val (.int l1), .val (.int l2), .val (.int s0), .val (.int (s0 + l0)), .val (.int s1), .val (.int (s1 + l1)), .val (.int s2), .val (.int (s2 + l2)), .val (.ref b26), .val (.ref b29), .val (.long (0 : Int64)), .second, .val (.ref b32)] [(.int (1 : Int32))])) _
      refine XS.goto X38.here hx rfl (pc0 := 262) (pc' := 266) rfl (hb hby at_262) (by decide) (by decide) ?_
      show Steps p.tables e below (T38.setTop (mkF m 266 #[.val (.int p0), .val (.long p1), .second, .val (.long p2), .second, .val (.long p3), .second, .val (.int (p0 &&& (3 : Int32))), .val (.int (p0 >>> ((2 : Int32) &&& 31))), .val (.int l0), .val (.int l1), .val (.int l2), .val (.int s0), .val (.int (s0 + l0)), .val (.int s1), .val (.int (s1 + l1)), .val (.int s2), .val (.int (s2 + l2)), .val (.ref b26), .val (.ref b29), .val (.long (0 : Int64)), .second, .val (.ref b32)] [(.int (1 : Int32))])) _
      exact q
    obtain ⟨fs, hr, hrun, hended, hW, hsame⟩ := X38.leave (v := some (.int (1 : Int32))) (fun h => by rw [Bd.returns] at h; cases h)
    refine ⟨_, _, pre0 _ (k42_ _ ?_), hrun, hended, _, _, rfl, ?_, ⟨_, rfl⟩, hW, hsame.mono (by decide) (by decide)⟩
    · show Steps p.tables e below (T38.setTop (mkF m 266 #[.val (.int p0), .val (.long p1), .second, .val (.long p2), .second, .val (.long p3), .second, .val (.int (p0 &&& (3 : Int32))), .val (.int (p0 >>> ((2 : Int32) &&& 31))), .val (.int l0), .val (.int l1), .val (.int l2), .val (.int s0), .val (.int (s0 + l0)), .val (.int s1), .val (.int (s1 + l1)), .val (.int s2), .val (.int (s2 + l2)), .val (.ref b26), .val (.ref b29), .val (.long (0 : Int64)), .second, .val (.ref b32)] [(.int (1 : Int32))])) _
      exact retN X38 hx (t := .boolean) Bd.returns (by simp) (hb hby at_266) hr
    · show Q0 Z p0 p1 p2 p3 h0 n0 _ T38.heap _
      exact ⟨rfl, N38⟩
  · have k43_ : ∀ t, Steps p.tables e below (T19.setTop (mkF m 100 #[.val (.int p0), .val (.long p1), .second, .val (.long p2), .second, .val (.long p3), .second, .val (.int (p0 &&& (3 : Int32))), .val (.int (p0 >>> ((2 : Int32) &&& 31))), .val (.int l0), .val (.int l1), .val (.int l2), .val (.int s0), .val (.int (s0 + l0)), .val (.int s1), .val (.int (s1 + l1)), .val (.int s2), .val (.int (s2 + l2)), .unset, .unset, .val (.long (0 : Int64)), .second, .unset] [])) t → Steps p.tables e below (s₁.setTop (mkF m 0 #[.val (.int p0), .val (.long p1), .second, .val (.long p2), .second, .val (.long p3), .second, .unset, .unset, .unset, .unset, .unset, .unset, .unset, .unset, .unset, .unset, .unset, .unset, .unset, .unset, .unset, .unset] [])) t := by
      intro t q
      refine k23_ _ ?_
      show Steps p.tables e below (T19.setTop (mkF m 84 #[.val (.int p0), .val (.long p1), .second, .val (.long p2), .second, .val (.long p3), .second, .val (.int (p0 &&& (3 : Int32))), .val (.int (p0 >>> ((2 : Int32) &&& 31))), .val (.int l0), .val (.int l1), .val (.int l2), .val (.int s0), .val (.int (s0 + l0)), .val (.int s1), .val (.int (s1 + l1)), .val (.int s2), .val (.int (s2 + l2)), .unset, .unset, .val (.long (0 : Int64)), .second, .unset] [(.int (p0 &&& (3 : Int32)))])) _
      refine XS.ifYes X19.here hx rfl (pc0 := 84) (pc' := 100) rfl (hb hby at_84) rfl ((if0 _ _).trans (feq hk0).2) (by decide) (by decide) ?_
      show Steps p.tables e below (T19.setTop (mkF m 100 #[.val (.int p0), .val (.long p1), .second, .val (.long p2), .second, .val (.long p3), .second, .val (.int (p0 &&& (3 : Int32))), .val (.int (p0 >>> ((2 : Int32) &&& 31))), .val (.int l0), .val (.int l1), .val (.int l2), .val (.int s0), .val (.int (s0 + l0)), .val (.int s1), .val (.int (s1 + l1)), .val (.int s2), .val (.int (s2 + l2)), .unset, .unset, .val (.long (0 : Int64)), .second, .unset] [])) _
      exact q
    have k44_ : ∀ t, Steps p.tables e below (T19.setTop (mkF m 103 #[.val (.int p0), .val (.long p1), .second, .val (.long p2), .second, .val (.long p3), .second, .val (.int (p0 &&& (3 : Int32))), .val (.int (p0 >>> ((2 : Int32) &&& 31))), .val (.int l0), .val (.int l1), .val (.int l2), .val (.int s0), .val (.int (s0 + l0)), .val (.int s1), .val (.int (s1 + l1)), .val (.int s2), .val (.int (s2 + l2)), .unset, .unset, .val (.long (0 : Int64)), .second, .unset] [(.int (1 : Int32)), (.int (p0 &&& (3 : Int32)))])) t → Steps p.tables e below (s₁.setTop (mkF m 0 #[.val (.int p0), .val (.long p1), .second, .val (.long p2), .second, .val (.long p3), .second, .unset, .unset, .unset, .unset, .unset, .unset, .unset, .unset, .unset, .unset, .unset, .unset, .unset, .unset, .unset, .unset] [])) t := by
      intro t q
      refine k43_ _ ?_
      show Steps p.tables e below (T19.setTop (mkF m 100 #[.val (.int p0), .val (.long p1), .second, .val (.long p2), .second, .val (.long p3), .second, .val (.int (p0 &&& (3 : Int32))), .val (.int (p0 >>> ((2 : Int32) &&& 31))), .val (.int l0), .val (.int l1), .val (.int l2), .val (.int s0), .val (.int (s0 + l0)), .val (.int s1), .val (.int (s1 + l1)), .val (.int s2), .val (.int (s2 + l2)), .unset, .unset, .val (.long (0 : Int64)), .second, .unset] [])) _
      refine XS.iload X19.here hx rfl (hb hby at_100) rfl ?_
      show Steps p.tables e below (T19.setTop (mkF m 102 #[.val (.int p0), .val (.long p1), .second, .val (.long p2), .second, .val (.long p3), .second, .val (.int (p0 &&& (3 : Int32))), .val (.int (p0 >>> ((2 : Int32) &&& 31))), .val (.int l0), .val (.int l1), .val (.int l2), .val (.int s0), .val (.int (s0 + l0)), .val (.int s1), .val (.int (s1 + l1)), .val (.int s2), .val (.int (s2 + l2)), .unset, .unset, .val (.long (0 : Int64)), .second, .unset] [(.int (p0 &&& (3 : Int32)))])) _
      refine XS.iconst X19.here hx rfl (hb hby at_102) ?_
      show Steps p.tables e below (T19.setTop (mkF m 103 #[.val (.int p0), .val (.long p1), .second, .val (.long p2), .second, .val (.long p3), .second, .val (.int (p0 &&& (3 : Int32))), .val (.int (p0 >>> ((2 : Int32) &&& 31))), .val (.int l0), .val (.int l1), .val (.int l2), .val (.int s0), .val (.int (s0 + l0)), .val (.int s1), .val (.int (s1 + l1)), .val (.int s2), .val (.int (s2 + l2)), .unset, .unset, .val (.long (0 : Int64)), .second, .unset] [(.int (1 : Int32)), (.int (p0 &&& (3 : Int32)))])) _
      exact q
    by_cases hk1 : (p0 &&& (3 : Int32)) = (1 : Int32)
    · have k45_ : ∀ t, Steps p.tables e below (T19.setTop (mkF m 106 #[.val (.int p0), .val (.long p1), .second, .val (.long p2), .second, .val (.long p3), .second, .val (.int (p0 &&& (3 : Int32))), .val (.int (p0 >>> ((2 : Int32) &&& 31))), .val (.int l0), .val (.int l1), .val (.int l2), .val (.int s0), .val (.int (s0 + l0)), .val (.int s1), .val (.int (s1 + l1)), .val (.int s2), .val (.int (s2 + l2)), .unset, .unset, .val (.long (0 : Int64)), .second, .unset] [])) t → Steps p.tables e below (s₁.setTop (mkF m 0 #[.val (.int p0), .val (.long p1), .second, .val (.long p2), .second, .val (.long p3), .second, .unset, .unset, .unset, .unset, .unset, .unset, .unset, .unset, .unset, .unset, .unset, .unset, .unset, .unset, .unset, .unset] [])) t := by
        intro t q
        refine k44_ _ ?_
        show Steps p.tables e below (T19.setTop (mkF m 103 #[.val (.int p0), .val (.long p1), .second, .val (.long p2), .second, .val (.long p3), .second, .val (.int (p0 &&& (3 : Int32))), .val (.int (p0 >>> ((2 : Int32) &&& 31))), .val (.int l0), .val (.int l1), .val (.int l2), .val (.int s0), .val (.int (s0 + l0)), .val (.int s1), .val (.int (s1 + l1)), .val (.int s2), .val (.int (s2 + l2)), .unset, .unset, .val (.long (0 : Int64)), .second, .unset] [(.int (1 : Int32)), (.int (p0 &&& (3 : Int32)))])) _
        refine XS.icmpNo X19.here hx rfl (hb hby at_103) rfl (teq hk1).2 ?_
        show Steps p.tables e below (T19.setTop (mkF m 106 #[.val (.int p0), .val (.long p1), .second, .val (.long p2), .second, .val (.long p3), .second, .val (.int (p0 &&& (3 : Int32))), .val (.int (p0 >>> ((2 : Int32) &&& 31))), .val (.int l0), .val (.int l1), .val (.int l2), .val (.int s0), .val (.int (s0 + l0)), .val (.int s1), .val (.int (s1 + l1)), .val (.int s2), .val (.int (s2 + l2)), .unset, .unset, .val (.long (0 : Int64)), .second, .unset] [])) _
        exact q
      have k46_ : ∀ t, Steps p.tables e below (T19.setTop (mkF m 107 #[.val (.int p0), .val (.long p1), .second, .val (.long p2), .second, .val (.long p3), .second, .val (.int (p0 &&& (3 : Int32))), .val (.int (p0 >>> ((2 : Int32) &&& 31))), .val (.int l0), .val (.int l1), .val (.int l2), .val (.int s0), .val (.int (s0 + l0)), .val (.int s1), .val (.int (s1 + l1)), .val (.int s2), .val (.int (s2 + l2)), .unset, .unset, .val (.long (0 : Int64)), .second, .unset] [(.int (1 : Int32))])) t → Steps p.tables e below (s₁.setTop (mkF m 0 #[.val (.int p0), .val (.long p1), .second, .val (.long p2), .second, .val (.long p3), .second, .unset, .unset, .unset, .unset, .unset, .unset, .unset, .unset, .unset, .unset, .unset, .unset, .unset, .unset, .unset, .unset] [])) t := by
        intro t q
        refine k45_ _ ?_
        show Steps p.tables e below (T19.setTop (mkF m 106 #[.val (.int p0), .val (.long p1), .second, .val (.long p2), .second, .val (.long p3), .second, .val (.int (p0 &&& (3 : Int32))), .val (.int (p0 >>> ((2 : Int32) &&& 31))), .val (.int l0), .val (.int l1), .val (.int l2), .val (.int s0), .val (.int (s0 + l0)), .val (.int s1), .val (.int (s1 + l1)), .val (.int s2), .val (.int (s2 + l2)), .unset, .unset, .val (.long (0 : Int64)), .second, .unset] [])) _
        refine XS.iconst X19.here hx rfl (hb hby at_106) ?_
        show Steps p.tables e below (T19.setTop (mkF m 107 #[.val (.int p0), .val (.long p1), .second, .val (.long p2), .second, .val (.long p3), .second, .val (.int (p0 &&& (3 : Int32))), .val (.int (p0 >>> ((2 : Int32) &&& 31))), .val (.int l0), .val (.int l1), .val (.int l2), .val (.int s0), .val (.int (s0 + l0)), .val (.int s1), .val (.int (s1 + l1)), .val (.int s2), .val (.int (s2 + l2)), .unset, .unset, .val (.long (0 : Int64)), .second, .unset] [(.int (1 : Int32))])) _
        exact q
      obtain ⟨T47, h47, c47, X47, e47, E47, A47, st47⟩ := newP X19 hx hZ (hw _ (List.mem_of_getElem? (i := 9) rfl)) hq19 (g := (mkF m 107 #[.val (.int p0), .val (.long p1), .second, .val (.long p2), .second, .val (.long p3), .second, .val (.int (p0 &&& (3 : Int32))), .val (.int (p0 >>> ((2 : Int32) &&& 31))), .val (.int l0), .val (.int l1), .val (.int l2), .val (.int s0), .val (.int (s0 + l0)), .val (.int s1), .val (.int (s1 + l1)), .val (.int s2), .val (.int (s2 + l2)), .unset, .unset, .val (.long (0 : Int64)), .second, .unset] [(.int (1 : Int32))])) rfl (hb hby at_107) rfl (by decide) (cap := 1) (by decide) (by decide) (by decide) (by decide)
      obtain ⟨b47, g47⟩ : ∃ z, z = h0.size := ⟨_, rfl⟩
      rw [← g47] at A47 st47
      have k48_ : ∀ t, Steps p.tables e below (T47.setTop (mkF m 109 #[.val (.int p0), .val (.long p1), .second, .val (.long p2), .second, .val (.long p3), .second, .val (.int (p0 &&& (3 : Int32))), .val (.int (p0 >>> ((2 : Int32) &&& 31))), .val (.int l0), .val (.int l1), .val (.int l2), .val (.int s0), .val (.int (s0 + l0)), .val (.int s1), .val (.int (s1 + l1)), .val (.int s2), .val (.int (s2 + l2)), .unset, .unset, .val (.long (0 : Int64)), .second, .unset] [(.ref b47)])) t → Steps p.tables e below (s₁.setTop (mkF m 0 #[.val (.int p0), .val (.long p1), .second, .val (.long p2), .second, .val (.long p3), .second, .unset, .unset, .unset, .unset, .unset, .unset, .unset, .unset, .unset, .unset, .unset, .unset, .unset, .unset, .unset, .unset] [])) t := fun t q => k46_ t (st47 t q)
      have g_b47 : n0 ≤ b47 := Nat.le_trans Zn (Nat.le_of_eq g47.symm)
      replace Zn := Nat.le_trans Zn E47.1
      have V_b47 : Arv Z h47 b47 c47 .int (1 : Int32) [(.int (0 : Int32))] (.int (0 : Int32)) := (Arv.new A47 (by decide)).pad (pad_rep [] (.int (0 : Int32)) 1)
      have k49_ : ∀ t, Steps p.tables e below (T47.setTop (mkF m 113 #[.val (.int p0), .val (.long p1), .second, .val (.long p2), .second, .val (.long p3), .second, .val (.int (p0 &&& (3 : Int32))), .val (.int (p0 >>> ((2 : Int32) &&& 31))), .val (.int l0), .val (.int l1), .val (.int l2), .val (.int s0), .val (.int (s0 + l0)), .val (.int s1), .val (.int (s1 + l1)), .val (.int s2), .val (.int (s2 + l2)), .unset, .unset, .val (.long (0 : Int64)), .second, .unset] [(.int s0), (.int (0 : Int32)), (.ref b47), (.ref b47)])) t → Steps p.tables e below (s₁.setTop (mkF m 0 #[.val (.int p0), .val (.long p1), .second, .val (.long p2), .second, .val (.long p3), .second, .unset, .unset, .unset, .unset, .unset, .unset, .unset, .unset, .unset, .unset, .unset, .unset, .unset, .unset, .unset, .unset] [])) t := by
        intro t q
        refine k48_ _ ?_
        show Steps p.tables e below (T47.setTop (mkF m 109 #[.val (.int p0), .val (.long p1), .second, .val (.long p2), .second, .val (.long p3), .second, .val (.int (p0 &&& (3 : Int32))), .val (.int (p0 >>> ((2 : Int32) &&& 31))), .val (.int l0), .val (.int l1), .val (.int l2), .val (.int s0), .val (.int (s0 + l0)), .val (.int s1), .val (.int (s1 + l1)), .val (.int s2), .val (.int (s2 + l2)), .unset, .unset, .val (.long (0 : Int64)), .second, .unset] [(.ref b47)])) _
        refine XS.dup X47.here hx rfl (hb hby at_109) rfl rfl ?_
        show Steps p.tables e below (T47.setTop (mkF m 110 #[.val (.int p0), .val (.long p1), .second, .val (.long p2), .second, .val (.long p3), .second, .val (.int (p0 &&& (3 : Int32))), .val (.int (p0 >>> ((2 : Int32) &&& 31))), .val (.int l0), .val (.int l1), .val (.int l2), .val (.int s0), .val (.int (s0 + l0)), .val (.int s1), .val (.int (s1 + l1)), .val (.int s2), .val (.int (s2 + l2)), .unset, .unset, .val (.long (0 : Int64)), .second, .unset] [(.ref b47), (.ref b47)])) _
        refine XS.iconst X47.here hx rfl (hb hby at_110) ?_
        show Steps p.tables e below (T47.setTop (mkF m 111 #[.val (.int p0), .val (.long p1), .second, .val (.long p2), .second, .val (.long p3), .second, .val (.int (p0 &&& (3 : Int32))), .val (.int (p0 >>> ((2 : Int32) &&& 31))), .val (.int l0), .val (.int l1), .val (.int l2), .val (.int s0), .val (.int (s0 + l0)), .val (.int s1), .val (.int (s1 + l1)), .val (.int s2), .val (.int (s2 + l2)), .unset, .unset, .val (.long (0 : Int64)), .second, .unset] [(.int (0 : Int32)), (.ref b47), (.ref b47)])) _
        refine XS.iload X47.here hx rfl (hb hby at_111) rfl ?_
        show Steps p.tables e below (T47.setTop (mkF m 113 #[.val (.int p0), .val (.long p1), .second, .val (.long p2), .second, .val (.long p3), .second, .val (.int (p0 &&& (3 : Int32))), .val (.int (p0 >>> ((2 : Int32) &&& 31))), .val (.int l0), .val (.int l1), .val (.int l2), .val (.int s0), .val (.int (s0 + l0)), .val (.int s1), .val (.int (s1 + l1)), .val (.int s2), .val (.int (s2 + l2)), .unset, .unset, .val (.long (0 : Int64)), .second, .unset] [(.int s0), (.int (0 : Int32)), (.ref b47), (.ref b47)])) _
        exact q
      obtain ⟨cl50, Ar50, q50, S50, M50, H50, G50⟩ := V_b47
      obtain ⟨T51, h51, X51, e51, W51, st51⟩ := stI X47 hx hZ e47 Ar50 (j := (0 : Int32)) (inb_of S50 ⟨by decide, by decide⟩) (g := (mkF m 113 #[.val (.int p0), .val (.long p1), .second, .val (.long p2), .second, .val (.long p3), .second, .val (.int (p0 &&& (3 : Int32))), .val (.int (p0 >>> ((2 : Int32) &&& 31))), .val (.int l0), .val (.int l1), .val (.int l2), .val (.int s0), .val (.int (s0 + l0)), .val (.int s1), .val (.int (s1 + l1)), .val (.int s2), .val (.int (s2 + l2)), .unset, .unset, .val (.long (0 : Int64)), .second, .unset] [(.int s0), (.int (0 : Int32)), (.ref b47), (.ref b47)])) rfl rfl (hb hby at_113)
      have k52_ : ∀ t, Steps p.tables e below (T51.setTop (mkF m 114 #[.val (.int p0), .val (.long p1), .second, .val (.long p2), .second, .val (.long p3), .second, .val (.int (p0 &&& (3 : Int32))), .val (.int (p0 >>> ((2 : Int32) &&& 31))), .val (.int l0), .val (.int l1), .val (.int l2), .val (.int s0), .val (.int (s0 + l0)), .val (.int s1), .val (.int (s1 + l1)), .val (.int s2), .val (.int (s2 + l2)), .unset, .unset, .val (.long (0 : Int64)), .second, .unset] [(.ref b47)])) t → Steps p.tables e below (s₁.setTop (mkF m 0 #[.val (.int p0), .val (.long p1), .second, .val (.long p2), .second, .val (.long p3), .second, .unset, .unset, .unset, .unset, .unset, .unset, .unset, .unset, .unset, .unset, .unset, .unset, .unset, .unset, .unset, .unset] [])) t := fun t q => k49_ t (st51 t q)
      have N51 := Fr.snoc X51 N19 g_b47
      replace Zn := Nat.le_trans Zn (Keep.of_wr W51).1
      have V_b47 : Arv Z h51 b47 c47 .int (1 : Int32) [(.int s0)] (.int (0 : Int32)) := Arv.set Ar50 q50 S50 M50 H50 G50 rfl W51 0 rfl (Nat.le_of_ble_eq_true rfl)
      have k53_ : ∀ t, Steps p.tables e below (T51.setTop (mkF m 117 #[.val (.int p0), .val (.long p1), .second, .val (.long p2), .second, .val (.long p3), .second, .val (.int (p0 &&& (3 : Int32))), .val (.int (p0 >>> ((2 : Int32) &&& 31))), .val (.int l0), .val (.int l1), .val (.int l2), .val (.int s0), .val (.int (s0 + l0)), .val (.int s1), .val (.int (s1 + l1)), .val (.int s2), .val (.int (s2 + l2)), .val (.ref b47), .unset, .val (.long (0 : Int64)), .second, .unset] [(.int (1 : Int32))])) t → Steps p.tables e below (s₁.setTop (mkF m 0 #[.val (.int p0), .val (.long p1), .second, .val (.long p2), .second, .val (.long p3), .second, .unset, .unset, .unset, .unset, .unset, .unset, .unset, .unset, .unset, .unset, .unset, .unset, .unset, .unset, .unset, .unset] [])) t := by
        intro t q
        refine k52_ _ ?_
        show Steps p.tables e below (T51.setTop (mkF m 114 #[.val (.int p0), .val (.long p1), .second, .val (.long p2), .second, .val (.long p3), .second, .val (.int (p0 &&& (3 : Int32))), .val (.int (p0 >>> ((2 : Int32) &&& 31))), .val (.int l0), .val (.int l1), .val (.int l2), .val (.int s0), .val (.int (s0 + l0)), .val (.int s1), .val (.int (s1 + l1)), .val (.int s2), .val (.int (s2 + l2)), .unset, .unset, .val (.long (0 : Int64)), .second, .unset] [(.ref b47)])) _
        refine XS.astore X51.here hx rfl (hb hby at_114) rfl rfl (l' := #[.val (.int p0), .val (.long p1), .second, .val (.long p2), .second, .val (.long p3), .second, .val (.int (p0 &&& (3 : Int32))), .val (.int (p0 >>> ((2 : Int32) &&& 31))), .val (.int l0), .val (.int l1), .val (.int l2), .val (.int s0), .val (.int (s0 + l0)), .val (.int s1), .val (.int (s1 + l1)), .val (.int s2), .val (.int (s2 + l2)), .val (.ref b47), .unset, .val (.long (0 : Int64)), .second, .unset]) rfl ?_
        show Steps p.tables e below (T51.setTop (mkF m 116 #[.val (.int p0), .val (.long p1), .second, .val (.long p2), .second, .val (.long p3), .second, .val (.int (p0 &&& (3 : Int32))), .val (.int (p0 >>> ((2 : Int32) &&& 31))), .val (.int l0), .val (.int l1), .val (.int l2), .val (.int s0), .val (.int (s0 + l0)), .val (.int s1), .val (.int (s1 + l1)), .val (.int s2), .val (.int (s2 + l2)), .val (.ref b47), .unset, .val (.long (0 : Int64)), .second, .unset] [])) _
        refine XS.iconst X51.here hx rfl (hb hby at_116) ?_
        show Steps p.tables e below (T51.setTop (mkF m 117 #[.val (.int p0), .val (.long p1), .second, .val (.long p2), .second, .val (.long p3), .second, .val (.int (p0 &&& (3 : Int32))), .val (.int (p0 >>> ((2 : Int32) &&& 31))), .val (.int l0), .val (.int l1), .val (.int l2), .val (.int s0), .val (.int (s0 + l0)), .val (.int s1), .val (.int (s1 + l1)), .val (.int s2), .val (.int (s2 + l2)), .val (.ref b47), .unset, .val (.long (0 : Int64)), .second, .unset] [(.int (1 : Int32))])) _
        exact q
      obtain ⟨T54, h54, c54, X54, e54, E54, A54, st54⟩ := newP X51 hx hZ (hw _ (List.mem_of_getElem? (i := 9) rfl)) e51 (g := (mkF m 117 #[.val (.int p0), .val (.long p1), .second, .val (.long p2), .second, .val (.long p3), .second, .val (.int (p0 &&& (3 : Int32))), .val (.int (p0 >>> ((2 : Int32) &&& 31))), .val (.int l0), .val (.int l1), .val (.int l2), .val (.int s0), .val (.int (s0 + l0)), .val (.int s1), .val (.int (s1 + l1)), .val (.int s2), .val (.int (s2 + l2)), .val (.ref b47), .unset, .val (.long (0 : Int64)), .second, .unset] [(.int (1 : Int32))])) rfl (hb hby at_117) rfl (by decide) (cap := 1) (by decide) (by decide) (by decide) (by decide)
      obtain ⟨b54, g54⟩ : ∃ z, z = h51.size := ⟨_, rfl⟩
      rw [← g54] at A54 st54
      have k55_ : ∀ t, Steps p.tables e below (T54.setTop (mkF m 119 #[.val (.int p0), .val (.long p1), .second, .val (.long p2), .second, .val (.long p3), .second, .val (.int (p0 &&& (3 : Int32))), .val (.int (p0 >>> ((2 : Int32) &&& 31))), .val (.int l0), .val (.int l1), .val (.int l2), .val (.int s0), .val (.int (s0 + l0)), .val (.int s1), .val (.int (s1 + l1)), .val (.int s2), .val (.int (s2 + l2)), .val (.ref b47), .unset, .val (.long (0 : Int64)), .second, .unset] [(.ref b54)])) t → Steps p.tables e below (s₁.setTop (mkF m 0 #[.val (.int p0), .val (.long p1), .second, .val (.long p2), .second, .val (.long p3), .second, .unset, .unset, .unset, .unset, .unset, .unset, .unset, .unset, .unset, .unset, .unset, .unset, .unset, .unset, .unset, .unset] [])) t := fun t q => k53_ t (st54 t q)
      have ne_b47_b54 : b47 ≠ b54 := Nat.ne_of_lt (Nat.lt_of_lt_of_le V_b47.lt (Nat.le_of_eq g54.symm))
      have g_b54 : n0 ≤ b54 := Nat.le_trans Zn (Nat.le_of_eq g54.symm)
      replace Zn := Nat.le_trans Zn E54.1
      replace V_b47 := V_b47.ext E54
      have V_b54 : Arv Z h54 b54 c54 .int (1 : Int32) [(.int (0 : Int32))] (.int (0 : Int32)) := (Arv.new A54 (by decide)).pad (pad_rep [] (.int (0 : Int32)) 1)
      have k56_ : ∀ t, Steps p.tables e below (T54.setTop (mkF m 123 #[.val (.int p0), .val (.long p1), .second, .val (.long p2), .second, .val (.long p3), .second, .val (.int (p0 &&& (3 : Int32))), .val (.int (p0 >>> ((2 : Int32) &&& 31))), .val (.int l0), .val (.int l1), .val (.int l2), .val (.int s0), .val (.int (s0 + l0)), .val (.int s1), .val (.int (s1 + l1)), .val (.int s2), .val (.int (s2 + l2)), .val (.ref b47), .unset, .val (.long (0 : Int64)), .second, .unset] [(.int (s0 + l0)), (.int (0 : Int32)), (.ref b54), (.ref b54)])) t → Steps p.tables e below (s₁.setTop (mkF m 0 #[.val (.int p0), .val (.long p1), .second, .val (.long p2), .second, .val (.long p3), .second, .unset, .unset, .unset, .unset, .unset, .unset, .unset, .unset, .unset, .unset, .unset, .unset, .unset, .unset, .unset, .unset] [])) t := by
        intro t q
        refine k55_ _ ?_
        show Steps p.tables e below (T54.setTop (mkF m 119 #[.val (.int p0), .val (.long p1), .second, .val (.long p2), .second, .val (.long p3), .second, .val (.int (p0 &&& (3 : Int32))), .val (.int (p0 >>> ((2 : Int32) &&& 31))), .val (.int l0), .val (.int l1), .val (.int l2), .val (.int s0), .val (.int (s0 + l0)), .val (.int s1), .val (.int (s1 + l1)), .val (.int s2), .val (.int (s2 + l2)), .val (.ref b47), .unset, .val (.long (0 : Int64)), .second, .unset] [(.ref b54)])) _
        refine XS.dup X54.here hx rfl (hb hby at_119) rfl rfl ?_
        show Steps p.tables e below (T54.setTop (mkF m 120 #[.val (.int p0), .val (.long p1), .second, .val (.long p2), .second, .val (.long p3), .second, .val (.int (p0 &&& (3 : Int32))), .val (.int (p0 >>> ((2 : Int32) &&& 31))), .val (.int l0), .val (.int l1), .val (.int l2), .val (.int s0), .val (.int (s0 + l0)), .val (.int s1), .val (.int (s1 + l1)), .val (.int s2), .val (.int (s2 + l2)), .val (.ref b47), .unset, .val (.long (0 : Int64)), .second, .unset] [(.ref b54), (.ref b54)])) _
        refine XS.iconst X54.here hx rfl (hb hby at_120) ?_
        show Steps p.tables e below (T54.setTop (mkF m 121 #[.val (.int p0), .val (.long p1), .second, .val (.long p2), .second, .val (.long p3), .second, .val (.int (p0 &&& (3 : Int32))), .val (.int (p0 >>> ((2 : Int32) &&& 31))), .val (.int l0), .val (.int l1), .val (.int l2), .val (.int s0), .val (.int (s0 + l0)), .val (.int s1), .val (.int (s1 + l1)), .val (.int s2), .val (.int (s2 + l2)), .val (.ref b47), .unset, .val (.long (0 : Int64)), .second, .unset] [(.int (0 : Int32)), (.ref b54), (.ref b54)])) _
        refine XS.iload X54.here hx rfl (hb hby at_121) rfl ?_
        show Steps p.tables e below (T54.setTop (mkF m 123 #[.val (.int p0), .val (.long p1), .second, .val (.long p2), .second, .val (.long p3), .second, .val (.int (p0 &&& (3 : Int32))), .val (.int (p0 >>> ((2 : Int32) &&& 31))), .val (.int l0), .val (.int l1), .val (.int l2), .val (.int s0), .val (.int (s0 + l0)), .val (.int s1), .val (.int (s1 + l1)), .val (.int s2), .val (.int (s2 + l2)), .val (.ref b47), .unset, .val (.long (0 : Int64)), .second, .unset] [(.int (s0 + l0)), (.int (0 : Int32)), (.ref b54), (.ref b54)])) _
        exact q
      obtain ⟨cl57, Ar57, q57, S57, M57, H57, G57⟩ := V_b54
      obtain ⟨T58, h58, X58, e58, W58, st58⟩ := stI X54 hx hZ e54 Ar57 (j := (0 : Int32)) (inb_of S57 ⟨by decide, by decide⟩) (g := (mkF m 123 #[.val (.int p0), .val (.long p1), .second, .val (.long p2), .second, .val (.long p3), .second, .val (.int (p0 &&& (3 : Int32))), .val (.int (p0 >>> ((2 : Int32) &&& 31))), .val (.int l0), .val (.int l1), .val (.int l2), .val (.int s0), .val (.int (s0 + l0)), .val (.int s1), .val (.int (s1 + l1)), .val (.int s2), .val (.int (s2 + l2)), .val (.ref b47), .unset, .val (.long (0 : Int64)), .second, .unset] [(.int (s0 + l0)), (.int (0 : Int32)), (.ref b54), (.ref b54)])) rfl rfl (hb hby at_123)
      have k59_ : ∀ t, Steps p.tables e below (T58.setTop (mkF m 124 #[.val (.int p0), .val (.long p1), .second, .val (.long p2), .second, .val (.long p3), .second, .val (.int (p0 &&& (3 : Int32))), .val (.int (p0 >>> ((2 : Int32) &&& 31))), .val (.int l0), .val (.int l1), .val (.int l2), .val (.int s0), .val (.int (s0 + l0)), .val (.int s1), .val (.int (s1 + l1)), .val (.int s2), .val (.int (s2 + l2)), .val (.ref b47), .unset, .val (.long (0 : Int64)), .second, .unset] [(.ref b54)])) t → Steps p.tables e below (s₁.setTop (mkF m 0 #[.val (.int p0), .val (.long p1), .second, .val (.long p2), .second, .val (.long p3), .second, .unset, .unset, .unset, .unset, .unset, .unset, .unset, .unset, .unset, .unset, .unset, .unset, .unset, .unset, .unset, .unset] [])) t := fun t q => k56_ t (st58 t q)
      have N58 := Fr.snoc X58 N51 g_b54
      replace Zn := Nat.le_trans Zn (Keep.of_wr W58).1
      replace V_b47 := V_b47.other W58 ne_b47_b54
      have V_b54 : Arv Z h58 b54 c54 .int (1 : Int32) [(.int (s0 + l0))] (.int (0 : Int32)) := Arv.set Ar57 q57 S57 M57 H57 G57 rfl W58 0 rfl (Nat.le_of_ble_eq_true rfl)
      have k60_ : ∀ t, Steps p.tables e below (T58.setTop (mkF m 235 #[.val (.int p0), .val (.long p1), .second, .val (.long p2), .second, .val (.long p3), .second, .val (.int (p0 &&& (3 : Int32))), .val (.int (p0 >>> ((2 : Int32) &&& 31))), .val (.int l0), .val (.int l1), .val (.int l2), .val (.int s0), .val (.int (s0 + l0)), .val (.int s1), .val (.int (s1 + l1)), .val (.int s2), .val (.int (s2 + l2)), .val (.ref b47), .val (.ref b54), .val (.long (l0.toInt64)), .second, .unset] [])) t → Steps p.tables e below (s₁.setTop (mkF m 0 #[.val (.int p0), .val (.long p1), .second, .val (.long p2), .second, .val (.long p3), .second, .unset, .unset, .unset, .unset, .unset, .unset, .unset, .unset, .unset, .unset, .unset, .unset, .unset, .unset, .unset, .unset] [])) t := by
        intro t q
        refine k59_ _ ?_
        show Steps p.tables e below (T58.setTop (mkF m 124 #[.val (.int p0), .val (.long p1), .second, .val (.long p2), .second, .val (.long p3), .second, .val (.int (p0 &&& (3 : Int32))), .val (.int (p0 >>> ((2 : Int32) &&& 31))), .val (.int l0), .val (.int l1), .val (.int l2), .val (.int s0), .val (.int (s0 + l0)), .val (.int s1), .val (.int (s1 + l1)), .val (.int s2), .val (.int (s2 + l2)), .val (.ref b47), .unset, .val (.long (0 : Int64)), .second, .unset] [(.ref b54)])) _
        refine XS.astore X58.here hx rfl (hb hby at_124) rfl rfl (l' := #[.val (.int p0), .val (.long p1), .second, .val (.long p2), .second, .val (.long p3), .second, .val (.int (p0 &&& (3 : Int32))), .val (.int (p0 >>> ((2 : Int32) &&& 31))), .val (.int l0), .val (.int l1), .val (.int l2), .val (.int s0), .val (.int (s0 + l0)), .val (.int s1), .val (.int (s1 + l1)), .val (.int s2), .val (.int (s2 + l2)), .val (.ref b47), .val (.ref b54), .val (.long (0 : Int64)), .second, .unset]) rfl ?_
        show Steps p.tables e below (T58.setTop (mkF m 126 #[.val (.int p0), .val (.long p1), .second, .val (.long p2), .second, .val (.long p3), .second, .val (.int (p0 &&& (3 : Int32))), .val (.int (p0 >>> ((2 : Int32) &&& 31))), .val (.int l0), .val (.int l1), .val (.int l2), .val (.int s0), .val (.int (s0 + l0)), .val (.int s1), .val (.int (s1 + l1)), .val (.int s2), .val (.int (s2 + l2)), .val (.ref b47), .val (.ref b54), .val (.long (0 : Int64)), .second, .unset] [])) _
        refine XS.iload X58.here hx rfl (hb hby at_126) rfl ?_
        show Steps p.tables e below (T58.setTop (mkF m 128 #[.val (.int p0), .val (.long p1), .second, .val (.long p2), .second, .val (.long p3), .second, .val (.int (p0 &&& (3 : Int32))), .val (.int (p0 >>> ((2 : Int32) &&& 31))), .val (.int l0), .val (.int l1), .val (.int l2), .val (.int s0), .val (.int (s0 + l0)), .val (.int s1), .val (.int (s1 + l1)), .val (.int s2), .val (.int (s2 + l2)), .val (.ref b47), .val (.ref b54), .val (.long (0 : Int64)), .second, .unset] [(.int l0)])) _
        refine XS.i2l X58.here hx rfl (hb hby at_128) rfl ?_
        show Steps p.tables e below (T58.setTop (mkF m 129 #[.val (.int p0), .val (.long p1), .second, .val (.long p2), .second, .val (.long p3), .second, .val (.int (p0 &&& (3 : Int32))), .val (.int (p0 >>> ((2 : Int32) &&& 31))), .val (.int l0), .val (.int l1), .val (.int l2), .val (.int s0), .val (.int (s0 + l0)), .val (.int s1), .val (.int (s1 + l1)), .val (.int s2), .val (.int (s2 + l2)), .val (.ref b47), .val (.ref b54), .val (.long (0 : Int64)), .second, .unset] [(.long (l0.toInt64))])) _
        refine XS.lstore X58.here hx rfl (hb hby at_129) rfl (l' := #[.val (.int p0), .val (.long p1), .second, .val (.long p2), .second, .val (.long p3), .second, .val (.int (p0 &&& (3 : Int32))), .val (.int (p0 >>> ((2 : Int32) &&& 31))), .val (.int l0), .val (.int l1), .val (.int l2), .val (.int s0), .val (.int (s0 + l0)), .val (.int s1), .val (.int (s1 + l1)), .val (.int s2), .val (.int (s2 + l2)), .val (.ref b47), .val (.ref b54), .val (.long (l0.toInt64)), .second, .unset]) rfl ?_
        show Steps p.tables e below (T58.setTop (mkF m 131 #[.val (.int p0), .val (.long p1), .second, .val (.long p2), .second, .val (.long p3), .second, .val (.int (p0 &&& (3 : Int32))), .val (.int (p0 >>> ((2 : Int32) &&& 31))), .val (.int l0), .val (.int l1), .val (.int l2), .val (.int s0), .val (.int (s0 + l0)), .val (.int s1), .val (.int (s1 + l1)), .val (.int s2), .val (.int (s2 + l2)), .val (.ref b47), .val (.ref b54), .val (.long (l0.toInt64)), .second, .unset] [])) _
        refine XS.goto X58.here hx rfl (pc0 := 131) (pc' := 235) rfl (hb hby at_131) (by decide) (by decide) ?_
        show Steps p.tables e below (T58.setTop (mkF m 235 #[.val (.int p0), .val (.long p1), .second, .val (.long p2), .second, .val (.long p3), .second, .val (.int (p0 &&& (3 : Int32))), .val (.int (p0 >>> ((2 : Int32) &&& 31))), .val (.int l0), .val (.int l1), .val (.int l2), .val (.int s0), .val (.int (s0 + l0)), .val (.int s1), .val (.int (s1 + l1)), .val (.int s2), .val (.int (s2 + l2)), .val (.ref b47), .val (.ref b54), .val (.long (l0.toInt64)), .second, .unset] [])) _
        exact q
      obtain ⟨T61, h61, X61, e61, E61, A61, D61, -, st61⟩ := newO X58 hx hZ hown (hw _ (List.mem_of_getElem? (i := 10) rfl)) (hw _ (List.mem_of_getElem? (i := 11) rfl)) (hw _ (List.mem_of_getElem? (i := 12) rfl)) e58 (g := (mkF m 235 #[.val (.int p0), .val (.long p1), .second, .val (.long p2), .second, .val (.long p3), .second, .val (.int (p0 &&& (3 : Int32))), .val (.int (p0 >>> ((2 : Int32) &&& 31))), .val (.int l0), .val (.int l1), .val (.int l2), .val (.int s0), .val (.int (s0 + l0)), .val (.int s1), .val (.int (s1 + l1)), .val (.int s2), .val (.int (s2 + l2)), .val (.ref b47), .val (.ref b54), .val (.long (l0.toInt64)), .second, .unset] [])) rfl (hb hby at_235) (by decide) (by decide)
      obtain ⟨b61, g61⟩ : ∃ z, z = h58.size := ⟨_, rfl⟩
      rw [← g61] at A61 D61 st61
      have k62_ : ∀ t, Steps p.tables e below (T61.setTop (mkF m 238 #[.val (.int p0), .val (.long p1), .second, .val (.long p2), .second, .val (.long p3), .second, .val (.int (p0 &&& (3 : Int32))), .val (.int (p0 >>> ((2 : Int32) &&& 31))), .val (.int l0), .val (.int l1), .val (.int l2), .val (.int s0), .val (.int (s0 + l0)), .val (.int s1), .val (.int (s1 + l1)), .val (.int s2), .val (.int (s2 + l2)), .val (.ref b47), .val (.ref b54), .val (.long (l0.toInt64)), .second, .unset] [(.ref b61)])) t → Steps p.tables e below (s₁.setTop (mkF m 0 #[.val (.int p0), .val (.long p1), .second, .val (.long p2), .second, .val (.long p3), .second, .unset, .unset, .unset, .unset, .unset, .unset, .unset, .unset, .unset, .unset, .unset, .unset, .unset, .unset, .unset, .unset] [])) t := fun t q => k60_ t (st61 t q)
      have ne_b47_b61 : b47 ≠ b61 := Nat.ne_of_lt (Nat.lt_of_lt_of_le V_b47.lt (Nat.le_of_eq g61.symm))
      have ne_b54_b61 : b54 ≠ b61 := Nat.ne_of_lt (Nat.lt_of_lt_of_le V_b54.lt (Nat.le_of_eq g61.symm))
      have g_b61 : n0 ≤ b61 := Nat.le_trans Zn (Nat.le_of_eq g61.symm)
      replace Zn := Nat.le_trans Zn E61.1
      replace V_b47 := V_b47.ext E61
      replace V_b54 := V_b54.ext E61
      have F_line : Fld Z h61 b61 "com/example/haku/haku/eval/FocusedJudgments$Judged" "line" "I" (.int (0 : Int32)) := D61 (Or.inr (hw _ (List.mem_of_getElem? (i := 25) rfl))) (ty := .int) (by decide)
      have F_starts : Fld Z h61 b61 "com/example/haku/haku/eval/FocusedJudgments$Judged" "starts" "[I" .null := D61 (Or.inr (hw _ (List.mem_of_getElem? (i := 27) rfl))) (ty := (.array .int)) (by decide)
      have F_ends : Fld Z h61 b61 "com/example/haku/haku/eval/FocusedJudgments$Judged" "ends" "[I" .null := D61 (Or.inr (hw _ (List.mem_of_getElem? (i := 29) rfl))) (ty := (.array .int)) (by decide)
      have k63_ : ∀ t, Steps p.tables e below (T61.setTop (mkF m 245 #[.val (.int p0), .val (.long p1), .second, .val (.long p2), .second, .val (.long p3), .second, .val (.int (p0 &&& (3 : Int32))), .val (.int (p0 >>> ((2 : Int32) &&& 31))), .val (.int l0), .val (.int l1), .val (.int l2), .val (.int s0), .val (.int (s0 + l0)), .val (.int s1), .val (.int (s1 + l1)), .val (.int s2), .val (.int (s2 + l2)), .val (.ref b47), .val (.ref b54), .val (.long (l0.toInt64)), .second, .unset] [(.ref b54), (.ref b47), (.int (p0 >>> ((2 : Int32) &&& 31))), (.ref b61), (.ref b61)])) t → Steps p.tables e below (s₁.setTop (mkF m 0 #[.val (.int p0), .val (.long p1), .second, .val (.long p2), .second, .val (.long p3), .second, .unset, .unset, .unset, .unset, .unset, .unset, .unset, .unset, .unset, .unset, .unset, .unset, .unset, .unset, .unset, .unset] [])) t := by
        intro t q
        refine k62_ _ ?_
        show Steps p.tables e below (T61.setTop (mkF m 238 #[.val (.int p0), .val (.long p1), .second, .val (.long p2), .second, .val (.long p3), .second, .val (.int (p0 &&& (3 : Int32))), .val (.int (p0 >>> ((2 : Int32) &&& 31))), .val (.int l0), .val (.int l1), .val (.int l2), .val (.int s0), .val (.int (s0 + l0)), .val (.int s1), .val (.int (s1 + l1)), .val (.int s2), .val (.int (s2 + l2)), .val (.ref b47), .val (.ref b54), .val (.long (l0.toInt64)), .second, .unset] [(.ref b61)])) _
        refine XS.dup X61.here hx rfl (hb hby at_238) rfl rfl ?_
        show Steps p.tables e below (T61.setTop (mkF m 239 #[.val (.int p0), .val (.long p1), .second, .val (.long p2), .second, .val (.long p3), .second, .val (.int (p0 &&& (3 : Int32))), .val (.int (p0 >>> ((2 : Int32) &&& 31))), .val (.int l0), .val (.int l1), .val (.int l2), .val (.int s0), .val (.int (s0 + l0)), .val (.int s1), .val (.int (s1 + l1)), .val (.int s2), .val (.int (s2 + l2)), .val (.ref b47), .val (.ref b54), .val (.long (l0.toInt64)), .second, .unset] [(.ref b61), (.ref b61)])) _
        refine XS.iload X61.here hx rfl (hb hby at_239) rfl ?_
        show Steps p.tables e below (T61.setTop (mkF m 241 #[.val (.int p0), .val (.long p1), .second, .val (.long p2), .second, .val (.long p3), .second, .val (.int (p0 &&& (3 : Int32))), .val (.int (p0 >>> ((2 : Int32) &&& 31))), .val (.int l0), .val (.int l1), .val (.int l2), .val (.int s0), .val (.int (s0 + l0)), .val (.int s1), .val (.int (s1 + l1)), .val (.int s2), .val (.int (s2 + l2)), .val (.ref b47), .val (.ref b54), .val (.long (l0.toInt64)), .second, .unset] [(.int (p0 >>> ((2 : Int32) &&& 31))), (.ref b61), (.ref b61)])) _
        refine XS.aload X61.here hx rfl (hb hby at_241) rfl rfl ?_
        show Steps p.tables e below (T61.setTop (mkF m 243 #[.val (.int p0), .val (.long p1), .second, .val (.long p2), .second, .val (.long p3), .second, .val (.int (p0 &&& (3 : Int32))), .val (.int (p0 >>> ((2 : Int32) &&& 31))), .val (.int l0), .val (.int l1), .val (.int l2), .val (.int s0), .val (.int (s0 + l0)), .val (.int s1), .val (.int (s1 + l1)), .val (.int s2), .val (.int (s2 + l2)), .val (.ref b47), .val (.ref b54), .val (.long (l0.toInt64)), .second, .unset] [(.ref b47), (.int (p0 >>> ((2 : Int32) &&& 31))), (.ref b61), (.ref b61)])) _
        refine XS.aload X61.here hx rfl (hb hby at_243) rfl rfl ?_
        show Steps p.tables e below (T61.setTop (mkF m 245 #[.val (.int p0), .val (.long p1), .second, .val (.long p2), .second, .val (.long p3), .second, .val (.int (p0 &&& (3 : Int32))), .val (.int (p0 >>> ((2 : Int32) &&& 31))), .val (.int l0), .val (.int l1), .val (.int l2), .val (.int s0), .val (.int (s0 + l0)), .val (.int s1), .val (.int (s1 + l1)), .val (.int s2), .val (.int (s2 + l2)), .val (.ref b47), .val (.ref b54), .val (.long (l0.toInt64)), .second, .unset] [(.ref b54), (.ref b47), (.int (p0 >>> ((2 : Int32) &&& 31))), (.ref b61), (.ref b61)])) _
        exact q
      obtain ⟨_, _, ⟨T64, L64, kk64, n64⟩, -, X64, ⟨Lc64, hQ64, l64, y64, z64⟩, st64⟩ := X61.specialBack hx (y := (⟨"com/example/haku/haku/eval/FocusedJudgments$Judged", "<init>", "(I[I[I)V"⟩ : MethodName)) rfl hown (mvT hZ (hw _ (List.mem_of_getElem? (i := 13) rfl))) (mvT hZ (hw _ (List.mem_of_getElem? (i := 14) rfl))) (mvT hZ (hw _ (List.mem_of_getElem? (i := 15) rfl))) (by decide) (backOf (W := 1) (rmI l Z a0 hw [] b61 (p0 >>> ((2 : Int32) &&& 31)) b47 b54 h61 n0 Zn A61 F_line F_starts F_ends g_b61) hZ (hw _ (List.mem_of_getElem? (i := 15) rfl)) (hw _ (List.mem_of_getElem? (i := 12) rfl)) (by decide) (by decide)) (g := (mkF m 245 #[.val (.int p0), .val (.long p1), .second, .val (.long p2), .second, .val (.long p3), .second, .val (.int (p0 &&& (3 : Int32))), .val (.int (p0 >>> ((2 : Int32) &&& 31))), .val (.int l0), .val (.int l1), .val (.int l2), .val (.int s0), .val (.int (s0 + l0)), .val (.int s1), .val (.int (s1 + l1)), .val (.int s2), .val (.int (s2 + l2)), .val (.ref b47), .val (.ref b54), .val (.long (l0.toInt64)), .second, .unset] [(.ref b54), (.ref b47), (.int (p0 >>> ((2 : Int32) &&& 31))), (.ref b61), (.ref b61)])) rfl (by rw [hml]; rfl) (Steps.refl _) (a := b61) (argsL := [(.int (p0 >>> ((2 : Int32) &&& 31))), (.ref b47), (.ref b54)]) (rest := [(.ref b61)]) (lenOf pd_32956 rfl) rfl (by show 2 * 0 + _ ≤ _; exact Nat.le_of_eq rfl) (hb hby at_245) (fun _ _ => ⟨rfl, e61, (by decide : 0 + 0 + 0 + 0 + 0 + 0 + 0 + 1 + 1 + 1 + 0 ≤ _), (by decide : 0 + 0 + 0 + 0 + 0 + 0 + 0 + 1 + 1 + 3 + 0 ≤ _)⟩)
      dsimp only [Pt.U, Pt.locs, Pt.cells, Pt.slots] at X64 l64 y64 z64 st64 hQ64
      subst l64 y64 z64
      obtain ⟨rfl, Nq64, KI, EI, FS, FE⟩ := hQ64
      have N64 := Fr.app N58 Nq64
      have k65_ : ∀ t, Steps p.tables e below (T64.setTop (mkF m 248 #[.val (.int p0), .val (.long p1), .second, .val (.long p2), .second, .val (.long p3), .second, .val (.int (p0 &&& (3 : Int32))), .val (.int (p0 >>> ((2 : Int32) &&& 31))), .val (.int l0), .val (.int l1), .val (.int l2), .val (.int s0), .val (.int (s0 + l0)), .val (.int s1), .val (.int (s1 + l1)), .val (.int s2), .val (.int (s2 + l2)), .val (.ref b47), .val (.ref b54), .val (.long (l0.toInt64)), .second, .unset] [(.ref b61)])) t → Steps p.tables e below (s₁.setTop (mkF m 0 #[.val (.int p0), .val (.long p1), .second, .val (.long p2), .second, .val (.long p3), .second, .unset, .unset, .unset, .unset, .unset, .unset, .unset, .unset, .unset, .unset, .unset, .unset, .unset, .unset, .unset, .unset] [])) t := fun t q => k63_ t (st64.trans q)
      replace V_b47 := V_b47.keep KI (ninS ne_b47_b61 nin0)
      replace V_b54 := V_b54.keep KI (ninS ne_b54_b61 nin0)
      replace Zn := Nat.le_trans Zn KI.1
      have k66_ : ∀ t, Steps p.tables e below (T64.setTop (mkF m 252 #[.val (.int p0), .val (.long p1), .second, .val (.long p2), .second, .val (.long p3), .second, .val (.int (p0 &&& (3 : Int32))), .val (.int (p0 >>> ((2 : Int32) &&& 31))), .val (.int l0), .val (.int l1), .val (.int l2), .val (.int s0), .val (.int (s0 + l0)), .val (.int s1), .val (.int (s1 + l1)), .val (.int s2), .val (.int (s2 + l2)), .val (.ref b47), .val (.ref b54), .val (.long (l0.toInt64)), .second, .val (.ref b61)] [(.ref b61)])) t → Steps p.tables e below (s₁.setTop (mkF m 0 #[.val (.int p0), .val (.long p1), .second, .val (.long p2), .second, .val (.long p3), .second, .unset, .unset, .unset, .unset, .unset, .unset, .unset, .unset, .unset, .unset, .unset, .unset, .unset, .unset, .unset, .unset] [])) t := by
        intro t q
        refine k65_ _ ?_
        show Steps p.tables e below (T64.setTop (mkF m 248 #[.val (.int p0), .val (.long p1), .second, .val (.long p2), .second, .val (.long p3), .second, .val (.int (p0 &&& (3 : Int32))), .val (.int (p0 >>> ((2 : Int32) &&& 31))), .val (.int l0), .val (.int l1), .val (.int l2), .val (.int s0), .val (.int (s0 + l0)), .val (.int s1), .val (.int (s1 + l1)), .val (.int s2), .val (.int (s2 + l2)), .val (.ref b47), .val (.ref b54), .val (.long (l0.toInt64)), .second, .unset] [(.ref b61)])) _
        refine XS.astore X64.here hx rfl (hb hby at_248) rfl rfl (l' := #[.val (.int p0), .val (.long p1), .second, .val (.long p2), .second, .val (.long p3), .second, .val (.int (p0 &&& (3 : Int32))), .val (.int (p0 >>> ((2 : Int32) &&& 31))), .val (.int l0), .val (.int l1), .val (.int l2), .val (.int s0), .val (.int (s0 + l0)), .val (.int s1), .val (.int (s1 + l1)), .val (.int s2), .val (.int (s2 + l2)), .val (.ref b47), .val (.ref b54), .val (.long (l0.toInt64)), .second, .val (.ref b61)]) rfl ?_
        show Steps p.tables e below (T64.setTop (mkF m 250 #[.val (.int p0), .val (.long p1), .second, .val (.long p2), .second, .val (.long p3), .second, .val (.int (p0 &&& (3 : Int32))), .val (.int (p0 >>> ((2 : Int32) &&& 31))), .val (.int l0), .val (.int l1), .val (.int l2), .val (.int s0), .val (.int (s0 + l0)), .val (.int s1), .val (.int (s1 + l1)), .val (.int s2), .val (.int (s2 + l2)), .val (.ref b47), .val (.ref b54), .val (.long (l0.toInt64)), .second, .val (.ref b61)] [])) _
        refine XS.aload X64.here hx rfl (hb hby at_250) rfl rfl ?_
        show Steps p.tables e below (T64.setTop (mkF m 252 #[.val (.int p0), .val (.long p1), .second, .val (.long p2), .second, .val (.long p3), .second, .val (.int (p0 &&& (3 : Int32))), .val (.int (p0 >>> ((2 : Int32) &&& 31))), .val (.int l0), .val (.int l1), .val (.int l2), .val (.int s0), .val (.int (s0 + l0)), .val (.int s1), .val (.int (s1 + l1)), .val (.int s2), .val (.int (s2 + l2)), .val (.ref b47), .val (.ref b54), .val (.long (l0.toInt64)), .second, .val (.ref b61)] [(.ref b61)])) _
        exact q
      obtain ⟨cq67, kq67, q67a, q67b, q67c⟩ := isOf hZ rfl EI
      obtain ⟨_, _, ⟨T67, L67, kk67, n67⟩, -, X67, ⟨Lc67, hQ67, l67, y67, z67⟩, st67⟩ := X64.virtualBack hx (y := (⟨"com/example/haku/haku/eval/FocusedJudgments$Judged", "characters", "()J"⟩ : MethodName)) (z := (⟨"com/example/haku/haku/eval/FocusedJudgments$Judged", "characters", "()J"⟩ : MethodName)) hown (mvT hZ (hw _ (List.mem_of_getElem? (i := 30) rfl))) (mvT hZ (hw _ (List.mem_of_getElem? (i := 31) rfl))) (notFace_of_selects (args := #[]) (mvT hZ (hw _ (List.mem_of_getElem? (i := 33) rfl)))) (mvT hZ (hw _ (List.mem_of_getElem? (i := 33) rfl))) (mvT hZ (hw _ (List.mem_of_getElem? (i := 32) rfl))) (by decide) (backOf (W := 0) (rmH1 l Z a0 hw [] b61 b47 b54 c47 c54 s0 (s0 + l0) T64.heap n0 Zn FS FE V_b47 V_b54) hZ (hw _ (List.mem_of_getElem? (i := 34) rfl)) (hw _ (List.mem_of_getElem? (i := 12) rfl)) (by decide) (by decide)) q67a q67c (g := (mkF m 252 #[.val (.int p0), .val (.long p1), .second, .val (.long p2), .second, .val (.long p3), .second, .val (.int (p0 &&& (3 : Int32))), .val (.int (p0 >>> ((2 : Int32) &&& 31))), .val (.int l0), .val (.int l1), .val (.int l2), .val (.int s0), .val (.int (s0 + l0)), .val (.int s1), .val (.int (s1 + l1)), .val (.int s2), .val (.int (s2 + l2)), .val (.ref b47), .val (.ref b54), .val (.long (l0.toInt64)), .second, .val (.ref b61)] [(.ref b61)])) rfl (by rw [hml]; rfl) (Steps.refl _) (argsL := []) (rest := []) (lenOf pd_48322 rfl) rfl (by show 2 * 0 + _ ≤ _; exact Nat.le_of_eq rfl) (hb hby at_252) (fun _ _ => ⟨rfl, rfl, (by decide : 0 + 0 + 0 + 0 + 0 + 0 + 0 + 1 + 1 + 1 + 0 + 0 ≤ _), (by decide : 0 + 0 + 0 + 0 + 0 + 0 + 0 + 1 + 1 + 3 + 0 + 0 ≤ _)⟩)
      dsimp only [Pt.U, Pt.locs, Pt.cells, Pt.slots] at X67 l67 y67 z67 st67 hQ67
      subst l67 y67 z67
      obtain ⟨rfl, Nq67, hq67⟩ := hQ67
      have N67 := Fr.app N64 Nq67
      have k68_ : ∀ t, Steps p.tables e below (T67.setTop (mkF m 255 #[.val (.int p0), .val (.long p1), .second, .val (.long p2), .second, .val (.long p3), .second, .val (.int (p0 &&& (3 : Int32))), .val (.int (p0 >>> ((2 : Int32) &&& 31))), .val (.int l0), .val (.int l1), .val (.int l2), .val (.int s0), .val (.int (s0 + l0)), .val (.int s1), .val (.int (s1 + l1)), .val (.int s2), .val (.int (s2 + l2)), .val (.ref b47), .val (.ref b54), .val (.long (l0.toInt64)), .second, .val (.ref b61)] [(.long ((0 : Int64) + (((s0 + l0) - s0).toInt64)))])) t → Steps p.tables e below (s₁.setTop (mkF m 0 #[.val (.int p0), .val (.long p1), .second, .val (.long p2), .second, .val (.long p3), .second, .unset, .unset, .unset, .unset, .unset, .unset, .unset, .unset, .unset, .unset, .unset, .unset, .unset, .unset, .unset, .unset] [])) t := fun t q => k66_ t (st67.trans q)
      have k69_ : ∀ t, Steps p.tables e below (T67.setTop (mkF m 258 #[.val (.int p0), .val (.long p1), .second, .val (.long p2), .second, .val (.long p3), .second, .val (.int (p0 &&& (3 : Int32))), .val (.int (p0 >>> ((2 : Int32) &&& 31))), .val (.int l0), .val (.int l1), .val (.int l2), .val (.int s0), .val (.int (s0 + l0)), .val (.int s1), .val (.int (s1 + l1)), .val (.int s2), .val (.int (s2 + l2)), .val (.ref b47), .val (.ref b54), .val (.long (l0.toInt64)), .second, .val (.ref b61)] [(.int (lcmpW ((0 : Int64) + (((s0 + l0) - s0).toInt64)) (l0.toInt64)))])) t → Steps p.tables e below (s₁.setTop (mkF m 0 #[.val (.int p0), .val (.long p1), .second, .val (.long p2), .second, .val (.long p3), .second, .unset, .unset, .unset, .unset, .unset, .unset, .unset, .unset, .unset, .unset, .unset, .unset, .unset, .unset, .unset, .unset] [])) t := by
        intro t q
        refine k68_ _ ?_
        show Steps p.tables e below (T67.setTop (mkF m 255 #[.val (.int p0), .val (.long p1), .second, .val (.long p2), .second, .val (.long p3), .second, .val (.int (p0 &&& (3 : Int32))), .val (.int (p0 >>> ((2 : Int32) &&& 31))), .val (.int l0), .val (.int l1), .val (.int l2), .val (.int s0), .val (.int (s0 + l0)), .val (.int s1), .val (.int (s1 + l1)), .val (.int s2), .val (.int (s2 + l2)), .val (.ref b47), .val (.ref b54), .val (.long (l0.toInt64)), .second, .val (.ref b61)] [(.long ((0 : Int64) + (((s0 + l0) - s0).toInt64)))])) _
        refine XS.lload X67.here hx rfl (hb hby at_255) rfl ?_
        show Steps p.tables e below (T67.setTop (mkF m 257 #[.val (.int p0), .val (.long p1), .second, .val (.long p2), .second, .val (.long p3), .second, .val (.int (p0 &&& (3 : Int32))), .val (.int (p0 >>> ((2 : Int32) &&& 31))), .val (.int l0), .val (.int l1), .val (.int l2), .val (.int s0), .val (.int (s0 + l0)), .val (.int s1), .val (.int (s1 + l1)), .val (.int s2), .val (.int (s2 + l2)), .val (.ref b47), .val (.ref b54), .val (.long (l0.toInt64)), .second, .val (.ref b61)] [(.long (l0.toInt64)), (.long ((0 : Int64) + (((s0 + l0) - s0).toInt64)))])) _
        refine XS.lcmp X67.here hx rfl (hb hby at_257) rfl ?_
        show Steps p.tables e below (T67.setTop (mkF m 258 #[.val (.int p0), .val (.long p1), .second, .val (.long p2), .second, .val (.long p3), .second, .val (.int (p0 &&& (3 : Int32))), .val (.int (p0 >>> ((2 : Int32) &&& 31))), .val (.int l0), .val (.int l1), .val (.int l2), .val (.int s0), .val (.int (s0 + l0)), .val (.int s1), .val (.int (s1 + l1)), .val (.int s2), .val (.int (s2 + l2)), .val (.ref b47), .val (.ref b54), .val (.long (l0.toInt64)), .second, .val (.ref b61)] [(.int (lcmpW ((0 : Int64) + (((s0 + l0) - s0).toInt64)) (l0.toInt64)))])) _
        exact q
      have k70_ : ∀ t, Steps p.tables e below (T67.setTop (mkF m 261 #[.val (.int p0), .val (.long p1), .second, .val (.long p2), .second, .val (.long p3), .second, .val (.int (p0 &&& (3 : Int32))), .val (.int (p0 >>> ((2 : Int32) &&& 31))), .val (.int l0), .val (.int l1), .val (.int l2), .val (.int s0), .val (.int (s0 + l0)), .val (.int s1), .val (.int (s1 + l1)), .val (.int s2), .val (.int (s2 + l2)), .val (.ref b47), .val (.ref b54), .val (.long (l0.toInt64)), .second, .val (.ref b61)] [])) t → Steps p.tables e below (s₁.setTop (mkF m 0 #[.val (.int p0), .val (.long p1), .second, .val (.long p2), .second, .val (.long p3), .second, .unset, .unset, .unset, .unset, .unset, .unset, .unset, .unset, .unset, .unset, .unset, .unset, .unset, .unset, .unset, .unset] [])) t := by
        intro t q
        refine k69_ _ ?_
        show Steps p.tables e below (T67.setTop (mkF m 258 #[.val (.int p0), .val (.long p1), .second, .val (.long p2), .second, .val (.long p3), .second, .val (.int (p0 &&& (3 : Int32))), .val (.int (p0 >>> ((2 : Int32) &&& 31))), .val (.int l0), .val (.int l1), .val (.int l2), .val (.int s0), .val (.int (s0 + l0)), .val (.int s1), .val (.int (s1 + l1)), .val (.int s2), .val (.int (s2 + l2)), .val (.ref b47), .val (.ref b54), .val (.long (l0.toInt64)), .second, .val (.ref b61)] [(.int (lcmpW ((0 : Int64) + (((s0 + l0) - s0).toInt64)) (l0.toInt64)))])) _
        refine XS.ifNo X67.here hx rfl (hb hby at_258) rfl ((if0 _ _).trans (teq ((lw_eq _ _).mpr (by simp only [own_d, own_z]))).2) ?_
        show Steps p.tables e below (T67.setTop (mkF m 261 #[.val (.int p0), .val (.long p1), .second, .val (.long p2), .second, .val (.long p3), .second, .val (.int (p0 &&& (3 : Int32))), .val (.int (p0 >>> ((2 : Int32) &&& 31))), .val (.int l0), .val (.int l1), .val (.int l2), .val (.int s0), .val (.int (s0 + l0)), .val (.int s1), .val (.int (s1 + l1)), .val (.int s2), .val (.int (s2 + l2)), .val (.ref b47), .val (.ref b54), .val (.long (l0.toInt64)), .second, .val (.ref b61)] [])) _
        exact q
      have k71_ : ∀ t, Steps p.tables e below (T67.setTop (mkF m 266 #[.val (.int p0), .val (.long p1), .second, .val (.long p2), .second, .val (.long p3), .second, .val (.int (p0 &&& (3 : Int32))), .val (.int (p0 >>> ((2 : Int32) &&& 31))), .val (.int l0), .val (.int l1), .val (.int l2), .val (.int s0), .val (.int (s0 + l0)), .val (.int s1), .val (.int (s1 + l1)), .val (.int s2), .val (.int (s2 + l2)), .val (.ref b47), .val (.ref b54), .val (.long (l0.toInt64)), .second, .val (.ref b61)] [(.int (1 : Int32))])) t → Steps p.tables e below (s₁.setTop (mkF m 0 #[.val (.int p0), .val (.long p1), .second, .val (.long p2), .second, .val (.long p3), .second, .unset, .unset, .unset, .unset, .unset, .unset, .unset, .unset, .unset, .unset, .unset, .unset, .unset, .unset, .unset, .unset] [])) t := by
        intro t q
        refine k70_ _ ?_
        show Steps p.tables e below (T67.setTop (mkF m 261 #[.val (.int p0), .val (.long p1), .second, .val (.long p2), .second, .val (.long p3), .second, .val (.int (p0 &&& (3 : Int32))), .val (.int (p0 >>> ((2 : Int32) &&& 31))), .val (.int l0), .val (.int l1), .val (.int l2), .val (.int s0), .val (.int (s0 + l0)), .val (.int s1), .val (.int (s1 + l1)), .val (.int s2), .val (.int (s2 + l2)), .val (.ref b47), .val (.ref b54), .val (.long (l0.toInt64)), .second, .val (.ref b61)] [])) _
        refine XS.iconst X67.here hx rfl (hb hby at_261) ?_
        show Steps p.tables e below (T67.setTop (mkF m 262 #[.val (.int p0), .val (.long p1), .second, .val (.long p2), .second, .val (.long p3), .second, .val (.int (p0 &&& (3 : Int32))), .val (.int (p0 >>> ((2 : Int32) &&& 31))), .val (.int l0), .val (.int l1), .val (.int l2), .val (.int s0), .val (.int (s0 + l0)), .val (.int s1), .val (.int (s1 + l1)), .val (.int s2), .val (.int (s2 + l2)), .val (.ref b47), .val (.ref b54), .val (.long (l0.toInt64)), .second, .val (.ref b61)] [(.int (1 : Int32))])) _
        refine XS.goto X67.here hx rfl (pc0 := 262) (pc' := 266) rfl (hb hby at_262) (by decide) (by decide) ?_
        show Steps p.tables e below (T67.setTop (mkF m 266 #[.val (.int p0), .val (.long p1), .second, .val (.long p2), .second, .val (.long p3), .second, .val (.int (p0 &&& (3 : Int32))), .val (.int (p0 >>> ((2 : Int32) &&& 31))), .val (.int l0), .val (.int l1), .val (.int l2), .val (.int s0), .val (.int (s0 + l0)), .val (.int s1), .val (.int (s1 + l1)), .val (.int s2), .val (.int (s2 + l2)), .val (.ref b47), .val (.ref b54), .val (.long (l0.toInt64)), .second, .val (.ref b61)] [(.int (1 : Int32))])) _
        exact q
      obtain ⟨fs, hr, hrun, hended, hW, hsame⟩ := X67.leave (v := some (.int (1 : Int32))) (fun h => by rw [Bd.returns] at h; cases h)
      refine ⟨_, _, pre0 _ (k71_ _ ?_), hrun, hended, _, _, rfl, ?_, ⟨_, rfl⟩, hW, hsame.mono (by decide) (by decide)⟩
      · show Steps p.tables e below (T67.setTop (mkF m 266 #[.val (.int p0), .val (.long p1), .second, .val (.long p2), .second, .val (.long p3), .second, .val (.int (p0 &&& (3 : Int32))), .val (.int (p0 >>> ((2 : Int32) &&& 31))), .val (.int l0), .val (.int l1), .val (.int l2), .val (.int s0), .val (.int (s0 + l0)), .val (.int s1), .val (.int (s1 + l1)), .val (.int s2), .val (.int (s2 + l2)), .val (.ref b47), .val (.ref b54), .val (.long (l0.toInt64)), .second, .val (.ref b61)] [(.int (1 : Int32))])) _
        exact retN X67 hx (t := .boolean) Bd.returns (by simp) (hb hby at_266) hr
      · show Q0 Z p0 p1 p2 p3 h0 n0 _ T67.heap _
        exact ⟨rfl, N67⟩
    · have k72_ : ∀ t, Steps p.tables e below (T19.setTop (mkF m 134 #[.val (.int p0), .val (.long p1), .second, .val (.long p2), .second, .val (.long p3), .second, .val (.int (p0 &&& (3 : Int32))), .val (.int (p0 >>> ((2 : Int32) &&& 31))), .val (.int l0), .val (.int l1), .val (.int l2), .val (.int s0), .val (.int (s0 + l0)), .val (.int s1), .val (.int (s1 + l1)), .val (.int s2), .val (.int (s2 + l2)), .unset, .unset, .val (.long (0 : Int64)), .second, .unset] [])) t → Steps p.tables e below (s₁.setTop (mkF m 0 #[.val (.int p0), .val (.long p1), .second, .val (.long p2), .second, .val (.long p3), .second, .unset, .unset, .unset, .unset, .unset, .unset, .unset, .unset, .unset, .unset, .unset, .unset, .unset, .unset, .unset, .unset] [])) t := by
        intro t q
        refine k44_ _ ?_
        show Steps p.tables e below (T19.setTop (mkF m 103 #[.val (.int p0), .val (.long p1), .second, .val (.long p2), .second, .val (.long p3), .second, .val (.int (p0 &&& (3 : Int32))), .val (.int (p0 >>> ((2 : Int32) &&& 31))), .val (.int l0), .val (.int l1), .val (.int l2), .val (.int s0), .val (.int (s0 + l0)), .val (.int s1), .val (.int (s1 + l1)), .val (.int s2), .val (.int (s2 + l2)), .unset, .unset, .val (.long (0 : Int64)), .second, .unset] [(.int (1 : Int32)), (.int (p0 &&& (3 : Int32)))])) _
        refine XS.icmpYes X19.here hx rfl (pc0 := 103) (pc' := 134) rfl (hb hby at_103) rfl (feq hk1).2 (by decide) (by decide) ?_
        show Steps p.tables e below (T19.setTop (mkF m 134 #[.val (.int p0), .val (.long p1), .second, .val (.long p2), .second, .val (.long p3), .second, .val (.int (p0 &&& (3 : Int32))), .val (.int (p0 >>> ((2 : Int32) &&& 31))), .val (.int l0), .val (.int l1), .val (.int l2), .val (.int s0), .val (.int (s0 + l0)), .val (.int s1), .val (.int (s1 + l1)), .val (.int s2), .val (.int (s2 + l2)), .unset, .unset, .val (.long (0 : Int64)), .second, .unset] [])) _
        exact q
      have k73_ : ∀ t, Steps p.tables e below (T19.setTop (mkF m 137 #[.val (.int p0), .val (.long p1), .second, .val (.long p2), .second, .val (.long p3), .second, .val (.int (p0 &&& (3 : Int32))), .val (.int (p0 >>> ((2 : Int32) &&& 31))), .val (.int l0), .val (.int l1), .val (.int l2), .val (.int s0), .val (.int (s0 + l0)), .val (.int s1), .val (.int (s1 + l1)), .val (.int s2), .val (.int (s2 + l2)), .unset, .unset, .val (.long (0 : Int64)), .second, .unset] [(.int (2 : Int32)), (.int (p0 &&& (3 : Int32)))])) t → Steps p.tables e below (s₁.setTop (mkF m 0 #[.val (.int p0), .val (.long p1), .second, .val (.long p2), .second, .val (.long p3), .second, .unset, .unset, .unset, .unset, .unset, .unset, .unset, .unset, .unset, .unset, .unset, .unset, .unset, .unset, .unset, .unset] [])) t := by
        intro t q
        refine k72_ _ ?_
        show Steps p.tables e below (T19.setTop (mkF m 134 #[.val (.int p0), .val (.long p1), .second, .val (.long p2), .second, .val (.long p3), .second, .val (.int (p0 &&& (3 : Int32))), .val (.int (p0 >>> ((2 : Int32) &&& 31))), .val (.int l0), .val (.int l1), .val (.int l2), .val (.int s0), .val (.int (s0 + l0)), .val (.int s1), .val (.int (s1 + l1)), .val (.int s2), .val (.int (s2 + l2)), .unset, .unset, .val (.long (0 : Int64)), .second, .unset] [])) _
        refine XS.iload X19.here hx rfl (hb hby at_134) rfl ?_
        show Steps p.tables e below (T19.setTop (mkF m 136 #[.val (.int p0), .val (.long p1), .second, .val (.long p2), .second, .val (.long p3), .second, .val (.int (p0 &&& (3 : Int32))), .val (.int (p0 >>> ((2 : Int32) &&& 31))), .val (.int l0), .val (.int l1), .val (.int l2), .val (.int s0), .val (.int (s0 + l0)), .val (.int s1), .val (.int (s1 + l1)), .val (.int s2), .val (.int (s2 + l2)), .unset, .unset, .val (.long (0 : Int64)), .second, .unset] [(.int (p0 &&& (3 : Int32)))])) _
        refine XS.iconst X19.here hx rfl (hb hby at_136) ?_
        show Steps p.tables e below (T19.setTop (mkF m 137 #[.val (.int p0), .val (.long p1), .second, .val (.long p2), .second, .val (.long p3), .second, .val (.int (p0 &&& (3 : Int32))), .val (.int (p0 >>> ((2 : Int32) &&& 31))), .val (.int l0), .val (.int l1), .val (.int l2), .val (.int s0), .val (.int (s0 + l0)), .val (.int s1), .val (.int (s1 + l1)), .val (.int s2), .val (.int (s2 + l2)), .unset, .unset, .val (.long (0 : Int64)), .second, .unset] [(.int (2 : Int32)), (.int (p0 &&& (3 : Int32)))])) _
        exact q
      by_cases hk2 : (p0 &&& (3 : Int32)) = (2 : Int32)
      · have k74_ : ∀ t, Steps p.tables e below (T19.setTop (mkF m 140 #[.val (.int p0), .val (.long p1), .second, .val (.long p2), .second, .val (.long p3), .second, .val (.int (p0 &&& (3 : Int32))), .val (.int (p0 >>> ((2 : Int32) &&& 31))), .val (.int l0), .val (.int l1), .val (.int l2), .val (.int s0), .val (.int (s0 + l0)), .val (.int s1), .val (.int (s1 + l1)), .val (.int s2), .val (.int (s2 + l2)), .unset, .unset, .val (.long (0 : Int64)), .second, .unset] [])) t → Steps p.tables e below (s₁.setTop (mkF m 0 #[.val (.int p0), .val (.long p1), .second, .val (.long p2), .second, .val (.long p3), .second, .unset, .unset, .unset, .unset, .unset, .unset, .unset, .unset, .unset, .unset, .unset, .unset, .unset, .unset, .unset, .unset] [])) t := by
          intro t q
          refine k73_ _ ?_
          show Steps p.tables e below (T19.setTop (mkF m 137 #[.val (.int p0), .val (.long p1), .second, .val (.long p2), .second, .val (.long p3), .second, .val (.int (p0 &&& (3 : Int32))), .val (.int (p0 >>> ((2 : Int32) &&& 31))), .val (.int l0), .val (.int l1), .val (.int l2), .val (.int s0), .val (.int (s0 + l0)), .val (.int s1), .val (.int (s1 + l1)), .val (.int s2), .val (.int (s2 + l2)), .unset, .unset, .val (.long (0 : Int64)), .second, .unset] [(.int (2 : Int32)), (.int (p0 &&& (3 : Int32)))])) _
          refine XS.icmpNo X19.here hx rfl (hb hby at_137) rfl (teq hk2).2 ?_
          show Steps p.tables e below (T19.setTop (mkF m 140 #[.val (.int p0), .val (.long p1), .second, .val (.long p2), .second, .val (.long p3), .second, .val (.int (p0 &&& (3 : Int32))), .val (.int (p0 >>> ((2 : Int32) &&& 31))), .val (.int l0), .val (.int l1), .val (.int l2), .val (.int s0), .val (.int (s0 + l0)), .val (.int s1), .val (.int (s1 + l1)), .val (.int s2), .val (.int (s2 + l2)), .unset, .unset, .val (.long (0 : Int64)), .second, .unset] [])) _
          exact q
        have k75_ : ∀ t, Steps p.tables e below (T19.setTop (mkF m 141 #[.val (.int p0), .val (.long p1), .second, .val (.long p2), .second, .val (.long p3), .second, .val (.int (p0 &&& (3 : Int32))), .val (.int (p0 >>> ((2 : Int32) &&& 31))), .val (.int l0), .val (.int l1), .val (.int l2), .val (.int s0), .val (.int (s0 + l0)), .val (.int s1), .val (.int (s1 + l1)), .val (.int s2), .val (.int (s2 + l2)), .unset, .unset, .val (.long (0 : Int64)), .second, .unset] [(.int (2 : Int32))])) t → Steps p.tables e below (s₁.setTop (mkF m 0 #[.val (.int p0), .val (.long p1), .second, .val (.long p2), .second, .val (.long p3), .second, .unset, .unset, .unset, .unset, .unset, .unset, .unset, .unset, .unset, .unset, .unset, .unset, .unset, .unset, .unset, .unset] [])) t := by
          intro t q
          refine k74_ _ ?_
          show Steps p.tables e below (T19.setTop (mkF m 140 #[.val (.int p0), .val (.long p1), .second, .val (.long p2), .second, .val (.long p3), .second, .val (.int (p0 &&& (3 : Int32))), .val (.int (p0 >>> ((2 : Int32) &&& 31))), .val (.int l0), .val (.int l1), .val (.int l2), .val (.int s0), .val (.int (s0 + l0)), .val (.int s1), .val (.int (s1 + l1)), .val (.int s2), .val (.int (s2 + l2)), .unset, .unset, .val (.long (0 : Int64)), .second, .unset] [])) _
          refine XS.iconst X19.here hx rfl (hb hby at_140) ?_
          show Steps p.tables e below (T19.setTop (mkF m 141 #[.val (.int p0), .val (.long p1), .second, .val (.long p2), .second, .val (.long p3), .second, .val (.int (p0 &&& (3 : Int32))), .val (.int (p0 >>> ((2 : Int32) &&& 31))), .val (.int l0), .val (.int l1), .val (.int l2), .val (.int s0), .val (.int (s0 + l0)), .val (.int s1), .val (.int (s1 + l1)), .val (.int s2), .val (.int (s2 + l2)), .unset, .unset, .val (.long (0 : Int64)), .second, .unset] [(.int (2 : Int32))])) _
          exact q
        obtain ⟨T76, h76, c76, X76, e76, E76, A76, st76⟩ := newP X19 hx hZ (hw _ (List.mem_of_getElem? (i := 9) rfl)) hq19 (g := (mkF m 141 #[.val (.int p0), .val (.long p1), .second, .val (.long p2), .second, .val (.long p3), .second, .val (.int (p0 &&& (3 : Int32))), .val (.int (p0 >>> ((2 : Int32) &&& 31))), .val (.int l0), .val (.int l1), .val (.int l2), .val (.int s0), .val (.int (s0 + l0)), .val (.int s1), .val (.int (s1 + l1)), .val (.int s2), .val (.int (s2 + l2)), .unset, .unset, .val (.long (0 : Int64)), .second, .unset] [(.int (2 : Int32))])) rfl (hb hby at_141) rfl (by decide) (cap := 2) (by decide) (by decide) (by decide) (by decide)
        obtain ⟨b76, g76⟩ : ∃ z, z = h0.size := ⟨_, rfl⟩
        rw [← g76] at A76 st76
        have k77_ : ∀ t, Steps p.tables e below (T76.setTop (mkF m 143 #[.val (.int p0), .val (.long p1), .second, .val (.long p2), .second, .val (.long p3), .second, .val (.int (p0 &&& (3 : Int32))), .val (.int (p0 >>> ((2 : Int32) &&& 31))), .val (.int l0), .val (.int l1), .val (.int l2), .val (.int s0), .val (.int (s0 + l0)), .val (.int s1), .val (.int (s1 + l1)), .val (.int s2), .val (.int (s2 + l2)), .unset, .unset, .val (.long (0 : Int64)), .second, .unset] [(.ref b76)])) t → Steps p.tables e below (s₁.setTop (mkF m 0 #[.val (.int p0), .val (.long p1), .second, .val (.long p2), .second, .val (.long p3), .second, .unset, .unset, .unset, .unset, .unset, .unset, .unset, .unset, .unset, .unset, .unset, .unset, .unset, .unset, .unset, .unset] [])) t := fun t q => k75_ t (st76 t q)
        have g_b76 : n0 ≤ b76 := Nat.le_trans Zn (Nat.le_of_eq g76.symm)
        replace Zn := Nat.le_trans Zn E76.1
        have V_b76 : Arv Z h76 b76 c76 .int (2 : Int32) [(.int (0 : Int32)), (.int (0 : Int32))] (.int (0 : Int32)) := (Arv.new A76 (by decide)).pad (pad_rep [] (.int (0 : Int32)) 2)
        have k78_ : ∀ t, Steps p.tables e below (T76.setTop (mkF m 147 #[.val (.int p0), .val (.long p1), .second, .val (.long p2), .second, .val (.long p3), .second, .val (.int (p0 &&& (3 : Int32))), .val (.int (p0 >>> ((2 : Int32) &&& 31))), .val (.int l0), .val (.int l1), .val (.int l2), .val (.int s0), .val (.int (s0 + l0)), .val (.int s1), .val (.int (s1 + l1)), .val (.int s2), .val (.int (s2 + l2)), .unset, .unset, .val (.long (0 : Int64)), .second, .unset] [(.int s0), (.int (0 : Int32)), (.ref b76), (.ref b76)])) t → Steps p.tables e below (s₁.setTop (mkF m 0 #[.val (.int p0), .val (.long p1), .second, .val (.long p2), .second, .val (.long p3), .second, .unset, .unset, .unset, .unset, .unset, .unset, .unset, .unset, .unset, .unset, .unset, .unset, .unset, .unset, .unset, .unset] [])) t := by
          intro t q
          refine k77_ _ ?_
          show Steps p.tables e below (T76.setTop (mkF m 143 #[.val (.int p0), .val (.long p1), .second, .val (.long p2), .second, .val (.long p3), .second, .val (.int (p0 &&& (3 : Int32))), .val (.int (p0 >>> ((2 : Int32) &&& 31))), .val (.int l0), .val (.int l1), .val (.int l2), .val (.int s0), .val (.int (s0 + l0)), .val (.int s1), .val (.int (s1 + l1)), .val (.int s2), .val (.int (s2 + l2)), .unset, .unset, .val (.long (0 : Int64)), .second, .unset] [(.ref b76)])) _
          refine XS.dup X76.here hx rfl (hb hby at_143) rfl rfl ?_
          show Steps p.tables e below (T76.setTop (mkF m 144 #[.val (.int p0), .val (.long p1), .second, .val (.long p2), .second, .val (.long p3), .second, .val (.int (p0 &&& (3 : Int32))), .val (.int (p0 >>> ((2 : Int32) &&& 31))), .val (.int l0), .val (.int l1), .val (.int l2), .val (.int s0), .val (.int (s0 + l0)), .val (.int s1), .val (.int (s1 + l1)), .val (.int s2), .val (.int (s2 + l2)), .unset, .unset, .val (.long (0 : Int64)), .second, .unset] [(.ref b76), (.ref b76)])) _
          refine XS.iconst X76.here hx rfl (hb hby at_144) ?_
          show Steps p.tables e below (T76.setTop (mkF m 145 #[.val (.int p0), .val (.long p1), .second, .val (.long p2), .second, .val (.long p3), .second, .val (.int (p0 &&& (3 : Int32))), .val (.int (p0 >>> ((2 : Int32) &&& 31))), .val (.int l0), .val (.int l1), .val (.int l2), .val (.int s0), .val (.int (s0 + l0)), .val (.int s1), .val (.int (s1 + l1)), .val (.int s2), .val (.int (s2 + l2)), .unset, .unset, .val (.long (0 : Int64)), .second, .unset] [(.int (0 : Int32)), (.ref b76), (.ref b76)])) _
          refine XS.iload X76.here hx rfl (hb hby at_145) rfl ?_
          show Steps p.tables e below (T76.setTop (mkF m 147 #[.val (.int p0), .val (.long p1), .second, .val (.long p2), .second, .val (.long p3), .second, .val (.int (p0 &&& (3 : Int32))), .val (.int (p0 >>> ((2 : Int32) &&& 31))), .val (.int l0), .val (.int l1), .val (.int l2), .val (.int s0), .val (.int (s0 + l0)), .val (.int s1), .val (.int (s1 + l1)), .val (.int s2), .val (.int (s2 + l2)), .unset, .unset, .val (.long (0 : Int64)), .second, .unset] [(.int s0), (.int (0 : Int32)), (.ref b76), (.ref b76)])) _
          exact q
        obtain ⟨cl79, Ar79, q79, S79, M79, H79, G79⟩ := V_b76
        obtain ⟨T80, h80, X80, e80, W80, st80⟩ := stI X76 hx hZ e76 Ar79 (j := (0 : Int32)) (inb_of S79 ⟨by decide, by decide⟩) (g := (mkF m 147 #[.val (.int p0), .val (.long p1), .second, .val (.long p2), .second, .val (.long p3), .second, .val (.int (p0 &&& (3 : Int32))), .val (.int (p0 >>> ((2 : Int32) &&& 31))), .val (.int l0), .val (.int l1), .val (.int l2), .val (.int s0), .val (.int (s0 + l0)), .val (.int s1), .val (.int (s1 + l1)), .val (.int s2), .val (.int (s2 + l2)), .unset, .unset, .val (.long (0 : Int64)), .second, .unset] [(.int s0), (.int (0 : Int32)), (.ref b76), (.ref b76)])) rfl rfl (hb hby at_147)
        have k81_ : ∀ t, Steps p.tables e below (T80.setTop (mkF m 148 #[.val (.int p0), .val (.long p1), .second, .val (.long p2), .second, .val (.long p3), .second, .val (.int (p0 &&& (3 : Int32))), .val (.int (p0 >>> ((2 : Int32) &&& 31))), .val (.int l0), .val (.int l1), .val (.int l2), .val (.int s0), .val (.int (s0 + l0)), .val (.int s1), .val (.int (s1 + l1)), .val (.int s2), .val (.int (s2 + l2)), .unset, .unset, .val (.long (0 : Int64)), .second, .unset] [(.ref b76)])) t → Steps p.tables e below (s₁.setTop (mkF m 0 #[.val (.int p0), .val (.long p1), .second, .val (.long p2), .second, .val (.long p3), .second, .unset, .unset, .unset, .unset, .unset, .unset, .unset, .unset, .unset, .unset, .unset, .unset, .unset, .unset, .unset, .unset] [])) t := fun t q => k78_ t (st80 t q)
        have N80 := Fr.snoc X80 N19 g_b76
        replace Zn := Nat.le_trans Zn (Keep.of_wr W80).1
        have V_b76 : Arv Z h80 b76 c76 .int (2 : Int32) [(.int s0), (.int (0 : Int32))] (.int (0 : Int32)) := Arv.set Ar79 q79 S79 M79 H79 G79 rfl W80 0 rfl (Nat.le_of_ble_eq_true rfl)
        have k82_ : ∀ t, Steps p.tables e below (T80.setTop (mkF m 152 #[.val (.int p0), .val (.long p1), .second, .val (.long p2), .second, .val (.long p3), .second, .val (.int (p0 &&& (3 : Int32))), .val (.int (p0 >>> ((2 : Int32) &&& 31))), .val (.int l0), .val (.int l1), .val (.int l2), .val (.int s0), .val (.int (s0 + l0)), .val (.int s1), .val (.int (s1 + l1)), .val (.int s2), .val (.int (s2 + l2)), .unset, .unset, .val (.long (0 : Int64)), .second, .unset] [(.int s1), (.int (1 : Int32)), (.ref b76), (.ref b76)])) t → Steps p.tables e below (s₁.setTop (mkF m 0 #[.val (.int p0), .val (.long p1), .second, .val (.long p2), .second, .val (.long p3), .second, .unset, .unset, .unset, .unset, .unset, .unset, .unset, .unset, .unset, .unset, .unset, .unset, .unset, .unset, .unset, .unset] [])) t := by
          intro t q
          refine k81_ _ ?_
          show Steps p.tables e below (T80.setTop (mkF m 148 #[.val (.int p0), .val (.long p1), .second, .val (.long p2), .second, .val (.long p3), .second, .val (.int (p0 &&& (3 : Int32))), .val (.int (p0 >>> ((2 : Int32) &&& 31))), .val (.int l0), .val (.int l1), .val (.int l2), .val (.int s0), .val (.int (s0 + l0)), .val (.int s1), .val (.int (s1 + l1)), .val (.int s2), .val (.int (s2 + l2)), .unset, .unset, .val (.long (0 : Int64)), .second, .unset] [(.ref b76)])) _
          refine XS.dup X80.here hx rfl (hb hby at_148) rfl rfl ?_
          show Steps p.tables e below (T80.setTop (mkF m 149 #[.val (.int p0), .val (.long p1), .second, .val (.long p2), .second, .val (.long p3), .second, .val (.int (p0 &&& (3 : Int32))), .val (.int (p0 >>> ((2 : Int32) &&& 31))), .val (.int l0), .val (.int l1), .val (.int l2), .val (.int s0), .val (.int (s0 + l0)), .val (.int s1), .val (.int (s1 + l1)), .val (.int s2), .val (.int (s2 + l2)), .unset, .unset, .val (.long (0 : Int64)), .second, .unset] [(.ref b76), (.ref b76)])) _
          refine XS.iconst X80.here hx rfl (hb hby at_149) ?_
          show Steps p.tables e below (T80.setTop (mkF m 150 #[.val (.int p0), .val (.long p1), .second, .val (.long p2), .second, .val (.long p3), .second, .val (.int (p0 &&& (3 : Int32))), .val (.int (p0 >>> ((2 : Int32) &&& 31))), .val (.int l0), .val (.int l1), .val (.int l2), .val (.int s0), .val (.int (s0 + l0)), .val (.int s1), .val (.int (s1 + l1)), .val (.int s2), .val (.int (s2 + l2)), .unset, .unset, .val (.long (0 : Int64)), .second, .unset] [(.int (1 : Int32)), (.ref b76), (.ref b76)])) _
          refine XS.iload X80.here hx rfl (hb hby at_150) rfl ?_
          show Steps p.tables e below (T80.setTop (mkF m 152 #[.val (.int p0), .val (.long p1), .second, .val (.long p2), .second, .val (.long p3), .second, .val (.int (p0 &&& (3 : Int32))), .val (.int (p0 >>> ((2 : Int32) &&& 31))), .val (.int l0), .val (.int l1), .val (.int l2), .val (.int s0), .val (.int (s0 + l0)), .val (.int s1), .val (.int (s1 + l1)), .val (.int s2), .val (.int (s2 + l2)), .unset, .unset, .val (.long (0 : Int64)), .second, .unset] [(.int s1), (.int (1 : Int32)), (.ref b76), (.ref b76)])) _
          exact q
        obtain ⟨cl83, Ar83, q83, S83, M83, H83, G83⟩ := V_b76
        obtain ⟨T84, h84, X84, e84, W84, st84⟩ := stI X80 hx hZ e80 Ar83 (j := (1 : Int32)) (inb_of S83 ⟨by decide, by decide⟩) (g := (mkF m 152 #[.val (.int p0), .val (.long p1), .second, .val (.long p2), .second, .val (.long p3), .second, .val (.int (p0 &&& (3 : Int32))), .val (.int (p0 >>> ((2 : Int32) &&& 31))), .val (.int l0), .val (.int l1), .val (.int l2), .val (.int s0), .val (.int (s0 + l0)), .val (.int s1), .val (.int (s1 + l1)), .val (.int s2), .val (.int (s2 + l2)), .unset, .unset, .val (.long (0 : Int64)), .second, .unset] [(.int s1), (.int (1 : Int32)), (.ref b76), (.ref b76)])) rfl rfl (hb hby at_152)
        have k85_ : ∀ t, Steps p.tables e below (T84.setTop (mkF m 153 #[.val (.int p0), .val (.long p1), .second, .val (.long p2), .second, .val (.long p3), .second, .val (.int (p0 &&& (3 : Int32))), .val (.int (p0 >>> ((2 : Int32) &&& 31))), .val (.int l0), .val (.int l1), .val (.int l2), .val (.int s0), .val (.int (s0 + l0)), .val (.int s1), .val (.int (s1 + l1)), .val (.int s2), .val (.int (s2 + l2)), .unset, .unset, .val (.long (0 : Int64)), .second, .unset] [(.ref b76)])) t → Steps p.tables e below (s₁.setTop (mkF m 0 #[.val (.int p0), .val (.long p1), .second, .val (.long p2), .second, .val (.long p3), .second, .unset, .unset, .unset, .unset, .unset, .unset, .unset, .unset, .unset, .unset, .unset, .unset, .unset, .unset, .unset, .unset] [])) t := fun t q => k82_ t (st84 t q)
        have N84 := Fr.snoc X84 N80 g_b76
        replace Zn := Nat.le_trans Zn (Keep.of_wr W84).1
        have V_b76 : Arv Z h84 b76 c76 .int (2 : Int32) [(.int s0), (.int s1)] (.int (0 : Int32)) := Arv.set Ar83 q83 S83 M83 H83 G83 rfl W84 1 rfl (Nat.le_of_ble_eq_true rfl)
        have k86_ : ∀ t, Steps p.tables e below (T84.setTop (mkF m 156 #[.val (.int p0), .val (.long p1), .second, .val (.long p2), .second, .val (.long p3), .second, .val (.int (p0 &&& (3 : Int32))), .val (.int (p0 >>> ((2 : Int32) &&& 31))), .val (.int l0), .val (.int l1), .val (.int l2), .val (.int s0), .val (.int (s0 + l0)), .val (.int s1), .val (.int (s1 + l1)), .val (.int s2), .val (.int (s2 + l2)), .val (.ref b76), .unset, .val (.long (0 : Int64)), .second, .unset] [(.int (2 : Int32))])) t → Steps p.tables e below (s₁.setTop (mkF m 0 #[.val (.int p0), .val (.long p1), .second, .val (.long p2), .second, .val (.long p3), .second, .unset, .unset, .unset, .unset, .unset, .unset, .unset, .unset, .unset, .unset, .unset, .unset, .unset, .unset, .unset, .unset] [])) t := by
          intro t q
          refine k85_ _ ?_
          show Steps p.tables e below (T84.setTop (mkF m 153 #[.val (.int p0), .val (.long p1), .second, .val (.long p2), .second, .val (.long p3), .second, .val (.int (p0 &&& (3 : Int32))), .val (.int (p0 >>> ((2 : Int32) &&& 31))), .val (.int l0), .val (.int l1), .val (.int l2), .val (.int s0), .val (.int (s0 + l0)), .val (.int s1), .val (.int (s1 + l1)), .val (.int s2), .val (.int (s2 + l2)), .unset, .unset, .val (.long (0 : Int64)), .second, .unset] [(.ref b76)])) _
          refine XS.astore X84.here hx rfl (hb hby at_153) rfl rfl (l' := #[.val (.int p0), .val (.long p1), .second, .val (.long p2), .second, .val (.long p3), .second, .val (.int (p0 &&& (3 : Int32))), .val (.int (p0 >>> ((2 : Int32) &&& 31))), .val (.int l0), .val (.int l1), .val (.int l2), .val (.int s0), .val (.int (s0 + l0)), .val (.int s1), .val (.int (s1 + l1)), .val (.int s2), .val (.int (s2 + l2)), .val (.ref b76), .unset, .val (.long (0 : Int64)), .second, .unset]) rfl ?_
          show Steps p.tables e below (T84.setTop (mkF m 155 #[.val (.int p0), .val (.long p1), .second, .val (.long p2), .second, .val (.long p3), .second, .val (.int (p0 &&& (3 : Int32))), .val (.int (p0 >>> ((2 : Int32) &&& 31))), .val (.int l0), .val (.int l1), .val (.int l2), .val (.int s0), .val (.int (s0 + l0)), .val (.int s1), .val (.int (s1 + l1)), .val (.int s2), .val (.int (s2 + l2)), .val (.ref b76), .unset, .val (.long (0 : Int64)), .second, .unset] [])) _
          refine XS.iconst X84.here hx rfl (hb hby at_155) ?_
          show Steps p.tables e below (T84.setTop (mkF m 156 #[.val (.int p0), .val (.long p1), .second, .val (.long p2), .second, .val (.long p3), .second, .val (.int (p0 &&& (3 : Int32))), .val (.int (p0 >>> ((2 : Int32) &&& 31))), .val (.int l0), .val (.int l1), .val (.int l2), .val (.int s0), .val (.int (s0 + l0)), .val (.int s1), .val (.int (s1 + l1)), .val (.int s2), .val (.int (s2 + l2)), .val (.ref b76), .unset, .val (.long (0 : Int64)), .second, .unset] [(.int (2 : Int32))])) _
          exact q
        obtain ⟨T87, h87, c87, X87, e87, E87, A87, st87⟩ := newP X84 hx hZ (hw _ (List.mem_of_getElem? (i := 9) rfl)) e84 (g := (mkF m 156 #[.val (.int p0), .val (.long p1), .second, .val (.long p2), .second, .val (.long p3), .second, .val (.int (p0 &&& (3 : Int32))), .val (.int (p0 >>> ((2 : Int32) &&& 31))), .val (.int l0), .val (.int l1), .val (.int l2), .val (.int s0), .val (.int (s0 + l0)), .val (.int s1), .val (.int (s1 + l1)), .val (.int s2), .val (.int (s2 + l2)), .val (.ref b76), .unset, .val (.long (0 : Int64)), .second, .unset] [(.int (2 : Int32))])) rfl (hb hby at_156) rfl (by decide) (cap := 2) (by decide) (by decide) (by decide) (by decide)
        obtain ⟨b87, g87⟩ : ∃ z, z = h84.size := ⟨_, rfl⟩
        rw [← g87] at A87 st87
        have k88_ : ∀ t, Steps p.tables e below (T87.setTop (mkF m 158 #[.val (.int p0), .val (.long p1), .second, .val (.long p2), .second, .val (.long p3), .second, .val (.int (p0 &&& (3 : Int32))), .val (.int (p0 >>> ((2 : Int32) &&& 31))), .val (.int l0), .val (.int l1), .val (.int l2), .val (.int s0), .val (.int (s0 + l0)), .val (.int s1), .val (.int (s1 + l1)), .val (.int s2), .val (.int (s2 + l2)), .val (.ref b76), .unset, .val (.long (0 : Int64)), .second, .unset] [(.ref b87)])) t → Steps p.tables e below (s₁.setTop (mkF m 0 #[.val (.int p0), .val (.long p1), .second, .val (.long p2), .second, .val (.long p3), .second, .unset, .unset, .unset, .unset, .unset, .unset, .unset, .unset, .unset, .unset, .unset, .unset, .unset, .unset, .unset, .unset] [])) t := fun t q => k86_ t (st87 t q)
        have ne_b76_b87 : b76 ≠ b87 := Nat.ne_of_lt (Nat.lt_of_lt_of_le V_b76.lt (Nat.le_of_eq g87.symm))
        have g_b87 : n0 ≤ b87 := Nat.le_trans Zn (Nat.le_of_eq g87.symm)
        replace Zn := Nat.le_trans Zn E87.1
        replace V_b76 := V_b76.ext E87
        have V_b87 : Arv Z h87 b87 c87 .int (2 : Int32) [(.int (0 : Int32)), (.int (0 : Int32))] (.int (0 : Int32)) := (Arv.new A87 (by decide)).pad (pad_rep [] (.int (0 : Int32)) 2)
        have k89_ : ∀ t, Steps p.tables e below (T87.setTop (mkF m 162 #[.val (.int p0), .val (.long p1), .second, .val (.long p2), .second, .val (.long p3), .second, .val (.int (p0 &&& (3 : Int32))), .val (.int (p0 >>> ((2 : Int32) &&& 31))), .val (.int l0), .val (.int l1), .val (.int l2), .val (.int s0), .val (.int (s0 + l0)), .val (.int s1), .val (.int (s1 + l1)), .val (.int s2), .val (.int (s2 + l2)), .val (.ref b76), .unset, .val (.long (0 : Int64)), .second, .unset] [(.int (s0 + l0)), (.int (0 : Int32)), (.ref b87), (.ref b87)])) t → Steps p.tables e below (s₁.setTop (mkF m 0 #[.val (.int p0), .val (.long p1), .second, .val (.long p2), .second, .val (.long p3), .second, .unset, .unset, .unset, .unset, .unset, .unset, .unset, .unset, .unset, .unset, .unset, .unset, .unset, .unset, .unset, .unset] [])) t := by
          intro t q
          refine k88_ _ ?_
          show Steps p.tables e below (T87.setTop (mkF m 158 #[.val (.int p0), .val (.long p1), .second, .val (.long p2), .second, .val (.long p3), .second, .val (.int (p0 &&& (3 : Int32))), .val (.int (p0 >>> ((2 : Int32) &&& 31))), .val (.int l0), .val (.int l1), .val (.int l2), .val (.int s0), .val (.int (s0 + l0)), .val (.int s1), .val (.int (s1 + l1)), .val (.int s2), .val (.int (s2 + l2)), .val (.ref b76), .unset, .val (.long (0 : Int64)), .second, .unset] [(.ref b87)])) _
          refine XS.dup X87.here hx rfl (hb hby at_158) rfl rfl ?_
          show Steps p.tables e below (T87.setTop (mkF m 159 #[.val (.int p0), .val (.long p1), .second, .val (.long p2), .second, .val (.long p3), .second, .val (.int (p0 &&& (3 : Int32))), .val (.int (p0 >>> ((2 : Int32) &&& 31))), .val (.int l0), .val (.int l1), .val (.int l2), .val (.int s0), .val (.int (s0 + l0)), .val (.int s1), .val (.int (s1 + l1)), .val (.int s2), .val (.int (s2 + l2)), .val (.ref b76), .unset, .val (.long (0 : Int64)), .second, .unset] [(.ref b87), (.ref b87)])) _
          refine XS.iconst X87.here hx rfl (hb hby at_159) ?_
          show Steps p.tables e below (T87.setTop (mkF m 160 #[.val (.int p0), .val (.long p1), .second, .val (.long p2), .second, .val (.long p3), .second, .val (.int (p0 &&& (3 : Int32))), .val (.int (p0 >>> ((2 : Int32) &&& 31))), .val (.int l0), .val (.int l1), .val (.int l2), .val (.int s0), .val (.int (s0 + l0)), .val (.int s1), .val (.int (s1 + l1)), .val (.int s2), .val (.int (s2 + l2)), .val (.ref b76), .unset, .val (.long (0 : Int64)), .second, .unset] [(.int (0 : Int32)), (.ref b87), (.ref b87)])) _
          refine XS.iload X87.here hx rfl (hb hby at_160) rfl ?_
          show Steps p.tables e below (T87.setTop (mkF m 162 #[.val (.int p0), .val (.long p1), .second, .val (.long p2), .second, .val (.long p3), .second, .val (.int (p0 &&& (3 : Int32))), .val (.int (p0 >>> ((2 : Int32) &&& 31))), .val (.int l0), .val (.int l1), .val (.int l2), .val (.int s0), .val (.int (s0 + l0)), .val (.int s1), .val (.int (s1 + l1)), .val (.int s2), .val (.int (s2 + l2)), .val (.ref b76), .unset, .val (.long (0 : Int64)), .second, .unset] [(.int (s0 + l0)), (.int (0 : Int32)), (.ref b87), (.ref b87)])) _
          exact q
        obtain ⟨cl90, Ar90, q90, S90, M90, H90, G90⟩ := V_b87
        obtain ⟨T91, h91, X91, e91, W91, st91⟩ := stI X87 hx hZ e87 Ar90 (j := (0 : Int32)) (inb_of S90 ⟨by decide, by decide⟩) (g := (mkF m 162 #[.val (.int p0), .val (.long p1), .second, .val (.long p2), .second, .val (.long p3), .second, .val (.int (p0 &&& (3 : Int32))), .val (.int (p0 >>> ((2 : Int32) &&& 31))), .val (.int l0), .val (.int l1), .val (.int l2), .val (.int s0), .val (.int (s0 + l0)), .val (.int s1), .val (.int (s1 + l1)), .val (.int s2), .val (.int (s2 + l2)), .val (.ref b76), .unset, .val (.long (0 : Int64)), .second, .unset] [(.int (s0 + l0)), (.int (0 : Int32)), (.ref b87), (.ref b87)])) rfl rfl (hb hby at_162)
        have k92_ : ∀ t, Steps p.tables e below (T91.setTop (mkF m 163 #[.val (.int p0), .val (.long p1), .second, .val (.long p2), .second, .val (.long p3), .second, .val (.int (p0 &&& (3 : Int32))), .val (.int (p0 >>> ((2 : Int32) &&& 31))), .val (.int l0), .val (.int l1), .val (.int l2), .val (.int s0), .val (.int (s0 + l0)), .val (.int s1), .val (.int (s1 + l1)), .val (.int s2), .val (.int (s2 + l2)), .val (.ref b76), .unset, .val (.long (0 : Int64)), .second, .unset] [(.ref b87)])) t → Steps p.tables e below (s₁.setTop (mkF m 0 #[.val (.int p0), .val (.long p1), .second, .val (.long p2), .second, .val (.long p3), .second, .unset, .unset, .unset, .unset, .unset, .unset, .unset, .unset, .unset, .unset, .unset, .unset, .unset, .unset, .unset, .unset] [])) t := fun t q => k89_ t (st91 t q)
        have N91 := Fr.snoc X91 N84 g_b87
        replace Zn := Nat.le_trans Zn (Keep.of_wr W91).1
        replace V_b76 := V_b76.other W91 ne_b76_b87
        have V_b87 : Arv Z h91 b87 c87 .int (2 : Int32) [(.int (s0 + l0)), (.int (0 : Int32))] (.int (0 : Int32)) := Arv.set Ar90 q90 S90 M90 H90 G90 rfl W91 0 rfl (Nat.le_of_ble_eq_true rfl)
        have k93_ : ∀ t, Steps p.tables e below (T91.setTop (mkF m 167 #[.val (.int p0), .val (.long p1), .second, .val (.long p2), .second, .val (.long p3), .second, .val (.int (p0 &&& (3 : Int32))), .val (.int (p0 >>> ((2 : Int32) &&& 31))), .val (.int l0), .val (.int l1), .val (.int l2), .val (.int s0), .val (.int (s0 + l0)), .val (.int s1), .val (.int (s1 + l1)), .val (.int s2), .val (.int (s2 + l2)), .val (.ref b76), .unset, .val (.long (0 : Int64)), .second, .unset] [(.int (s1 + l1)), (.int (1 : Int32)), (.ref b87), (.ref b87)])) t → Steps p.tables e below (s₁.setTop (mkF m 0 #[.val (.int p0), .val (.long p1), .second, .val (.long p2), .second, .val (.long p3), .second, .unset, .unset, .unset, .unset, .unset, .unset, .unset, .unset, .unset, .unset, .unset, .unset, .unset, .unset, .unset, .unset] [])) t := by
          intro t q
          refine k92_ _ ?_
          show Steps p.tables e below (T91.setTop (mkF m 163 #[.val (.int p0), .val (.long p1), .second, .val (.long p2), .second, .val (.long p3), .second, .val (.int (p0 &&& (3 : Int32))), .val (.int (p0 >>> ((2 : Int32) &&& 31))), .val (.int l0), .val (.int l1), .val (.int l2), .val (.int s0), .val (.int (s0 + l0)), .val (.int s1), .val (.int (s1 + l1)), .val (.int s2), .val (.int (s2 + l2)), .val (.ref b76), .unset, .val (.long (0 : Int64)), .second, .unset] [(.ref b87)])) _
          refine XS.dup X91.here hx rfl (hb hby at_163) rfl rfl ?_
          show Steps p.tables e below (T91.setTop (mkF m 164 #[.val (.int p0), .val (.long p1), .second, .val (.long p2), .second, .val (.long p3), .second, .val (.int (p0 &&& (3 : Int32))), .val (.int (p0 >>> ((2 : Int32) &&& 31))), .val (.int l0), .val (.int l1), .val (.int l2), .val (.int s0), .val (.int (s0 + l0)), .val (.int s1), .val (.int (s1 + l1)), .val (.int s2), .val (.int (s2 + l2)), .val (.ref b76), .unset, .val (.long (0 : Int64)), .second, .unset] [(.ref b87), (.ref b87)])) _
          refine XS.iconst X91.here hx rfl (hb hby at_164) ?_
          show Steps p.tables e below (T91.setTop (mkF m 165 #[.val (.int p0), .val (.long p1), .second, .val (.long p2), .second, .val (.long p3), .second, .val (.int (p0 &&& (3 : Int32))), .val (.int (p0 >>> ((2 : Int32) &&& 31))), .val (.int l0), .val (.int l1), .val (.int l2), .val (.int s0), .val (.int (s0 + l0)), .val (.int s1), .val (.int (s1 + l1)), .val (.int s2), .val (.int (s2 + l2)), .val (.ref b76), .unset, .val (.long (0 : Int64)), .second, .unset] [(.int (1 : Int32)), (.ref b87), (.ref b87)])) _
          refine XS.iload X91.here hx rfl (hb hby at_165) rfl ?_
          show Steps p.tables e below (T91.setTop (mkF m 167 #[.val (.int p0), .val (.long p1), .second, .val (.long p2), .second, .val (.long p3), .second, .val (.int (p0 &&& (3 : Int32))), .val (.int (p0 >>> ((2 : Int32) &&& 31))), .val (.int l0), .val (.int l1), .val (.int l2), .val (.int s0), .val (.int (s0 + l0)), .val (.int s1), .val (.int (s1 + l1)), .val (.int s2), .val (.int (s2 + l2)), .val (.ref b76), .unset, .val (.long (0 : Int64)), .second, .unset] [(.int (s1 + l1)), (.int (1 : Int32)), (.ref b87), (.ref b87)])) _
          exact q
        obtain ⟨cl94, Ar94, q94, S94, M94, H94, G94⟩ := V_b87
        obtain ⟨T95, h95, X95, e95, W95, st95⟩ := stI X91 hx hZ e91 Ar94 (j := (1 : Int32)) (inb_of S94 ⟨by decide, by decide⟩) (g := (mkF m 167 #[.val (.int p0), .val (.long p1), .second, .val (.long p2), .second, .val (.long p3), .second, .val (.int (p0 &&& (3 : Int32))), .val (.int (p0 >>> ((2 : Int32) &&& 31))), .val (.int l0), .val (.int l1), .val (.int l2), .val (.int s0), .val (.int (s0 + l0)), .val (.int s1), .val (.int (s1 + l1)), .val (.int s2), .val (.int (s2 + l2)), .val (.ref b76), .unset, .val (.long (0 : Int64)), .second, .unset] [(.int (s1 + l1)), (.int (1 : Int32)), (.ref b87), (.ref b87)])) rfl rfl (hb hby at_167)
        have k96_ : ∀ t, Steps p.tables e below (T95.setTop (mkF m 168 #[.val (.int p0), .val (.long p1), .second, .val (.long p2), .second, .val (.long p3), .second, .val (.int (p0 &&& (3 : Int32))), .val (.int (p0 >>> ((2 : Int32) &&& 31))), .val (.int l0), .val (.int l1), .val (.int l2), .val (.int s0), .val (.int (s0 + l0)), .val (.int s1), .val (.int (s1 + l1)), .val (.int s2), .val (.int (s2 + l2)), .val (.ref b76), .unset, .val (.long (0 : Int64)), .second, .unset] [(.ref b87)])) t → Steps p.tables e below (s₁.setTop (mkF m 0 #[.val (.int p0), .val (.long p1), .second, .val (.long p2), .second, .val (.long p3), .second, .unset, .unset, .unset, .unset, .unset, .unset, .unset, .unset, .unset, .unset, .unset, .unset, .unset, .unset, .unset, .unset] [])) t := fun t q => k93_ t (st95 t q)
        have N95 := Fr.snoc X95 N91 g_b87
        replace Zn := Nat.le_trans Zn (Keep.of_wr W95).1
        replace V_b76 := V_b76.other W95 ne_b76_b87
        have V_b87 : Arv Z h95 b87 c87 .int (2 : Int32) [(.int (s0 + l0)), (.int (s1 + l1))] (.int (0 : Int32)) := Arv.set Ar94 q94 S94 M94 H94 G94 rfl W95 1 rfl (Nat.le_of_ble_eq_true rfl)
        have k97_ : ∀ t, Steps p.tables e below (T95.setTop (mkF m 235 #[.val (.int p0), .val (.long p1), .second, .val (.long p2), .second, .val (.long p3), .second, .val (.int (p0 &&& (3 : Int32))), .val (.int (p0 >>> ((2 : Int32) &&& 31))), .val (.int l0), .val (.int l1), .val (.int l2), .val (.int s0), .val (.int (s0 + l0)), .val (.int s1), .val (.int (s1 + l1)), .val (.int s2), .val (.int (s2 + l2)), .val (.ref b76), .val (.ref b87), .val (.long ((l0.toInt64) + (l1.toInt64))), .second, .unset] [])) t → Steps p.tables e below (s₁.setTop (mkF m 0 #[.val (.int p0), .val (.long p1), .second, .val (.long p2), .second, .val (.long p3), .second, .unset, .unset, .unset, .unset, .unset, .unset, .unset, .unset, .unset, .unset, .unset, .unset, .unset, .unset, .unset, .unset] [])) t := by
          intro t q
          refine k96_ _ ?_
          show Steps p.tables e below (T95.setTop (mkF m 168 #[.val (.int p0), .val (.long p1), .second, .val (.long p2), .second, .val (.long p3), .second, .val (.int (p0 &&& (3 : Int32))), .val (.int (p0 >>> ((2 : Int32) &&& 31))), .val (.int l0), .val (.int l1), .val (.int l2), .val (.int s0), .val (.int (s0 + l0)), .val (.int s1), .val (.int (s1 + l1)), .val (.int s2), .val (.int (s2 + l2)), .val (.ref b76), .unset, .val (.long (0 : Int64)), .second, .unset] [(.ref b87)])) _
          refine XS.astore X95.here hx rfl (hb hby at_168) rfl rfl (l' := #[.val (.int p0), .val (.long p1), .second, .val (.long p2), .second, .val (.long p3), .second, .val (.int (p0 &&& (3 : Int32))), .val (.int (p0 >>> ((2 : Int32) &&& 31))), .val (.int l0), .val (.int l1), .val (.int l2), .val (.int s0), .val (.int (s0 + l0)), .val (.int s1), .val (.int (s1 + l1)), .val (.int s2), .val (.int (s2 + l2)), .val (.ref b76), .val (.ref b87), .val (.long (0 : Int64)), .second, .unset]) rfl ?_
          show Steps p.tables e below (T95.setTop (mkF m 170 #[.val (.int p0), .val (.long p1), .second, .val (.long p2), .second, .val (.long p3), .second, .val (.int (p0 &&& (3 : Int32))), .val (.int (p0 >>> ((2 : Int32) &&& 31))), .val (.int l0), .val (.int l1), .val (.int l2), .val (.int s0), .val (.int (s0 + l0)), .val (.int s1), .val (.int (s1 + l1)), .val (.int s2), .val (.int (s2 + l2)), .val (.ref b76), .val (.ref b87), .val (.long (0 : Int64)), .second, .unset] [])) _
          refine XS.iload X95.here hx rfl (hb hby at_170) rfl ?_
          show Steps p.tables e below (T95.setTop (mkF m 172 #[.val (.int p0), .val (.long p1), .second, .val (.long p2), .second, .val (.long p3), .second, .val (.int (p0 &&& (3 : Int32))), .val (.int (p0 >>> ((2 : Int32) &&& 31))), .val (.int l0), .val (.int l1), .val (.int l2), .val (.int s0), .val (.int (s0 + l0)), .val (.int s1), .val (.int (s1 + l1)), .val (.int s2), .val (.int (s2 + l2)), .val (.ref b76), .val (.ref b87), .val (.long (0 : Int64)), .second, .unset] [(.int l0)])) _
          refine XS.i2l X95.here hx rfl (hb hby at_172) rfl ?_
          show Steps p.tables e below (T95.setTop (mkF m 173 #[.val (.int p0), .val (.long p1), .second, .val (.long p2), .second, .val (.long p3), .second, .val (.int (p0 &&& (3 : Int32))), .val (.int (p0 >>> ((2 : Int32) &&& 31))), .val (.int l0), .val (.int l1), .val (.int l2), .val (.int s0), .val (.int (s0 + l0)), .val (.int s1), .val (.int (s1 + l1)), .val (.int s2), .val (.int (s2 + l2)), .val (.ref b76), .val (.ref b87), .val (.long (0 : Int64)), .second, .unset] [(.long (l0.toInt64))])) _
          refine XS.iload X95.here hx rfl (hb hby at_173) rfl ?_
          show Steps p.tables e below (T95.setTop (mkF m 175 #[.val (.int p0), .val (.long p1), .second, .val (.long p2), .second, .val (.long p3), .second, .val (.int (p0 &&& (3 : Int32))), .val (.int (p0 >>> ((2 : Int32) &&& 31))), .val (.int l0), .val (.int l1), .val (.int l2), .val (.int s0), .val (.int (s0 + l0)), .val (.int s1), .val (.int (s1 + l1)), .val (.int s2), .val (.int (s2 + l2)), .val (.ref b76), .val (.ref b87), .val (.long (0 : Int64)), .second, .unset] [(.int l1), (.long (l0.toInt64))])) _
          refine XS.i2l X95.here hx rfl (hb hby at_175) rfl ?_
          show Steps p.tables e below (T95.setTop (mkF m 176 #[.val (.int p0), .val (.long p1), .second, .val (.long p2), .second, .val (.long p3), .second, .val (.int (p0 &&& (3 : Int32))), .val (.int (p0 >>> ((2 : Int32) &&& 31))), .val (.int l0), .val (.int l1), .val (.int l2), .val (.int s0), .val (.int (s0 + l0)), .val (.int s1), .val (.int (s1 + l1)), .val (.int s2), .val (.int (s2 + l2)), .val (.ref b76), .val (.ref b87), .val (.long (0 : Int64)), .second, .unset] [(.long (l1.toInt64)), (.long (l0.toInt64))])) _
          refine XS.ladd X95.here hx rfl (hb hby at_176) rfl ?_
          show Steps p.tables e below (T95.setTop (mkF m 177 #[.val (.int p0), .val (.long p1), .second, .val (.long p2), .second, .val (.long p3), .second, .val (.int (p0 &&& (3 : Int32))), .val (.int (p0 >>> ((2 : Int32) &&& 31))), .val (.int l0), .val (.int l1), .val (.int l2), .val (.int s0), .val (.int (s0 + l0)), .val (.int s1), .val (.int (s1 + l1)), .val (.int s2), .val (.int (s2 + l2)), .val (.ref b76), .val (.ref b87), .val (.long (0 : Int64)), .second, .unset] [(.long ((l0.toInt64) + (l1.toInt64)))])) _
          refine XS.lstore X95.here hx rfl (hb hby at_177) rfl (l' := #[.val (.int p0), .val (.long p1), .second, .val (.long p2), .second, .val (.long p3), .second, .val (.int (p0 &&& (3 : Int32))), .val (.int (p0 >>> ((2 : Int32) &&& 31))), .val (.int l0), .val (.int l1), .val (.int l2), .val (.int s0), .val (.int (s0 + l0)), .val (.int s1), .val (.int (s1 + l1)), .val (.int s2), .val (.int (s2 + l2)), .val (.ref b76), .val (.ref b87), .val (.long ((l0.toInt64) + (l1.toInt64))), .second, .unset]) rfl ?_
          show Steps p.tables e below (T95.setTop (mkF m 179 #[.val (.int p0), .val (.long p1), .second, .val (.long p2), .second, .val (.long p3), .second, .val (.int (p0 &&& (3 : Int32))), .val (.int (p0 >>> ((2 : Int32) &&& 31))), .val (.int l0), .val (.int l1), .val (.int l2), .val (.int s0), .val (.int (s0 + l0)), .val (.int s1), .val (.int (s1 + l1)), .val (.int s2), .val (.int (s2 + l2)), .val (.ref b76), .val (.ref b87), .val (.long ((l0.toInt64) + (l1.toInt64))), .second, .unset] [])) _
          refine XS.goto X95.here hx rfl (pc0 := 179) (pc' := 235) rfl (hb hby at_179) (by decide) (by decide) ?_
          show Steps p.tables e below (T95.setTop (mkF m 235 #[.val (.int p0), .val (.long p1), .second, .val (.long p2), .second, .val (.long p3), .second, .val (.int (p0 &&& (3 : Int32))), .val (.int (p0 >>> ((2 : Int32) &&& 31))), .val (.int l0), .val (.int l1), .val (.int l2), .val (.int s0), .val (.int (s0 + l0)), .val (.int s1), .val (.int (s1 + l1)), .val (.int s2), .val (.int (s2 + l2)), .val (.ref b76), .val (.ref b87), .val (.long ((l0.toInt64) + (l1.toInt64))), .second, .unset] [])) _
          exact q
        obtain ⟨T98, h98, X98, e98, E98, A98, D98, -, st98⟩ := newO X95 hx hZ hown (hw _ (List.mem_of_getElem? (i := 10) rfl)) (hw _ (List.mem_of_getElem? (i := 11) rfl)) (hw _ (List.mem_of_getElem? (i := 12) rfl)) e95 (g := (mkF m 235 #[.val (.int p0), .val (.long p1), .second, .val (.long p2), .second, .val (.long p3), .second, .val (.int (p0 &&& (3 : Int32))), .val (.int (p0 >>> ((2 : Int32) &&& 31))), .val (.int l0), .val (.int l1), .val (.int l2), .val (.int s0), .val (.int (s0 + l0)), .val (.int s1), .val (.int (s1 + l1)), .val (.int s2), .val (.int (s2 + l2)), .val (.ref b76), .val (.ref b87), .val (.long ((l0.toInt64) + (l1.toInt64))), .second, .unset] [])) rfl (hb hby at_235) (by decide) (by decide)
        obtain ⟨b98, g98⟩ : ∃ z, z = h95.size := ⟨_, rfl⟩
        rw [← g98] at A98 D98 st98
        have k99_ : ∀ t, Steps p.tables e below (T98.setTop (mkF m 238 #[.val (.int p0), .val (.long p1), .second, .val (.long p2), .second, .val (.long p3), .second, .val (.int (p0 &&& (3 : Int32))), .val (.int (p0 >>> ((2 : Int32) &&& 31))), .val (.int l0), .val (.int l1), .val (.int l2), .val (.int s0), .val (.int (s0 + l0)), .val (.int s1), .val (.int (s1 + l1)), .val (.int s2), .val (.int (s2 + l2)), .val (.ref b76), .val (.ref b87), .val (.long ((l0.toInt64) + (l1.toInt64))), .second, .unset] [(.ref b98)])) t → Steps p.tables e below (s₁.setTop (mkF m 0 #[.val (.int p0), .val (.long p1), .second, .val (.long p2), .second, .val (.long p3), .second, .unset, .unset, .unset, .unset, .unset, .unset, .unset, .unset, .unset, .unset, .unset, .unset, .unset, .unset, .unset, .unset] [])) t := fun t q => k97_ t (st98 t q)
        have ne_b76_b98 : b76 ≠ b98 := Nat.ne_of_lt (Nat.lt_of_lt_of_le V_b76.lt (Nat.le_of_eq g98.symm))
        have ne_b87_b98 : b87 ≠ b98 := Nat.ne_of_lt (Nat.lt_of_lt_of_le V_b87.lt (Nat.le_of_eq g98.symm))
        have g_b98 : n0 ≤ b98 := Nat.le_trans Zn (Nat.le_of_eq g98.symm)
        replace Zn := Nat.le_trans Zn E98.1
        replace V_b76 := V_b76.ext E98
        replace V_b87 := V_b87.ext E98
        have F_line : Fld Z h98 b98 "com/example/haku/haku/eval/FocusedJudgments$Judged" "line" "I" (.int (0 : Int32)) := D98 (Or.inr (hw _ (List.mem_of_getElem? (i := 25) rfl))) (ty := .int) (by decide)
        have F_starts : Fld Z h98 b98 "com/example/haku/haku/eval/FocusedJudgments$Judged" "starts" "[I" .null := D98 (Or.inr (hw _ (List.mem_of_getElem? (i := 27) rfl))) (ty := (.array .int)) (by decide)
        have F_ends : Fld Z h98 b98 "com/example/haku/haku/eval/FocusedJudgments$Judged" "ends" "[I" .null := D98 (Or.inr (hw _ (List.mem_of_getElem? (i := 29) rfl))) (ty := (.array .int)) (by decide)
        have k100_ : ∀ t, Steps p.tables e below (T98.setTop (mkF m 245 #[.val (.int p0), .val (.long p1), .second, .val (.long p2), .second, .val (.long p3), .second, .val (.int (p0 &&& (3 : Int32))), .val (.int (p0 >>> ((2 : Int32) &&& 31))), .val (.int l0), .val (.int l1), .val (.int l2), .val (.int s0), .val (.int (s0 + l0)), .val (.int s1), .val (.int (s1 + l1)), .val (.int s2), .val (.int (s2 + l2)), .val (.ref b76), .val (.ref b87), .val (.long ((l0.toInt64) + (l1.toInt64))), .second, .unset] [(.ref b87), (.ref b76), (.int (p0 >>> ((2 : Int32) &&& 31))), (.ref b98), (.ref b98)])) t → Steps p.tables e below (s₁.setTop (mkF m 0 #[.val (.int p0), .val (.long p1), .second, .val (.long p2), .second, .val (.long p3), .second, .unset, .unset, .unset, .unset, .unset, .unset, .unset, .unset, .unset, .unset, .unset, .unset, .unset, .unset, .unset, .unset] [])) t := by
          intro t q
          refine k99_ _ ?_
          show Steps p.tables e below (T98.setTop (mkF m 238 #[.val (.int p0), .val (.long p1), .second, .val (.long p2), .second, .val (.long p3), .second, .val (.int (p0 &&& (3 : Int32))), .val (.int (p0 >>> ((2 : Int32) &&& 31))), .val (.int l0), .val (.int l1), .val (.int l2), .val (.int s0), .val (.int (s0 + l0)), .val (.int s1), .val (.int (s1 + l1)), .val (.int s2), .val (.int (s2 + l2)), .val (.ref b76), .val (.ref b87), .val (.long ((l0.toInt64) + (l1.toInt64))), .second, .unset] [(.ref b98)])) _
          refine XS.dup X98.here hx rfl (hb hby at_238) rfl rfl ?_
          show Steps p.tables e below (T98.setTop (mkF m 239 #[.val (.int p0), .val (.long p1), .second, .val (.long p2), .second, .val (.long p3), .second, .val (.int (p0 &&& (3 : Int32))), .val (.int (p0 >>> ((2 : Int32) &&& 31))), .val (.int l0), .val (.int l1), .val (.int l2), .val (.int s0), .val (.int (s0 + l0)), .val (.int s1), .val (.int (s1 + l1)), .val (.int s2), .val (.int (s2 + l2)), .val (.ref b76), .val (.ref b87), .val (.long ((l0.toInt64) + (l1.toInt64))), .second, .unset] [(.ref b98), (.ref b98)])) _
          refine XS.iload X98.here hx rfl (hb hby at_239) rfl ?_
          show Steps p.tables e below (T98.setTop (mkF m 241 #[.val (.int p0), .val (.long p1), .second, .val (.long p2), .second, .val (.long p3), .second, .val (.int (p0 &&& (3 : Int32))), .val (.int (p0 >>> ((2 : Int32) &&& 31))), .val (.int l0), .val (.int l1), .val (.int l2), .val (.int s0), .val (.int (s0 + l0)), .val (.int s1), .val (.int (s1 + l1)), .val (.int s2), .val (.int (s2 + l2)), .val (.ref b76), .val (.ref b87), .val (.long ((l0.toInt64) + (l1.toInt64))), .second, .unset] [(.int (p0 >>> ((2 : Int32) &&& 31))), (.ref b98), (.ref b98)])) _
          refine XS.aload X98.here hx rfl (hb hby at_241) rfl rfl ?_
          show Steps p.tables e below (T98.setTop (mkF m 243 #[.val (.int p0), .val (.long p1), .second, .val (.long p2), .second, .val (.long p3), .second, .val (.int (p0 &&& (3 : Int32))), .val (.int (p0 >>> ((2 : Int32) &&& 31))), .val (.int l0), .val (.int l1), .val (.int l2), .val (.int s0), .val (.int (s0 + l0)), .val (.int s1), .val (.int (s1 + l1)), .val (.int s2), .val (.int (s2 + l2)), .val (.ref b76), .val (.ref b87), .val (.long ((l0.toInt64) + (l1.toInt64))), .second, .unset] [(.ref b76), (.int (p0 >>> ((2 : Int32) &&& 31))), (.ref b98), (.ref b98)])) _
          refine XS.aload X98.here hx rfl (hb hby at_243) rfl rfl ?_
          show Steps p.tables e below (T98.setTop (mkF m 245 #[.val (.int p0), .val (.long p1), .second, .val (.long p2), .second, .val (.long p3), .second, .val (.int (p0 &&& (3 : Int32))), .val (.int (p0 >>> ((2 : Int32) &&& 31))), .val (.int l0), .val (.int l1), .val (.int l2), .val (.int s0), .val (.int (s0 + l0)), .val (.int s1), .val (.int (s1 + l1)), .val (.int s2), .val (.int (s2 + l2)), .val (.ref b76), .val (.ref b87), .val (.long ((l0.toInt64) + (l1.toInt64))), .second, .unset] [(.ref b87), (.ref b76), (.int (p0 >>> ((2 : Int32) &&& 31))), (.ref b98), (.ref b98)])) _
          exact q
        obtain ⟨_, _, ⟨T101, L101, kk101, n101⟩, -, X101, ⟨Lc101, hQ101, l101, y101, z101⟩, st101⟩ := X98.specialBack hx (y := (⟨"com/example/haku/haku/eval/FocusedJudgments$Judged", "<init>", "(I[I[I)V"⟩ : MethodName)) rfl hown (mvT hZ (hw _ (List.mem_of_getElem? (i := 13) rfl))) (mvT hZ (hw _ (List.mem_of_getElem? (i := 14) rfl))) (mvT hZ (hw _ (List.mem_of_getElem? (i := 15) rfl))) (by decide) (backOf (W := 1) (rmI l Z a0 hw [] b98 (p0 >>> ((2 : Int32) &&& 31)) b76 b87 h98 n0 Zn A98 F_line F_starts F_ends g_b98) hZ (hw _ (List.mem_of_getElem? (i := 15) rfl)) (hw _ (List.mem_of_getElem? (i := 12) rfl)) (by decide) (by decide)) (g := (mkF m 245 #[.val (.int p0), .val (.long p1), .second, .val (.long p2), .second, .val (.long p3), .second, .val (.int (p0 &&& (3 : Int32))), .val (.int (p0 >>> ((2 : Int32) &&& 31))), .val (.int l0), .val (.int l1), .val (.int l2), .val (.int s0), .val (.int (s0 + l0)), .val (.int s1), .val (.int (s1 + l1)), .val (.int s2), .val (.int (s2 + l2)), .val (.ref b76), .val (.ref b87), .val (.long ((l0.toInt64) + (l1.toInt64))), .second, .unset] [(.ref b87), (.ref b76), (.int (p0 >>> ((2 : Int32) &&& 31))), (.ref b98), (.ref b98)])) rfl (by rw [hml]; rfl) (Steps.refl _) (a := b98) (argsL := [(.int (p0 >>> ((2 : Int32) &&& 31))), (.ref b76), (.ref b87)]) (rest := [(.ref b98)]) (lenOf pd_32956 rfl) rfl (by show 2 * 0 + _ ≤ _; exact Nat.le_of_eq rfl) (hb hby at_245) (fun _ _ => ⟨rfl, e98, (by decide : 0 + 0 + 0 + 0 + 0 + 0 + 0 + 1 + 1 + 1 + 0 ≤ _), (by decide : 0 + 0 + 0 + 0 + 0 + 0 + 0 + 2 + 2 + 3 + 0 ≤ _)⟩)
        dsimp only [Pt.U, Pt.locs, Pt.cells, Pt.slots] at X101 l101 y101 z101 st101 hQ101
        subst l101 y101 z101
        obtain ⟨rfl, Nq101, KI, EI, FS, FE⟩ := hQ101
        have N101 := Fr.app N95 Nq101
        have k102_ : ∀ t, Steps p.tables e below (T101.setTop (mkF m 248 #[.val (.int p0), .val (.long p1), .second, .val (.long p2), .second, .val (.long p3), .second, .val (.int (p0 &&& (3 : Int32))), .val (.int (p0 >>> ((2 : Int32) &&& 31))), .val (.int l0), .val (.int l1), .val (.int l2), .val (.int s0), .val (.int (s0 + l0)), .val (.int s1), .val (.int (s1 + l1)), .val (.int s2), .val (.int (s2 + l2)), .val (.ref b76), .val (.ref b87), .val (.long ((l0.toInt64) + (l1.toInt64))), .second, .unset] [(.ref b98)])) t → Steps p.tables e below (s₁.setTop (mkF m 0 #[.val (.int p0), .val (.long p1), .second, .val (.long p2), .second, .val (.long p3), .second, .unset, .unset, .unset, .unset, .unset, .unset, .unset, .unset, .unset, .unset, .unset, .unset, .unset, .unset, .unset, .unset] [])) t := fun t q => k100_ t (st101.trans q)
        replace V_b76 := V_b76.keep KI (ninS ne_b76_b98 nin0)
        replace V_b87 := V_b87.keep KI (ninS ne_b87_b98 nin0)
        replace Zn := Nat.le_trans Zn KI.1
        have k103_ : ∀ t, Steps p.tables e below (T101.setTop (mkF m 252 #[.val (.int p0), .val (.long p1), .second, .val (.long p2), .second, .val (.long p3), .second, .val (.int (p0 &&& (3 : Int32))), .val (.int (p0 >>> ((2 : Int32) &&& 31))), .val (.int l0), .val (.int l1), .val (.int l2), .val (.int s0), .val (.int (s0 + l0)), .val (.int s1), .val (.int (s1 + l1)), .val (.int s2), .val (.int (s2 + l2)), .val (.ref b76), .val (.ref b87), .val (.long ((l0.toInt64) + (l1.toInt64))), .second, .val (.ref b98)] [(.ref b98)])) t → Steps p.tables e below (s₁.setTop (mkF m 0 #[.val (.int p0), .val (.long p1), .second, .val (.long p2), .second, .val (.long p3), .second, .unset, .unset, .unset, .unset, .unset, .unset, .unset, .unset, .unset, .unset, .unset, .unset, .unset, .unset, .unset, .unset] [])) t := by
          intro t q
          refine k102_ _ ?_
          show Steps p.tables e below (T101.setTop (mkF m 248 #[.val (.int p0), .val (.long p1), .second, .val (.long p2), .second, .val (.long p3), .second, .val (.int (p0 &&& (3 : Int32))), .val (.int (p0 >>> ((2 : Int32) &&& 31))), .val (.int l0), .val (.int l1), .val (.int l2), .val (.int s0), .val (.int (s0 + l0)), .val (.int s1), .val (.int (s1 + l1)), .val (.int s2), .val (.int (s2 + l2)), .val (.ref b76), .val (.ref b87), .val (.long ((l0.toInt64) + (l1.toInt64))), .second, .unset] [(.ref b98)])) _
          refine XS.astore X101.here hx rfl (hb hby at_248) rfl rfl (l' := #[.val (.int p0), .val (.long p1), .second, .val (.long p2), .second, .val (.long p3), .second, .val (.int (p0 &&& (3 : Int32))), .val (.int (p0 >>> ((2 : Int32) &&& 31))), .val (.int l0), .val (.int l1), .val (.int l2), .val (.int s0), .val (.int (s0 + l0)), .val (.int s1), .val (.int (s1 + l1)), .val (.int s2), .val (.int (s2 + l2)), .val (.ref b76), .val (.ref b87), .val (.long ((l0.toInt64) + (l1.toInt64))), .second, .val (.ref b98)]) rfl ?_
          show Steps p.tables e below (T101.setTop (mkF m 250 #[.val (.int p0), .val (.long p1), .second, .val (.long p2), .second, .val (.long p3), .second, .val (.int (p0 &&& (3 : Int32))), .val (.int (p0 >>> ((2 : Int32) &&& 31))), .val (.int l0), .val (.int l1), .val (.int l2), .val (.int s0), .val (.int (s0 + l0)), .val (.int s1), .val (.int (s1 + l1)), .val (.int s2), .val (.int (s2 + l2)), .val (.ref b76), .val (.ref b87), .val (.long ((l0.toInt64) + (l1.toInt64))), .second, .val (.ref b98)] [])) _
          refine XS.aload X101.here hx rfl (hb hby at_250) rfl rfl ?_
          show Steps p.tables e below (T101.setTop (mkF m 252 #[.val (.int p0), .val (.long p1), .second, .val (.long p2), .second, .val (.long p3), .second, .val (.int (p0 &&& (3 : Int32))), .val (.int (p0 >>> ((2 : Int32) &&& 31))), .val (.int l0), .val (.int l1), .val (.int l2), .val (.int s0), .val (.int (s0 + l0)), .val (.int s1), .val (.int (s1 + l1)), .val (.int s2), .val (.int (s2 + l2)), .val (.ref b76), .val (.ref b87), .val (.long ((l0.toInt64) + (l1.toInt64))), .second, .val (.ref b98)] [(.ref b98)])) _
          exact q
        obtain ⟨cq104, kq104, q104a, q104b, q104c⟩ := isOf hZ rfl EI
        obtain ⟨_, _, ⟨T104, L104, kk104, n104⟩, -, X104, ⟨Lc104, hQ104, l104, y104, z104⟩, st104⟩ := X101.virtualBack hx (y := (⟨"com/example/haku/haku/eval/FocusedJudgments$Judged", "characters", "()J"⟩ : MethodName)) (z := (⟨"com/example/haku/haku/eval/FocusedJudgments$Judged", "characters", "()J"⟩ : MethodName)) hown (mvT hZ (hw _ (List.mem_of_getElem? (i := 30) rfl))) (mvT hZ (hw _ (List.mem_of_getElem? (i := 31) rfl))) (notFace_of_selects (args := #[]) (mvT hZ (hw _ (List.mem_of_getElem? (i := 33) rfl)))) (mvT hZ (hw _ (List.mem_of_getElem? (i := 33) rfl))) (mvT hZ (hw _ (List.mem_of_getElem? (i := 32) rfl))) (by decide) (backOf (W := 0) (rmH2 l Z a0 hw [] b98 b76 b87 c76 c87 s0 s1 (s0 + l0) (s1 + l1) T101.heap n0 Zn FS FE V_b76 V_b87) hZ (hw _ (List.mem_of_getElem? (i := 34) rfl)) (hw _ (List.mem_of_getElem? (i := 12) rfl)) (by decide) (by decide)) q104a q104c (g := (mkF m 252 #[.val (.int p0), .val (.long p1), .second, .val (.long p2), .second, .val (.long p3), .second, .val (.int (p0 &&& (3 : Int32))), .val (.int (p0 >>> ((2 : Int32) &&& 31))), .val (.int l0), .val (.int l1), .val (.int l2), .val (.int s0), .val (.int (s0 + l0)), .val (.int s1), .val (.int (s1 + l1)), .val (.int s2), .val (.int (s2 + l2)), .val (.ref b76), .val (.ref b87), .val (.long ((l0.toInt64) + (l1.toInt64))), .second, .val (.ref b98)] [(.ref b98)])) rfl (by rw [hml]; rfl) (Steps.refl _) (argsL := []) (rest := []) (lenOf pd_48322 rfl) rfl (by show 2 * 0 + _ ≤ _; exact Nat.le_of_eq rfl) (hb hby at_252) (fun _ _ => ⟨rfl, rfl, (by decide : 0 + 0 + 0 + 0 + 0 + 0 + 0 + 1 + 1 + 1 + 0 + 0 ≤ _), (by decide : 0 + 0 + 0 + 0 + 0 + 0 + 0 + 2 + 2 + 3 + 0 + 0 ≤ _)⟩)
        dsimp only [Pt.U, Pt.locs, Pt.cells, Pt.slots] at X104 l104 y104 z104 st104 hQ104
        subst l104 y104 z104
        obtain ⟨rfl, Nq104, hq104⟩ := hQ104
        have N104 := Fr.app N101 Nq104
        have k105_ : ∀ t, Steps p.tables e below (T104.setTop (mkF m 255 #[.val (.int p0), .val (.long p1), .second, .val (.long p2), .second, .val (.long p3), .second, .val (.int (p0 &&& (3 : Int32))), .val (.int (p0 >>> ((2 : Int32) &&& 31))), .val (.int l0), .val (.int l1), .val (.int l2), .val (.int s0), .val (.int (s0 + l0)), .val (.int s1), .val (.int (s1 + l1)), .val (.int s2), .val (.int (s2 + l2)), .val (.ref b76), .val (.ref b87), .val (.long ((l0.toInt64) + (l1.toInt64))), .second, .val (.ref b98)] [(.long (((0 : Int64) + (((s0 + l0) - s0).toInt64)) + (((s1 + l1) - s1).toInt64)))])) t → Steps p.tables e below (s₁.setTop (mkF m 0 #[.val (.int p0), .val (.long p1), .second, .val (.long p2), .second, .val (.long p3), .second, .unset, .unset, .unset, .unset, .unset, .unset, .unset, .unset, .unset, .unset, .unset, .unset, .unset, .unset, .unset, .unset] [])) t := fun t q => k103_ t (st104.trans q)
        have k106_ : ∀ t, Steps p.tables e below (T104.setTop (mkF m 258 #[.val (.int p0), .val (.long p1), .second, .val (.long p2), .second, .val (.long p3), .second, .val (.int (p0 &&& (3 : Int32))), .val (.int (p0 >>> ((2 : Int32) &&& 31))), .val (.int l0), .val (.int l1), .val (.int l2), .val (.int s0), .val (.int (s0 + l0)), .val (.int s1), .val (.int (s1 + l1)), .val (.int s2), .val (.int (s2 + l2)), .val (.ref b76), .val (.ref b87), .val (.long ((l0.toInt64) + (l1.toInt64))), .second, .val (.ref b98)] [(.int (lcmpW (((0 : Int64) + (((s0 + l0) - s0).toInt64)) + (((s1 + l1) - s1).toInt64)) ((l0.toInt64) + (l1.toInt64))))])) t → Steps p.tables e below (s₁.setTop (mkF m 0 #[.val (.int p0), .val (.long p1), .second, .val (.long p2), .second, .val (.long p3), .second, .unset, .unset, .unset, .unset, .unset, .unset, .unset, .unset, .unset, .unset, .unset, .unset, .unset, .unset, .unset, .unset] [])) t := by
          intro t q
          refine k105_ _ ?_
          show Steps p.tables e below (T104.setTop (mkF m 255 #[.val (.int p0), .val (.long p1), .second, .val (.long p2), .second, .val (.long p3), .second, .val (.int (p0 &&& (3 : Int32))), .val (.int (p0 >>> ((2 : Int32) &&& 31))), .val (.int l0), .val (.int l1), .val (.int l2), .val (.int s0), .val (.int (s0 + l0)), .val (.int s1), .val (.int (s1 + l1)), .val (.int s2), .val (.int (s2 + l2)), .val (.ref b76), .val (.ref b87), .val (.long ((l0.toInt64) + (l1.toInt64))), .second, .val (.ref b98)] [(.long (((0 : Int64) + (((s0 + l0) - s0).toInt64)) + (((s1 + l1) - s1).toInt64)))])) _
          refine XS.lload X104.here hx rfl (hb hby at_255) rfl ?_
          show Steps p.tables e below (T104.setTop (mkF m 257 #[.val (.int p0), .val (.long p1), .second, .val (.long p2), .second, .val (.long p3), .second, .val (.int (p0 &&& (3 : Int32))), .val (.int (p0 >>> ((2 : Int32) &&& 31))), .val (.int l0), .val (.int l1), .val (.int l2), .val (.int s0), .val (.int (s0 + l0)), .val (.int s1), .val (.int (s1 + l1)), .val (.int s2), .val (.int (s2 + l2)), .val (.ref b76), .val (.ref b87), .val (.long ((l0.toInt64) + (l1.toInt64))), .second, .val (.ref b98)] [(.long ((l0.toInt64) + (l1.toInt64))), (.long (((0 : Int64) + (((s0 + l0) - s0).toInt64)) + (((s1 + l1) - s1).toInt64)))])) _
          refine XS.lcmp X104.here hx rfl (hb hby at_257) rfl ?_
          show Steps p.tables e below (T104.setTop (mkF m 258 #[.val (.int p0), .val (.long p1), .second, .val (.long p2), .second, .val (.long p3), .second, .val (.int (p0 &&& (3 : Int32))), .val (.int (p0 >>> ((2 : Int32) &&& 31))), .val (.int l0), .val (.int l1), .val (.int l2), .val (.int s0), .val (.int (s0 + l0)), .val (.int s1), .val (.int (s1 + l1)), .val (.int s2), .val (.int (s2 + l2)), .val (.ref b76), .val (.ref b87), .val (.long ((l0.toInt64) + (l1.toInt64))), .second, .val (.ref b98)] [(.int (lcmpW (((0 : Int64) + (((s0 + l0) - s0).toInt64)) + (((s1 + l1) - s1).toInt64)) ((l0.toInt64) + (l1.toInt64))))])) _
          exact q
        have k107_ : ∀ t, Steps p.tables e below (T104.setTop (mkF m 261 #[.val (.int p0), .val (.long p1), .second, .val (.long p2), .second, .val (.long p3), .second, .val (.int (p0 &&& (3 : Int32))), .val (.int (p0 >>> ((2 : Int32) &&& 31))), .val (.int l0), .val (.int l1), .val (.int l2), .val (.int s0), .val (.int (s0 + l0)), .val (.int s1), .val (.int (s1 + l1)), .val (.int s2), .val (.int (s2 + l2)), .val (.ref b76), .val (.ref b87), .val (.long ((l0.toInt64) + (l1.toInt64))), .second, .val (.ref b98)] [])) t → Steps p.tables e below (s₁.setTop (mkF m 0 #[.val (.int p0), .val (.long p1), .second, .val (.long p2), .second, .val (.long p3), .second, .unset, .unset, .unset, .unset, .unset, .unset, .unset, .unset, .unset, .unset, .unset, .unset, .unset, .unset, .unset, .unset] [])) t := by
          intro t q
          refine k106_ _ ?_
          show Steps p.tables e below (T104.setTop (mkF m 258 #[.val (.int p0), .val (.long p1), .second, .val (.long p2), .second, .val (.long p3), .second, .val (.int (p0 &&& (3 : Int32))), .val (.int (p0 >>> ((2 : Int32) &&& 31))), .val (.int l0), .val (.int l1), .val (.int l2), .val (.int s0), .val (.int (s0 + l0)), .val (.int s1), .val (.int (s1 + l1)), .val (.int s2), .val (.int (s2 + l2)), .val (.ref b76), .val (.ref b87), .val (.long ((l0.toInt64) + (l1.toInt64))), .second, .val (.ref b98)] [(.int (lcmpW (((0 : Int64) + (((s0 + l0) - s0).toInt64)) + (((s1 + l1) - s1).toInt64)) ((l0.toInt64) + (l1.toInt64))))])) _
          refine XS.ifNo X104.here hx rfl (hb hby at_258) rfl ((if0 _ _).trans (teq ((lw_eq _ _).mpr (by simp only [own_d, own_z]))).2) ?_
          show Steps p.tables e below (T104.setTop (mkF m 261 #[.val (.int p0), .val (.long p1), .second, .val (.long p2), .second, .val (.long p3), .second, .val (.int (p0 &&& (3 : Int32))), .val (.int (p0 >>> ((2 : Int32) &&& 31))), .val (.int l0), .val (.int l1), .val (.int l2), .val (.int s0), .val (.int (s0 + l0)), .val (.int s1), .val (.int (s1 + l1)), .val (.int s2), .val (.int (s2 + l2)), .val (.ref b76), .val (.ref b87), .val (.long ((l0.toInt64) + (l1.toInt64))), .second, .val (.ref b98)] [])) _
          exact q
        have k108_ : ∀ t, Steps p.tables e below (T104.setTop (mkF m 266 #[.val (.int p0), .val (.long p1), .second, .val (.long p2), .second, .val (.long p3), .second, .val (.int (p0 &&& (3 : Int32))), .val (.int (p0 >>> ((2 : Int32) &&& 31))), .val (.int l0), .val (.int l1), .val (.int l2), .val (.int s0), .val (.int (s0 + l0)), .val (.int s1), .val (.int (s1 + l1)), .val (.int s2), .val (.int (s2 + l2)), .val (.ref b76), .val (.ref b87), .val (.long ((l0.toInt64) + (l1.toInt64))), .second, .val (.ref b98)] [(.int (1 : Int32))])) t → Steps p.tables e below (s₁.setTop (mkF m 0 #[.val (.int p0), .val (.long p1), .second, .val (.long p2), .second, .val (.long p3), .second, .unset, .unset, .unset, .unset, .unset, .unset, .unset, .unset, .unset, .unset, .unset, .unset, .unset, .unset, .unset, .unset] [])) t := by
          intro t q
          refine k107_ _ ?_
          show Steps p.tables e below (T104.setTop (mkF m 261 #[.val (.int p0), .val (.long p1), .second, .val (.long p2), .second, .val (.long p3), .second, .val (.int (p0 &&& (3 : Int32))), .val (.int (p0 >>> ((2 : Int32) &&& 31))), .val (.int l0), .val (.int l1), .val (.int l2), .val (.int s0), .val (.int (s0 + l0)), .val (.int s1), .val (.int (s1 + l1)), .val (.int s2), .val (.int (s2 + l2)), .val (.ref b76), .val (.ref b87), .val (.long ((l0.toInt64) + (l1.toInt64))), .second, .val (.ref b98)] [])) _
          refine XS.iconst X104.here hx rfl (hb hby at_261) ?_
          show Steps p.tables e below (T104.setTop (mkF m 262 #[.val (.int p0), .val (.long p1), .second, .val (.long p2), .second, .val (.long p3), .second, .val (.int (p0 &&& (3 : Int32))), .val (.int (p0 >>> ((2 : Int32) &&& 31))), .val (.int l0), .val (.int l1), .val (.int l2), .val (.int s0), .val (.int (s0 + l0)), .val (.int s1), .val (.int (s1 + l1)), .val (.int s2), .val (.int (s2 + l2)), .val (.ref b76), .val (.ref b87), .val (.long ((l0.toInt64) + (l1.toInt64))), .second, .val (.ref b98)] [(.int (1 : Int32))])) _
          refine XS.goto X104.here hx rfl (pc0 := 262) (pc' := 266) rfl (hb hby at_262) (by decide) (by decide) ?_
          show Steps p.tables e below (T104.setTop (mkF m 266 #[.val (.int p0), .val (.long p1), .second, .val (.long p2), .second, .val (.long p3), .second, .val (.int (p0 &&& (3 : Int32))), .val (.int (p0 >>> ((2 : Int32) &&& 31))), .val (.int l0), .val (.int l1), .val (.int l2), .val (.int s0), .val (.int (s0 + l0)), .val (.int s1), .val (.int (s1 + l1)), .val (.int s2), .val (.int (s2 + l2)), .val (.ref b76), .val (.ref b87), .val (.long ((l0.toInt64) + (l1.toInt64))), .second, .val (.ref b98)] [(.int (1 : Int32))])) _
          exact q
        obtain ⟨fs, hr, hrun, hended, hW, hsame⟩ := X104.leave (v := some (.int (1 : Int32))) (fun h => by rw [Bd.returns] at h; cases h)
        refine ⟨_, _, pre0 _ (k108_ _ ?_), hrun, hended, _, _, rfl, ?_, ⟨_, rfl⟩, hW, hsame.mono (by decide) (by decide)⟩
        · show Steps p.tables e below (T104.setTop (mkF m 266 #[.val (.int p0), .val (.long p1), .second, .val (.long p2), .second, .val (.long p3), .second, .val (.int (p0 &&& (3 : Int32))), .val (.int (p0 >>> ((2 : Int32) &&& 31))), .val (.int l0), .val (.int l1), .val (.int l2), .val (.int s0), .val (.int (s0 + l0)), .val (.int s1), .val (.int (s1 + l1)), .val (.int s2), .val (.int (s2 + l2)), .val (.ref b76), .val (.ref b87), .val (.long ((l0.toInt64) + (l1.toInt64))), .second, .val (.ref b98)] [(.int (1 : Int32))])) _
          exact retN X104 hx (t := .boolean) Bd.returns (by simp) (hb hby at_266) hr
        · show Q0 Z p0 p1 p2 p3 h0 n0 _ T104.heap _
          exact ⟨rfl, N104⟩
      · have k109_ : ∀ t, Steps p.tables e below (T19.setTop (mkF m 182 #[.val (.int p0), .val (.long p1), .second, .val (.long p2), .second, .val (.long p3), .second, .val (.int (p0 &&& (3 : Int32))), .val (.int (p0 >>> ((2 : Int32) &&& 31))), .val (.int l0), .val (.int l1), .val (.int l2), .val (.int s0), .val (.int (s0 + l0)), .val (.int s1), .val (.int (s1 + l1)), .val (.int s2), .val (.int (s2 + l2)), .unset, .unset, .val (.long (0 : Int64)), .second, .unset] [])) t → Steps p.tables e below (s₁.setTop (mkF m 0 #[.val (.int p0), .val (.long p1), .second, .val (.long p2), .second, .val (.long p3), .second, .unset, .unset, .unset, .unset, .unset, .unset, .unset, .unset, .unset, .unset, .unset, .unset, .unset, .unset, .unset, .unset] [])) t := by
          intro t q
          refine k73_ _ ?_
          show Steps p.tables e below (T19.setTop (mkF m 137 #[.val (.int p0), .val (.long p1), .second, .val (.long p2), .second, .val (.long p3), .second, .val (.int (p0 &&& (3 : Int32))), .val (.int (p0 >>> ((2 : Int32) &&& 31))), .val (.int l0), .val (.int l1), .val (.int l2), .val (.int s0), .val (.int (s0 + l0)), .val (.int s1), .val (.int (s1 + l1)), .val (.int s2), .val (.int (s2 + l2)), .unset, .unset, .val (.long (0 : Int64)), .second, .unset] [(.int (2 : Int32)), (.int (p0 &&& (3 : Int32)))])) _
          refine XS.icmpYes X19.here hx rfl (pc0 := 137) (pc' := 182) rfl (hb hby at_137) rfl (feq hk2).2 (by decide) (by decide) ?_
          show Steps p.tables e below (T19.setTop (mkF m 182 #[.val (.int p0), .val (.long p1), .second, .val (.long p2), .second, .val (.long p3), .second, .val (.int (p0 &&& (3 : Int32))), .val (.int (p0 >>> ((2 : Int32) &&& 31))), .val (.int l0), .val (.int l1), .val (.int l2), .val (.int s0), .val (.int (s0 + l0)), .val (.int s1), .val (.int (s1 + l1)), .val (.int s2), .val (.int (s2 + l2)), .unset, .unset, .val (.long (0 : Int64)), .second, .unset] [])) _
          exact q
        have k110_ : ∀ t, Steps p.tables e below (T19.setTop (mkF m 183 #[.val (.int p0), .val (.long p1), .second, .val (.long p2), .second, .val (.long p3), .second, .val (.int (p0 &&& (3 : Int32))), .val (.int (p0 >>> ((2 : Int32) &&& 31))), .val (.int l0), .val (.int l1), .val (.int l2), .val (.int s0), .val (.int (s0 + l0)), .val (.int s1), .val (.int (s1 + l1)), .val (.int s2), .val (.int (s2 + l2)), .unset, .unset, .val (.long (0 : Int64)), .second, .unset] [(.int (3 : Int32))])) t → Steps p.tables e below (s₁.setTop (mkF m 0 #[.val (.int p0), .val (.long p1), .second, .val (.long p2), .second, .val (.long p3), .second, .unset, .unset, .unset, .unset, .unset, .unset, .unset, .unset, .unset, .unset, .unset, .unset, .unset, .unset, .unset, .unset] [])) t := by
          intro t q
          refine k109_ _ ?_
          show Steps p.tables e below (T19.setTop (mkF m 182 #[.val (.int p0), .val (.long p1), .second, .val (.long p2), .second, .val (.long p3), .second, .val (.int (p0 &&& (3 : Int32))), .val (.int (p0 >>> ((2 : Int32) &&& 31))), .val (.int l0), .val (.int l1), .val (.int l2), .val (.int s0), .val (.int (s0 + l0)), .val (.int s1), .val (.int (s1 + l1)), .val (.int s2), .val (.int (s2 + l2)), .unset, .unset, .val (.long (0 : Int64)), .second, .unset] [])) _
          refine XS.iconst X19.here hx rfl (hb hby at_182) ?_
          show Steps p.tables e below (T19.setTop (mkF m 183 #[.val (.int p0), .val (.long p1), .second, .val (.long p2), .second, .val (.long p3), .second, .val (.int (p0 &&& (3 : Int32))), .val (.int (p0 >>> ((2 : Int32) &&& 31))), .val (.int l0), .val (.int l1), .val (.int l2), .val (.int s0), .val (.int (s0 + l0)), .val (.int s1), .val (.int (s1 + l1)), .val (.int s2), .val (.int (s2 + l2)), .unset, .unset, .val (.long (0 : Int64)), .second, .unset] [(.int (3 : Int32))])) _
          exact q
        obtain ⟨T111, h111, c111, X111, e111, E111, A111, st111⟩ := newP X19 hx hZ (hw _ (List.mem_of_getElem? (i := 9) rfl)) hq19 (g := (mkF m 183 #[.val (.int p0), .val (.long p1), .second, .val (.long p2), .second, .val (.long p3), .second, .val (.int (p0 &&& (3 : Int32))), .val (.int (p0 >>> ((2 : Int32) &&& 31))), .val (.int l0), .val (.int l1), .val (.int l2), .val (.int s0), .val (.int (s0 + l0)), .val (.int s1), .val (.int (s1 + l1)), .val (.int s2), .val (.int (s2 + l2)), .unset, .unset, .val (.long (0 : Int64)), .second, .unset] [(.int (3 : Int32))])) rfl (hb hby at_183) rfl (by decide) (cap := 3) (by decide) (by decide) (by decide) (by decide)
        obtain ⟨b111, g111⟩ : ∃ z, z = h0.size := ⟨_, rfl⟩
        rw [← g111] at A111 st111
        have k112_ : ∀ t, Steps p.tables e below (T111.setTop (mkF m 185 #[.val (.int p0), .val (.long p1), .second, .val (.long p2), .second, .val (.long p3), .second, .val (.int (p0 &&& (3 : Int32))), .val (.int (p0 >>> ((2 : Int32) &&& 31))), .val (.int l0), .val (.int l1), .val (.int l2), .val (.int s0), .val (.int (s0 + l0)), .val (.int s1), .val (.int (s1 + l1)), .val (.int s2), .val (.int (s2 + l2)), .unset, .unset, .val (.long (0 : Int64)), .second, .unset] [(.ref b111)])) t → Steps p.tables e below (s₁.setTop (mkF m 0 #[.val (.int p0), .val (.long p1), .second, .val (.long p2), .second, .val (.long p3), .second, .unset, .unset, .unset, .unset, .unset, .unset, .unset, .unset, .unset, .unset, .unset, .unset, .unset, .unset, .unset, .unset] [])) t := fun t q => k110_ t (st111 t q)
        have g_b111 : n0 ≤ b111 := Nat.le_trans Zn (Nat.le_of_eq g111.symm)
        replace Zn := Nat.le_trans Zn E111.1
        have V_b111 : Arv Z h111 b111 c111 .int (3 : Int32) [(.int (0 : Int32)), (.int (0 : Int32)), (.int (0 : Int32))] (.int (0 : Int32)) := (Arv.new A111 (by decide)).pad (pad_rep [] (.int (0 : Int32)) 3)
        have k113_ : ∀ t, Steps p.tables e below (T111.setTop (mkF m 189 #[.val (.int p0), .val (.long p1), .second, .val (.long p2), .second, .val (.long p3), .second, .val (.int (p0 &&& (3 : Int32))), .val (.int (p0 >>> ((2 : Int32) &&& 31))), .val (.int l0), .val (.int l1), .val (.int l2), .val (.int s0), .val (.int (s0 + l0)), .val (.int s1), .val (.int (s1 + l1)), .val (.int s2), .val (.int (s2 + l2)), .unset, .unset, .val (.long (0 : Int64)), .second, .unset] [(.int s0), (.int (0 : Int32)), (.ref b111), (.ref b111)])) t → Steps p.tables e below (s₁.setTop (mkF m 0 #[.val (.int p0), .val (.long p1), .second, .val (.long p2), .second, .val (.long p3), .second, .unset, .unset, .unset, .unset, .unset, .unset, .unset, .unset, .unset, .unset, .unset, .unset, .unset, .unset, .unset, .unset] [])) t := by
          intro t q
          refine k112_ _ ?_
          show Steps p.tables e below (T111.setTop (mkF m 185 #[.val (.int p0), .val (.long p1), .second, .val (.long p2), .second, .val (.long p3), .second, .val (.int (p0 &&& (3 : Int32))), .val (.int (p0 >>> ((2 : Int32) &&& 31))), .val (.int l0), .val (.int l1), .val (.int l2), .val (.int s0), .val (.int (s0 + l0)), .val (.int s1), .val (.int (s1 + l1)), .val (.int s2), .val (.int (s2 + l2)), .unset, .unset, .val (.long (0 : Int64)), .second, .unset] [(.ref b111)])) _
          refine XS.dup X111.here hx rfl (hb hby at_185) rfl rfl ?_
          show Steps p.tables e below (T111.setTop (mkF m 186 #[.val (.int p0), .val (.long p1), .second, .val (.long p2), .second, .val (.long p3), .second, .val (.int (p0 &&& (3 : Int32))), .val (.int (p0 >>> ((2 : Int32) &&& 31))), .val (.int l0), .val (.int l1), .val (.int l2), .val (.int s0), .val (.int (s0 + l0)), .val (.int s1), .val (.int (s1 + l1)), .val (.int s2), .val (.int (s2 + l2)), .unset, .unset, .val (.long (0 : Int64)), .second, .unset] [(.ref b111), (.ref b111)])) _
          refine XS.iconst X111.here hx rfl (hb hby at_186) ?_
          show Steps p.tables e below (T111.setTop (mkF m 187 #[.val (.int p0), .val (.long p1), .second, .val (.long p2), .second, .val (.long p3), .second, .val (.int (p0 &&& (3 : Int32))), .val (.int (p0 >>> ((2 : Int32) &&& 31))), .val (.int l0), .val (.int l1), .val (.int l2), .val (.int s0), .val (.int (s0 + l0)), .val (.int s1), .val (.int (s1 + l1)), .val (.int s2), .val (.int (s2 + l2)), .unset, .unset, .val (.long (0 : Int64)), .second, .unset] [(.int (0 : Int32)), (.ref b111), (.ref b111)])) _
          refine XS.iload X111.here hx rfl (hb hby at_187) rfl ?_
          show Steps p.tables e below (T111.setTop (mkF m 189 #[.val (.int p0), .val (.long p1), .second, .val (.long p2), .second, .val (.long p3), .second, .val (.int (p0 &&& (3 : Int32))), .val (.int (p0 >>> ((2 : Int32) &&& 31))), .val (.int l0), .val (.int l1), .val (.int l2), .val (.int s0), .val (.int (s0 + l0)), .val (.int s1), .val (.int (s1 + l1)), .val (.int s2), .val (.int (s2 + l2)), .unset, .unset, .val (.long (0 : Int64)), .second, .unset] [(.int s0), (.int (0 : Int32)), (.ref b111), (.ref b111)])) _
          exact q
        obtain ⟨cl114, Ar114, q114, S114, M114, H114, G114⟩ := V_b111
        obtain ⟨T115, h115, X115, e115, W115, st115⟩ := stI X111 hx hZ e111 Ar114 (j := (0 : Int32)) (inb_of S114 ⟨by decide, by decide⟩) (g := (mkF m 189 #[.val (.int p0), .val (.long p1), .second, .val (.long p2), .second, .val (.long p3), .second, .val (.int (p0 &&& (3 : Int32))), .val (.int (p0 >>> ((2 : Int32) &&& 31))), .val (.int l0), .val (.int l1), .val (.int l2), .val (.int s0), .val (.int (s0 + l0)), .val (.int s1), .val (.int (s1 + l1)), .val (.int s2), .val (.int (s2 + l2)), .unset, .unset, .val (.long (0 : Int64)), .second, .unset] [(.int s0), (.int (0 : Int32)), (.ref b111), (.ref b111)])) rfl rfl (hb hby at_189)
        have k116_ : ∀ t, Steps p.tables e below (T115.setTop (mkF m 190 #[.val (.int p0), .val (.long p1), .second, .val (.long p2), .second, .val (.long p3), .second, .val (.int (p0 &&& (3 : Int32))), .val (.int (p0 >>> ((2 : Int32) &&& 31))), .val (.int l0), .val (.int l1), .val (.int l2), .val (.int s0), .val (.int (s0 + l0)), .val (.int s1), .val (.int (s1 + l1)), .val (.int s2), .val (.int (s2 + l2)), .unset, .unset, .val (.long (0 : Int64)), .second, .unset] [(.ref b111)])) t → Steps p.tables e below (s₁.setTop (mkF m 0 #[.val (.int p0), .val (.long p1), .second, .val (.long p2), .second, .val (.long p3), .second, .unset, .unset, .unset, .unset, .unset, .unset, .unset, .unset, .unset, .unset, .unset, .unset, .unset, .unset, .unset, .unset] [])) t := fun t q => k113_ t (st115 t q)
        have N115 := Fr.snoc X115 N19 g_b111
        replace Zn := Nat.le_trans Zn (Keep.of_wr W115).1
        have V_b111 : Arv Z h115 b111 c111 .int (3 : Int32) [(.int s0), (.int (0 : Int32)), (.int (0 : Int32))] (.int (0 : Int32)) := Arv.set Ar114 q114 S114 M114 H114 G114 rfl W115 0 rfl (Nat.le_of_ble_eq_true rfl)
        have k117_ : ∀ t, Steps p.tables e below (T115.setTop (mkF m 194 #[.val (.int p0), .val (.long p1), .second, .val (.long p2), .second, .val (.long p3), .second, .val (.int (p0 &&& (3 : Int32))), .val (.int (p0 >>> ((2 : Int32) &&& 31))), .val (.int l0), .val (.int l1), .val (.int l2), .val (.int s0), .val (.int (s0 + l0)), .val (.int s1), .val (.int (s1 + l1)), .val (.int s2), .val (.int (s2 + l2)), .unset, .unset, .val (.long (0 : Int64)), .second, .unset] [(.int s1), (.int (1 : Int32)), (.ref b111), (.ref b111)])) t → Steps p.tables e below (s₁.setTop (mkF m 0 #[.val (.int p0), .val (.long p1), .second, .val (.long p2), .second, .val (.long p3), .second, .unset, .unset, .unset, .unset, .unset, .unset, .unset, .unset, .unset, .unset, .unset, .unset, .unset, .unset, .unset, .unset] [])) t := by
          intro t q
          refine k116_ _ ?_
          show Steps p.tables e below (T115.setTop (mkF m 190 #[.val (.int p0), .val (.long p1), .second, .val (.long p2), .second, .val (.long p3), .second, .val (.int (p0 &&& (3 : Int32))), .val (.int (p0 >>> ((2 : Int32) &&& 31))), .val (.int l0), .val (.int l1), .val (.int l2), .val (.int s0), .val (.int (s0 + l0)), .val (.int s1), .val (.int (s1 + l1)), .val (.int s2), .val (.int (s2 + l2)), .unset, .unset, .val (.long (0 : Int64)), .second, .unset] [(.ref b111)])) _
          refine XS.dup X115.here hx rfl (hb hby at_190) rfl rfl ?_
          show Steps p.tables e below (T115.setTop (mkF m 191 #[.val (.int p0), .val (.long p1), .second, .val (.long p2), .second, .val (.long p3), .second, .val (.int (p0 &&& (3 : Int32))), .val (.int (p0 >>> ((2 : Int32) &&& 31))), .val (.int l0), .val (.int l1), .val (.int l2), .val (.int s0), .val (.int (s0 + l0)), .val (.int s1), .val (.int (s1 + l1)), .val (.int s2), .val (.int (s2 + l2)), .unset, .unset, .val (.long (0 : Int64)), .second, .unset] [(.ref b111), (.ref b111)])) _
          refine XS.iconst X115.here hx rfl (hb hby at_191) ?_
          show Steps p.tables e below (T115.setTop (mkF m 192 #[.val (.int p0), .val (.long p1), .second, .val (.long p2), .second, .val (.long p3), .second, .val (.int (p0 &&& (3 : Int32))), .val (.int (p0 >>> ((2 : Int32) &&& 31))), .val (.int l0), .val (.int l1), .val (.int l2), .val (.int s0), .val (.int (s0 + l0)), .val (.int s1), .val (.int (s1 + l1)), .val (.int s2), .val (.int (s2 + l2)), .unset, .unset, .val (.long (0 : Int64)), .second, .unset] [(.int (1 : Int32)), (.ref b111), (.ref b111)])) _
          refine XS.iload X115.here hx rfl (hb hby at_192) rfl ?_
          show Steps p.tables e below (T115.setTop (mkF m 194 #[.val (.int p0), .val (.long p1), .second, .val (.long p2), .second, .val (.long p3), .second, .val (.int (p0 &&& (3 : Int32))), .val (.int (p0 >>> ((2 : Int32) &&& 31))), .val (.int l0), .val (.int l1), .val (.int l2), .val (.int s0), .val (.int (s0 + l0)), .val (.int s1), .val (.int (s1 + l1)), .val (.int s2), .val (.int (s2 + l2)), .unset, .unset, .val (.long (0 : Int64)), .second, .unset] [(.int s1), (.int (1 : Int32)), (.ref b111), (.ref b111)])) _
          exact q
        obtain ⟨cl118, Ar118, q118, S118, M118, H118, G118⟩ := V_b111
        obtain ⟨T119, h119, X119, e119, W119, st119⟩ := stI X115 hx hZ e115 Ar118 (j := (1 : Int32)) (inb_of S118 ⟨by decide, by decide⟩) (g := (mkF m 194 #[.val (.int p0), .val (.long p1), .second, .val (.long p2), .second, .val (.long p3), .second, .val (.int (p0 &&& (3 : Int32))), .val (.int (p0 >>> ((2 : Int32) &&& 31))), .val (.int l0), .val (.int l1), .val (.int l2), .val (.int s0), .val (.int (s0 + l0)), .val (.int s1), .val (.int (s1 + l1)), .val (.int s2), .val (.int (s2 + l2)), .unset, .unset, .val (.long (0 : Int64)), .second, .unset] [(.int s1), (.int (1 : Int32)), (.ref b111), (.ref b111)])) rfl rfl (hb hby at_194)
        have k120_ : ∀ t, Steps p.tables e below (T119.setTop (mkF m 195 #[.val (.int p0), .val (.long p1), .second, .val (.long p2), .second, .val (.long p3), .second, .val (.int (p0 &&& (3 : Int32))), .val (.int (p0 >>> ((2 : Int32) &&& 31))), .val (.int l0), .val (.int l1), .val (.int l2), .val (.int s0), .val (.int (s0 + l0)), .val (.int s1), .val (.int (s1 + l1)), .val (.int s2), .val (.int (s2 + l2)), .unset, .unset, .val (.long (0 : Int64)), .second, .unset] [(.ref b111)])) t → Steps p.tables e below (s₁.setTop (mkF m 0 #[.val (.int p0), .val (.long p1), .second, .val (.long p2), .second, .val (.long p3), .second, .unset, .unset, .unset, .unset, .unset, .unset, .unset, .unset, .unset, .unset, .unset, .unset, .unset, .unset, .unset, .unset] [])) t := fun t q => k117_ t (st119 t q)
        have N119 := Fr.snoc X119 N115 g_b111
        replace Zn := Nat.le_trans Zn (Keep.of_wr W119).1
        have V_b111 : Arv Z h119 b111 c111 .int (3 : Int32) [(.int s0), (.int s1), (.int (0 : Int32))] (.int (0 : Int32)) := Arv.set Ar118 q118 S118 M118 H118 G118 rfl W119 1 rfl (Nat.le_of_ble_eq_true rfl)
        have k121_ : ∀ t, Steps p.tables e below (T119.setTop (mkF m 199 #[.val (.int p0), .val (.long p1), .second, .val (.long p2), .second, .val (.long p3), .second, .val (.int (p0 &&& (3 : Int32))), .val (.int (p0 >>> ((2 : Int32) &&& 31))), .val (.int l0), .val (.int l1), .val (.int l2), .val (.int s0), .val (.int (s0 + l0)), .val (.int s1), .val (.int (s1 + l1)), .val (.int s2), .val (.int (s2 + l2)), .unset, .unset, .val (.long (0 : Int64)), .second, .unset] [(.int s2), (.int (2 : Int32)), (.ref b111), (.ref b111)])) t → Steps p.tables e below (s₁.setTop (mkF m 0 #[.val (.int p0), .val (.long p1), .second, .val (.long p2), .second, .val (.long p3), .second, .unset, .unset, .unset, .unset, .unset, .unset, .unset, .unset, .unset, .unset, .unset, .unset, .unset, .unset, .unset, .unset] [])) t := by
          intro t q
          refine k120_ _ ?_
          show Steps p.tables e below (T119.setTop (mkF m 195 #[.val (.int p0), .val (.long p1), .second, .val (.long p2), .second, .val (.long p3), .second, .val (.int (p0 &&& (3 : Int32))), .val (.int (p0 >>> ((2 : Int32) &&& 31))), .val (.int l0), .val (.int l1), .val (.int l2), .val (.int s0), .val (.int (s0 + l0)), .val (.int s1), .val (.int (s1 + l1)), .val (.int s2), .val (.int (s2 + l2)), .unset, .unset, .val (.long (0 : Int64)), .second, .unset] [(.ref b111)])) _
          refine XS.dup X119.here hx rfl (hb hby at_195) rfl rfl ?_
          show Steps p.tables e below (T119.setTop (mkF m 196 #[.val (.int p0), .val (.long p1), .second, .val (.long p2), .second, .val (.long p3), .second, .val (.int (p0 &&& (3 : Int32))), .val (.int (p0 >>> ((2 : Int32) &&& 31))), .val (.int l0), .val (.int l1), .val (.int l2), .val (.int s0), .val (.int (s0 + l0)), .val (.int s1), .val (.int (s1 + l1)), .val (.int s2), .val (.int (s2 + l2)), .unset, .unset, .val (.long (0 : Int64)), .second, .unset] [(.ref b111), (.ref b111)])) _
          refine XS.iconst X119.here hx rfl (hb hby at_196) ?_
          show Steps p.tables e below (T119.setTop (mkF m 197 #[.val (.int p0), .val (.long p1), .second, .val (.long p2), .second, .val (.long p3), .second, .val (.int (p0 &&& (3 : Int32))), .val (.int (p0 >>> ((2 : Int32) &&& 31))), .val (.int l0), .val (.int l1), .val (.int l2), .val (.int s0), .val (.int (s0 + l0)), .val (.int s1), .val (.int (s1 + l1)), .val (.int s2), .val (.int (s2 + l2)), .unset, .unset, .val (.long (0 : Int64)), .second, .unset] [(.int (2 : Int32)), (.ref b111), (.ref b111)])) _
          refine XS.iload X119.here hx rfl (hb hby at_197) rfl ?_
          show Steps p.tables e below (T119.setTop (mkF m 199 #[.val (.int p0), .val (.long p1), .second, .val (.long p2), .second, .val (.long p3), .second, .val (.int (p0 &&& (3 : Int32))), .val (.int (p0 >>> ((2 : Int32) &&& 31))), .val (.int l0), .val (.int l1), .val (.int l2), .val (.int s0), .val (.int (s0 + l0)), .val (.int s1), .val (.int (s1 + l1)), .val (.int s2), .val (.int (s2 + l2)), .unset, .unset, .val (.long (0 : Int64)), .second, .unset] [(.int s2), (.int (2 : Int32)), (.ref b111), (.ref b111)])) _
          exact q
        obtain ⟨cl122, Ar122, q122, S122, M122, H122, G122⟩ := V_b111
        obtain ⟨T123, h123, X123, e123, W123, st123⟩ := stI X119 hx hZ e119 Ar122 (j := (2 : Int32)) (inb_of S122 ⟨by decide, by decide⟩) (g := (mkF m 199 #[.val (.int p0), .val (.long p1), .second, .val (.long p2), .second, .val (.long p3), .second, .val (.int (p0 &&& (3 : Int32))), .val (.int (p0 >>> ((2 : Int32) &&& 31))), .val (.int l0), .val (.int l1), .val (.int l2), .val (.int s0), .val (.int (s0 + l0)), .val (.int s1), .val (.int (s1 + l1)), .val (.int s2), .val (.int (s2 + l2)), .unset, .unset, .val (.long (0 : Int64)), .second, .unset] [(.int s2), (.int (2 : Int32)), (.ref b111), (.ref b111)])) rfl rfl (hb hby at_199)
        have k124_ : ∀ t, Steps p.tables e below (T123.setTop (mkF m 200 #[.val (.int p0), .val (.long p1), .second, .val (.long p2), .second, .val (.long p3), .second, .val (.int (p0 &&& (3 : Int32))), .val (.int (p0 >>> ((2 : Int32) &&& 31))), .val (.int l0), .val (.int l1), .val (.int l2), .val (.int s0), .val (.int (s0 + l0)), .val (.int s1), .val (.int (s1 + l1)), .val (.int s2), .val (.int (s2 + l2)), .unset, .unset, .val (.long (0 : Int64)), .second, .unset] [(.ref b111)])) t → Steps p.tables e below (s₁.setTop (mkF m 0 #[.val (.int p0), .val (.long p1), .second, .val (.long p2), .second, .val (.long p3), .second, .unset, .unset, .unset, .unset, .unset, .unset, .unset, .unset, .unset, .unset, .unset, .unset, .unset, .unset, .unset, .unset] [])) t := fun t q => k121_ t (st123 t q)
        have N123 := Fr.snoc X123 N119 g_b111
        replace Zn := Nat.le_trans Zn (Keep.of_wr W123).1
        have V_b111 : Arv Z h123 b111 c111 .int (3 : Int32) [(.int s0), (.int s1), (.int s2)] (.int (0 : Int32)) := Arv.set Ar122 q122 S122 M122 H122 G122 rfl W123 2 rfl (Nat.le_of_ble_eq_true rfl)
        have k125_ : ∀ t, Steps p.tables e below (T123.setTop (mkF m 203 #[.val (.int p0), .val (.long p1), .second, .val (.long p2), .second, .val (.long p3), .second, .val (.int (p0 &&& (3 : Int32))), .val (.int (p0 >>> ((2 : Int32) &&& 31))), .val (.int l0), .val (.int l1), .val (.int l2), .val (.int s0), .val (.int (s0 + l0)), .val (.int s1), .val (.int (s1 + l1)), .val (.int s2), .val (.int (s2 + l2)), .val (.ref b111), .unset, .val (.long (0 : Int64)), .second, .unset] [(.int (3 : Int32))])) t → Steps p.tables e below (s₁.setTop (mkF m 0 #[.val (.int p0), .val (.long p1), .second, .val (.long p2), .second, .val (.long p3), .second, .unset, .unset, .unset, .unset, .unset, .unset, .unset, .unset, .unset, .unset, .unset, .unset, .unset, .unset, .unset, .unset] [])) t := by
          intro t q
          refine k124_ _ ?_
          show Steps p.tables e below (T123.setTop (mkF m 200 #[.val (.int p0), .val (.long p1), .second, .val (.long p2), .second, .val (.long p3), .second, .val (.int (p0 &&& (3 : Int32))), .val (.int (p0 >>> ((2 : Int32) &&& 31))), .val (.int l0), .val (.int l1), .val (.int l2), .val (.int s0), .val (.int (s0 + l0)), .val (.int s1), .val (.int (s1 + l1)), .val (.int s2), .val (.int (s2 + l2)), .unset, .unset, .val (.long (0 : Int64)), .second, .unset] [(.ref b111)])) _
          refine XS.astore X123.here hx rfl (hb hby at_200) rfl rfl (l' := #[.val (.int p0), .val (.long p1), .second, .val (.long p2), .second, .val (.long p3), .second, .val (.int (p0 &&& (3 : Int32))), .val (.int (p0 >>> ((2 : Int32) &&& 31))), .val (.int l0), .val (.int l1), .val (.int l2), .val (.int s0), .val (.int (s0 + l0)), .val (.int s1), .val (.int (s1 + l1)), .val (.int s2), .val (.int (s2 + l2)), .val (.ref b111), .unset, .val (.long (0 : Int64)), .second, .unset]) rfl ?_
          show Steps p.tables e below (T123.setTop (mkF m 202 #[.val (.int p0), .val (.long p1), .second, .val (.long p2), .second, .val (.long p3), .second, .val (.int (p0 &&& (3 : Int32))), .val (.int (p0 >>> ((2 : Int32) &&& 31))), .val (.int l0), .val (.int l1), .val (.int l2), .val (.int s0), .val (.int (s0 + l0)), .val (.int s1), .val (.int (s1 + l1)), .val (.int s2), .val (.int (s2 + l2)), .val (.ref b111), .unset, .val (.long (0 : Int64)), .second, .unset] [])) _
          refine XS.iconst X123.here hx rfl (hb hby at_202) ?_
          show Steps p.tables e below (T123.setTop (mkF m 203 #[.val (.int p0), .val (.long p1), .second, .val (.long p2), .second, .val (.long p3), .second, .val (.int (p0 &&& (3 : Int32))), .val (.int (p0 >>> ((2 : Int32) &&& 31))), .val (.int l0), .val (.int l1), .val (.int l2), .val (.int s0), .val (.int (s0 + l0)), .val (.int s1), .val (.int (s1 + l1)), .val (.int s2), .val (.int (s2 + l2)), .val (.ref b111), .unset, .val (.long (0 : Int64)), .second, .unset] [(.int (3 : Int32))])) _
          exact q
        obtain ⟨T126, h126, c126, X126, e126, E126, A126, st126⟩ := newP X123 hx hZ (hw _ (List.mem_of_getElem? (i := 9) rfl)) e123 (g := (mkF m 203 #[.val (.int p0), .val (.long p1), .second, .val (.long p2), .second, .val (.long p3), .second, .val (.int (p0 &&& (3 : Int32))), .val (.int (p0 >>> ((2 : Int32) &&& 31))), .val (.int l0), .val (.int l1), .val (.int l2), .val (.int s0), .val (.int (s0 + l0)), .val (.int s1), .val (.int (s1 + l1)), .val (.int s2), .val (.int (s2 + l2)), .val (.ref b111), .unset, .val (.long (0 : Int64)), .second, .unset] [(.int (3 : Int32))])) rfl (hb hby at_203) rfl (by decide) (cap := 3) (by decide) (by decide) (by decide) (by decide)
        obtain ⟨b126, g126⟩ : ∃ z, z = h123.size := ⟨_, rfl⟩
        rw [← g126] at A126 st126
        have k127_ : ∀ t, Steps p.tables e below (T126.setTop (mkF m 205 #[.val (.int p0), .val (.long p1), .second, .val (.long p2), .second, .val (.long p3), .second, .val (.int (p0 &&& (3 : Int32))), .val (.int (p0 >>> ((2 : Int32) &&& 31))), .val (.int l0), .val (.int l1), .val (.int l2), .val (.int s0), .val (.int (s0 + l0)), .val (.int s1), .val (.int (s1 + l1)), .val (.int s2), .val (.int (s2 + l2)), .val (.ref b111), .unset, .val (.long (0 : Int64)), .second, .unset] [(.ref b126)])) t → Steps p.tables e below (s₁.setTop (mkF m 0 #[.val (.int p0), .val (.long p1), .second, .val (.long p2), .second, .val (.long p3), .second, .unset, .unset, .unset, .unset, .unset, .unset, .unset, .unset, .unset, .unset, .unset, .unset, .unset, .unset, .unset, .unset] [])) t := fun t q => k125_ t (st126 t q)
        have ne_b111_b126 : b111 ≠ b126 := Nat.ne_of_lt (Nat.lt_of_lt_of_le V_b111.lt (Nat.le_of_eq g126.symm))
        have g_b126 : n0 ≤ b126 := Nat.le_trans Zn (Nat.le_of_eq g126.symm)
        replace Zn := Nat.le_trans Zn E126.1
        replace V_b111 := V_b111.ext E126
        have V_b126 : Arv Z h126 b126 c126 .int (3 : Int32) [(.int (0 : Int32)), (.int (0 : Int32)), (.int (0 : Int32))] (.int (0 : Int32)) := (Arv.new A126 (by decide)).pad (pad_rep [] (.int (0 : Int32)) 3)
        have k128_ : ∀ t, Steps p.tables e below (T126.setTop (mkF m 209 #[.val (.int p0), .val (.long p1), .second, .val (.long p2), .second, .val (.long p3), .second, .val (.int (p0 &&& (3 : Int32))), .val (.int (p0 >>> ((2 : Int32) &&& 31))), .val (.int l0), .val (.int l1), .val (.int l2), .val (.int s0), .val (.int (s0 + l0)), .val (.int s1), .val (.int (s1 + l1)), .val (.int s2), .val (.int (s2 + l2)), .val (.ref b111), .unset, .val (.long (0 : Int64)), .second, .unset] [(.int (s0 + l0)), (.int (0 : Int32)), (.ref b126), (.ref b126)])) t → Steps p.tables e below (s₁.setTop (mkF m 0 #[.val (.int p0), .val (.long p1), .second, .val (.long p2), .second, .val (.long p3), .second, .unset, .unset, .unset, .unset, .unset, .unset, .unset, .unset, .unset, .unset, .unset, .unset, .unset, .unset, .unset, .unset] [])) t := by
          intro t q
          refine k127_ _ ?_
          show Steps p.tables e below (T126.setTop (mkF m 205 #[.val (.int p0), .val (.long p1), .second, .val (.long p2), .second, .val (.long p3), .second, .val (.int (p0 &&& (3 : Int32))), .val (.int (p0 >>> ((2 : Int32) &&& 31))), .val (.int l0), .val (.int l1), .val (.int l2), .val (.int s0), .val (.int (s0 + l0)), .val (.int s1), .val (.int (s1 + l1)), .val (.int s2), .val (.int (s2 + l2)), .val (.ref b111), .unset, .val (.long (0 : Int64)), .second, .unset] [(.ref b126)])) _
          refine XS.dup X126.here hx rfl (hb hby at_205) rfl rfl ?_
          show Steps p.tables e below (T126.setTop (mkF m 206 #[.val (.int p0), .val (.long p1), .second, .val (.long p2), .second, .val (.long p3), .second, .val (.int (p0 &&& (3 : Int32))), .val (.int (p0 >>> ((2 : Int32) &&& 31))), .val (.int l0), .val (.int l1), .val (.int l2), .val (.int s0), .val (.int (s0 + l0)), .val (.int s1), .val (.int (s1 + l1)), .val (.int s2), .val (.int (s2 + l2)), .val (.ref b111), .unset, .val (.long (0 : Int64)), .second, .unset] [(.ref b126), (.ref b126)])) _
          refine XS.iconst X126.here hx rfl (hb hby at_206) ?_
          show Steps p.tables e below (T126.setTop (mkF m 207 #[.val (.int p0), .val (.long p1), .second, .val (.long p2), .second, .val (.long p3), .second, .val (.int (p0 &&& (3 : Int32))), .val (.int (p0 >>> ((2 : Int32) &&& 31))), .val (.int l0), .val (.int l1), .val (.int l2), .val (.int s0), .val (.int (s0 + l0)), .val (.int s1), .val (.int (s1 + l1)), .val (.int s2), .val (.int (s2 + l2)), .val (.ref b111), .unset, .val (.long (0 : Int64)), .second, .unset] [(.int (0 : Int32)), (.ref b126), (.ref b126)])) _
          refine XS.iload X126.here hx rfl (hb hby at_207) rfl ?_
          show Steps p.tables e below (T126.setTop (mkF m 209 #[.val (.int p0), .val (.long p1), .second, .val (.long p2), .second, .val (.long p3), .second, .val (.int (p0 &&& (3 : Int32))), .val (.int (p0 >>> ((2 : Int32) &&& 31))), .val (.int l0), .val (.int l1), .val (.int l2), .val (.int s0), .val (.int (s0 + l0)), .val (.int s1), .val (.int (s1 + l1)), .val (.int s2), .val (.int (s2 + l2)), .val (.ref b111), .unset, .val (.long (0 : Int64)), .second, .unset] [(.int (s0 + l0)), (.int (0 : Int32)), (.ref b126), (.ref b126)])) _
          exact q
        obtain ⟨cl129, Ar129, q129, S129, M129, H129, G129⟩ := V_b126
        obtain ⟨T130, h130, X130, e130, W130, st130⟩ := stI X126 hx hZ e126 Ar129 (j := (0 : Int32)) (inb_of S129 ⟨by decide, by decide⟩) (g := (mkF m 209 #[.val (.int p0), .val (.long p1), .second, .val (.long p2), .second, .val (.long p3), .second, .val (.int (p0 &&& (3 : Int32))), .val (.int (p0 >>> ((2 : Int32) &&& 31))), .val (.int l0), .val (.int l1), .val (.int l2), .val (.int s0), .val (.int (s0 + l0)), .val (.int s1), .val (.int (s1 + l1)), .val (.int s2), .val (.int (s2 + l2)), .val (.ref b111), .unset, .val (.long (0 : Int64)), .second, .unset] [(.int (s0 + l0)), (.int (0 : Int32)), (.ref b126), (.ref b126)])) rfl rfl (hb hby at_209)
        have k131_ : ∀ t, Steps p.tables e below (T130.setTop (mkF m 210 #[.val (.int p0), .val (.long p1), .second, .val (.long p2), .second, .val (.long p3), .second, .val (.int (p0 &&& (3 : Int32))), .val (.int (p0 >>> ((2 : Int32) &&& 31))), .val (.int l0), .val (.int l1), .val (.int l2), .val (.int s0), .val (.int (s0 + l0)), .val (.int s1), .val (.int (s1 + l1)), .val (.int s2), .val (.int (s2 + l2)), .val (.ref b111), .unset, .val (.long (0 : Int64)), .second, .unset] [(.ref b126)])) t → Steps p.tables e below (s₁.setTop (mkF m 0 #[.val (.int p0), .val (.long p1), .second, .val (.long p2), .second, .val (.long p3), .second, .unset, .unset, .unset, .unset, .unset, .unset, .unset, .unset, .unset, .unset, .unset, .unset, .unset, .unset, .unset, .unset] [])) t := fun t q => k128_ t (st130 t q)
        have N130 := Fr.snoc X130 N123 g_b126
        replace Zn := Nat.le_trans Zn (Keep.of_wr W130).1
        replace V_b111 := V_b111.other W130 ne_b111_b126
        have V_b126 : Arv Z h130 b126 c126 .int (3 : Int32) [(.int (s0 + l0)), (.int (0 : Int32)), (.int (0 : Int32))] (.int (0 : Int32)) := Arv.set Ar129 q129 S129 M129 H129 G129 rfl W130 0 rfl (Nat.le_of_ble_eq_true rfl)
        have k132_ : ∀ t, Steps p.tables e below (T130.setTop (mkF m 214 #[.val (.int p0), .val (.long p1), .second, .val (.long p2), .second, .val (.long p3), .second, .val (.int (p0 &&& (3 : Int32))), .val (.int (p0 >>> ((2 : Int32) &&& 31))), .val (.int l0), .val (.int l1), .val (.int l2), .val (.int s0), .val (.int (s0 + l0)), .val (.int s1), .val (.int (s1 + l1)), .val (.int s2), .val (.int (s2 + l2)), .val (.ref b111), .unset, .val (.long (0 : Int64)), .second, .unset] [(.int (s1 + l1)), (.int (1 : Int32)), (.ref b126), (.ref b126)])) t → Steps p.tables e below (s₁.setTop (mkF m 0 #[.val (.int p0), .val (.long p1), .second, .val (.long p2), .second, .val (.long p3), .second, .unset, .unset, .unset, .unset, .unset, .unset, .unset, .unset, .unset, .unset, .unset, .unset, .unset, .unset, .unset, .unset] [])) t := by
          intro t q
          refine k131_ _ ?_
          show Steps p.tables e below (T130.setTop (mkF m 210 #[.val (.int p0), .val (.long p1), .second, .val (.long p2), .second, .val (.long p3), .second, .val (.int (p0 &&& (3 : Int32))), .val (.int (p0 >>> ((2 : Int32) &&& 31))), .val (.int l0), .val (.int l1), .val (.int l2), .val (.int s0), .val (.int (s0 + l0)), .val (.int s1), .val (.int (s1 + l1)), .val (.int s2), .val (.int (s2 + l2)), .val (.ref b111), .unset, .val (.long (0 : Int64)), .second, .unset] [(.ref b126)])) _
          refine XS.dup X130.here hx rfl (hb hby at_210) rfl rfl ?_
          show Steps p.tables e below (T130.setTop (mkF m 211 #[.val (.int p0), .val (.long p1), .second, .val (.long p2), .second, .val (.long p3), .second, .val (.int (p0 &&& (3 : Int32))), .val (.int (p0 >>> ((2 : Int32) &&& 31))), .val (.int l0), .val (.int l1), .val (.int l2), .val (.int s0), .val (.int (s0 + l0)), .val (.int s1), .val (.int (s1 + l1)), .val (.int s2), .val (.int (s2 + l2)), .val (.ref b111), .unset, .val (.long (0 : Int64)), .second, .unset] [(.ref b126), (.ref b126)])) _
          refine XS.iconst X130.here hx rfl (hb hby at_211) ?_
          show Steps p.tables e below (T130.setTop (mkF m 212 #[.val (.int p0), .val (.long p1), .second, .val (.long p2), .second, .val (.long p3), .second, .val (.int (p0 &&& (3 : Int32))), .val (.int (p0 >>> ((2 : Int32) &&& 31))), .val (.int l0), .val (.int l1), .val (.int l2), .val (.int s0), .val (.int (s0 + l0)), .val (.int s1), .val (.int (s1 + l1)), .val (.int s2), .val (.int (s2 + l2)), .val (.ref b111), .unset, .val (.long (0 : Int64)), .second, .unset] [(.int (1 : Int32)), (.ref b126), (.ref b126)])) _
          refine XS.iload X130.here hx rfl (hb hby at_212) rfl ?_
          show Steps p.tables e below (T130.setTop (mkF m 214 #[.val (.int p0), .val (.long p1), .second, .val (.long p2), .second, .val (.long p3), .second, .val (.int (p0 &&& (3 : Int32))), .val (.int (p0 >>> ((2 : Int32) &&& 31))), .val (.int l0), .val (.int l1), .val (.int l2), .val (.int s0), .val (.int (s0 + l0)), .val (.int s1), .val (.int (s1 + l1)), .val (.int s2), .val (.int (s2 + l2)), .val (.ref b111), .unset, .val (.long (0 : Int64)), .second, .unset] [(.int (s1 + l1)), (.int (1 : Int32)), (.ref b126), (.ref b126)])) _
          exact q
        obtain ⟨cl133, Ar133, q133, S133, M133, H133, G133⟩ := V_b126
        obtain ⟨T134, h134, X134, e134, W134, st134⟩ := stI X130 hx hZ e130 Ar133 (j := (1 : Int32)) (inb_of S133 ⟨by decide, by decide⟩) (g := (mkF m 214 #[.val (.int p0), .val (.long p1), .second, .val (.long p2), .second, .val (.long p3), .second, .val (.int (p0 &&& (3 : Int32))), .val (.int (p0 >>> ((2 : Int32) &&& 31))), .val (.int l0), .val (.int l1), .val (.int l2), .val (.int s0), .val (.int (s0 + l0)), .val (.int s1), .val (.int (s1 + l1)), .val (.int s2), .val (.int (s2 + l2)), .val (.ref b111), .unset, .val (.long (0 : Int64)), .second, .unset] [(.int (s1 + l1)), (.int (1 : Int32)), (.ref b126), (.ref b126)])) rfl rfl (hb hby at_214)
        have k135_ : ∀ t, Steps p.tables e below (T134.setTop (mkF m 215 #[.val (.int p0), .val (.long p1), .second, .val (.long p2), .second, .val (.long p3), .second, .val (.int (p0 &&& (3 : Int32))), .val (.int (p0 >>> ((2 : Int32) &&& 31))), .val (.int l0), .val (.int l1), .val (.int l2), .val (.int s0), .val (.int (s0 + l0)), .val (.int s1), .val (.int (s1 + l1)), .val (.int s2), .val (.int (s2 + l2)), .val (.ref b111), .unset, .val (.long (0 : Int64)), .second, .unset] [(.ref b126)])) t → Steps p.tables e below (s₁.setTop (mkF m 0 #[.val (.int p0), .val (.long p1), .second, .val (.long p2), .second, .val (.long p3), .second, .unset, .unset, .unset, .unset, .unset, .unset, .unset, .unset, .unset, .unset, .unset, .unset, .unset, .unset, .unset, .unset] [])) t := fun t q => k132_ t (st134 t q)
        have N134 := Fr.snoc X134 N130 g_b126
        replace Zn := Nat.le_trans Zn (Keep.of_wr W134).1
        replace V_b111 := V_b111.other W134 ne_b111_b126
        have V_b126 : Arv Z h134 b126 c126 .int (3 : Int32) [(.int (s0 + l0)), (.int (s1 + l1)), (.int (0 : Int32))] (.int (0 : Int32)) := Arv.set Ar133 q133 S133 M133 H133 G133 rfl W134 1 rfl (Nat.le_of_ble_eq_true rfl)
        have k136_ : ∀ t, Steps p.tables e below (T134.setTop (mkF m 219 #[.val (.int p0), .val (.long p1), .second, .val (.long p2), .second, .val (.long p3), .second, .val (.int (p0 &&& (3 : Int32))), .val (.int (p0 >>> ((2 : Int32) &&& 31))), .val (.int l0), .val (.int l1), .val (.int l2), .val (.int s0), .val (.int (s0 + l0)), .val (.int s1), .val (.int (s1 + l1)), .val (.int s2), .val (.int (s2 + l2)), .val (.ref b111), .unset, .val (.long (0 : Int64)), .second, .unset] [(.int (s2 + l2)), (.int (2 : Int32)), (.ref b126), (.ref b126)])) t → Steps p.tables e below (s₁.setTop (mkF m 0 #[.val (.int p0), .val (.long p1), .second, .val (.long p2), .second, .val (.long p3), .second, .unset, .unset, .unset, .unset, .unset, .unset, .unset, .unset, .unset, .unset, .unset, .unset, .unset, .unset, .unset, .unset] [])) t := by
          intro t q
          refine k135_ _ ?_
          show Steps p.tables e below (T134.setTop (mkF m 215 #[.val (.int p0), .val (.long p1), .second, .val (.long p2), .second, .val (.long p3), .second, .val (.int (p0 &&& (3 : Int32))), .val (.int (p0 >>> ((2 : Int32) &&& 31))), .val (.int l0), .val (.int l1), .val (.int l2), .val (.int s0), .val (.int (s0 + l0)), .val (.int s1), .val (.int (s1 + l1)), .val (.int s2), .val (.int (s2 + l2)), .val (.ref b111), .unset, .val (.long (0 : Int64)), .second, .unset] [(.ref b126)])) _
          refine XS.dup X134.here hx rfl (hb hby at_215) rfl rfl ?_
          show Steps p.tables e below (T134.setTop (mkF m 216 #[.val (.int p0), .val (.long p1), .second, .val (.long p2), .second, .val (.long p3), .second, .val (.int (p0 &&& (3 : Int32))), .val (.int (p0 >>> ((2 : Int32) &&& 31))), .val (.int l0), .val (.int l1), .val (.int l2), .val (.int s0), .val (.int (s0 + l0)), .val (.int s1), .val (.int (s1 + l1)), .val (.int s2), .val (.int (s2 + l2)), .val (.ref b111), .unset, .val (.long (0 : Int64)), .second, .unset] [(.ref b126), (.ref b126)])) _
          refine XS.iconst X134.here hx rfl (hb hby at_216) ?_
          show Steps p.tables e below (T134.setTop (mkF m 217 #[.val (.int p0), .val (.long p1), .second, .val (.long p2), .second, .val (.long p3), .second, .val (.int (p0 &&& (3 : Int32))), .val (.int (p0 >>> ((2 : Int32) &&& 31))), .val (.int l0), .val (.int l1), .val (.int l2), .val (.int s0), .val (.int (s0 + l0)), .val (.int s1), .val (.int (s1 + l1)), .val (.int s2), .val (.int (s2 + l2)), .val (.ref b111), .unset, .val (.long (0 : Int64)), .second, .unset] [(.int (2 : Int32)), (.ref b126), (.ref b126)])) _
          refine XS.iload X134.here hx rfl (hb hby at_217) rfl ?_
          show Steps p.tables e below (T134.setTop (mkF m 219 #[.val (.int p0), .val (.long p1), .second, .val (.long p2), .second, .val (.long p3), .second, .val (.int (p0 &&& (3 : Int32))), .val (.int (p0 >>> ((2 : Int32) &&& 31))), .val (.int l0), .val (.int l1), .val (.int l2), .val (.int s0), .val (.int (s0 + l0)), .val (.int s1), .val (.int (s1 + l1)), .val (.int s2), .val (.int (s2 + l2)), .val (.ref b111), .unset, .val (.long (0 : Int64)), .second, .unset] [(.int (s2 + l2)), (.int (2 : Int32)), (.ref b126), (.ref b126)])) _
          exact q
        obtain ⟨cl137, Ar137, q137, S137, M137, H137, G137⟩ := V_b126
        obtain ⟨T138, h138, X138, e138, W138, st138⟩ := stI X134 hx hZ e134 Ar137 (j := (2 : Int32)) (inb_of S137 ⟨by decide, by decide⟩) (g := (mkF m 219 #[.val (.int p0), .val (.long p1), .second, .val (.long p2), .second, .val (.long p3), .second, .val (.int (p0 &&& (3 : Int32))), .val (.int (p0 >>> ((2 : Int32) &&& 31))), .val (.int l0), .val (.int l1), .val (.int l2), .val (.int s0), .val (.int (s0 + l0)), .val (.int s1), .val (.int (s1 + l1)), .val (.int s2), .val (.int (s2 + l2)), .val (.ref b111), .unset, .val (.long (0 : Int64)), .second, .unset] [(.int (s2 + l2)), (.int (2 : Int32)), (.ref b126), (.ref b126)])) rfl rfl (hb hby at_219)
        have k139_ : ∀ t, Steps p.tables e below (T138.setTop (mkF m 220 #[.val (.int p0), .val (.long p1), .second, .val (.long p2), .second, .val (.long p3), .second, .val (.int (p0 &&& (3 : Int32))), .val (.int (p0 >>> ((2 : Int32) &&& 31))), .val (.int l0), .val (.int l1), .val (.int l2), .val (.int s0), .val (.int (s0 + l0)), .val (.int s1), .val (.int (s1 + l1)), .val (.int s2), .val (.int (s2 + l2)), .val (.ref b111), .unset, .val (.long (0 : Int64)), .second, .unset] [(.ref b126)])) t → Steps p.tables e below (s₁.setTop (mkF m 0 #[.val (.int p0), .val (.long p1), .second, .val (.long p2), .second, .val (.long p3), .second, .unset, .unset, .unset, .unset, .unset, .unset, .unset, .unset, .unset, .unset, .unset, .unset, .unset, .unset, .unset, .unset] [])) t := fun t q => k136_ t (st138 t q)
        have N138 := Fr.snoc X138 N134 g_b126
        replace Zn := Nat.le_trans Zn (Keep.of_wr W138).1
        replace V_b111 := V_b111.other W138 ne_b111_b126
        have V_b126 : Arv Z h138 b126 c126 .int (3 : Int32) [(.int (s0 + l0)), (.int (s1 + l1)), (.int (s2 + l2))] (.int (0 : Int32)) := Arv.set Ar137 q137 S137 M137 H137 G137 rfl W138 2 rfl (Nat.le_of_ble_eq_true rfl)
        have k140_ : ∀ t, Steps p.tables e below (T138.setTop (mkF m 235 #[.val (.int p0), .val (.long p1), .second, .val (.long p2), .second, .val (.long p3), .second, .val (.int (p0 &&& (3 : Int32))), .val (.int (p0 >>> ((2 : Int32) &&& 31))), .val (.int l0), .val (.int l1), .val (.int l2), .val (.int s0), .val (.int (s0 + l0)), .val (.int s1), .val (.int (s1 + l1)), .val (.int s2), .val (.int (s2 + l2)), .val (.ref b111), .val (.ref b126), .val (.long (((l0.toInt64) + (l1.toInt64)) + (l2.toInt64))), .second, .unset] [])) t → Steps p.tables e below (s₁.setTop (mkF m 0 #[.val (.int p0), .val (.long p1), .second, .val (.long p2), .second, .val (.long p3), .second, .unset, .unset, .unset, .unset, .unset, .unset, .unset, .unset, .unset, .unset, .unset, .unset, .unset, .unset, .unset, .unset] [])) t := by
          intro t q
          refine k139_ _ ?_
          show Steps p.tables e below (T138.setTop (mkF m 220 #[.val (.int p0), .val (.long p1), .second, .val (.long p2), .second, .val (.long p3), .second, .val (.int (p0 &&& (3 : Int32))), .val (.int (p0 >>> ((2 : Int32) &&& 31))), .val (.int l0), .val (.int l1), .val (.int l2), .val (.int s0), .val (.int (s0 + l0)), .val (.int s1), .val (.int (s1 + l1)), .val (.int s2), .val (.int (s2 + l2)), .val (.ref b111), .unset, .val (.long (0 : Int64)), .second, .unset] [(.ref b126)])) _
          refine XS.astore X138.here hx rfl (hb hby at_220) rfl rfl (l' := #[.val (.int p0), .val (.long p1), .second, .val (.long p2), .second, .val (.long p3), .second, .val (.int (p0 &&& (3 : Int32))), .val (.int (p0 >>> ((2 : Int32) &&& 31))), .val (.int l0), .val (.int l1), .val (.int l2), .val (.int s0), .val (.int (s0 + l0)), .val (.int s1), .val (.int (s1 + l1)), .val (.int s2), .val (.int (s2 + l2)), .val (.ref b111), .val (.ref b126), .val (.long (0 : Int64)), .second, .unset]) rfl ?_
          show Steps p.tables e below (T138.setTop (mkF m 222 #[.val (.int p0), .val (.long p1), .second, .val (.long p2), .second, .val (.long p3), .second, .val (.int (p0 &&& (3 : Int32))), .val (.int (p0 >>> ((2 : Int32) &&& 31))), .val (.int l0), .val (.int l1), .val (.int l2), .val (.int s0), .val (.int (s0 + l0)), .val (.int s1), .val (.int (s1 + l1)), .val (.int s2), .val (.int (s2 + l2)), .val (.ref b111), .val (.ref b126), .val (.long (0 : Int64)), .second, .unset] [])) _
          refine XS.iload X138.here hx rfl (hb hby at_222) rfl ?_
          show Steps p.tables e below (T138.setTop (mkF m 224 #[.val (.int p0), .val (.long p1), .second, .val (.long p2), .second, .val (.long p3), .second, .val (.int (p0 &&& (3 : Int32))), .val (.int (p0 >>> ((2 : Int32) &&& 31))), .val (.int l0), .val (.int l1), .val (.int l2), .val (.int s0), .val (.int (s0 + l0)), .val (.int s1), .val (.int (s1 + l1)), .val (.int s2), .val (.int (s2 + l2)), .val (.ref b111), .val (.ref b126), .val (.long (0 : Int64)), .second, .unset] [(.int l0)])) _
          refine XS.i2l X138.here hx rfl (hb hby at_224) rfl ?_
          show Steps p.tables e below (T138.setTop (mkF m 225 #[.val (.int p0), .val (.long p1), .second, .val (.long p2), .second, .val (.long p3), .second, .val (.int (p0 &&& (3 : Int32))), .val (.int (p0 >>> ((2 : Int32) &&& 31))), .val (.int l0), .val (.int l1), .val (.int l2), .val (.int s0), .val (.int (s0 + l0)), .val (.int s1), .val (.int (s1 + l1)), .val (.int s2), .val (.int (s2 + l2)), .val (.ref b111), .val (.ref b126), .val (.long (0 : Int64)), .second, .unset] [(.long (l0.toInt64))])) _
          refine XS.iload X138.here hx rfl (hb hby at_225) rfl ?_
          show Steps p.tables e below (T138.setTop (mkF m 227 #[.val (.int p0), .val (.long p1), .second, .val (.long p2), .second, .val (.long p3), .second, .val (.int (p0 &&& (3 : Int32))), .val (.int (p0 >>> ((2 : Int32) &&& 31))), .val (.int l0), .val (.int l1), .val (.int l2), .val (.int s0), .val (.int (s0 + l0)), .val (.int s1), .val (.int (s1 + l1)), .val (.int s2), .val (.int (s2 + l2)), .val (.ref b111), .val (.ref b126), .val (.long (0 : Int64)), .second, .unset] [(.int l1), (.long (l0.toInt64))])) _
          refine XS.i2l X138.here hx rfl (hb hby at_227) rfl ?_
          show Steps p.tables e below (T138.setTop (mkF m 228 #[.val (.int p0), .val (.long p1), .second, .val (.long p2), .second, .val (.long p3), .second, .val (.int (p0 &&& (3 : Int32))), .val (.int (p0 >>> ((2 : Int32) &&& 31))), .val (.int l0), .val (.int l1), .val (.int l2), .val (.int s0), .val (.int (s0 + l0)), .val (.int s1), .val (.int (s1 + l1)), .val (.int s2), .val (.int (s2 + l2)), .val (.ref b111), .val (.ref b126), .val (.long (0 : Int64)), .second, .unset] [(.long (l1.toInt64)), (.long (l0.toInt64))])) _
          refine XS.ladd X138.here hx rfl (hb hby at_228) rfl ?_
          show Steps p.tables e below (T138.setTop (mkF m 229 #[.val (.int p0), .val (.long p1), .second, .val (.long p2), .second, .val (.long p3), .second, .val (.int (p0 &&& (3 : Int32))), .val (.int (p0 >>> ((2 : Int32) &&& 31))), .val (.int l0), .val (.int l1), .val (.int l2), .val (.int s0), .val (.int (s0 + l0)), .val (.int s1), .val (.int (s1 + l1)), .val (.int s2), .val (.int (s2 + l2)), .val (.ref b111), .val (.ref b126), .val (.long (0 : Int64)), .second, .unset] [(.long ((l0.toInt64) + (l1.toInt64)))])) _
          refine XS.iload X138.here hx rfl (hb hby at_229) rfl ?_
          show Steps p.tables e below (T138.setTop (mkF m 231 #[.val (.int p0), .val (.long p1), .second, .val (.long p2), .second, .val (.long p3), .second, .val (.int (p0 &&& (3 : Int32))), .val (.int (p0 >>> ((2 : Int32) &&& 31))), .val (.int l0), .val (.int l1), .val (.int l2), .val (.int s0), .val (.int (s0 + l0)), .val (.int s1), .val (.int (s1 + l1)), .val (.int s2), .val (.int (s2 + l2)), .val (.ref b111), .val (.ref b126), .val (.long (0 : Int64)), .second, .unset] [(.int l2), (.long ((l0.toInt64) + (l1.toInt64)))])) _
          refine XS.i2l X138.here hx rfl (hb hby at_231) rfl ?_
          show Steps p.tables e below (T138.setTop (mkF m 232 #[.val (.int p0), .val (.long p1), .second, .val (.long p2), .second, .val (.long p3), .second, .val (.int (p0 &&& (3 : Int32))), .val (.int (p0 >>> ((2 : Int32) &&& 31))), .val (.int l0), .val (.int l1), .val (.int l2), .val (.int s0), .val (.int (s0 + l0)), .val (.int s1), .val (.int (s1 + l1)), .val (.int s2), .val (.int (s2 + l2)), .val (.ref b111), .val (.ref b126), .val (.long (0 : Int64)), .second, .unset] [(.long (l2.toInt64)), (.long ((l0.toInt64) + (l1.toInt64)))])) _
          refine XS.ladd X138.here hx rfl (hb hby at_232) rfl ?_
          show Steps p.tables e below (T138.setTop (mkF m 233 #[.val (.int p0), .val (.long p1), .second, .val (.long p2), .second, .val (.long p3), .second, .val (.int (p0 &&& (3 : Int32))), .val (.int (p0 >>> ((2 : Int32) &&& 31))), .val (.int l0), .val (.int l1), .val (.int l2), .val (.int s0), .val (.int (s0 + l0)), .val (.int s1), .val (.int (s1 + l1)), .val (.int s2), .val (.int (s2 + l2)), .val (.ref b111), .val (.ref b126), .val (.long (0 : Int64)), .second, .unset] [(.long (((l0.toInt64) + (l1.toInt64)) + (l2.toInt64)))])) _
          refine XS.lstore X138.here hx rfl (hb hby at_233) rfl (l' := #[.val (.int p0), .val (.long p1), .second, .val (.long p2), .second, .val (.long p3), .second, .val (.int (p0 &&& (3 : Int32))), .val (.int (p0 >>> ((2 : Int32) &&& 31))), .val (.int l0), .val (.int l1), .val (.int l2), .val (.int s0), .val (.int (s0 + l0)), .val (.int s1), .val (.int (s1 + l1)), .val (.int s2), .val (.int (s2 + l2)), .val (.ref b111), .val (.ref b126), .val (.long (((l0.toInt64) + (l1.toInt64)) + (l2.toInt64))), .second, .unset]) rfl ?_
          show Steps p.tables e below (T138.setTop (mkF m 235 #[.val (.int p0), .val (.long p1), .second, .val (.long p2), .second, .val (.long p3), .second, .val (.int (p0 &&& (3 : Int32))), .val (.int (p0 >>> ((2 : Int32) &&& 31))), .val (.int l0), .val (.int l1), .val (.int l2), .val (.int s0), .val (.int (s0 + l0)), .val (.int s1), .val (.int (s1 + l1)), .val (.int s2), .val (.int (s2 + l2)), .val (.ref b111), .val (.ref b126), .val (.long (((l0.toInt64) + (l1.toInt64)) + (l2.toInt64))), .second, .unset] [])) _
          exact q
        obtain ⟨T141, h141, X141, e141, E141, A141, D141, -, st141⟩ := newO X138 hx hZ hown (hw _ (List.mem_of_getElem? (i := 10) rfl)) (hw _ (List.mem_of_getElem? (i := 11) rfl)) (hw _ (List.mem_of_getElem? (i := 12) rfl)) e138 (g := (mkF m 235 #[.val (.int p0), .val (.long p1), .second, .val (.long p2), .second, .val (.long p3), .second, .val (.int (p0 &&& (3 : Int32))), .val (.int (p0 >>> ((2 : Int32) &&& 31))), .val (.int l0), .val (.int l1), .val (.int l2), .val (.int s0), .val (.int (s0 + l0)), .val (.int s1), .val (.int (s1 + l1)), .val (.int s2), .val (.int (s2 + l2)), .val (.ref b111), .val (.ref b126), .val (.long (((l0.toInt64) + (l1.toInt64)) + (l2.toInt64))), .second, .unset] [])) rfl (hb hby at_235) (by decide) (by decide)
        obtain ⟨b141, g141⟩ : ∃ z, z = h138.size := ⟨_, rfl⟩
        rw [← g141] at A141 D141 st141
        have k142_ : ∀ t, Steps p.tables e below (T141.setTop (mkF m 238 #[.val (.int p0), .val (.long p1), .second, .val (.long p2), .second, .val (.long p3), .second, .val (.int (p0 &&& (3 : Int32))), .val (.int (p0 >>> ((2 : Int32) &&& 31))), .val (.int l0), .val (.int l1), .val (.int l2), .val (.int s0), .val (.int (s0 + l0)), .val (.int s1), .val (.int (s1 + l1)), .val (.int s2), .val (.int (s2 + l2)), .val (.ref b111), .val (.ref b126), .val (.long (((l0.toInt64) + (l1.toInt64)) + (l2.toInt64))), .second, .unset] [(.ref b141)])) t → Steps p.tables e below (s₁.setTop (mkF m 0 #[.val (.int p0), .val (.long p1), .second, .val (.long p2), .second, .val (.long p3), .second, .unset, .unset, .unset, .unset, .unset, .unset, .unset, .unset, .unset, .unset, .unset, .unset, .unset, .unset, .unset, .unset] [])) t := fun t q => k140_ t (st141 t q)
        have ne_b111_b141 : b111 ≠ b141 := Nat.ne_of_lt (Nat.lt_of_lt_of_le V_b111.lt (Nat.le_of_eq g141.symm))
        have ne_b126_b141 : b126 ≠ b141 := Nat.ne_of_lt (Nat.lt_of_lt_of_le V_b126.lt (Nat.le_of_eq g141.symm))
        have g_b141 : n0 ≤ b141 := Nat.le_trans Zn (Nat.le_of_eq g141.symm)
        replace Zn := Nat.le_trans Zn E141.1
        replace V_b111 := V_b111.ext E141
        replace V_b126 := V_b126.ext E141
        have F_line : Fld Z h141 b141 "com/example/haku/haku/eval/FocusedJudgments$Judged" "line" "I" (.int (0 : Int32)) := D141 (Or.inr (hw _ (List.mem_of_getElem? (i := 25) rfl))) (ty := .int) (by decide)
        have F_starts : Fld Z h141 b141 "com/example/haku/haku/eval/FocusedJudgments$Judged" "starts" "[I" .null := D141 (Or.inr (hw _ (List.mem_of_getElem? (i := 27) rfl))) (ty := (.array .int)) (by decide)
        have F_ends : Fld Z h141 b141 "com/example/haku/haku/eval/FocusedJudgments$Judged" "ends" "[I" .null := D141 (Or.inr (hw _ (List.mem_of_getElem? (i := 29) rfl))) (ty := (.array .int)) (by decide)
        have k143_ : ∀ t, Steps p.tables e below (T141.setTop (mkF m 245 #[.val (.int p0), .val (.long p1), .second, .val (.long p2), .second, .val (.long p3), .second, .val (.int (p0 &&& (3 : Int32))), .val (.int (p0 >>> ((2 : Int32) &&& 31))), .val (.int l0), .val (.int l1), .val (.int l2), .val (.int s0), .val (.int (s0 + l0)), .val (.int s1), .val (.int (s1 + l1)), .val (.int s2), .val (.int (s2 + l2)), .val (.ref b111), .val (.ref b126), .val (.long (((l0.toInt64) + (l1.toInt64)) + (l2.toInt64))), .second, .unset] [(.ref b126), (.ref b111), (.int (p0 >>> ((2 : Int32) &&& 31))), (.ref b141), (.ref b141)])) t → Steps p.tables e below (s₁.setTop (mkF m 0 #[.val (.int p0), .val (.long p1), .second, .val (.long p2), .second, .val (.long p3), .second, .unset, .unset, .unset, .unset, .unset, .unset, .unset, .unset, .unset, .unset, .unset, .unset, .unset, .unset, .unset, .unset] [])) t := by
          intro t q
          refine k142_ _ ?_
          show Steps p.tables e below (T141.setTop (mkF m 238 #[.val (.int p0), .val (.long p1), .second, .val (.long p2), .second, .val (.long p3), .second, .val (.int (p0 &&& (3 : Int32))), .val (.int (p0 >>> ((2 : Int32) &&& 31))), .val (.int l0), .val (.int l1), .val (.int l2), .val (.int s0), .val (.int (s0 + l0)), .val (.int s1), .val (.int (s1 + l1)), .val (.int s2), .val (.int (s2 + l2)), .val (.ref b111), .val (.ref b126), .val (.long (((l0.toInt64) + (l1.toInt64)) + (l2.toInt64))), .second, .unset] [(.ref b141)])) _
          refine XS.dup X141.here hx rfl (hb hby at_238) rfl rfl ?_
          show Steps p.tables e below (T141.setTop (mkF m 239 #[.val (.int p0), .val (.long p1), .second, .val (.long p2), .second, .val (.long p3), .second, .val (.int (p0 &&& (3 : Int32))), .val (.int (p0 >>> ((2 : Int32) &&& 31))), .val (.int l0), .val (.int l1), .val (.int l2), .val (.int s0), .val (.int (s0 + l0)), .val (.int s1), .val (.int (s1 + l1)), .val (.int s2), .val (.int (s2 + l2)), .val (.ref b111), .val (.ref b126), .val (.long (((l0.toInt64) + (l1.toInt64)) + (l2.toInt64))), .second, .unset] [(.ref b141), (.ref b141)])) _
          refine XS.iload X141.here hx rfl (hb hby at_239) rfl ?_
          show Steps p.tables e below (T141.setTop (mkF m 241 #[.val (.int p0), .val (.long p1), .second, .val (.long p2), .second, .val (.long p3), .second, .val (.int (p0 &&& (3 : Int32))), .val (.int (p0 >>> ((2 : Int32) &&& 31))), .val (.int l0), .val (.int l1), .val (.int l2), .val (.int s0), .val (.int (s0 + l0)), .val (.int s1), .val (.int (s1 + l1)), .val (.int s2), .val (.int (s2 + l2)), .val (.ref b111), .val (.ref b126), .val (.long (((l0.toInt64) + (l1.toInt64)) + (l2.toInt64))), .second, .unset] [(.int (p0 >>> ((2 : Int32) &&& 31))), (.ref b141), (.ref b141)])) _
          refine XS.aload X141.here hx rfl (hb hby at_241) rfl rfl ?_
          show Steps p.tables e below (T141.setTop (mkF m 243 #[.val (.int p0), .val (.long p1), .second, .val (.long p2), .second, .val (.long p3), .second, .val (.int (p0 &&& (3 : Int32))), .val (.int (p0 >>> ((2 : Int32) &&& 31))), .val (.int l0), .val (.int l1), .val (.int l2), .val (.int s0), .val (.int (s0 + l0)), .val (.int s1), .val (.int (s1 + l1)), .val (.int s2), .val (.int (s2 + l2)), .val (.ref b111), .val (.ref b126), .val (.long (((l0.toInt64) + (l1.toInt64)) + (l2.toInt64))), .second, .unset] [(.ref b111), (.int (p0 >>> ((2 : Int32) &&& 31))), (.ref b141), (.ref b141)])) _
          refine XS.aload X141.here hx rfl (hb hby at_243) rfl rfl ?_
          show Steps p.tables e below (T141.setTop (mkF m 245 #[.val (.int p0), .val (.long p1), .second, .val (.long p2), .second, .val (.long p3), .second, .val (.int (p0 &&& (3 : Int32))), .val (.int (p0 >>> ((2 : Int32) &&& 31))), .val (.int l0), .val (.int l1), .val (.int l2), .val (.int s0), .val (.int (s0 + l0)), .val (.int s1), .val (.int (s1 + l1)), .val (.int s2), .val (.int (s2 + l2)), .val (.ref b111), .val (.ref b126), .val (.long (((l0.toInt64) + (l1.toInt64)) + (l2.toInt64))), .second, .unset] [(.ref b126), (.ref b111), (.int (p0 >>> ((2 : Int32) &&& 31))), (.ref b141), (.ref b141)])) _
          exact q
        obtain ⟨_, _, ⟨T144, L144, kk144, n144⟩, -, X144, ⟨Lc144, hQ144, l144, y144, z144⟩, st144⟩ := X141.specialBack hx (y := (⟨"com/example/haku/haku/eval/FocusedJudgments$Judged", "<init>", "(I[I[I)V"⟩ : MethodName)) rfl hown (mvT hZ (hw _ (List.mem_of_getElem? (i := 13) rfl))) (mvT hZ (hw _ (List.mem_of_getElem? (i := 14) rfl))) (mvT hZ (hw _ (List.mem_of_getElem? (i := 15) rfl))) (by decide) (backOf (W := 1) (rmI l Z a0 hw [] b141 (p0 >>> ((2 : Int32) &&& 31)) b111 b126 h141 n0 Zn A141 F_line F_starts F_ends g_b141) hZ (hw _ (List.mem_of_getElem? (i := 15) rfl)) (hw _ (List.mem_of_getElem? (i := 12) rfl)) (by decide) (by decide)) (g := (mkF m 245 #[.val (.int p0), .val (.long p1), .second, .val (.long p2), .second, .val (.long p3), .second, .val (.int (p0 &&& (3 : Int32))), .val (.int (p0 >>> ((2 : Int32) &&& 31))), .val (.int l0), .val (.int l1), .val (.int l2), .val (.int s0), .val (.int (s0 + l0)), .val (.int s1), .val (.int (s1 + l1)), .val (.int s2), .val (.int (s2 + l2)), .val (.ref b111), .val (.ref b126), .val (.long (((l0.toInt64) + (l1.toInt64)) + (l2.toInt64))), .second, .unset] [(.ref b126), (.ref b111), (.int (p0 >>> ((2 : Int32) &&& 31))), (.ref b141), (.ref b141)])) rfl (by rw [hml]; rfl) (Steps.refl _) (a := b141) (argsL := [(.int (p0 >>> ((2 : Int32) &&& 31))), (.ref b111), (.ref b126)]) (rest := [(.ref b141)]) (lenOf pd_32956 rfl) rfl (by show 2 * 0 + _ ≤ _; exact Nat.le_of_eq rfl) (hb hby at_245) (fun _ _ => ⟨rfl, e141, (by decide : 0 + 0 + 0 + 0 + 0 + 0 + 0 + 1 + 1 + 1 + 0 ≤ _), (by decide : 0 + 0 + 0 + 0 + 0 + 0 + 0 + 3 + 3 + 3 + 0 ≤ _)⟩)
        dsimp only [Pt.U, Pt.locs, Pt.cells, Pt.slots] at X144 l144 y144 z144 st144 hQ144
        subst l144 y144 z144
        obtain ⟨rfl, Nq144, KI, EI, FS, FE⟩ := hQ144
        have N144 := Fr.app N138 Nq144
        have k145_ : ∀ t, Steps p.tables e below (T144.setTop (mkF m 248 #[.val (.int p0), .val (.long p1), .second, .val (.long p2), .second, .val (.long p3), .second, .val (.int (p0 &&& (3 : Int32))), .val (.int (p0 >>> ((2 : Int32) &&& 31))), .val (.int l0), .val (.int l1), .val (.int l2), .val (.int s0), .val (.int (s0 + l0)), .val (.int s1), .val (.int (s1 + l1)), .val (.int s2), .val (.int (s2 + l2)), .val (.ref b111), .val (.ref b126), .val (.long (((l0.toInt64) + (l1.toInt64)) + (l2.toInt64))), .second, .unset] [(.ref b141)])) t → Steps p.tables e below (s₁.setTop (mkF m 0 #[.val (.int p0), .val (.long p1), .second, .val (.long p2), .second, .val (.long p3), .second, .unset, .unset, .unset, .unset, .unset, .unset, .unset, .unset, .unset, .unset, .unset, .unset, .unset, .unset, .unset, .unset] [])) t := fun t q => k143_ t (st144.trans q)
        replace V_b111 := V_b111.keep KI (ninS ne_b111_b141 nin0)
        replace V_b126 := V_b126.keep KI (ninS ne_b126_b141 nin0)
        replace Zn := Nat.le_trans Zn KI.1
        have k146_ : ∀ t, Steps p.tables e below (T144.setTop (mkF m 252 #[.val (.int p0), .val (.long p1), .second, .val (.long p2), .second, .val (.long p3), .second, .val (.int (p0 &&& (3 : Int32))), .val (.int (p0 >>> ((2 : Int32) &&& 31))), .val (.int l0), .val (.int l1), .val (.int l2), .val (.int s0), .val (.int (s0 + l0)), .val (.int s1), .val (.int (s1 + l1)), .val (.int s2), .val (.int (s2 + l2)), .val (.ref b111), .val (.ref b126), .val (.long (((l0.toInt64) + (l1.toInt64)) + (l2.toInt64))), .second, .val (.ref b141)] [(.ref b141)])) t → Steps p.tables e below (s₁.setTop (mkF m 0 #[.val (.int p0), .val (.long p1), .second, .val (.long p2), .second, .val (.long p3), .second, .unset, .unset, .unset, .unset, .unset, .unset, .unset, .unset, .unset, .unset, .unset, .unset, .unset, .unset, .unset, .unset] [])) t := by
          intro t q
          refine k145_ _ ?_
          show Steps p.tables e below (T144.setTop (mkF m 248 #[.val (.int p0), .val (.long p1), .second, .val (.long p2), .second, .val (.long p3), .second, .val (.int (p0 &&& (3 : Int32))), .val (.int (p0 >>> ((2 : Int32) &&& 31))), .val (.int l0), .val (.int l1), .val (.int l2), .val (.int s0), .val (.int (s0 + l0)), .val (.int s1), .val (.int (s1 + l1)), .val (.int s2), .val (.int (s2 + l2)), .val (.ref b111), .val (.ref b126), .val (.long (((l0.toInt64) + (l1.toInt64)) + (l2.toInt64))), .second, .unset] [(.ref b141)])) _
          refine XS.astore X144.here hx rfl (hb hby at_248) rfl rfl (l' := #[.val (.int p0), .val (.long p1), .second, .val (.long p2), .second, .val (.long p3), .second, .val (.int (p0 &&& (3 : Int32))), .val (.int (p0 >>> ((2 : Int32) &&& 31))), .val (.int l0), .val (.int l1), .val (.int l2), .val (.int s0), .val (.int (s0 + l0)), .val (.int s1), .val (.int (s1 + l1)), .val (.int s2), .val (.int (s2 + l2)), .val (.ref b111), .val (.ref b126), .val (.long (((l0.toInt64) + (l1.toInt64)) + (l2.toInt64))), .second, .val (.ref b141)]) rfl ?_
          show Steps p.tables e below (T144.setTop (mkF m 250 #[.val (.int p0), .val (.long p1), .second, .val (.long p2), .second, .val (.long p3), .second, .val (.int (p0 &&& (3 : Int32))), .val (.int (p0 >>> ((2 : Int32) &&& 31))), .val (.int l0), .val (.int l1), .val (.int l2), .val (.int s0), .val (.int (s0 + l0)), .val (.int s1), .val (.int (s1 + l1)), .val (.int s2), .val (.int (s2 + l2)), .val (.ref b111), .val (.ref b126), .val (.long (((l0.toInt64) + (l1.toInt64)) + (l2.toInt64))), .second, .val (.ref b141)] [])) _
          refine XS.aload X144.here hx rfl (hb hby at_250) rfl rfl ?_
          show Steps p.tables e below (T144.setTop (mkF m 252 #[.val (.int p0), .val (.long p1), .second, .val (.long p2), .second, .val (.long p3), .second, .val (.int (p0 &&& (3 : Int32))), .val (.int (p0 >>> ((2 : Int32) &&& 31))), .val (.int l0), .val (.int l1), .val (.int l2), .val (.int s0), .val (.int (s0 + l0)), .val (.int s1), .val (.int (s1 + l1)), .val (.int s2), .val (.int (s2 + l2)), .val (.ref b111), .val (.ref b126), .val (.long (((l0.toInt64) + (l1.toInt64)) + (l2.toInt64))), .second, .val (.ref b141)] [(.ref b141)])) _
          exact q
        obtain ⟨cq147, kq147, q147a, q147b, q147c⟩ := isOf hZ rfl EI
        obtain ⟨_, _, ⟨T147, L147, kk147, n147⟩, -, X147, ⟨Lc147, hQ147, l147, y147, z147⟩, st147⟩ := X144.virtualBack hx (y := (⟨"com/example/haku/haku/eval/FocusedJudgments$Judged", "characters", "()J"⟩ : MethodName)) (z := (⟨"com/example/haku/haku/eval/FocusedJudgments$Judged", "characters", "()J"⟩ : MethodName)) hown (mvT hZ (hw _ (List.mem_of_getElem? (i := 30) rfl))) (mvT hZ (hw _ (List.mem_of_getElem? (i := 31) rfl))) (notFace_of_selects (args := #[]) (mvT hZ (hw _ (List.mem_of_getElem? (i := 33) rfl)))) (mvT hZ (hw _ (List.mem_of_getElem? (i := 33) rfl))) (mvT hZ (hw _ (List.mem_of_getElem? (i := 32) rfl))) (by decide) (backOf (W := 0) (rmH3 l Z a0 hw [] b141 b111 b126 c111 c126 s0 s1 s2 (s0 + l0) (s1 + l1) (s2 + l2) T144.heap n0 Zn FS FE V_b111 V_b126) hZ (hw _ (List.mem_of_getElem? (i := 34) rfl)) (hw _ (List.mem_of_getElem? (i := 12) rfl)) (by decide) (by decide)) q147a q147c (g := (mkF m 252 #[.val (.int p0), .val (.long p1), .second, .val (.long p2), .second, .val (.long p3), .second, .val (.int (p0 &&& (3 : Int32))), .val (.int (p0 >>> ((2 : Int32) &&& 31))), .val (.int l0), .val (.int l1), .val (.int l2), .val (.int s0), .val (.int (s0 + l0)), .val (.int s1), .val (.int (s1 + l1)), .val (.int s2), .val (.int (s2 + l2)), .val (.ref b111), .val (.ref b126), .val (.long (((l0.toInt64) + (l1.toInt64)) + (l2.toInt64))), .second, .val (.ref b141)] [(.ref b141)])) rfl (by rw [hml]; rfl) (Steps.refl _) (argsL := []) (rest := []) (lenOf pd_48322 rfl) rfl (by show 2 * 0 + _ ≤ _; exact Nat.le_of_eq rfl) (hb hby at_252) (fun _ _ => ⟨rfl, rfl, (by decide : 0 + 0 + 0 + 0 + 0 + 0 + 0 + 1 + 1 + 1 + 0 + 0 ≤ _), (by decide : 0 + 0 + 0 + 0 + 0 + 0 + 0 + 3 + 3 + 3 + 0 + 0 ≤ _)⟩)
        dsimp only [Pt.U, Pt.locs, Pt.cells, Pt.slots] at X147 l147 y147 z147 st147 hQ147
        subst l147 y147 z147
        obtain ⟨rfl, Nq147, hq147⟩ := hQ147
        have N147 := Fr.app N144 Nq147
        have k148_ : ∀ t, Steps p.tables e below (T147.setTop (mkF m 255 #[.val (.int p0), .val (.long p1), .second, .val (.long p2), .second, .val (.long p3), .second, .val (.int (p0 &&& (3 : Int32))), .val (.int (p0 >>> ((2 : Int32) &&& 31))), .val (.int l0), .val (.int l1), .val (.int l2), .val (.int s0), .val (.int (s0 + l0)), .val (.int s1), .val (.int (s1 + l1)), .val (.int s2), .val (.int (s2 + l2)), .val (.ref b111), .val (.ref b126), .val (.long (((l0.toInt64) + (l1.toInt64)) + (l2.toInt64))), .second, .val (.ref b141)] [(.long ((((0 : Int64) + (((s0 + l0) - s0).toInt64)) + (((s1 + l1) - s1).toInt64)) + (((s2 + l2) - s2).toInt64)))])) t → Steps p.tables e below (s₁.setTop (mkF m 0 #[.val (.int p0), .val (.long p1), .second, .val (.long p2), .second, .val (.long p3), .second, .unset, .unset, .unset, .unset, .unset, .unset, .unset, .unset, .unset, .unset, .unset, .unset, .unset, .unset, .unset, .unset] [])) t := fun t q => k146_ t (st147.trans q)
        have k149_ : ∀ t, Steps p.tables e below (T147.setTop (mkF m 258 #[.val (.int p0), .val (.long p1), .second, .val (.long p2), .second, .val (.long p3), .second, .val (.int (p0 &&& (3 : Int32))), .val (.int (p0 >>> ((2 : Int32) &&& 31))), .val (.int l0), .val (.int l1), .val (.int l2), .val (.int s0), .val (.int (s0 + l0)), .val (.int s1), .val (.int (s1 + l1)), .val (.int s2), .val (.int (s2 + l2)), .val (.ref b111), .val (.ref b126), .val (.long (((l0.toInt64) + (l1.toInt64)) + (l2.toInt64))), .second, .val (.ref b141)] [(.int (lcmpW ((((0 : Int64) + (((s0 + l0) - s0).toInt64)) + (((s1 + l1) - s1).toInt64)) + (((s2 + l2) - s2).toInt64)) (((l0.toInt64) + (l1.toInt64)) + (l2.toInt64))))])) t → Steps p.tables e below (s₁.setTop (mkF m 0 #[.val (.int p0), .val (.long p1), .second, .val (.long p2), .second, .val (.long p3), .second, .unset, .unset, .unset, .unset, .unset, .unset, .unset, .unset, .unset, .unset, .unset, .unset, .unset, .unset, .unset, .unset] [])) t := by
          intro t q
          refine k148_ _ ?_
          show Steps p.tables e below (T147.setTop (mkF m 255 #[.val (.int p0), .val (.long p1), .second, .val (.long p2), .second, .val (.long p3), .second, .val (.int (p0 &&& (3 : Int32))), .val (.int (p0 >>> ((2 : Int32) &&& 31))), .val (.int l0), .val (.int l1), .val (.int l2), .val (.int s0), .val (.int (s0 + l0)), .val (.int s1), .val (.int (s1 + l1)), .val (.int s2), .val (.int (s2 + l2)), .val (.ref b111), .val (.ref b126), .val (.long (((l0.toInt64) + (l1.toInt64)) + (l2.toInt64))), .second, .val (.ref b141)] [(.long ((((0 : Int64) + (((s0 + l0) - s0).toInt64)) + (((s1 + l1) - s1).toInt64)) + (((s2 + l2) - s2).toInt64)))])) _
          refine XS.lload X147.here hx rfl (hb hby at_255) rfl ?_
          show Steps p.tables e below (T147.setTop (mkF m 257 #[.val (.int p0), .val (.long p1), .second, .val (.long p2), .second, .val (.long p3), .second, .val (.int (p0 &&& (3 : Int32))), .val (.int (p0 >>> ((2 : Int32) &&& 31))), .val (.int l0), .val (.int l1), .val (.int l2), .val (.int s0), .val (.int (s0 + l0)), .val (.int s1), .val (.int (s1 + l1)), .val (.int s2), .val (.int (s2 + l2)), .val (.ref b111), .val (.ref b126), .val (.long (((l0.toInt64) + (l1.toInt64)) + (l2.toInt64))), .second, .val (.ref b141)] [(.long (((l0.toInt64) + (l1.toInt64)) + (l2.toInt64))), (.long ((((0 : Int64) + (((s0 + l0) - s0).toInt64)) + (((s1 + l1) - s1).toInt64)) + (((s2 + l2) - s2).toInt64)))])) _
          refine XS.lcmp X147.here hx rfl (hb hby at_257) rfl ?_
          show Steps p.tables e below (T147.setTop (mkF m 258 #[.val (.int p0), .val (.long p1), .second, .val (.long p2), .second, .val (.long p3), .second, .val (.int (p0 &&& (3 : Int32))), .val (.int (p0 >>> ((2 : Int32) &&& 31))), .val (.int l0), .val (.int l1), .val (.int l2), .val (.int s0), .val (.int (s0 + l0)), .val (.int s1), .val (.int (s1 + l1)), .val (.int s2), .val (.int (s2 + l2)), .val (.ref b111), .val (.ref b126), .val (.long (((l0.toInt64) + (l1.toInt64)) + (l2.toInt64))), .second, .val (.ref b141)] [(.int (lcmpW ((((0 : Int64) + (((s0 + l0) - s0).toInt64)) + (((s1 + l1) - s1).toInt64)) + (((s2 + l2) - s2).toInt64)) (((l0.toInt64) + (l1.toInt64)) + (l2.toInt64))))])) _
          exact q
        have k150_ : ∀ t, Steps p.tables e below (T147.setTop (mkF m 261 #[.val (.int p0), .val (.long p1), .second, .val (.long p2), .second, .val (.long p3), .second, .val (.int (p0 &&& (3 : Int32))), .val (.int (p0 >>> ((2 : Int32) &&& 31))), .val (.int l0), .val (.int l1), .val (.int l2), .val (.int s0), .val (.int (s0 + l0)), .val (.int s1), .val (.int (s1 + l1)), .val (.int s2), .val (.int (s2 + l2)), .val (.ref b111), .val (.ref b126), .val (.long (((l0.toInt64) + (l1.toInt64)) + (l2.toInt64))), .second, .val (.ref b141)] [])) t → Steps p.tables e below (s₁.setTop (mkF m 0 #[.val (.int p0), .val (.long p1), .second, .val (.long p2), .second, .val (.long p3), .second, .unset, .unset, .unset, .unset, .unset, .unset, .unset, .unset, .unset, .unset, .unset, .unset, .unset, .unset, .unset, .unset] [])) t := by
          intro t q
          refine k149_ _ ?_
          show Steps p.tables e below (T147.setTop (mkF m 258 #[.val (.int p0), .val (.long p1), .second, .val (.long p2), .second, .val (.long p3), .second, .val (.int (p0 &&& (3 : Int32))), .val (.int (p0 >>> ((2 : Int32) &&& 31))), .val (.int l0), .val (.int l1), .val (.int l2), .val (.int s0), .val (.int (s0 + l0)), .val (.int s1), .val (.int (s1 + l1)), .val (.int s2), .val (.int (s2 + l2)), .val (.ref b111), .val (.ref b126), .val (.long (((l0.toInt64) + (l1.toInt64)) + (l2.toInt64))), .second, .val (.ref b141)] [(.int (lcmpW ((((0 : Int64) + (((s0 + l0) - s0).toInt64)) + (((s1 + l1) - s1).toInt64)) + (((s2 + l2) - s2).toInt64)) (((l0.toInt64) + (l1.toInt64)) + (l2.toInt64))))])) _
          refine XS.ifNo X147.here hx rfl (hb hby at_258) rfl ((if0 _ _).trans (teq ((lw_eq _ _).mpr (by simp only [own_d, own_z]))).2) ?_
          show Steps p.tables e below (T147.setTop (mkF m 261 #[.val (.int p0), .val (.long p1), .second, .val (.long p2), .second, .val (.long p3), .second, .val (.int (p0 &&& (3 : Int32))), .val (.int (p0 >>> ((2 : Int32) &&& 31))), .val (.int l0), .val (.int l1), .val (.int l2), .val (.int s0), .val (.int (s0 + l0)), .val (.int s1), .val (.int (s1 + l1)), .val (.int s2), .val (.int (s2 + l2)), .val (.ref b111), .val (.ref b126), .val (.long (((l0.toInt64) + (l1.toInt64)) + (l2.toInt64))), .second, .val (.ref b141)] [])) _
          exact q
        have k151_ : ∀ t, Steps p.tables e below (T147.setTop (mkF m 266 #[.val (.int p0), .val (.long p1), .second, .val (.long p2), .second, .val (.long p3), .second, .val (.int (p0 &&& (3 : Int32))), .val (.int (p0 >>> ((2 : Int32) &&& 31))), .val (.int l0), .val (.int l1), .val (.int l2), .val (.int s0), .val (.int (s0 + l0)), .val (.int s1), .val (.int (s1 + l1)), .val (.int s2), .val (.int (s2 + l2)), .val (.ref b111), .val (.ref b126), .val (.long (((l0.toInt64) + (l1.toInt64)) + (l2.toInt64))), .second, .val (.ref b141)] [(.int (1 : Int32))])) t → Steps p.tables e below (s₁.setTop (mkF m 0 #[.val (.int p0), .val (.long p1), .second, .val (.long p2), .second, .val (.long p3), .second, .unset, .unset, .unset, .unset, .unset, .unset, .unset, .unset, .unset, .unset, .unset, .unset, .unset, .unset, .unset, .unset] [])) t := by
          intro t q
          refine k150_ _ ?_
          show Steps p.tables e below (T147.setTop (mkF m 261 #[.val (.int p0), .val (.long p1), .second, .val (.long p2), .second, .val (.long p3), .second, .val (.int (p0 &&& (3 : Int32))), .val (.int (p0 >>> ((2 : Int32) &&& 31))), .val (.int l0), .val (.int l1), .val (.int l2), .val (.int s0), .val (.int (s0 + l0)), .val (.int s1), .val (.int (s1 + l1)), .val (.int s2), .val (.int (s2 + l2)), .val (.ref b111), .val (.ref b126), .val (.long (((l0.toInt64) + (l1.toInt64)) + (l2.toInt64))), .second, .val (.ref b141)] [])) _
          refine XS.iconst X147.here hx rfl (hb hby at_261) ?_
          show Steps p.tables e below (T147.setTop (mkF m 262 #[.val (.int p0), .val (.long p1), .second, .val (.long p2), .second, .val (.long p3), .second, .val (.int (p0 &&& (3 : Int32))), .val (.int (p0 >>> ((2 : Int32) &&& 31))), .val (.int l0), .val (.int l1), .val (.int l2), .val (.int s0), .val (.int (s0 + l0)), .val (.int s1), .val (.int (s1 + l1)), .val (.int s2), .val (.int (s2 + l2)), .val (.ref b111), .val (.ref b126), .val (.long (((l0.toInt64) + (l1.toInt64)) + (l2.toInt64))), .second, .val (.ref b141)] [(.int (1 : Int32))])) _
          refine XS.goto X147.here hx rfl (pc0 := 262) (pc' := 266) rfl (hb hby at_262) (by decide) (by decide) ?_
          show Steps p.tables e below (T147.setTop (mkF m 266 #[.val (.int p0), .val (.long p1), .second, .val (.long p2), .second, .val (.long p3), .second, .val (.int (p0 &&& (3 : Int32))), .val (.int (p0 >>> ((2 : Int32) &&& 31))), .val (.int l0), .val (.int l1), .val (.int l2), .val (.int s0), .val (.int (s0 + l0)), .val (.int s1), .val (.int (s1 + l1)), .val (.int s2), .val (.int (s2 + l2)), .val (.ref b111), .val (.ref b126), .val (.long (((l0.toInt64) + (l1.toInt64)) + (l2.toInt64))), .second, .val (.ref b141)] [(.int (1 : Int32))])) _
          exact q
        obtain ⟨fs, hr, hrun, hended, hW, hsame⟩ := X147.leave (v := some (.int (1 : Int32))) (fun h => by rw [Bd.returns] at h; cases h)
        refine ⟨_, _, pre0 _ (k151_ _ ?_), hrun, hended, _, _, rfl, ?_, ⟨_, rfl⟩, hW, hsame.mono (by decide) (by decide)⟩
        · show Steps p.tables e below (T147.setTop (mkF m 266 #[.val (.int p0), .val (.long p1), .second, .val (.long p2), .second, .val (.long p3), .second, .val (.int (p0 &&& (3 : Int32))), .val (.int (p0 >>> ((2 : Int32) &&& 31))), .val (.int l0), .val (.int l1), .val (.int l2), .val (.int s0), .val (.int (s0 + l0)), .val (.int s1), .val (.int (s1 + l1)), .val (.int s2), .val (.int (s2 + l2)), .val (.ref b111), .val (.ref b126), .val (.long (((l0.toInt64) + (l1.toInt64)) + (l2.toInt64))), .second, .val (.ref b141)] [(.int (1 : Int32))])) _
          exact retN X147 hx (t := .boolean) Bd.returns (by simp) (hb hby at_266) hr
        · show Q0 Z p0 p1 p2 p3 h0 n0 _ T147.heap _
          exact ⟨rfl, N147⟩
set_option maxRecDepth 65536 in
set_option maxHeartbeats 40000000 in
theorem comes_1 {Post : Tables → Env → Array Value → State → Outcome → State → Prop} (hpost : ∀ tb e args s v u, (limb_1_1.after args s (.returned v) u = true ∧ limb_1_2.after args s (.returned v) u = true ∧ True) → FrameEnd s (.returned v) u (Jvm.fieldLocs frame_1_writes args s ++ Jvm.arrayLocs frame_1_arrays args s ++ Jvm.staticLocs frame_1_statics s) 16 128 → Post tb e args s (.returned v) u) :
    ArmFor flags0 classFile x code maxLocals ret World_1 tables_1 room_1 Calls_1 rest_1 Pre_1 Post := by
  intro l hfl _ _ p e ha hc hk s m args below hf hA hF happ hP
  obtain ⟨hcalls, hrest, hpre⟩ := hP
  obtain ⟨-, -, -, hnamed, -, -, -, hat⟩ := (Spec.applies_iff hf).mp happ
  obtain ⟨hg, hn⟩ := and_e (Cond.before_iff.mp (show (Jvm.Cond.and given_1 narrow_1).before args s = true from hpre))
  obtain ⟨hcnt, hg0⟩ := and_e hg
  obtain ⟨hi0, hg1⟩ := and_e hg0
  obtain ⟨hi1, hg2⟩ := and_e hg1
  obtain ⟨hi2, hg3⟩ := and_e hg2
  have hi3 := hg3
  obtain ⟨w0, w1, w2, w3, rfl⟩ : ∃ w0 w1 w2 w3 : Value, args = #[w0, w1, w2, w3] := by
    have hs : args.size = 4 := by simpa [Cond.value, given_1] using hcnt
    obtain ⟨L⟩ := args
    match L, hs with
    | [w0, w1, w2, w3], _ => exact ⟨w0, w1, w2, w3, rfl⟩
  have hw := fun d (hd : d ∈ tables_1) => atoms_spec (ws := Jvm.Cond.code x code maxLocals ret :: tables_1) hat d (List.mem_cons_of_mem _ hd)
  have hfit : Fit s := fun {y c} hc i hi => by
    obtain ⟨ha, rfl⟩ := Array.getElem?_eq_some_iff.mp hc
    have q := List.all_eq_true.mp ((Array.all_eq_true_iff_forall_mem.mp hF) _ (Array.getElem_mem ha)) i (List.mem_range.mpr hi)
    simpa [Array.getElem?_eq_getElem hi] using q
  obtain ⟨i0, ei0⟩ := is_v hi0
  obtain rfl : w0 = (.int i0) := Option.some.inj ei0
  obtain ⟨i1, ei1⟩ := isL_v hi1
  obtain rfl : w1 = (.long i1) := Option.some.inj ei1
  obtain ⟨i2, ei2⟩ := isL_v hi2
  obtain rfl : w2 = (.long i2) := Option.some.inj ei2
  obtain ⟨i3, ei3⟩ := isL_v hi3
  obtain rfl : w3 = (.long i3) := Option.some.inj ei3
  obtain ⟨n, o, h1, h2, h3, _, L, rfl, ⟨rfl, N⟩, hq⟩ := rm0 l s _ hw tables_1 i0 i1 i2 i3  s.heap s.heap.size (Nat.le_refl _)  p e ha hc hk s m _ below hf ((Spec.applies_iff_loose hf).mp happ).1 ⟨rfl, State.Warmed39.refl s, rfl⟩ trivial
  refine ⟨n, _, h1, h2, h3, hpost _ _ _ _ _ _ ⟨Cond.after_iff.mpr rfl, Cond.after_iff.mpr (eq_i res_at (Term.int_eval (1)) rfl), trivial⟩ ⟨hq.1, hq.2.1, (hq.2.2.sift fun y hy => Or.inr (N y hy)).mono (by decide) (by decide)⟩⟩
theorem main_1_1 : Claimed_1_1 := comes_1 fun _ _ _ _ _ _ h hF => ⟨h.1, hF⟩
theorem main_1_2 : Claimed_1_2 := comes_1 fun _ _ _ _ _ _ h hF => ⟨h.2.1, hF⟩
end Jvm.Pilot.@@N@@
namespace Jvm.Pilot.@@N@@
open Jvm Jvm.ClassFile Sem Op Lib Jvm.Free Jvm.Stand Jvm.Pilot.@@N@@.Jvm.D
/-! MADE BY PROGRAM (witnessworld.py) out of the Statement's table words and the real class files: 10 classes; the members and pool entries that the words name. The judged class is class 1, her method 3. -/
namespace start1
open Jvm.ClassFile
def u (s : String) : CpInfo := .utf8 (stringToUtf16 s)
/-- a pool by its gaps: so many unusable entries, then the entry; so many at the end -/
def gap : Nat → List CpInfo → List CpInfo
  | 0, r => r
  | n + 1, r => .unusable :: gap n r
def poolList (es : List (Nat × CpInfo)) (last : Nat) : List CpInfo := es.foldr (fun e r => gap e.1 (e.2 :: r)) (gap last [])
def pool (es : List (Nat × CpInfo)) (last : Nat) : Array CpInfo := ⟨poolList es last⟩
def fileOf (pool : Array CpInfo) (this : Nat) (attrs : Array Attribute := #[]) (ms : Array MethodInfo := #[]) (fl : Nat := 33) (sup : Nat := 0) (ifs : Array Nat := #[]) (fds : Array FieldInfo := #[]) : ClassFile where
  minorVersion := 0
  majorVersion := 65
  constantPool := pool
  accessFlags := fl
  thisClass := this
  superClass := sup
  interfaces := ifs
  fields := fds
  methods := ms
  attributes := attrs
def plain (name : String) (sup : Option ClassId) : Class where
  name := name
  kind := .ordinary
  loader := none
  accessFlags := 33
  super := sup
  interfaces := #[]
  cf := none
  fields := #[]
  methods := #[]
  instanceTypes := #[]
  staticTypes := #[]
  resolved := #[]
  callSites := []
  init := .initialized
  statics := none
  mirror := none

def pool0 : Array CpInfo := pool [(5, u "<init>"), (0, u "()V"), (1, .class_ 10), (1, u "java/lang/Object")] 113

def k0c0 : Code := { maxStack := 0, maxLocals := 1, code := object_method_1_code, exceptionTable := #[], attributes := #[] }
def k0m0 : Method := { name := "<init>", desc := "()V", sig := { parameters := [], returnType := none }, accessFlags := 1, code := some k0c0 }
/-- java/lang/Object -/
def k0 : Class := { plain "java/lang/Object" none with
  accessFlags := 33
  interfaces := #[]
  cf := some (fileOf pool0 8 #[] #[{ accessFlags := 1, nameIndex := 5, descriptorIndex := 6, attributes := #[] }] 33 0 #[] #[])
  fields := #[]
  methods := #[k0m0]
  instanceTypes := #[]
  staticTypes := #[]
  resolved := Array.replicate 124 none
  statics := none }

def pool1 : Array CpInfo := pool [(2, .class_ 4), (1, u "java/lang/Object"), (0, u "<init>"), (0, u "()V"), (0, .integer 134217727), (0, .integer 536870911), (0, .methodref 10 11), (0, .class_ 12), (0, .nameAndType 13 14), (0, u "com/example/haku/haku/eval/JudgedCharactersPinLaw"), (0, u "len"), (0, u "(J)I"), (0, .methodref 10 16), (0, .nameAndType 17 14), (0, u "gap"), (0, .class_ 19), (0, u "com/example/haku/haku/eval/FocusedJudgments$Judged"), (0, .methodref 18 21), (0, .nameAndType 5 22), (0, u "(I[I[I)V"), (0, .methodref 18 24), (0, .nameAndType 25 26), (0, u "characters"), (0, u "()J"), (2, u "law"), (0, u "(IJJJ)Z")] 9

def k1m0 : Method := { name := "<init>", desc := "()V", sig := { parameters := [], returnType := none }, accessFlags := 1, code := none }
def k1c1 : Code := { maxStack := 3, maxLocals := 2, code := method_2_code, exceptionTable := #[], attributes := #[] }
def k1m1 : Method := { name := "gap", desc := "(J)I", sig := { parameters := [.long], returnType := some .int }, accessFlags := 10, code := some k1c1 }
def k1c2 : Code := { maxStack := 2, maxLocals := 2, code := method_3_code, exceptionTable := #[], attributes := #[] }
def k1m2 : Method := { name := "len", desc := "(J)I", sig := { parameters := [.long], returnType := some .int }, accessFlags := 10, code := some k1c2 }
def k1c3 : Code := { maxStack := 5, maxLocals := 23, code := code, exceptionTable := #[], attributes := #[] }
def k1m3 : Method := { name := "law", desc := "(IJJJ)Z", sig := { parameters := [.int, .long, .long, .long], returnType := some .boolean }, accessFlags := 9, code := some k1c3 }
/-- com/example/haku/haku/eval/JudgedCharactersPinLaw -/
def k1 : Class := { plain "com/example/haku/haku/eval/JudgedCharactersPinLaw" (some 0) with
  accessFlags := 49
  interfaces := #[]
  cf := some (fileOf pool1 10 #[] #[{ accessFlags := 1, nameIndex := 5, descriptorIndex := 6, attributes := #[] }, { accessFlags := 10, nameIndex := 17, descriptorIndex := 14, attributes := #[] }, { accessFlags := 10, nameIndex := 13, descriptorIndex := 14, attributes := #[] }, { accessFlags := 9, nameIndex := 29, descriptorIndex := 30, attributes := #[] }] 49 2 #[] #[])
  fields := #[]
  methods := #[k1m0, k1m1, k1m2, k1m3]
  instanceTypes := #[]
  staticTypes := #[]
  resolved := Array.replicate 40 none
  statics := none }

def pool2 : Array CpInfo := pool [(1, .methodref 2 3), (0, .class_ 4), (0, .nameAndType 5 6), (0, u "java/lang/Object"), (0, u "<init>"), (0, u "()V"), (0, .class_ 8), (0, u "java/lang/Record")] 13

def k2c0 : Code := { maxStack := 1, maxLocals := 1, code := jdk_30_method_1_code, exceptionTable := #[], attributes := #[] }
def k2m0 : Method := { name := "<init>", desc := "()V", sig := { parameters := [], returnType := none }, accessFlags := 4, code := some k2c0 }
/-- java/lang/Record -/
def k2 : Class := { plain "java/lang/Record" (some 0) with
  accessFlags := 1057
  interfaces := #[]
  cf := some (fileOf pool2 7 #[] #[{ accessFlags := 4, nameIndex := 5, descriptorIndex := 6, attributes := #[] }] 1057 2 #[] #[])
  fields := #[]
  methods := #[k2m0]
  instanceTypes := #[]
  staticTypes := #[]
  resolved := Array.replicate 22 none
  statics := none }

def pool3 : Array CpInfo := pool [(1, .methodref 2 3), (0, .class_ 4), (0, .nameAndType 5 6), (0, u "java/lang/Record"), (0, u "<init>"), (0, u "()V"), (0, .fieldref 8 9), (0, .class_ 10), (0, .nameAndType 11 12), (0, u "com/example/haku/haku/eval/FocusedJudgments$Judged"), (0, u "line"), (0, u "I"), (0, .fieldref 8 14), (0, .nameAndType 15 16), (0, u "starts"), (0, u "[I"), (0, .fieldref 8 18), (0, .nameAndType 19 16), (0, u "ends"), (27, u "(I[I[I)V"), (3, u "characters"), (0, u "()J"), (12, .class_ 66), (0, u "com/example/haku/haku/eval/FocusedJudgments")] 21

def k3c0 : Code := { maxStack := 2, maxLocals := 4, code := prog_33_method_1_code, exceptionTable := #[], attributes := #[] }
def k3m0 : Method := { name := "<init>", desc := "(I[I[I)V", sig := { parameters := [.int, (.array .int), (.array .int)], returnType := none }, accessFlags := 0, code := some k3c0 }
def k3c1 : Code := { maxStack := 5, maxLocals := 4, code := prog_33_method_2_code, exceptionTable := #[], attributes := #[] }
def k3m1 : Method := { name := "characters", desc := "()J", sig := { parameters := [], returnType := some .long }, accessFlags := 0, code := some k3c1 }
/-- com/example/haku/haku/eval/FocusedJudgments$Judged -/
def k3 : Class := { plain "com/example/haku/haku/eval/FocusedJudgments$Judged" (some 2) with
  accessFlags := 48
  interfaces := #[]
  cf := some (fileOf pool3 8 #[.nestHost 65] #[{ accessFlags := 0, nameIndex := 5, descriptorIndex := 47, attributes := #[] }, { accessFlags := 0, nameIndex := 51, descriptorIndex := 52, attributes := #[] }] 48 2 #[] #[{ accessFlags := 18, nameIndex := 11, descriptorIndex := 12, attributes := #[] }, { accessFlags := 18, nameIndex := 15, descriptorIndex := 16, attributes := #[] }, { accessFlags := 18, nameIndex := 19, descriptorIndex := 16, attributes := #[] }])
  fields := #[{ name := "line", type := .int, accessFlags := 18, slot := 0, constantValue := 0 }, { name := "starts", type := (.array .int), accessFlags := 18, slot := 1, constantValue := 0 }, { name := "ends", type := (.array .int), accessFlags := 18, slot := 2, constantValue := 0 }]
  methods := #[k3m0, k3m1]
  instanceTypes := #[.int, (.array .int), (.array .int)]
  staticTypes := #[]
  resolved := Array.replicate 88 none
  statics := none }

def pool4 : Array CpInfo := pool [(1, u "java/lang/Cloneable"), (0, .class_ 1), (0, u "java/lang/Object"), (0, .class_ 3)] 3

/-- java/lang/Cloneable -/
def k4 : Class := { plain "java/lang/Cloneable" (some 0) with
  accessFlags := 1537
  interfaces := #[]
  cf := some (fileOf pool4 2 #[] #[] 1537 4 #[] #[])
  fields := #[]
  methods := #[]
  instanceTypes := #[]
  staticTypes := #[]
  resolved := Array.replicate 8 none
  statics := none }

def pool5 : Array CpInfo := pool [(1, u "java/io/Serializable"), (0, .class_ 1), (0, u "java/lang/Object"), (0, .class_ 3)] 3

/-- java/io/Serializable -/
def k5 : Class := { plain "java/io/Serializable" (some 0) with
  accessFlags := 1537
  interfaces := #[]
  cf := some (fileOf pool5 2 #[] #[] 1537 4 #[] #[])
  fields := #[]
  methods := #[]
  instanceTypes := #[]
  staticTypes := #[]
  resolved := Array.replicate 8 none
  statics := none }

/-- the primitive byte -/
def k6 : Class := { plain "byte" none with kind := .primitive 'B', accessFlags := 0x411 }
/-- [B -/
def k7 : Class := { plain "[B" (some 0) with kind := .array 6 .byte, interfaces := #[4, 5], accessFlags := 1041 }

/-- the primitive int -/
def k8 : Class := { plain "int" none with kind := .primitive 'I', accessFlags := 0x411 }
/-- [I -/
def k9 : Class := { plain "[I" (some 0) with kind := .array 8 .int, interfaces := #[4, 5], accessFlags := 1041 }

def heap : Heap := #[]
def classes : Array Class := #[k0, k1, k2, k3, k4, k5, k6, k7, k8, k9]
def interned : List (Array UInt16 × Addr) := []
def slotsUsed : Nat := 0
def theMethod : MethodId := ⟨1, 3⟩
def args0 : Array Value := #[.int 5, .long 5, .long 5, .long 5]
def aboutOver (below : List Frame) : State where
  vm := { classes := classes, interned := interned.toArray }
  heap := heap
  slotsUsed := slotsUsed
  threads := #[{ frames := .invoking theMethod args0 :: below }]
def below0 : List Frame := [.native { method := ⟨0, 0⟩, args := #[] }]
def about1 : State := aboutOver below0
def p0 : Program := .bare "" "" ""
def e0 : Env := launch0.env 0 0 0
theorem w_frames : about1.frames = Frame.invoking theMethod args0 :: below0 := rfl
set_option maxRecDepth 65536 in
theorem w_args : argsFit about1.vm theMethod args0 = true := by decide +kernel
set_option maxRecDepth 65536 in
theorem w_heap : heapFits about1 = true := by decide +kernel
set_option maxRecDepth 65536 in
theorem w_runnable : about1.curStatus? = some .runnable := by decide +kernel
set_option maxRecDepth 65536 in
theorem w_alone : about1.alone = true := by decide +kernel
set_option maxRecDepth 65536 in
theorem w_named : about1.methodNamed? x = some theMethod := by decide +kernel
set_option maxRecDepth 65536 in
theorem w_hears : about1.hears theMethod below0 = true := by decide +kernel
set_option maxRecDepth 65536 in
theorem w_ripe : about1.ripe theMethod args0 below0 = true := by decide +kernel
theorem w_running : about1.status = .running := rfl
set_option maxRecDepth 65536 in
theorem w_room : about1.hasRoom e0.platform room_1 = true :=
  launch0.hasRoom_least _ room_1 (by decide +kernel) (by decide +kernel) (by decide +kernel) (by decide +kernel) (by decide +kernel) (by decide +kernel)
theorem allAtoms_all (ts : List Jvm.Cond) (a : Array Jvm.Value) (st : Jvm.State) : (allAtoms ts).before a st = ts.all (fun c => c.before a st) := by
  induction ts with
  | nil => rfl
  | cons c t ih =>
    show (Jvm.Cond.and c (allAtoms t)).before a st = _
    rw [Jvm.Cond.before_and, ih, List.all_cons]
def words1 : List Jvm.Cond := Jvm.Cond.code x code maxLocals ret :: tables_1
/-- a 'code' word, met by the world's own term for the bytes: nothing is compared byte by byte -/
theorem code_word {y : MethodName} {bytes : ByteArray} {mx : Nat} {rt : Option FieldType} {a : Array Value} {s : State} {m : MethodId} {meth : Method} {c : Code} (h1 : s.methodNamed? y = some m) (h2 : s.vm.method? m = some meth) (h3 : meth.code = some c) (h4 : c.code = bytes)
    (h5 : (c.maxLocals == mx && c.exceptionTable.isEmpty && decide (c.maxStack ≤ mostOperands) && decide (meth.sig.returnType = rt) && !meth.locks && decide (parseMethodDescriptor y.desc = some meth.sig)) = true) : (Jvm.Cond.code y bytes mx rt).before a s = true := by
  simp only [Bool.and_eq_true, beq_iff_eq, Bool.not_eq_true', decide_eq_true_eq] at h5
  obtain ⟨⟨⟨⟨⟨g1, g2⟩, g3⟩, g4⟩, g5⟩, g6⟩ := h5
  simp [Cond.before, Cond.holds, Cond.value, h1, h2, h3, h4, g1, g2, g3, g4, g5, g6]
def isCode : Jvm.Cond → Bool
  | .code _ _ _ _ => true
  | _ => false
theorem all_split {L : List Jvm.Cond} {P : Jvm.Cond → Bool} (h1 : L.all (fun c => isCode c || P c) = true) (h2 : ∀ c ∈ L.filter isCode, P c = true) : L.all P = true := by
  refine List.all_eq_true.mpr fun c hc => ?_
  have h := List.all_eq_true.mp h1 c hc
  rcases Bool.eq_false_or_eq_true (isCode c) with hi | hi
  · exact h2 c (List.mem_filter.mpr ⟨hc, hi⟩)
  · simpa [hi] using h
set_option maxRecDepth 65536 in
theorem w_c0 : (Jvm.Cond.code x code maxLocals ret).before args0 about1 = true := code_word (m := ⟨1, 3⟩) (meth := k1m3) (c := k1c3) (by decide +kernel) rfl rfl rfl (by decide +kernel)
set_option maxRecDepth 65536 in
theorem w_c1 : (Jvm.Cond.code ({ cls := "com/example/haku/haku/eval/JudgedCharactersPinLaw", name := "len", desc := "(J)I" } : Jvm.MethodName) method_3_code (2 : Nat) (Option.some Jvm.ClassFile.FieldType.int)).before args0 about1 = true := code_word (m := ⟨1, 2⟩) (meth := k1m2) (c := k1c2) (by decide +kernel) rfl rfl rfl (by decide +kernel)
set_option maxRecDepth 65536 in
theorem w_c2 : (Jvm.Cond.code ({ cls := "com/example/haku/haku/eval/JudgedCharactersPinLaw", name := "gap", desc := "(J)I" } : Jvm.MethodName) method_2_code (2 : Nat) (Option.some Jvm.ClassFile.FieldType.int)).before args0 about1 = true := code_word (m := ⟨1, 1⟩) (meth := k1m1) (c := k1c1) (by decide +kernel) rfl rfl rfl (by decide +kernel)
set_option maxRecDepth 65536 in
theorem w_c3 : (Jvm.Cond.code ({ cls := "com/example/haku/haku/eval/FocusedJudgments$Judged", name := "<init>", desc := "(I[I[I)V" } : Jvm.MethodName) prog_33_method_1_code (4 : Nat) (Option.none : Option Jvm.ClassFile.FieldType)).before args0 about1 = true := code_word (m := ⟨3, 0⟩) (meth := k3m0) (c := k3c0) (by decide +kernel) rfl rfl rfl (by decide +kernel)
set_option maxRecDepth 65536 in
theorem w_c4 : (Jvm.Cond.code ({ cls := "java/lang/Record", name := "<init>", desc := "()V" } : Jvm.MethodName) jdk_30_method_1_code (1 : Nat) (Option.none : Option Jvm.ClassFile.FieldType)).before args0 about1 = true := code_word (m := ⟨2, 0⟩) (meth := k2m0) (c := k2c0) (by decide +kernel) rfl rfl rfl (by decide +kernel)
set_option maxRecDepth 65536 in
theorem w_c5 : (Jvm.Cond.code ({ cls := "java/lang/Object", name := "<init>", desc := "()V" } : Jvm.MethodName) object_method_1_code (1 : Nat) (Option.none : Option Jvm.ClassFile.FieldType)).before args0 about1 = true := code_word (m := ⟨0, 0⟩) (meth := k0m0) (c := k0c0) (by decide +kernel) rfl rfl rfl (by decide +kernel)
set_option maxRecDepth 65536 in
theorem w_c6 : (Jvm.Cond.code ({ cls := "com/example/haku/haku/eval/FocusedJudgments$Judged", name := "characters", desc := "()J" } : Jvm.MethodName) prog_33_method_2_code (4 : Nat) (Option.some Jvm.ClassFile.FieldType.long)).before args0 about1 = true := code_word (m := ⟨3, 1⟩) (meth := k3m1) (c := k3c1) (by decide +kernel) rfl rfl rfl (by decide +kernel)
def codes1 : List Jvm.Cond := [Jvm.Cond.code x code maxLocals ret, Jvm.Cond.code ({ cls := "com/example/haku/haku/eval/JudgedCharactersPinLaw", name := "len", desc := "(J)I" } : Jvm.MethodName) method_3_code (2 : Nat) (Option.some Jvm.ClassFile.FieldType.int), Jvm.Cond.code ({ cls := "com/example/haku/haku/eval/JudgedCharactersPinLaw", name := "gap", desc := "(J)I" } : Jvm.MethodName) method_2_code (2 : Nat) (Option.some Jvm.ClassFile.FieldType.int), Jvm.Cond.code ({ cls := "com/example/haku/haku/eval/FocusedJudgments$Judged", name := "<init>", desc := "(I[I[I)V" } : Jvm.MethodName) prog_33_method_1_code (4 : Nat) (Option.none : Option Jvm.ClassFile.FieldType), Jvm.Cond.code ({ cls := "java/lang/Record", name := "<init>", desc := "()V" } : Jvm.MethodName) jdk_30_method_1_code (1 : Nat) (Option.none : Option Jvm.ClassFile.FieldType), Jvm.Cond.code ({ cls := "java/lang/Object", name := "<init>", desc := "()V" } : Jvm.MethodName) object_method_1_code (1 : Nat) (Option.none : Option Jvm.ClassFile.FieldType), Jvm.Cond.code ({ cls := "com/example/haku/haku/eval/FocusedJudgments$Judged", name := "characters", desc := "()J" } : Jvm.MethodName) prog_33_method_2_code (4 : Nat) (Option.some Jvm.ClassFile.FieldType.long)]
set_option maxRecDepth 65536 in
theorem codes_eq : words1.filter isCode = codes1 := rfl
theorem w_codes : ∀ c ∈ words1.filter isCode, c.before args0 about1 = true := by
  rw [codes_eq]
  intro c hc
  simp only [codes1, List.mem_cons, List.not_mem_nil, or_false] at hc
  rcases hc with rfl | rfl | rfl | rfl | rfl | rfl | rfl
  · exact w_c0
  · exact w_c1
  · exact w_c2
  · exact w_c3
  · exact w_c4
  · exact w_c5
  · exact w_c6
set_option maxRecDepth 65536 in
theorem w_t1 : (words1.take 24).all (fun c => isCode c || c.before args0 about1) = true := by decide +kernel
set_option maxRecDepth 65536 in
theorem w_t2 : (words1.drop 24).all (fun c => isCode c || c.before args0 about1) = true := by decide +kernel
theorem w_tables : (allAtoms (Jvm.Cond.code x code maxLocals ret :: tables_1)).before args0 about1 = true := by
  rw [allAtoms_all]
  show words1.all (fun c => c.before args0 about1) = true
  refine all_split ?_ w_codes
  rw [← List.take_append_drop 24 words1, List.all_append, w_t1, w_t2]
  rfl
set_option maxRecDepth 65536 in
theorem w_case : (Jvm.Cond.and given_1 narrow_1).before args0 about1 = true := by decide +kernel
theorem w_applies : (headSpec (Jvm.Cond.code x code maxLocals ret :: tables_1) room_1).applies x e0.platform about1 = true :=
  (Spec.applies_iff w_frames).mpr ⟨w_running, w_runnable, w_alone, w_named, w_hears, w_ripe, w_room, w_tables⟩
theorem atStart : AtStart classFile x code maxLocals ret World_1 tables_1 room_1 Calls_1 rest_1 Pre_1 launch0 p0 e0 about1 theMethod args0 below0 :=
  ⟨lists_1, trivial, launch0.admits_env _ _ _, launch0.least_env, fairChoices_fair.cas, fairChoices_fair.clock, w_frames, w_args, w_heap, w_applies, trivial, trivial, w_case⟩
end start1
theorem witness_1 : WitnessClaimed_1 := ⟨start1.p0, start1.e0, start1.about1, start1.theMethod, start1.args0, start1.below0, start1.atStart⟩
end Jvm.Pilot.@@N@@
