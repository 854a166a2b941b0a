import JvmDerived
import JvmDerived.Pilot.@@N@@Statement
import JvmDerived.Pilot.@@N@@Code
set_option linter.unusedVariables false
set_option linter.unusedSimpArgs false
namespace Jvm.RoadKit
open Sem ClassFile Op Lib Jvm.Stand Jvm.Free Jvm.LawKit
section New
variable {p : Program} {l : Launch} {e : Env} {R : Room} {s : State} {m : MethodId} {args : Array Value} {below : List Frame} {meth : Method} {c : Code} {T : State} {locs : List Loc} {cells slots : Nat}
theorem retI (X : Stand p l e R s m args below meth c T locs cells slots) (hx : p.tables.exec = Jvm.exec) {pc : Nat} {Ls : Array Slot} {z : Int32} {rest : List Value} (hret : meth.sig.returnType = some .int) (hd : decode c.code pc = .ok (.ireturn, 1)) {fs : List Frame}
    (hl : ∀ (f : JFrame) (acts : List Action), f.method = m → f.locked = none → f.entered = [] → (doReturn e (T.setTop f) acts (some (.int z))).1 = T.setFrames fs) : Steps p.tables e below (T.setTop (mkF m pc Ls (.int z :: rest))) (T.setFrames fs) := by
  have hm' : T.vm.method? m = some meth := X.method'
  have hn : narrow .int (.int z) = .int z := rfl
  show Steps p.tables e below (T.setTop { method := m, pc := pc, locals := Ls, stack := _ :: rest, locked := none }) _
  jvm_step X.here [X.here.top, hx, hd, hm', hret, hn]
  first | (intro acts; rw [hl _ acts rfl rfl rfl]) | rw [hl _ _ rfl rfl rfl]
  exact Steps.refl _
end New
end Jvm.RoadKit
namespace Jvm.RoadKit
open Sem ClassFile Op Lib Jvm.Stand Jvm.Free Jvm.LawKit
theorem own_lsw {tb : Tables} [Ours tb] {e : Env} {below : List Frame} {T target : State} {m : MethodId} {c : Code} {g : JFrame} (h : At T m c below) (hx : tb.exec = Jvm.exec) (hg : g.method = m) {dflt : Int} {pairs : Array (Int × Int)} {len : Nat} {pc0 pc' : Nat} (hpc : g.pc = pc0) (hd : decode c.code g.pc = .ok (.lookupswitch dflt pairs, len)) {i : Int32} {rest : List Value} (hs : g.stack = .int i :: rest) {o : Int}
    (hoff : lookupswitch.offset pairs.toList dflt i.toInt = o) (hso : (pairs.toList.zip (pairs.toList.drop 1)).all (fun (a, next) => a.1 < next.1) = true) (ho : 0 ≤ (pc0 : Int) + o) (hp : ((pc0 : Int) + o).toNat = pc')
    (hr : Steps tb e below (T.setTop { g with pc := pc', stack := rest }) target) : Steps tb e below (T.setTop g) target := by
  subst hg hpc hp
  jvm_step h [h.top, hx, hd, hs, hoff, ho, lookupswitch.wp_chain]
  exact ⟨by simpa using hso, hr⟩
theorem own_off_no {k d : Int} : ∀ {L : List (Int × Int)}, (∀ q ∈ L, ¬ q.1 = k) → lookupswitch.offset L d k = d
  | [], _ => rfl
  | (a, o) :: r, h => by rw [lookupswitch.offset_cons, if_neg (h (a, o) (List.mem_cons_self ..))]; exact own_off_no fun q hq => h q (List.mem_cons_of_mem _ hq)
theorem own_ne_lit {x k : Int32} (h : ¬ x = k) {z : Int} (hz : k.toInt = z) : ¬ z = x.toInt := fun q => h (Int32.toInt_inj.mp (by rw [← q, hz]))
def own_rem (x y : Int32) : Int32 := x - (x / y) * y
def bi (P : Prop) [Decidable P] : Int32 := if P then 1 else 0
theorem bi_t {P : Prop} [Decidable P] (h : P) : bi P = 1 := if_pos h
theorem bi_f {P : Prop} [Decidable P] (h : ¬ P) : bi P = 0 := if_neg h
theorem bi_nar {P : Prop} [Decidable P] : nar .boolean (bi P) = bi P := by unfold bi; split <;> rfl
theorem bi_0 {P : Prop} [Decidable P] : (bi P = 0) ↔ ¬ P := by unfold bi; split <;> simp_all
theorem bi_inj {P Q : Prop} [Decidable P] [Decidable Q] (h : P ↔ Q) : bi P = bi Q := by unfold bi; simp only [h]
end Jvm.RoadKit
namespace Jvm.RoadKit
open Sem ClassFile Op Lib Jvm.Stand Jvm.Free Jvm.LawKit
section OwnWords
variable {args : Array Value} {s : State} {idx : List Nat} {t i : Term} {aT : Addr} {cl : Cell} {b k A B z : Int32}
theorem own_or {G Y : Cond} (h : (Cond.or G Y).value args s none s idx = some true) (hg : G.value args s none s idx = some false) : Y.value args s none s idx = some true := by
  simpa only [Cond.value, hg] using h
theorem own_el (h : (Cond.eq (.elem t i) (.int b)).value args s none s idx = some true) (ht : t.eval args s none idx s = some (.ref aT)) (hi : i.eval args s none idx s = some (.int k)) (hc : s.heap[aT]? = some cl) : atv cl k = b := by
  obtain ⟨x, y, e1, e2, -, -⟩ := cmp_v (Or.inl h)
  obtain ⟨-, e3⟩ := elem_in e1 ht hi hc
  have e4 : (Term.int b).eval args s none idx s = some (.int b) := rfl
  cases e4.symm.trans e2
  have e5 : x = .int b := by cases x <;> simp [Cond.value, e1, e4] at h; rw [h]
  subst e5
  exact atv_of e3
theorem own_r1 (h : (Cond.all t (.or (.le (.int A) (.index 0)) (.eq (.elem t (.index 0)) (.int b)))).value args s none s [] = some true) (ht : ∀ idx, t.eval args s none idx s = some (.ref aT)) (hc : s.heap[aT]? = some cl) (ha : s.arrayAt? aT = some cl) {n : Nat} (hn : n < cl.slots.size) (h1 : ¬ A ≤ n.toInt32) : atv cl n.toInt32 = b := by
  have q := Cond.all_elim (ht []) ha h n hn
  exact own_el (own_or q (by simp [Cond.value, Term.eval, h1])) (ht _) (by simp [Term.eval]) hc
theorem own_r2 (h : (Cond.all t (.or (.lt (.index 0) (.int A)) (.or (.le (.int B) (.index 0)) (.eq (.elem t (.index 0)) (.int b))))).value args s none s [] = some true) (ht : ∀ idx, t.eval args s none idx s = some (.ref aT)) (hc : s.heap[aT]? = some cl) (ha : s.arrayAt? aT = some cl) {n : Nat} (hn : n < cl.slots.size) (h1 : ¬ n.toInt32 < A) (h2 : ¬ B ≤ n.toInt32) : atv cl n.toInt32 = b := by
  have q := Cond.all_elim (ht []) ha h n hn
  exact own_el (own_or (own_or q (by simp [Cond.value, Term.eval, h1])) (by simp [Cond.value, Term.eval, h2])) (ht _) (by simp [Term.eval]) hc
theorem own_len (h : (Cond.eq (.length t) (.int z)).value args s none s idx = some true) (ht : t.eval args s none idx s = some (.ref aT)) (ha : s.arrayAt? aT = some cl) : cl.slots.size < 2 ^ 31 ∧ cl.slots.size.toInt32 = z := by
  by_cases q : cl.slots.size < 2 ^ 31
  · simp [Cond.value, Term.eval, ht, ha, q] at h; exact ⟨q, h⟩
  · simp [Cond.value, Term.eval, ht, ha, q] at h
theorem own_sta_idx {C n d : String} {v : Value} (h : (Term.static C n d).eval args s none [] s = some v) (idx : List Nat) : (Term.static C n d).eval args s none idx s = some v := by
  simp only [Term.eval] at h ⊢; exact h
end OwnWords
theorem own_toInt_ofNat {n : Nat} (h : n < 2147483648) : (Int32.ofNat n).toInt = n := Int32.toInt_ofNat_small h
theorem own_of_rng {c : Int32} (h0 : ¬ c < 0) : c = Int32.ofNat c.toInt.toNat := by
  have h0' : 0 ≤ c.toInt := by rw [Int32.lt_iff_toInt_lt] at h0; have : (0 : Int32).toInt = 0 := rfl; omega
  have := c.toInt_lt
  apply Int32.toInt_inj.mp
  rw [own_toInt_ofNat (by omega)]; omega
end Jvm.RoadKit
namespace Jvm.RoadKit
open Sem ClassFile Op Lib Jvm.Stand Jvm.Free Jvm.LawKit
theorem own_ord {args : Array Value} {s : State} {t : Term} {a : Addr} {k : Int32} {C n d : String} (h : (Cond.eq (.field t C n d) (.int k)).value args s none s [] = some true) (ht : t.eval args s none [] s = some (.ref a)) : s.fieldOf? a C n d = some (.int k) := by
  obtain ⟨x, y, e1, e2, -, -⟩ := cmp_v (Or.inl h)
  have e4 : (Term.int k).eval args s none [] s = some (.int k) := rfl
  have e5 : x = .int k := by cases x <;> simp [Cond.value, e1, e4] at h; rw [h]
  rw [fld_at ht] at e1
  rw [e1, e5]
theorem own_ord_ne {o : Addr → Option Value} {a b : Addr} {j k : Int32} (h1 : o a = some (.int j)) (h2 : o b = some (.int k)) (hjk : ¬ j = k) : ¬ a = b := fun e => by
  subst e; exact hjk (Value.int.inj (Option.some.inj (h1.symm.trans h2)))
theorem own_and7 (x : Int32) : (x &&& 7).toInt = 0 ∨ (x &&& 7).toInt = 1 ∨ (x &&& 7).toInt = 2 ∨ (x &&& 7).toInt = 3 ∨ (x &&& 7).toInt = 4 ∨ (x &&& 7).toInt = 5 ∨ (x &&& 7).toInt = 6 ∨ (x &&& 7).toInt = 7 := by
  have h := c_mask x 7 3 (by decide) (by decide)
  have : ((2 ^ 3 : Nat) : Int) = 8 := rfl
  omega
theorem own_i32 {x k : Int32} {z : Int} (h : x.toInt = z) (hk : k.toInt = z) : x = k := Int32.toInt_inj.mp (h.trans hk.symm)
end Jvm.RoadKit
namespace Jvm.Pilot.@@N@@
open Jvm Jvm.ClassFile Sem Op Lib Jvm.Free Jvm.Stand Jvm.LawKit Jvm.RoadKit Bundle Jvm.Pilot.@@N@@.Jvm.D
def own_pick (k : Int32) (en0 en1 en2 en3 en4 en5 en6 en7 : Addr) : Addr := if k = (0 : Int32) then en0 else if k = (1 : Int32) then en1 else if k = (2 : Int32) then en2 else if k = (3 : Int32) then en3 else if k = (4 : Int32) then en4 else if k = (5 : Int32) then en5 else if k = (6 : Int32) then en6 else en7
theorem own_pick_0 (en0 en1 en2 en3 en4 en5 en6 en7 : Addr) : own_pick 0 en0 en1 en2 en3 en4 en5 en6 en7 = en0 := by unfold own_pick; rw [if_pos rfl]
theorem own_pick_1 (en0 en1 en2 en3 en4 en5 en6 en7 : Addr) : own_pick 1 en0 en1 en2 en3 en4 en5 en6 en7 = en1 := by unfold own_pick; rw [if_neg (by decide), if_pos rfl]
theorem own_pick_2 (en0 en1 en2 en3 en4 en5 en6 en7 : Addr) : own_pick 2 en0 en1 en2 en3 en4 en5 en6 en7 = en2 := by unfold own_pick; rw [if_neg (by decide), if_neg (by decide), if_pos rfl]
theorem own_pick_3 (en0 en1 en2 en3 en4 en5 en6 en7 : Addr) : own_pick 3 en0 en1 en2 en3 en4 en5 en6 en7 = en3 := by unfold own_pick; rw [if_neg (by decide), if_neg (by decide), if_neg (by decide), if_pos rfl]
theorem own_pick_4 (en0 en1 en2 en3 en4 en5 en6 en7 : Addr) : own_pick 4 en0 en1 en2 en3 en4 en5 en6 en7 = en4 := by unfold own_pick; rw [if_neg (by decide), if_neg (by decide), if_neg (by decide), if_neg (by decide), if_pos rfl]
theorem own_pick_5 (en0 en1 en2 en3 en4 en5 en6 en7 : Addr) : own_pick 5 en0 en1 en2 en3 en4 en5 en6 en7 = en5 := by unfold own_pick; rw [if_neg (by decide), if_neg (by decide), if_neg (by decide), if_neg (by decide), if_neg (by decide), if_pos rfl]
theorem own_pick_6 (en0 en1 en2 en3 en4 en5 en6 en7 : Addr) : own_pick 6 en0 en1 en2 en3 en4 en5 en6 en7 = en6 := by unfold own_pick; rw [if_neg (by decide), if_neg (by decide), if_neg (by decide), if_neg (by decide), if_neg (by decide), if_neg (by decide), if_pos rfl]
theorem own_pick_7 (en0 en1 en2 en3 en4 en5 en6 en7 : Addr) : own_pick 7 en0 en1 en2 en3 en4 en5 en6 en7 = en7 := by unfold own_pick; rw [if_neg (by decide), if_neg (by decide), if_neg (by decide), if_neg (by decide), if_neg (by decide), if_neg (by decide), if_neg (by decide)]
theorem own_pick_P {P : Addr → Prop} {en0 en1 en2 en3 en4 en5 en6 en7 : Addr} (h0 : P en0) (h1 : P en1) (h2 : P en2) (h3 : P en3) (h4 : P en4) (h5 : P en5) (h6 : P en6) (h7 : P en7) (k : Int32) : P (own_pick k en0 en1 en2 en3 en4 en5 en6 en7) := by unfold own_pick; (repeat' split) <;> assumption
def own_ends (a en5 en6 en7 : Addr) : Int32 := if a = en5 then 0 else if a = en6 then 0 else if a = en7 then 0 else 1
def QP (Z : State) (p1 : Int32) (en0 : Addr) (en1 : Addr) (en2 : Addr) (en3 : Addr) (en4 : Addr) (en5 : Addr) (en6 : Addr) (en7 : Addr) (h0 : Heap) (n0 : Nat) (v : Option Value) (h : Heap) (L : List Loc) : Prop := v = some (.ref (own_pick p1 en0 en1 en2 en3 en4 en5 en6 en7)) ∧ Fr n0 L ∧ h = h0
theorem ef_P (m : MethodId) (x0 : Int32) : entryFrame m #[(.int x0)] 1 = mkF m 0 #[.val (.int x0)] [] := by first | (simp [entryFrame, mkF, argsToLocals, Value.category]; done) | rfl
theorem pn_GameStatusEndsGamePinLaw : plainName "com/example/kingsbetween/kingsbetween/game/GameStatusEndsGamePinLaw" = true := by first | (simp [plainName, overriddenIn]; done) | decide +kernel
theorem d_method_2_0 : decode method_2_code 0 = .ok (.iload_n 0, 1) := by decide +kernel
theorem d_method_2_1 : decode method_2_code 1 = .ok (.ifCond .ne 7, 3) := by decide +kernel
theorem d_method_2_4 : decode method_2_code 4 = .ok (.getstatic 7, 3) := by decide +kernel
theorem d_method_2_7 : decode method_2_code 7 = .ok (.areturn, 1) := by decide +kernel
theorem d_method_2_8 : decode method_2_code 8 = .ok (.iload_n 0, 1) := by decide +kernel
theorem d_method_2_9 : decode method_2_code 9 = .ok (.iconst 1, 1) := by decide +kernel
theorem d_method_2_10 : decode method_2_code 10 = .ok (.if_icmp .ne 7, 3) := by decide +kernel
theorem d_method_2_13 : decode method_2_code 13 = .ok (.getstatic 13, 3) := by decide +kernel
theorem d_method_2_16 : decode method_2_code 16 = .ok (.areturn, 1) := by decide +kernel
theorem d_method_2_17 : decode method_2_code 17 = .ok (.iload_n 0, 1) := by decide +kernel
theorem d_method_2_18 : decode method_2_code 18 = .ok (.iconst 2, 1) := by decide +kernel
theorem d_method_2_19 : decode method_2_code 19 = .ok (.if_icmp .ne 7, 3) := by decide +kernel
theorem d_method_2_22 : decode method_2_code 22 = .ok (.getstatic 16, 3) := by decide +kernel
theorem d_method_2_25 : decode method_2_code 25 = .ok (.areturn, 1) := by decide +kernel
theorem d_method_2_26 : decode method_2_code 26 = .ok (.iload_n 0, 1) := by decide +kernel
theorem d_method_2_27 : decode method_2_code 27 = .ok (.iconst 3, 1) := by decide +kernel
theorem d_method_2_28 : decode method_2_code 28 = .ok (.if_icmp .ne 7, 3) := by decide +kernel
theorem d_method_2_31 : decode method_2_code 31 = .ok (.getstatic 19, 3) := by decide +kernel
theorem d_method_2_34 : decode method_2_code 34 = .ok (.areturn, 1) := by decide +kernel
theorem d_method_2_35 : decode method_2_code 35 = .ok (.iload_n 0, 1) := by decide +kernel
theorem d_method_2_36 : decode method_2_code 36 = .ok (.iconst 4, 1) := by decide +kernel
theorem d_method_2_37 : decode method_2_code 37 = .ok (.if_icmp .ne 7, 3) := by decide +kernel
theorem d_method_2_40 : decode method_2_code 40 = .ok (.getstatic 22, 3) := by decide +kernel
theorem d_method_2_43 : decode method_2_code 43 = .ok (.areturn, 1) := by decide +kernel
theorem d_method_2_44 : decode method_2_code 44 = .ok (.iload_n 0, 1) := by decide +kernel
theorem d_method_2_45 : decode method_2_code 45 = .ok (.iconst 5, 1) := by decide +kernel
theorem d_method_2_46 : decode method_2_code 46 = .ok (.if_icmp .ne 7, 3) := by decide +kernel
theorem d_method_2_49 : decode method_2_code 49 = .ok (.getstatic 25, 3) := by decide +kernel
theorem d_method_2_52 : decode method_2_code 52 = .ok (.areturn, 1) := by decide +kernel
theorem d_method_2_53 : decode method_2_code 53 = .ok (.iload_n 0, 1) := by decide +kernel
theorem d_method_2_54 : decode method_2_code 54 = .ok (.bipush 6, 2) := by decide +kernel
theorem d_method_2_56 : decode method_2_code 56 = .ok (.if_icmp .ne 7, 3) := by decide +kernel
theorem d_method_2_59 : decode method_2_code 59 = .ok (.getstatic 28, 3) := by decide +kernel
theorem d_method_2_62 : decode method_2_code 62 = .ok (.areturn, 1) := by decide +kernel
theorem d_method_2_63 : decode method_2_code 63 = .ok (.getstatic 31, 3) := by decide +kernel
theorem d_method_2_66 : decode method_2_code 66 = .ok (.areturn, 1) := by decide +kernel
set_option maxRecDepth 65536 in
set_option maxHeartbeats 40000000 in
theorem rmP (l : Launch) (Z : State) (a0 : Array Value) (hw : ∀ d ∈ tables_1, d.before a0 Z = true) (ws : List Jvm.Cond) (p1 : Int32) (en0 : Addr) (en1 : Addr) (en2 : Addr) (en3 : Addr) (en4 : Addr) (en5 : Addr) (en6 : Addr) (en7 : Addr) (h0 : Heap) (n0 : Nat) (Z0 : n0 ≤ h0.size) (S0 : Sta Z h0 "com/example/kingsbetween/kingsbetween/game/GameStatus" "CHECKMATE" "Lcom/example/kingsbetween/kingsbetween/game/GameStatus;" (.ref en0)) (S1 : Sta Z h0 "com/example/kingsbetween/kingsbetween/game/GameStatus" "STALEMATE" "Lcom/example/kingsbetween/kingsbetween/game/GameStatus;" (.ref en1)) (S2 : Sta Z h0 "com/example/kingsbetween/kingsbetween/game/GameStatus" "INSUFFICIENT_MATERIAL" "Lcom/example/kingsbetween/kingsbetween/game/GameStatus;" (.ref en2)) (S3 : Sta Z h0 "com/example/kingsbetween/kingsbetween/game/GameStatus" "FIVEFOLD_REPETITION" "Lcom/example/kingsbetween/kingsbetween/game/GameStatus;" (.ref en3)) (S4 : Sta Z h0 "com/example/kingsbetween/kingsbetween/game/GameStatus" "SEVENTY_FIVE_MOVES" "Lcom/example/kingsbetween/kingsbetween/game/GameStatus;" (.ref en4)) (S5 : Sta Z h0 "com/example/kingsbetween/kingsbetween/game/GameStatus" "THREEFOLD_CLAIMABLE" "Lcom/example/kingsbetween/kingsbetween/game/GameStatus;" (.ref en5)) (S6 : Sta Z h0 "com/example/kingsbetween/kingsbetween/game/GameStatus" "FIFTY_MOVES_CLAIMABLE" "Lcom/example/kingsbetween/kingsbetween/game/GameStatus;" (.ref en6)) (S7 : Sta Z h0 "com/example/kingsbetween/kingsbetween/game/GameStatus" "ONGOING" "Lcom/example/kingsbetween/kingsbetween/game/GameStatus;" (.ref en7)) :
    MetFree l (⟨"com/example/kingsbetween/kingsbetween/game/GameStatusEndsGamePinLaw", "pick", "(I)Lcom/example/kingsbetween/kingsbetween/game/GameStatus;"⟩ : MethodName) (head1 (Jvm.Cond.code (⟨"com/example/kingsbetween/kingsbetween/game/GameStatusEndsGamePinLaw", "pick", "(I)Lcom/example/kingsbetween/kingsbetween/game/GameStatus;"⟩ : MethodName) method_2_code 1 (some (.object "com/example/kingsbetween/kingsbetween/game/GameStatus")) :: ws) ({ frames := 0, cells := 0, slots := 0, locals := 0 } : Room)) (fun a' U => a' = #[(.int p1)] ∧ Z.Warmed39 U.vm ∧ U.heap = h0) (fun _ _ _ _ _ => True) (fun _ U o U' => ∃ v L, o = .returned v ∧ QP Z p1 en0 en1 en2 en3 en4 en5 en6 en7 h0 n0 v U'.heap L ∧ FrameEnd U o U' L ({ frames := 0, cells := 0, slots := 0, locals := 0 } : Room).cells ({ frames := 0, cells := 0, slots := 0, locals := 0 } : Room).slots) := by
  refine MetFree.of_bodySF (plainFor_of_name pn_GameStatusEndsGamePinLaw) hisR ?_
  intro p e s m args below meth c s₁ Bd hml0 hP hK
  obtain ⟨rfl, hZ, hh⟩ := hP
  have hx := Bd.exec
  have hby := Bd.bytes
  have hml : c.maxLocals = 1 := hml0
  have hown : s.vm.findClass "com/example/kingsbetween/kingsbetween/game/GameStatusEndsGamePinLaw" = some m.cls := findClass_of_methodNamed Bd.named
  have hnm := (name_of_methodNamed Bd.named Bd.method).1
  have X0 : Stand p l e ({ frames := 0, cells := 0, slots := 0, locals := 0 } : Room) s m #[(.int p1)] below meth c s₁ [] 0 0 := Stand.of_body Bd
  have e0 : s₁.heap = h0 := by rw [← hh, Bd.state]; rfl
  have N0 := Fr.nil n0
  have Zn := Z0
  have pre0 : ∀ t, Steps p.tables e below (s₁.setTop (mkF m 0 #[.val (.int p1)] [])) t → Steps p.tables e below (s₁.setTop (entryFrame m #[(.int p1)] 1)) t := fun t q => castTop (ef_P m p1) q
  have k0 : ∀ t, Steps p.tables e below (s₁.setTop (mkF m 0 #[.val (.int p1)] [])) t → Steps p.tables e below (s₁.setTop (mkF m 0 #[.val (.int p1)] [])) t := fun t q => q
  have k1_ : ∀ t, Steps p.tables e below (s₁.setTop (mkF m 1 #[.val (.int p1)] [(.int p1)])) t → Steps p.tables e below (s₁.setTop (mkF m 0 #[.val (.int p1)] [])) t := by
    intro t q
    refine k0 _ ?_
    show Steps p.tables e below (s₁.setTop (mkF m 0 #[.val (.int p1)] [])) _
    refine XS.iloadN X0.here hx rfl (hb hby d_method_2_0) rfl ?_
    show Steps p.tables e below (s₁.setTop (mkF m 1 #[.val (.int p1)] [(.int p1)])) _
    exact q
  by_cases hp0 : p1 = (0 : Int32)
  · have k2_ : ∀ t, Steps p.tables e below (s₁.setTop (mkF m 4 #[.val (.int p1)] [])) t → Steps p.tables e below (s₁.setTop (mkF m 0 #[.val (.int p1)] [])) t := by
      intro t q
      refine k1_ _ ?_
      show Steps p.tables e below (s₁.setTop (mkF m 1 #[.val (.int p1)] [(.int p1)])) _
      refine XS.ifNo X0.here hx rfl (hb hby d_method_2_1) rfl ((if0 _ _).trans (teq hp0).2) ?_
      show Steps p.tables e below (s₁.setTop (mkF m 4 #[.val (.int p1)] [])) _
      exact q
    obtain ⟨T3, X3, e3, st3⟩ := getS2 X0 hx hZ hown (host := "") (Or.inl (hw _ (List.mem_of_getElem? (i := 4) rfl))) Via.refl e0 S0 (g := (mkF m 4 #[.val (.int p1)] [])) rfl (hb hby d_method_2_4)
    have k4_ : ∀ t, Steps p.tables e below (T3.setTop (mkF m 7 #[.val (.int p1)] [(.ref en0)])) t → Steps p.tables e below (s₁.setTop (mkF m 0 #[.val (.int p1)] [])) t := fun t q => k2_ t (st3 t q)
    obtain ⟨fs, hr, hrun, hended, hW, hsame⟩ := X3.leave (v := some (.ref en0)) (fun h => by rw [Bd.returns] at h; cases h)
    refine ⟨_, _, pre0 _ (k4_ _ ?_), hrun, hended, _, _, rfl, ?_, ⟨_, rfl⟩, hW, hsame.mono (by decide) (by decide)⟩
    · show Steps p.tables e below (T3.setTop (mkF m 7 #[.val (.int p1)] [(.ref en0)])) _
      jvm_step X3.here [X3.here.top, hx, (hb hby d_method_2_7), X3.method', Bd.returns, Value.isRef, FieldType.isReference]
      first | (intro acts; rw [hr _ acts rfl rfl rfl]) | rw [hr _ _ rfl rfl rfl]
      exact Steps.refl _
    · show QP Z p1 en0 en1 en2 en3 en4 en5 en6 en7 h0 n0 _ T3.heap _
      rw [e3]
      exact ⟨by unfold own_pick; rw [if_pos hp0], N0, rfl⟩
  · have k5_ : ∀ t, Steps p.tables e below (s₁.setTop (mkF m 8 #[.val (.int p1)] [])) t → Steps p.tables e below (s₁.setTop (mkF m 0 #[.val (.int p1)] [])) t := by
      intro t q
      refine k1_ _ ?_
      show Steps p.tables e below (s₁.setTop (mkF m 1 #[.val (.int p1)] [(.int p1)])) _
      refine XS.ifYes X0.here hx rfl (pc0 := 1) (pc' := 8) rfl (hb hby d_method_2_1) rfl ((if0 _ _).trans (feq hp0).2) (by decide) (by decide) ?_
      show Steps p.tables e below (s₁.setTop (mkF m 8 #[.val (.int p1)] [])) _
      exact q
    have k6_ : ∀ t, Steps p.tables e below (s₁.setTop (mkF m 10 #[.val (.int p1)] [(.int (1 : Int32)), (.int p1)])) t → Steps p.tables e below (s₁.setTop (mkF m 0 #[.val (.int p1)] [])) t := by
      intro t q
      refine k5_ _ ?_
      show Steps p.tables e below (s₁.setTop (mkF m 8 #[.val (.int p1)] [])) _
      refine XS.iloadN X0.here hx rfl (hb hby d_method_2_8) rfl ?_
      show Steps p.tables e below (s₁.setTop (mkF m 9 #[.val (.int p1)] [(.int p1)])) _
      refine XS.iconst X0.here hx rfl (hb hby d_method_2_9) ?_
      show Steps p.tables e below (s₁.setTop (mkF m 10 #[.val (.int p1)] [(.int (1 : Int32)), (.int p1)])) _
      exact q
    by_cases hp1 : p1 = (1 : Int32)
    · have k7_ : ∀ t, Steps p.tables e below (s₁.setTop (mkF m 13 #[.val (.int p1)] [])) t → Steps p.tables e below (s₁.setTop (mkF m 0 #[.val (.int p1)] [])) t := by
        intro t q
        refine k6_ _ ?_
        show Steps p.tables e below (s₁.setTop (mkF m 10 #[.val (.int p1)] [(.int (1 : Int32)), (.int p1)])) _
        refine XS.icmpNo X0.here hx rfl (hb hby d_method_2_10) rfl (teq hp1).2 ?_
        show Steps p.tables e below (s₁.setTop (mkF m 13 #[.val (.int p1)] [])) _
        exact q
      obtain ⟨T8, X8, e8, st8⟩ := getS2 X0 hx hZ hown (host := "") (Or.inl (hw _ (List.mem_of_getElem? (i := 24) rfl))) Via.refl e0 S1 (g := (mkF m 13 #[.val (.int p1)] [])) rfl (hb hby d_method_2_13)
      have k9_ : ∀ t, Steps p.tables e below (T8.setTop (mkF m 16 #[.val (.int p1)] [(.ref en1)])) t → Steps p.tables e below (s₁.setTop (mkF m 0 #[.val (.int p1)] [])) t := fun t q => k7_ t (st8 t q)
      obtain ⟨fs, hr, hrun, hended, hW, hsame⟩ := X8.leave (v := some (.ref en1)) (fun h => by rw [Bd.returns] at h; cases h)
      refine ⟨_, _, pre0 _ (k9_ _ ?_), hrun, hended, _, _, rfl, ?_, ⟨_, rfl⟩, hW, hsame.mono (by decide) (by decide)⟩
      · show Steps p.tables e below (T8.setTop (mkF m 16 #[.val (.int p1)] [(.ref en1)])) _
        jvm_step X8.here [X8.here.top, hx, (hb hby d_method_2_16), X8.method', Bd.returns, Value.isRef, FieldType.isReference]
        first | (intro acts; rw [hr _ acts rfl rfl rfl]) | rw [hr _ _ rfl rfl rfl]
        exact Steps.refl _
      · show QP Z p1 en0 en1 en2 en3 en4 en5 en6 en7 h0 n0 _ T8.heap _
        rw [e8]
        exact ⟨by unfold own_pick; rw [if_neg hp0, if_pos hp1], N0, rfl⟩
    · have k10_ : ∀ t, Steps p.tables e below (s₁.setTop (mkF m 17 #[.val (.int p1)] [])) t → Steps p.tables e below (s₁.setTop (mkF m 0 #[.val (.int p1)] [])) t := by
        intro t q
        refine k6_ _ ?_
        show Steps p.tables e below (s₁.setTop (mkF m 10 #[.val (.int p1)] [(.int (1 : Int32)), (.int p1)])) _
        refine XS.icmpYes X0.here hx rfl (pc0 := 10) (pc' := 17) rfl (hb hby d_method_2_10) rfl (feq hp1).2 (by decide) (by decide) ?_
        show Steps p.tables e below (s₁.setTop (mkF m 17 #[.val (.int p1)] [])) _
        exact q
      have k11_ : ∀ t, Steps p.tables e below (s₁.setTop (mkF m 19 #[.val (.int p1)] [(.int (2 : Int32)), (.int p1)])) t → Steps p.tables e below (s₁.setTop (mkF m 0 #[.val (.int p1)] [])) t := by
        intro t q
        refine k10_ _ ?_
        show Steps p.tables e below (s₁.setTop (mkF m 17 #[.val (.int p1)] [])) _
        refine XS.iloadN X0.here hx rfl (hb hby d_method_2_17) rfl ?_
        show Steps p.tables e below (s₁.setTop (mkF m 18 #[.val (.int p1)] [(.int p1)])) _
        refine XS.iconst X0.here hx rfl (hb hby d_method_2_18) ?_
        show Steps p.tables e below (s₁.setTop (mkF m 19 #[.val (.int p1)] [(.int (2 : Int32)), (.int p1)])) _
        exact q
      by_cases hp2 : p1 = (2 : Int32)
      · have k12_ : ∀ t, Steps p.tables e below (s₁.setTop (mkF m 22 #[.val (.int p1)] [])) t → Steps p.tables e below (s₁.setTop (mkF m 0 #[.val (.int p1)] [])) t := by
          intro t q
          refine k11_ _ ?_
          show Steps p.tables e below (s₁.setTop (mkF m 19 #[.val (.int p1)] [(.int (2 : Int32)), (.int p1)])) _
          refine XS.icmpNo X0.here hx rfl (hb hby d_method_2_19) rfl (teq hp2).2 ?_
          show Steps p.tables e below (s₁.setTop (mkF m 22 #[.val (.int p1)] [])) _
          exact q
        obtain ⟨T13, X13, e13, st13⟩ := getS2 X0 hx hZ hown (host := "") (Or.inl (hw _ (List.mem_of_getElem? (i := 22) rfl))) Via.refl e0 S2 (g := (mkF m 22 #[.val (.int p1)] [])) rfl (hb hby d_method_2_22)
        have k14_ : ∀ t, Steps p.tables e below (T13.setTop (mkF m 25 #[.val (.int p1)] [(.ref en2)])) t → Steps p.tables e below (s₁.setTop (mkF m 0 #[.val (.int p1)] [])) t := fun t q => k12_ t (st13 t q)
        obtain ⟨fs, hr, hrun, hended, hW, hsame⟩ := X13.leave (v := some (.ref en2)) (fun h => by rw [Bd.returns] at h; cases h)
        refine ⟨_, _, pre0 _ (k14_ _ ?_), hrun, hended, _, _, rfl, ?_, ⟨_, rfl⟩, hW, hsame.mono (by decide) (by decide)⟩
        · show Steps p.tables e below (T13.setTop (mkF m 25 #[.val (.int p1)] [(.ref en2)])) _
          jvm_step X13.here [X13.here.top, hx, (hb hby d_method_2_25), X13.method', Bd.returns, Value.isRef, FieldType.isReference]
          first | (intro acts; rw [hr _ acts rfl rfl rfl]) | rw [hr _ _ rfl rfl rfl]
          exact Steps.refl _
        · show QP Z p1 en0 en1 en2 en3 en4 en5 en6 en7 h0 n0 _ T13.heap _
          rw [e13]
          exact ⟨by unfold own_pick; rw [if_neg hp0, if_neg hp1, if_pos hp2], N0, rfl⟩
      · have k15_ : ∀ t, Steps p.tables e below (s₁.setTop (mkF m 26 #[.val (.int p1)] [])) t → Steps p.tables e below (s₁.setTop (mkF m 0 #[.val (.int p1)] [])) t := by
          intro t q
          refine k11_ _ ?_
          show Steps p.tables e below (s₁.setTop (mkF m 19 #[.val (.int p1)] [(.int (2 : Int32)), (.int p1)])) _
          refine XS.icmpYes X0.here hx rfl (pc0 := 19) (pc' := 26) rfl (hb hby d_method_2_19) rfl (feq hp2).2 (by decide) (by decide) ?_
          show Steps p.tables e below (s₁.setTop (mkF m 26 #[.val (.int p1)] [])) _
          exact q
        have k16_ : ∀ t, Steps p.tables e below (s₁.setTop (mkF m 28 #[.val (.int p1)] [(.int (3 : Int32)), (.int p1)])) t → Steps p.tables e below (s₁.setTop (mkF m 0 #[.val (.int p1)] [])) t := by
          intro t q
          refine k15_ _ ?_
          show Steps p.tables e below (s₁.setTop (mkF m 26 #[.val (.int p1)] [])) _
          refine XS.iloadN X0.here hx rfl (hb hby d_method_2_26) rfl ?_
          show Steps p.tables e below (s₁.setTop (mkF m 27 #[.val (.int p1)] [(.int p1)])) _
          refine XS.iconst X0.here hx rfl (hb hby d_method_2_27) ?_
          show Steps p.tables e below (s₁.setTop (mkF m 28 #[.val (.int p1)] [(.int (3 : Int32)), (.int p1)])) _
          exact q
        by_cases hp3 : p1 = (3 : Int32)
        · have k17_ : ∀ t, Steps p.tables e below (s₁.setTop (mkF m 31 #[.val (.int p1)] [])) t → Steps p.tables e below (s₁.setTop (mkF m 0 #[.val (.int p1)] [])) t := by
            intro t q
            refine k16_ _ ?_
            show Steps p.tables e below (s₁.setTop (mkF m 28 #[.val (.int p1)] [(.int (3 : Int32)), (.int p1)])) _
            refine XS.icmpNo X0.here hx rfl (hb hby d_method_2_28) rfl (teq hp3).2 ?_
            show Steps p.tables e below (s₁.setTop (mkF m 31 #[.val (.int p1)] [])) _
            exact q
          obtain ⟨T18, X18, e18, st18⟩ := getS2 X0 hx hZ hown (host := "") (Or.inl (hw _ (List.mem_of_getElem? (i := 18) rfl))) Via.refl e0 S3 (g := (mkF m 31 #[.val (.int p1)] [])) rfl (hb hby d_method_2_31)
          have k19_ : ∀ t, Steps p.tables e below (T18.setTop (mkF m 34 #[.val (.int p1)] [(.ref en3)])) t → Steps p.tables e below (s₁.setTop (mkF m 0 #[.val (.int p1)] [])) t := fun t q => k17_ t (st18 t q)
          obtain ⟨fs, hr, hrun, hended, hW, hsame⟩ := X18.leave (v := some (.ref en3)) (fun h => by rw [Bd.returns] at h; cases h)
          refine ⟨_, _, pre0 _ (k19_ _ ?_), hrun, hended, _, _, rfl, ?_, ⟨_, rfl⟩, hW, hsame.mono (by decide) (by decide)⟩
          · show Steps p.tables e below (T18.setTop (mkF m 34 #[.val (.int p1)] [(.ref en3)])) _
            jvm_step X18.here [X18.here.top, hx, (hb hby d_method_2_34), X18.method', Bd.returns, Value.isRef, FieldType.isReference]
            first | (intro acts; rw [hr _ acts rfl rfl rfl]) | rw [hr _ _ rfl rfl rfl]
            exact Steps.refl _
          · show QP Z p1 en0 en1 en2 en3 en4 en5 en6 en7 h0 n0 _ T18.heap _
            rw [e18]
            exact ⟨by unfold own_pick; rw [if_neg hp0, if_neg hp1, if_neg hp2, if_pos hp3], N0, rfl⟩
        · have k20_ : ∀ t, Steps p.tables e below (s₁.setTop (mkF m 35 #[.val (.int p1)] [])) t → Steps p.tables e below (s₁.setTop (mkF m 0 #[.val (.int p1)] [])) t := by
            intro t q
            refine k16_ _ ?_
            show Steps p.tables e below (s₁.setTop (mkF m 28 #[.val (.int p1)] [(.int (3 : Int32)), (.int p1)])) _
            refine XS.icmpYes X0.here hx rfl (pc0 := 28) (pc' := 35) rfl (hb hby d_method_2_28) rfl (feq hp3).2 (by decide) (by decide) ?_
            show Steps p.tables e below (s₁.setTop (mkF m 35 #[.val (.int p1)] [])) _
            exact q
          have k21_ : ∀ t, Steps p.tables e below (s₁.setTop (mkF m 37 #[.val (.int p1)] [(.int (4 : Int32)), (.int p1)])) t → Steps p.tables e below (s₁.setTop (mkF m 0 #[.val (.int p1)] [])) t := by
            intro t q
            refine k20_ _ ?_
            show Steps p.tables e below (s₁.setTop (mkF m 35 #[.val (.int p1)] [])) _
            refine XS.iloadN X0.here hx rfl (hb hby d_method_2_35) rfl ?_
            show Steps p.tables e below (s₁.setTop (mkF m 36 #[.val (.int p1)] [(.int p1)])) _
            refine XS.iconst X0.here hx rfl (hb hby d_method_2_36) ?_
            show Steps p.tables e below (s₁.setTop (mkF m 37 #[.val (.int p1)] [(.int (4 : Int32)), (.int p1)])) _
            exact q
          by_cases hp4 : p1 = (4 : Int32)
          · have k22_ : ∀ t, Steps p.tables e below (s₁.setTop (mkF m 40 #[.val (.int p1)] [])) t → Steps p.tables e below (s₁.setTop (mkF m 0 #[.val (.int p1)] [])) t := by
              intro t q
              refine k21_ _ ?_
              show Steps p.tables e below (s₁.setTop (mkF m 37 #[.val (.int p1)] [(.int (4 : Int32)), (.int p1)])) _
              refine XS.icmpNo X0.here hx rfl (hb hby d_method_2_37) rfl (teq hp4).2 ?_
              show Steps p.tables e below (s₁.setTop (mkF m 40 #[.val (.int p1)] [])) _
              exact q
            obtain ⟨T23, X23, e23, st23⟩ := getS2 X0 hx hZ hown (host := "") (Or.inl (hw _ (List.mem_of_getElem? (i := 26) rfl))) Via.refl e0 S4 (g := (mkF m 40 #[.val (.int p1)] [])) rfl (hb hby d_method_2_40)
            have k24_ : ∀ t, Steps p.tables e below (T23.setTop (mkF m 43 #[.val (.int p1)] [(.ref en4)])) t → Steps p.tables e below (s₁.setTop (mkF m 0 #[.val (.int p1)] [])) t := fun t q => k22_ t (st23 t q)
            obtain ⟨fs, hr, hrun, hended, hW, hsame⟩ := X23.leave (v := some (.ref en4)) (fun h => by rw [Bd.returns] at h; cases h)
            refine ⟨_, _, pre0 _ (k24_ _ ?_), hrun, hended, _, _, rfl, ?_, ⟨_, rfl⟩, hW, hsame.mono (by decide) (by decide)⟩
            · show Steps p.tables e below (T23.setTop (mkF m 43 #[.val (.int p1)] [(.ref en4)])) _
              jvm_step X23.here [X23.here.top, hx, (hb hby d_method_2_43), X23.method', Bd.returns, Value.isRef, FieldType.isReference]
              first | (intro acts; rw [hr _ acts rfl rfl rfl]) | rw [hr _ _ rfl rfl rfl]
              exact Steps.refl _
            · show QP Z p1 en0 en1 en2 en3 en4 en5 en6 en7 h0 n0 _ T23.heap _
              rw [e23]
              exact ⟨by unfold own_pick; rw [if_neg hp0, if_neg hp1, if_neg hp2, if_neg hp3, if_pos hp4], N0, rfl⟩
          · have k25_ : ∀ t, Steps p.tables e below (s₁.setTop (mkF m 44 #[.val (.int p1)] [])) t → Steps p.tables e below (s₁.setTop (mkF m 0 #[.val (.int p1)] [])) t := by
              intro t q
              refine k21_ _ ?_
              show Steps p.tables e below (s₁.setTop (mkF m 37 #[.val (.int p1)] [(.int (4 : Int32)), (.int p1)])) _
              refine XS.icmpYes X0.here hx rfl (pc0 := 37) (pc' := 44) rfl (hb hby d_method_2_37) rfl (feq hp4).2 (by decide) (by decide) ?_
              show Steps p.tables e below (s₁.setTop (mkF m 44 #[.val (.int p1)] [])) _
              exact q
            have k26_ : ∀ t, Steps p.tables e below (s₁.setTop (mkF m 46 #[.val (.int p1)] [(.int (5 : Int32)), (.int p1)])) t → Steps p.tables e below (s₁.setTop (mkF m 0 #[.val (.int p1)] [])) t := by
              intro t q
              refine k25_ _ ?_
              show Steps p.tables e below (s₁.setTop (mkF m 44 #[.val (.int p1)] [])) _
              refine XS.iloadN X0.here hx rfl (hb hby d_method_2_44) rfl ?_
              show Steps p.tables e below (s₁.setTop (mkF m 45 #[.val (.int p1)] [(.int p1)])) _
              refine XS.iconst X0.here hx rfl (hb hby d_method_2_45) ?_
              show Steps p.tables e below (s₁.setTop (mkF m 46 #[.val (.int p1)] [(.int (5 : Int32)), (.int p1)])) _
              exact q
            by_cases hp5 : p1 = (5 : Int32)
            · have k27_ : ∀ t, Steps p.tables e below (s₁.setTop (mkF m 49 #[.val (.int p1)] [])) t → Steps p.tables e below (s₁.setTop (mkF m 0 #[.val (.int p1)] [])) t := by
                intro t q
                refine k26_ _ ?_
                show Steps p.tables e below (s₁.setTop (mkF m 46 #[.val (.int p1)] [(.int (5 : Int32)), (.int p1)])) _
                refine XS.icmpNo X0.here hx rfl (hb hby d_method_2_46) rfl (teq hp5).2 ?_
                show Steps p.tables e below (s₁.setTop (mkF m 49 #[.val (.int p1)] [])) _
                exact q
              obtain ⟨T28, X28, e28, st28⟩ := getS2 X0 hx hZ hown (host := "") (Or.inl (hw _ (List.mem_of_getElem? (i := 28) rfl))) Via.refl e0 S5 (g := (mkF m 49 #[.val (.int p1)] [])) rfl (hb hby d_method_2_49)
              have k29_ : ∀ t, Steps p.tables e below (T28.setTop (mkF m 52 #[.val (.int p1)] [(.ref en5)])) t → Steps p.tables e below (s₁.setTop (mkF m 0 #[.val (.int p1)] [])) t := fun t q => k27_ t (st28 t q)
              obtain ⟨fs, hr, hrun, hended, hW, hsame⟩ := X28.leave (v := some (.ref en5)) (fun h => by rw [Bd.returns] at h; cases h)
              refine ⟨_, _, pre0 _ (k29_ _ ?_), hrun, hended, _, _, rfl, ?_, ⟨_, rfl⟩, hW, hsame.mono (by decide) (by decide)⟩
              · show Steps p.tables e below (T28.setTop (mkF m 52 #[.val (.int p1)] [(.ref en5)])) _
                jvm_step X28.here [X28.here.top, hx, (hb hby d_method_2_52), X28.method', Bd.returns, Value.isRef, FieldType.isReference]
                first | (intro acts; rw [hr _ acts rfl rfl rfl]) | rw [hr _ _ rfl rfl rfl]
                exact Steps.refl _
              · show QP Z p1 en0 en1 en2 en3 en4 en5 en6 en7 h0 n0 _ T28.heap _
                rw [e28]
                exact ⟨by unfold own_pick; rw [if_neg hp0, if_neg hp1, if_neg hp2, if_neg hp3, if_neg hp4, if_pos hp5], N0, rfl⟩
            · have k30_ : ∀ t, Steps p.tables e below (s₁.setTop (mkF m 53 #[.val (.int p1)] [])) t → Steps p.tables e below (s₁.setTop (mkF m 0 #[.val (.int p1)] [])) t := by
                intro t q
                refine k26_ _ ?_
                show Steps p.tables e below (s₁.setTop (mkF m 46 #[.val (.int p1)] [(.int (5 : Int32)), (.int p1)])) _
                refine XS.icmpYes X0.here hx rfl (pc0 := 46) (pc' := 53) rfl (hb hby d_method_2_46) rfl (feq hp5).2 (by decide) (by decide) ?_
                show Steps p.tables e below (s₁.setTop (mkF m 53 #[.val (.int p1)] [])) _
                exact q
              have k31_ : ∀ t, Steps p.tables e below (s₁.setTop (mkF m 56 #[.val (.int p1)] [(.int (6 : Int32)), (.int p1)])) t → Steps p.tables e below (s₁.setTop (mkF m 0 #[.val (.int p1)] [])) t := by
                intro t q
                refine k30_ _ ?_
                show Steps p.tables e below (s₁.setTop (mkF m 53 #[.val (.int p1)] [])) _
                refine XS.iloadN X0.here hx rfl (hb hby d_method_2_53) rfl ?_
                show Steps p.tables e below (s₁.setTop (mkF m 54 #[.val (.int p1)] [(.int p1)])) _
                refine XS.bipush X0.here hx rfl (hb hby d_method_2_54) ?_
                show Steps p.tables e below (s₁.setTop (mkF m 56 #[.val (.int p1)] [(.int (6 : Int32)), (.int p1)])) _
                exact q
              by_cases hp6 : p1 = (6 : Int32)
              · have k32_ : ∀ t, Steps p.tables e below (s₁.setTop (mkF m 59 #[.val (.int p1)] [])) t → Steps p.tables e below (s₁.setTop (mkF m 0 #[.val (.int p1)] [])) t := by
                  intro t q
                  refine k31_ _ ?_
                  show Steps p.tables e below (s₁.setTop (mkF m 56 #[.val (.int p1)] [(.int (6 : Int32)), (.int p1)])) _
                  refine XS.icmpNo X0.here hx rfl (hb hby d_method_2_56) rfl (teq hp6).2 ?_
                  show Steps p.tables e below (s₁.setTop (mkF m 59 #[.val (.int p1)] [])) _
                  exact q
                obtain ⟨T33, X33, e33, st33⟩ := getS2 X0 hx hZ hown (host := "") (Or.inl (hw _ (List.mem_of_getElem? (i := 20) rfl))) Via.refl e0 S6 (g := (mkF m 59 #[.val (.int p1)] [])) rfl (hb hby d_method_2_59)
                have k34_ : ∀ t, Steps p.tables e below (T33.setTop (mkF m 62 #[.val (.int p1)] [(.ref en6)])) t → Steps p.tables e below (s₁.setTop (mkF m 0 #[.val (.int p1)] [])) t := fun t q => k32_ t (st33 t q)
                obtain ⟨fs, hr, hrun, hended, hW, hsame⟩ := X33.leave (v := some (.ref en6)) (fun h => by rw [Bd.returns] at h; cases h)
                refine ⟨_, _, pre0 _ (k34_ _ ?_), hrun, hended, _, _, rfl, ?_, ⟨_, rfl⟩, hW, hsame.mono (by decide) (by decide)⟩
                · show Steps p.tables e below (T33.setTop (mkF m 62 #[.val (.int p1)] [(.ref en6)])) _
                  jvm_step X33.here [X33.here.top, hx, (hb hby d_method_2_62), X33.method', Bd.returns, Value.isRef, FieldType.isReference]
                  first | (intro acts; rw [hr _ acts rfl rfl rfl]) | rw [hr _ _ rfl rfl rfl]
                  exact Steps.refl _
                · show QP Z p1 en0 en1 en2 en3 en4 en5 en6 en7 h0 n0 _ T33.heap _
                  rw [e33]
                  exact ⟨by unfold own_pick; rw [if_neg hp0, if_neg hp1, if_neg hp2, if_neg hp3, if_neg hp4, if_neg hp5, if_pos hp6], N0, rfl⟩
              · have k35_ : ∀ t, Steps p.tables e below (s₁.setTop (mkF m 63 #[.val (.int p1)] [])) t → Steps p.tables e below (s₁.setTop (mkF m 0 #[.val (.int p1)] [])) t := by
                  intro t q
                  refine k31_ _ ?_
                  show Steps p.tables e below (s₁.setTop (mkF m 56 #[.val (.int p1)] [(.int (6 : Int32)), (.int p1)])) _
                  refine XS.icmpYes X0.here hx rfl (pc0 := 56) (pc' := 63) rfl (hb hby d_method_2_56) rfl (feq hp6).2 (by decide) (by decide) ?_
                  show Steps p.tables e below (s₁.setTop (mkF m 63 #[.val (.int p1)] [])) _
                  exact q
                obtain ⟨T36, X36, e36, st36⟩ := getS2 X0 hx hZ hown (host := "") (Or.inl (hw _ (List.mem_of_getElem? (i := 21) rfl))) Via.refl e0 S7 (g := (mkF m 63 #[.val (.int p1)] [])) rfl (hb hby d_method_2_63)
                have k37_ : ∀ t, Steps p.tables e below (T36.setTop (mkF m 66 #[.val (.int p1)] [(.ref en7)])) t → Steps p.tables e below (s₁.setTop (mkF m 0 #[.val (.int p1)] [])) t := fun t q => k35_ t (st36 t q)
                obtain ⟨fs, hr, hrun, hended, hW, hsame⟩ := X36.leave (v := some (.ref en7)) (fun h => by rw [Bd.returns] at h; cases h)
                refine ⟨_, _, pre0 _ (k37_ _ ?_), hrun, hended, _, _, rfl, ?_, ⟨_, rfl⟩, hW, hsame.mono (by decide) (by decide)⟩
                · show Steps p.tables e below (T36.setTop (mkF m 66 #[.val (.int p1)] [(.ref en7)])) _
                  jvm_step X36.here [X36.here.top, hx, (hb hby d_method_2_66), X36.method', Bd.returns, Value.isRef, FieldType.isReference]
                  first | (intro acts; rw [hr _ acts rfl rfl rfl]) | rw [hr _ _ rfl rfl rfl]
                  exact Steps.refl _
                · show QP Z p1 en0 en1 en2 en3 en4 en5 en6 en7 h0 n0 _ T36.heap _
                  rw [e36]
                  exact ⟨by unfold own_pick; rw [if_neg hp0, if_neg hp1, if_neg hp2, if_neg hp3, if_neg hp4, if_neg hp5, if_neg hp6], N0, rfl⟩
def QN (Z : State) (a : Addr) (en5 : Addr) (en6 : Addr) (en7 : Addr) (h0 : Heap) (n0 : Nat) (v : Option Value) (h : Heap) (L : List Loc) : Prop := v = some (.int (own_ends a en5 en6 en7)) ∧ Fr n0 L ∧ h = h0
theorem ef_N (m : MethodId) (x0 : Addr) : entryFrame m #[(.ref x0)] 1 = mkF m 0 #[.val (.ref x0)] [] := by first | (simp [entryFrame, mkF, argsToLocals, Value.category]; done) | rfl
theorem pn_GameStatus : plainName "com/example/kingsbetween/kingsbetween/game/GameStatus" = true := by first | (simp [plainName, overriddenIn]; done) | decide +kernel
theorem d_prog_21_method_5_0 : decode prog_21_method_5_code 0 = .ok (.aload_n 0, 1) := by decide +kernel
theorem d_prog_21_method_5_1 : decode prog_21_method_5_code 1 = .ok (.getstatic 19, 3) := by decide +kernel
theorem d_prog_21_method_5_4 : decode prog_21_method_5_code 4 = .ok (.if_acmp .eq 21, 3) := by decide +kernel
theorem d_prog_21_method_5_25 : decode prog_21_method_5_code 25 = .ok (.iconst 0, 1) := by decide +kernel
theorem d_prog_21_method_5_26 : decode prog_21_method_5_code 26 = .ok (.ireturn, 1) := by decide +kernel
theorem d_prog_21_method_5_7 : decode prog_21_method_5_code 7 = .ok (.aload_n 0, 1) := by decide +kernel
theorem d_prog_21_method_5_8 : decode prog_21_method_5_code 8 = .ok (.getstatic 22, 3) := by decide +kernel
theorem d_prog_21_method_5_11 : decode prog_21_method_5_code 11 = .ok (.if_acmp .eq 14, 3) := by decide +kernel
theorem d_prog_21_method_5_14 : decode prog_21_method_5_code 14 = .ok (.aload_n 0, 1) := by decide +kernel
theorem d_prog_21_method_5_15 : decode prog_21_method_5_code 15 = .ok (.getstatic 25, 3) := by decide +kernel
theorem d_prog_21_method_5_18 : decode prog_21_method_5_code 18 = .ok (.if_acmp .eq 7, 3) := by decide +kernel
theorem d_prog_21_method_5_21 : decode prog_21_method_5_code 21 = .ok (.iconst 1, 1) := by decide +kernel
theorem d_prog_21_method_5_22 : decode prog_21_method_5_code 22 = .ok (.goto 4, 3) := by decide +kernel
set_option maxRecDepth 65536 in
set_option maxHeartbeats 40000000 in
theorem rmN (l : Launch) (Z : State) (a0 : Array Value) (hw : ∀ d ∈ tables_1, d.before a0 Z = true) (ws : List Jvm.Cond) (a : Addr) (en5 : Addr) (en6 : Addr) (en7 : Addr) (h0 : Heap) (n0 : Nat) (Z0 : n0 ≤ h0.size) (S5 : Sta Z h0 "com/example/kingsbetween/kingsbetween/game/GameStatus" "THREEFOLD_CLAIMABLE" "Lcom/example/kingsbetween/kingsbetween/game/GameStatus;" (.ref en5)) (S6 : Sta Z h0 "com/example/kingsbetween/kingsbetween/game/GameStatus" "FIFTY_MOVES_CLAIMABLE" "Lcom/example/kingsbetween/kingsbetween/game/GameStatus;" (.ref en6)) (S7 : Sta Z h0 "com/example/kingsbetween/kingsbetween/game/GameStatus" "ONGOING" "Lcom/example/kingsbetween/kingsbetween/game/GameStatus;" (.ref en7)) :
    MetFree l (⟨"com/example/kingsbetween/kingsbetween/game/GameStatus", "endsGame", "()Z"⟩ : MethodName) (head1 (Jvm.Cond.code (⟨"com/example/kingsbetween/kingsbetween/game/GameStatus", "endsGame", "()Z"⟩ : MethodName) prog_21_method_5_code 1 (some .boolean) :: ws) ({ frames := 0, cells := 0, slots := 0, locals := 0 } : Room)) (fun a' U => a' = #[(.ref a)] ∧ Z.Warmed39 U.vm ∧ U.heap = h0) (fun _ _ _ _ _ => True) (fun _ U o U' => ∃ v L, o = .returned v ∧ QN Z a en5 en6 en7 h0 n0 v U'.heap L ∧ FrameEnd U o U' L ({ frames := 0, cells := 0, slots := 0, locals := 0 } : Room).cells ({ frames := 0, cells := 0, slots := 0, locals := 0 } : Room).slots) := by
  refine MetFree.of_bodySF (plainFor_of_name pn_GameStatus) hisR ?_
  intro p e s m args below meth c s₁ Bd hml0 hP hK
  obtain ⟨rfl, hZ, hh⟩ := hP
  have hx := Bd.exec
  have hby := Bd.bytes
  have hml : c.maxLocals = 1 := hml0
  have hown : s.vm.findClass "com/example/kingsbetween/kingsbetween/game/GameStatus" = some m.cls := findClass_of_methodNamed Bd.named
  have hnm := (name_of_methodNamed Bd.named Bd.method).1
  have X0 : Stand p l e ({ frames := 0, cells := 0, slots := 0, locals := 0 } : Room) s m #[(.ref a)] below meth c s₁ [] 0 0 := Stand.of_body Bd
  have e0 : s₁.heap = h0 := by rw [← hh, Bd.state]; rfl
  have N0 := Fr.nil n0
  have Zn := Z0
  have pre0 : ∀ t, Steps p.tables e below (s₁.setTop (mkF m 0 #[.val (.ref a)] [])) t → Steps p.tables e below (s₁.setTop (entryFrame m #[(.ref a)] 1)) t := fun t q => castTop (ef_N m a) q
  have k0 : ∀ t, Steps p.tables e below (s₁.setTop (mkF m 0 #[.val (.ref a)] [])) t → Steps p.tables e below (s₁.setTop (mkF m 0 #[.val (.ref a)] [])) t := fun t q => q
  have k1_ : ∀ t, Steps p.tables e below (s₁.setTop (mkF m 1 #[.val (.ref a)] [(.ref a)])) t → Steps p.tables e below (s₁.setTop (mkF m 0 #[.val (.ref a)] [])) t := by
    intro t q
    refine k0 _ ?_
    show Steps p.tables e below (s₁.setTop (mkF m 0 #[.val (.ref a)] [])) _
    refine XS.aloadN X0.here hx rfl (hb hby d_prog_21_method_5_0) rfl rfl ?_
    show Steps p.tables e below (s₁.setTop (mkF m 1 #[.val (.ref a)] [(.ref a)])) _
    exact q
  obtain ⟨T2, X2, e2, st2⟩ := getS2 X0 hx hZ hown (host := "") (Or.inl (hw _ (List.mem_of_getElem? (i := 12) rfl))) Via.refl e0 S5 (g := (mkF m 1 #[.val (.ref a)] [(.ref a)])) rfl (hb hby d_prog_21_method_5_1)
  have k3_ : ∀ t, Steps p.tables e below (T2.setTop (mkF m 4 #[.val (.ref a)] [(.ref en5), (.ref a)])) t → Steps p.tables e below (s₁.setTop (mkF m 0 #[.val (.ref a)] [])) t := fun t q => k1_ t (st2 t q)
  by_cases hp5 : a = en5
  · have k4_ : ∀ t, Steps p.tables e below (T2.setTop (mkF m 25 #[.val (.ref a)] [])) t → Steps p.tables e below (s₁.setTop (mkF m 0 #[.val (.ref a)] [])) t := by
      intro t q
      refine k3_ _ ?_
      show Steps p.tables e below (T2.setTop (mkF m 4 #[.val (.ref a)] [(.ref en5), (.ref a)])) _
      refine Jvm.RoadKit.acmp (g := (mkF m 4 #[.val (.ref a)] [(.ref en5), (.ref a)])) X2 hx rfl rfl rfl (pc0 := 4) (pc' := 25) (same := true) rfl (hb hby d_prog_21_method_5_4) rfl (decide_eq_true (congrArg Value.ref hp5)) (by decide) (by decide) ?_
      show Steps p.tables e below (T2.setTop (mkF m 25 #[.val (.ref a)] [])) _
      exact q
    have k5_ : ∀ t, Steps p.tables e below (T2.setTop (mkF m 26 #[.val (.ref a)] [(.int (0 : Int32))])) t → Steps p.tables e below (s₁.setTop (mkF m 0 #[.val (.ref a)] [])) t := by
      intro t q
      refine k4_ _ ?_
      show Steps p.tables e below (T2.setTop (mkF m 25 #[.val (.ref a)] [])) _
      refine XS.iconst X2.here hx rfl (hb hby d_prog_21_method_5_25) ?_
      show Steps p.tables e below (T2.setTop (mkF m 26 #[.val (.ref a)] [(.int (0 : Int32))])) _
      exact q
    obtain ⟨fs, hr, hrun, hended, hW, hsame⟩ := X2.leave (v := some (.int (0 : Int32))) (fun h => by rw [Bd.returns] at h; cases h)
    refine ⟨_, _, pre0 _ (k5_ _ ?_), hrun, hended, _, _, rfl, ?_, ⟨_, rfl⟩, hW, hsame.mono (by decide) (by decide)⟩
    · show Steps p.tables e below (T2.setTop (mkF m 26 #[.val (.ref a)] [(.int (0 : Int32))])) _
      exact retN X2 hx (t := .boolean) Bd.returns (by simp) (hb hby d_prog_21_method_5_26) hr
    · show QN Z a en5 en6 en7 h0 n0 _ T2.heap _
      rw [e2]
      exact ⟨by unfold own_ends; rw [if_pos hp5], N0, rfl⟩
  · have k6_ : ∀ t, Steps p.tables e below (T2.setTop (mkF m 7 #[.val (.ref a)] [])) t → Steps p.tables e below (s₁.setTop (mkF m 0 #[.val (.ref a)] [])) t := by
      intro t q
      refine k3_ _ ?_
      show Steps p.tables e below (T2.setTop (mkF m 4 #[.val (.ref a)] [(.ref en5), (.ref a)])) _
      refine Jvm.RoadKit.acmp (g := (mkF m 4 #[.val (.ref a)] [(.ref en5), (.ref a)])) X2 hx rfl rfl rfl (pc0 := 4) (pc' := 7) (same := false) rfl (hb hby d_prog_21_method_5_4) rfl (decide_eq_false fun q => hp5 (Value.ref.inj q)) (by decide) (by decide) ?_
      show Steps p.tables e below (T2.setTop (mkF m 7 #[.val (.ref a)] [])) _
      exact q
    have k7_ : ∀ t, Steps p.tables e below (T2.setTop (mkF m 8 #[.val (.ref a)] [(.ref a)])) t → Steps p.tables e below (s₁.setTop (mkF m 0 #[.val (.ref a)] [])) t := by
      intro t q
      refine k6_ _ ?_
      show Steps p.tables e below (T2.setTop (mkF m 7 #[.val (.ref a)] [])) _
      refine XS.aloadN X2.here hx rfl (hb hby d_prog_21_method_5_7) rfl rfl ?_
      show Steps p.tables e below (T2.setTop (mkF m 8 #[.val (.ref a)] [(.ref a)])) _
      exact q
    obtain ⟨T8, X8, e8, st8⟩ := getS2 X2 hx hZ hown (host := "") (Or.inl (hw _ (List.mem_of_getElem? (i := 14) rfl))) Via.refl e2 S6 (g := (mkF m 8 #[.val (.ref a)] [(.ref a)])) rfl (hb hby d_prog_21_method_5_8)
    have k9_ : ∀ t, Steps p.tables e below (T8.setTop (mkF m 11 #[.val (.ref a)] [(.ref en6), (.ref a)])) t → Steps p.tables e below (s₁.setTop (mkF m 0 #[.val (.ref a)] [])) t := fun t q => k7_ t (st8 t q)
    by_cases hp6 : a = en6
    · have k10_ : ∀ t, Steps p.tables e below (T8.setTop (mkF m 25 #[.val (.ref a)] [])) t → Steps p.tables e below (s₁.setTop (mkF m 0 #[.val (.ref a)] [])) t := by
        intro t q
        refine k9_ _ ?_
        show Steps p.tables e below (T8.setTop (mkF m 11 #[.val (.ref a)] [(.ref en6), (.ref a)])) _
        refine Jvm.RoadKit.acmp (g := (mkF m 11 #[.val (.ref a)] [(.ref en6), (.ref a)])) X8 hx rfl rfl rfl (pc0 := 11) (pc' := 25) (same := true) rfl (hb hby d_prog_21_method_5_11) rfl (decide_eq_true (congrArg Value.ref hp6)) (by decide) (by decide) ?_
        show Steps p.tables e below (T8.setTop (mkF m 25 #[.val (.ref a)] [])) _
        exact q
      have k11_ : ∀ t, Steps p.tables e below (T8.setTop (mkF m 26 #[.val (.ref a)] [(.int (0 : Int32))])) t → Steps p.tables e below (s₁.setTop (mkF m 0 #[.val (.ref a)] [])) t := by
        intro t q
        refine k10_ _ ?_
        show Steps p.tables e below (T8.setTop (mkF m 25 #[.val (.ref a)] [])) _
        refine XS.iconst X8.here hx rfl (hb hby d_prog_21_method_5_25) ?_
        show Steps p.tables e below (T8.setTop (mkF m 26 #[.val (.ref a)] [(.int (0 : Int32))])) _
        exact q
      obtain ⟨fs, hr, hrun, hended, hW, hsame⟩ := X8.leave (v := some (.int (0 : Int32))) (fun h => by rw [Bd.returns] at h; cases h)
      refine ⟨_, _, pre0 _ (k11_ _ ?_), hrun, hended, _, _, rfl, ?_, ⟨_, rfl⟩, hW, hsame.mono (by decide) (by decide)⟩
      · show Steps p.tables e below (T8.setTop (mkF m 26 #[.val (.ref a)] [(.int (0 : Int32))])) _
        exact retN X8 hx (t := .boolean) Bd.returns (by simp) (hb hby d_prog_21_method_5_26) hr
      · show QN Z a en5 en6 en7 h0 n0 _ T8.heap _
        rw [e8]
        exact ⟨by unfold own_ends; rw [if_neg hp5, if_pos hp6], N0, rfl⟩
    · have k12_ : ∀ t, Steps p.tables e below (T8.setTop (mkF m 14 #[.val (.ref a)] [])) t → Steps p.tables e below (s₁.setTop (mkF m 0 #[.val (.ref a)] [])) t := by
        intro t q
        refine k9_ _ ?_
        show Steps p.tables e below (T8.setTop (mkF m 11 #[.val (.ref a)] [(.ref en6), (.ref a)])) _
        refine Jvm.RoadKit.acmp (g := (mkF m 11 #[.val (.ref a)] [(.ref en6), (.ref a)])) X8 hx rfl rfl rfl (pc0 := 11) (pc' := 14) (same := false) rfl (hb hby d_prog_21_method_5_11) rfl (decide_eq_false fun q => hp6 (Value.ref.inj q)) (by decide) (by decide) ?_
        show Steps p.tables e below (T8.setTop (mkF m 14 #[.val (.ref a)] [])) _
        exact q
      have k13_ : ∀ t, Steps p.tables e below (T8.setTop (mkF m 15 #[.val (.ref a)] [(.ref a)])) t → Steps p.tables e below (s₁.setTop (mkF m 0 #[.val (.ref a)] [])) t := by
        intro t q
        refine k12_ _ ?_
        show Steps p.tables e below (T8.setTop (mkF m 14 #[.val (.ref a)] [])) _
        refine XS.aloadN X8.here hx rfl (hb hby d_prog_21_method_5_14) rfl rfl ?_
        show Steps p.tables e below (T8.setTop (mkF m 15 #[.val (.ref a)] [(.ref a)])) _
        exact q
      obtain ⟨T14, X14, e14, st14⟩ := getS2 X8 hx hZ hown (host := "") (Or.inl (hw _ (List.mem_of_getElem? (i := 16) rfl))) Via.refl e8 S7 (g := (mkF m 15 #[.val (.ref a)] [(.ref a)])) rfl (hb hby d_prog_21_method_5_15)
      have k15_ : ∀ t, Steps p.tables e below (T14.setTop (mkF m 18 #[.val (.ref a)] [(.ref en7), (.ref a)])) t → Steps p.tables e below (s₁.setTop (mkF m 0 #[.val (.ref a)] [])) t := fun t q => k13_ t (st14 t q)
      by_cases hp7 : a = en7
      · have k16_ : ∀ t, Steps p.tables e below (T14.setTop (mkF m 25 #[.val (.ref a)] [])) t → Steps p.tables e below (s₁.setTop (mkF m 0 #[.val (.ref a)] [])) t := by
          intro t q
          refine k15_ _ ?_
          show Steps p.tables e below (T14.setTop (mkF m 18 #[.val (.ref a)] [(.ref en7), (.ref a)])) _
          refine Jvm.RoadKit.acmp (g := (mkF m 18 #[.val (.ref a)] [(.ref en7), (.ref a)])) X14 hx rfl rfl rfl (pc0 := 18) (pc' := 25) (same := true) rfl (hb hby d_prog_21_method_5_18) rfl (decide_eq_true (congrArg Value.ref hp7)) (by decide) (by decide) ?_
          show Steps p.tables e below (T14.setTop (mkF m 25 #[.val (.ref a)] [])) _
          exact q
        have k17_ : ∀ t, Steps p.tables e below (T14.setTop (mkF m 26 #[.val (.ref a)] [(.int (0 : Int32))])) t → Steps p.tables e below (s₁.setTop (mkF m 0 #[.val (.ref a)] [])) t := by
          intro t q
          refine k16_ _ ?_
          show Steps p.tables e below (T14.setTop (mkF m 25 #[.val (.ref a)] [])) _
          refine XS.iconst X14.here hx rfl (hb hby d_prog_21_method_5_25) ?_
          show Steps p.tables e below (T14.setTop (mkF m 26 #[.val (.ref a)] [(.int (0 : Int32))])) _
          exact q
        obtain ⟨fs, hr, hrun, hended, hW, hsame⟩ := X14.leave (v := some (.int (0 : Int32))) (fun h => by rw [Bd.returns] at h; cases h)
        refine ⟨_, _, pre0 _ (k17_ _ ?_), hrun, hended, _, _, rfl, ?_, ⟨_, rfl⟩, hW, hsame.mono (by decide) (by decide)⟩
        · show Steps p.tables e below (T14.setTop (mkF m 26 #[.val (.ref a)] [(.int (0 : Int32))])) _
          exact retN X14 hx (t := .boolean) Bd.returns (by simp) (hb hby d_prog_21_method_5_26) hr
        · show QN Z a en5 en6 en7 h0 n0 _ T14.heap _
          rw [e14]
          exact ⟨by unfold own_ends; rw [if_neg hp5, if_neg hp6, if_pos hp7], N0, rfl⟩
      · have k18_ : ∀ t, Steps p.tables e below (T14.setTop (mkF m 21 #[.val (.ref a)] [])) t → Steps p.tables e below (s₁.setTop (mkF m 0 #[.val (.ref a)] [])) t := by
          intro t q
          refine k15_ _ ?_
          show Steps p.tables e below (T14.setTop (mkF m 18 #[.val (.ref a)] [(.ref en7), (.ref a)])) _
          refine Jvm.RoadKit.acmp (g := (mkF m 18 #[.val (.ref a)] [(.ref en7), (.ref a)])) X14 hx rfl rfl rfl (pc0 := 18) (pc' := 21) (same := false) rfl (hb hby d_prog_21_method_5_18) rfl (decide_eq_false fun q => hp7 (Value.ref.inj q)) (by decide) (by decide) ?_
          show Steps p.tables e below (T14.setTop (mkF m 21 #[.val (.ref a)] [])) _
          exact q
        have k19_ : ∀ t, Steps p.tables e below (T14.setTop (mkF m 26 #[.val (.ref a)] [(.int (1 : Int32))])) t → Steps p.tables e below (s₁.setTop (mkF m 0 #[.val (.ref a)] [])) t := by
          intro t q
          refine k18_ _ ?_
          show Steps p.tables e below (T14.setTop (mkF m 21 #[.val (.ref a)] [])) _
          refine XS.iconst X14.here hx rfl (hb hby d_prog_21_method_5_21) ?_
          show Steps p.tables e below (T14.setTop (mkF m 22 #[.val (.ref a)] [(.int (1 : Int32))])) _
          refine XS.goto X14.here hx rfl (pc0 := 22) (pc' := 26) rfl (hb hby d_prog_21_method_5_22) (by decide) (by decide) ?_
          show Steps p.tables e below (T14.setTop (mkF m 26 #[.val (.ref a)] [(.int (1 : Int32))])) _
          exact q
        obtain ⟨fs, hr, hrun, hended, hW, hsame⟩ := X14.leave (v := some (.int (1 : Int32))) (fun h => by rw [Bd.returns] at h; cases h)
        refine ⟨_, _, pre0 _ (k19_ _ ?_), hrun, hended, _, _, rfl, ?_, ⟨_, rfl⟩, hW, hsame.mono (by decide) (by decide)⟩
        · show Steps p.tables e below (T14.setTop (mkF m 26 #[.val (.ref a)] [(.int (1 : Int32))])) _
          exact retN X14 hx (t := .boolean) Bd.returns (by simp) (hb hby d_prog_21_method_5_26) hr
        · show QN Z a en5 en6 en7 h0 n0 _ T14.heap _
          rw [e14]
          exact ⟨by unfold own_ends; rw [if_neg hp5, if_neg hp6, if_neg hp7], N0, rfl⟩
theorem own_eq (x : Int32) {en0 en1 en2 en3 en4 en5 en6 en7 : Addr} {od : Addr → Option Value} (ho0 : od en0 = some (.int 0)) (ho1 : od en1 = some (.int 1)) (ho2 : od en2 = some (.int 2)) (ho3 : od en3 = some (.int 3)) (ho4 : od en4 = some (.int 4)) (ho5 : od en5 = some (.int 5)) (ho6 : od en6 = some (.int 6)) (ho7 : od en7 = some (.int 7)) : own_ends (own_pick (x &&& 7) en0 en1 en2 en3 en4 en5 en6 en7) en5 en6 en7 = bi (¬ (4 : Int32) < (x &&& 7)) := by
  rcases own_and7 x with q | q | q | q | q | q | q | q
  · rw [own_i32 q (k := 0) rfl, own_pick_0]; unfold own_ends; rw [if_neg (own_ord_ne ho0 ho5 (by decide)), if_neg (own_ord_ne ho0 ho6 (by decide)), if_neg (own_ord_ne ho0 ho7 (by decide))]; exact (bi_t (by decide)).symm
  · rw [own_i32 q (k := 1) rfl, own_pick_1]; unfold own_ends; rw [if_neg (own_ord_ne ho1 ho5 (by decide)), if_neg (own_ord_ne ho1 ho6 (by decide)), if_neg (own_ord_ne ho1 ho7 (by decide))]; exact (bi_t (by decide)).symm
  · rw [own_i32 q (k := 2) rfl, own_pick_2]; unfold own_ends; rw [if_neg (own_ord_ne ho2 ho5 (by decide)), if_neg (own_ord_ne ho2 ho6 (by decide)), if_neg (own_ord_ne ho2 ho7 (by decide))]; exact (bi_t (by decide)).symm
  · rw [own_i32 q (k := 3) rfl, own_pick_3]; unfold own_ends; rw [if_neg (own_ord_ne ho3 ho5 (by decide)), if_neg (own_ord_ne ho3 ho6 (by decide)), if_neg (own_ord_ne ho3 ho7 (by decide))]; exact (bi_t (by decide)).symm
  · rw [own_i32 q (k := 4) rfl, own_pick_4]; unfold own_ends; rw [if_neg (own_ord_ne ho4 ho5 (by decide)), if_neg (own_ord_ne ho4 ho6 (by decide)), if_neg (own_ord_ne ho4 ho7 (by decide))]; exact (bi_t (by decide)).symm
  · rw [own_i32 q (k := 5) rfl, own_pick_5]; unfold own_ends; rw [if_pos rfl]; exact (bi_f (by decide)).symm
  · rw [own_i32 q (k := 6) rfl, own_pick_6]; unfold own_ends; rw [if_neg (own_ord_ne ho6 ho5 (by decide)), if_pos rfl]; exact (bi_f (by decide)).symm
  · rw [own_i32 q (k := 7) rfl, own_pick_7]; unfold own_ends; rw [if_neg (own_ord_ne ho7 ho5 (by decide)), if_neg (own_ord_ne ho7 ho6 (by decide)), if_pos rfl]; exact (bi_f (by decide)).symm
def Q0 (Z : State) (p1 : Int32) (en0 : Addr) (en1 : Addr) (en2 : Addr) (en3 : Addr) (en4 : Addr) (en5 : Addr) (en6 : Addr) (en7 : Addr) (od : Addr → Option Value) (h0 : Heap) (n0 : Nat) (v : Option Value) (h : Heap) (L : List Loc) : Prop := v = some (.int 1) ∧ Fr n0 L
theorem ef_0 (m : MethodId) (x0 : Int32) : entryFrame m #[(.int x0)] maxLocals = mkF m 0 #[.val (.int x0), .unset, .unset, .unset] [] := by first | (simp [entryFrame, mkF, argsToLocals, Value.category, maxLocals]; done) | rfl
theorem pd_97222 : parseMethodDescriptor "(I)Lcom/example/kingsbetween/kingsbetween/game/GameStatus;" = some ⟨[.int], some (.object "com/example/kingsbetween/kingsbetween/game/GameStatus")⟩ := by decide +kernel
theorem pd_48338 : parseMethodDescriptor "()Z" = some ⟨[], some .boolean⟩ := by decide +kernel
set_option maxRecDepth 65536 in
set_option maxHeartbeats 40000000 in
theorem rm0 (l : Launch) (Z : State) (a0 : Array Value) (hw : ∀ d ∈ tables_1, d.before a0 Z = true) (ws : List Jvm.Cond) (p1 : Int32) (en0 : Addr) (en1 : Addr) (en2 : Addr) (en3 : Addr) (en4 : Addr) (en5 : Addr) (en6 : Addr) (en7 : Addr) (od : Addr → Option Value) (h0 : Heap) (n0 : Nat) (Z0 : n0 ≤ h0.size) (S0 : Sta Z h0 "com/example/kingsbetween/kingsbetween/game/GameStatus" "CHECKMATE" "Lcom/example/kingsbetween/kingsbetween/game/GameStatus;" (.ref en0)) (S1 : Sta Z h0 "com/example/kingsbetween/kingsbetween/game/GameStatus" "STALEMATE" "Lcom/example/kingsbetween/kingsbetween/game/GameStatus;" (.ref en1)) (S2 : Sta Z h0 "com/example/kingsbetween/kingsbetween/game/GameStatus" "INSUFFICIENT_MATERIAL" "Lcom/example/kingsbetween/kingsbetween/game/GameStatus;" (.ref en2)) (S3 : Sta Z h0 "com/example/kingsbetween/kingsbetween/game/GameStatus" "FIVEFOLD_REPETITION" "Lcom/example/kingsbetween/kingsbetween/game/GameStatus;" (.ref en3)) (S4 : Sta Z h0 "com/example/kingsbetween/kingsbetween/game/GameStatus" "SEVENTY_FIVE_MOVES" "Lcom/example/kingsbetween/kingsbetween/game/GameStatus;" (.ref en4)) (S5 : Sta Z h0 "com/example/kingsbetween/kingsbetween/game/GameStatus" "THREEFOLD_CLAIMABLE" "Lcom/example/kingsbetween/kingsbetween/game/GameStatus;" (.ref en5)) (S6 : Sta Z h0 "com/example/kingsbetween/kingsbetween/game/GameStatus" "FIFTY_MOVES_CLAIMABLE" "Lcom/example/kingsbetween/kingsbetween/game/GameStatus;" (.ref en6)) (S7 : Sta Z h0 "com/example/kingsbetween/kingsbetween/game/GameStatus" "ONGOING" "Lcom/example/kingsbetween/kingsbetween/game/GameStatus;" (.ref en7)) (E0 : Exa Z h0 en0 "com/example/kingsbetween/kingsbetween/game/GameStatus") (E1 : Exa Z h0 en1 "com/example/kingsbetween/kingsbetween/game/GameStatus") (E2 : Exa Z h0 en2 "com/example/kingsbetween/kingsbetween/game/GameStatus") (E3 : Exa Z h0 en3 "com/example/kingsbetween/kingsbetween/game/GameStatus") (E4 : Exa Z h0 en4 "com/example/kingsbetween/kingsbetween/game/GameStatus") (E5 : Exa Z h0 en5 "com/example/kingsbetween/kingsbetween/game/GameStatus") (E6 : Exa Z h0 en6 "com/example/kingsbetween/kingsbetween/game/GameStatus") (E7 : Exa Z h0 en7 "com/example/kingsbetween/kingsbetween/game/GameStatus") (ho0 : od en0 = some (.int 0)) (ho1 : od en1 = some (.int 1)) (ho2 : od en2 = some (.int 2)) (ho3 : od en3 = some (.int 3)) (ho4 : od en4 = some (.int 4)) (ho5 : od en5 = some (.int 5)) (ho6 : od en6 = some (.int 6)) (ho7 : od en7 = some (.int 7)) :
    MetFree l x (head1 (Jvm.Cond.code x code maxLocals ret :: ws) room_1) (fun a' U => a' = #[(.int p1)] ∧ Z.Warmed39 U.vm ∧ U.heap = h0) (fun _ _ _ _ _ => True) (fun _ U o U' => ∃ v L, o = .returned v ∧ Q0 Z p1 en0 en1 en2 en3 en4 en5 en6 en7 od h0 n0 v U'.heap L ∧ FrameEnd U o U' L room_1.cells room_1.slots) := by
  refine MetFree.of_bodySF (plainFor_of_name pn_GameStatusEndsGamePinLaw) hisR ?_
  intro p e s m args below meth c s₁ Bd hml0 hP hK
  obtain ⟨rfl, hZ, hh⟩ := hP
  have hx := Bd.exec
  have hby := Bd.bytes
  have hml : c.maxLocals = 4 := hml0
  have hown : s.vm.findClass "com/example/kingsbetween/kingsbetween/game/GameStatusEndsGamePinLaw" = some m.cls := findClass_of_methodNamed Bd.named
  have hnm := (name_of_methodNamed Bd.named Bd.method).1
  have X0 : Stand p l e room_1 s m #[(.int p1)] below meth c s₁ [] 0 0 := Stand.of_body Bd
  have e0 : s₁.heap = h0 := by rw [← hh, Bd.state]; rfl
  have N0 := Fr.nil n0
  have Zn := Z0
  have pre0 : ∀ t, Steps p.tables e below (s₁.setTop (mkF m 0 #[.val (.int p1), .unset, .unset, .unset] [])) t → Steps p.tables e below (s₁.setTop (entryFrame m #[(.int p1)] maxLocals)) t := fun t q => castTop (ef_0 m p1) q
  have k0 : ∀ t, Steps p.tables e below (s₁.setTop (mkF m 0 #[.val (.int p1), .unset, .unset, .unset] [])) t → Steps p.tables e below (s₁.setTop (mkF m 0 #[.val (.int p1), .unset, .unset, .unset] [])) t := fun t q => q
  have k1_ : ∀ t, Steps p.tables e below (s₁.setTop (mkF m 6 #[.val (.int p1), .val (.int (p1 &&& (7 : Int32))), .unset, .unset] [(.int (p1 &&& (7 : Int32)))])) t → Steps p.tables e below (s₁.setTop (mkF m 0 #[.val (.int p1), .unset, .unset, .unset] [])) t := by
    intro t q
    refine k0 _ ?_
    show Steps p.tables e below (s₁.setTop (mkF m 0 #[.val (.int p1), .unset, .unset, .unset] [])) _
    refine XS.iloadN X0.here hx rfl (hb hby at_0) rfl ?_
    show Steps p.tables e below (s₁.setTop (mkF m 1 #[.val (.int p1), .unset, .unset, .unset] [(.int p1)])) _
    refine XS.bipush X0.here hx rfl (hb hby at_1) ?_
    show Steps p.tables e below (s₁.setTop (mkF m 3 #[.val (.int p1), .unset, .unset, .unset] [(.int (7 : Int32)), (.int p1)])) _
    refine XS.iand X0.here hx rfl (hb hby at_3) rfl ?_
    show Steps p.tables e below (s₁.setTop (mkF m 4 #[.val (.int p1), .unset, .unset, .unset] [(.int (p1 &&& (7 : Int32)))])) _
    refine XS.istoreN X0.here hx rfl (hb hby at_4) rfl (l' := #[.val (.int p1), .val (.int (p1 &&& (7 : Int32))), .unset, .unset]) rfl ?_
    show Steps p.tables e below (s₁.setTop (mkF m 5 #[.val (.int p1), .val (.int (p1 &&& (7 : Int32))), .unset, .unset] [])) _
    refine XS.iloadN X0.here hx rfl (hb hby at_5) rfl ?_
    show Steps p.tables e below (s₁.setTop (mkF m 6 #[.val (.int p1), .val (.int (p1 &&& (7 : Int32))), .unset, .unset] [(.int (p1 &&& (7 : Int32)))])) _
    exact q
  obtain ⟨_, _, ⟨T2, L2, kk2, n2⟩, -, X2, ⟨Lc2, hQ2, l2, y2, z2⟩, st2⟩ := Jvm.LawKit.callS X0 hx (y := (⟨"com/example/kingsbetween/kingsbetween/game/GameStatusEndsGamePinLaw", "pick", "(I)Lcom/example/kingsbetween/kingsbetween/game/GameStatus;"⟩ : MethodName)) hown (mvT hZ (hw _ (List.mem_of_getElem? (i := 0) rfl))) (mvT hZ (hw _ (List.mem_of_getElem? (i := 1) rfl))) (mvT hZ (hw _ (List.mem_of_getElem? (i := 2) rfl))) (mvT hZ (hw _ (List.mem_of_getElem? (i := 3) rfl))) (by decide) (backOf (W := 0) (rmP l Z a0 hw [] (p1 &&& (7 : Int32)) en0 en1 en2 en3 en4 en5 en6 en7 h0 n0 Z0 S0 S1 S2 S3 S4 S5 S6 S7) hZ (hw _ (List.mem_of_getElem? (i := 3) rfl)) (hw _ (List.mem_of_getElem? (i := 2) rfl)) (by decide) (by decide)) (g := (mkF m 6 #[.val (.int p1), .val (.int (p1 &&& (7 : Int32))), .unset, .unset] [(.int (p1 &&& (7 : Int32)))])) rfl (by rw [hml]; rfl) (argsL := [(.int (p1 &&& (7 : Int32)))]) (rest := []) (lenOf pd_97222 rfl) rfl (by show 2 * 0 + _ ≤ _; exact Nat.le_of_eq rfl) (hb hby at_6) (fun _ _ => ⟨rfl, e0, (by decide : 0 + 0 ≤ _), (by decide : 0 + 0 ≤ _)⟩)
  dsimp only [Pt.U, Pt.locs, Pt.cells, Pt.slots] at X2 l2 y2 z2 st2 hQ2
  subst l2 y2 z2
  obtain ⟨rfl, Nq2, hq2⟩ := hQ2
  have N2 := Fr.app N0 Nq2
  have k3_ : ∀ t, Steps p.tables e below (T2.setTop (mkF m 9 #[.val (.int p1), .val (.int (p1 &&& (7 : Int32))), .unset, .unset] [(.ref (own_pick (p1 &&& (7 : Int32)) en0 en1 en2 en3 en4 en5 en6 en7))])) t → Steps p.tables e below (s₁.setTop (mkF m 0 #[.val (.int p1), .unset, .unset, .unset] [])) t := fun t q => k1_ t (st2 t q)
  have k4_ : ∀ t, Steps p.tables e below (T2.setTop (mkF m 12 #[.val (.int p1), .val (.int (p1 &&& (7 : Int32))), .val (.ref (own_pick (p1 &&& (7 : Int32)) en0 en1 en2 en3 en4 en5 en6 en7)), .unset] [(.int (4 : Int32)), (.int (p1 &&& (7 : Int32)))])) t → Steps p.tables e below (s₁.setTop (mkF m 0 #[.val (.int p1), .unset, .unset, .unset] [])) t := by
    intro t q
    refine k3_ _ ?_
    show Steps p.tables e below (T2.setTop (mkF m 9 #[.val (.int p1), .val (.int (p1 &&& (7 : Int32))), .unset, .unset] [(.ref (own_pick (p1 &&& (7 : Int32)) en0 en1 en2 en3 en4 en5 en6 en7))])) _
    refine XS.astoreN X2.here hx rfl (hb hby at_9) rfl rfl (l' := #[.val (.int p1), .val (.int (p1 &&& (7 : Int32))), .val (.ref (own_pick (p1 &&& (7 : Int32)) en0 en1 en2 en3 en4 en5 en6 en7)), .unset]) rfl ?_
    show Steps p.tables e below (T2.setTop (mkF m 10 #[.val (.int p1), .val (.int (p1 &&& (7 : Int32))), .val (.ref (own_pick (p1 &&& (7 : Int32)) en0 en1 en2 en3 en4 en5 en6 en7)), .unset] [])) _
    refine XS.iloadN X2.here hx rfl (hb hby at_10) rfl ?_
    show Steps p.tables e below (T2.setTop (mkF m 11 #[.val (.int p1), .val (.int (p1 &&& (7 : Int32))), .val (.ref (own_pick (p1 &&& (7 : Int32)) en0 en1 en2 en3 en4 en5 en6 en7)), .unset] [(.int (p1 &&& (7 : Int32)))])) _
    refine XS.iconst X2.here hx rfl (hb hby at_11) ?_
    show Steps p.tables e below (T2.setTop (mkF m 12 #[.val (.int p1), .val (.int (p1 &&& (7 : Int32))), .val (.ref (own_pick (p1 &&& (7 : Int32)) en0 en1 en2 en3 en4 en5 en6 en7)), .unset] [(.int (4 : Int32)), (.int (p1 &&& (7 : Int32)))])) _
    exact q
  have k5_ : ∀ t, Steps p.tables e below (T2.setTop (mkF m 20 #[.val (.int p1), .val (.int (p1 &&& (7 : Int32))), .val (.ref (own_pick (p1 &&& (7 : Int32)) en0 en1 en2 en3 en4 en5 en6 en7)), .unset] [(.int (bi (¬ (4 : Int32) < (p1 &&& (7 : Int32)))))])) t → Steps p.tables e below (s₁.setTop (mkF m 0 #[.val (.int p1), .unset, .unset, .unset] [])) t := by
    intro t q
    refine k4_ _ ?_
    show Steps p.tables e below (T2.setTop (mkF m 12 #[.val (.int p1), .val (.int (p1 &&& (7 : Int32))), .val (.ref (own_pick (p1 &&& (7 : Int32)) en0 en1 en2 en3 en4 en5 en6 en7)), .unset] [(.int (4 : Int32)), (.int (p1 &&& (7 : Int32)))])) _
    by_cases hc12 : (4 : Int32) < (p1 &&& (7 : Int32))
    · refine XS.icmpYes X2.here hx rfl (pc0 := 12) (pc' := 19) rfl (hb hby at_12) rfl (tlt hc12).2.2.1 (by decide) (by decide) ?_
      show Steps p.tables e below (T2.setTop (mkF m 19 #[.val (.int p1), .val (.int (p1 &&& (7 : Int32))), .val (.ref (own_pick (p1 &&& (7 : Int32)) en0 en1 en2 en3 en4 en5 en6 en7)), .unset] [])) _
      refine XS.iconst X2.here hx rfl (hb hby at_19) ?_
      show Steps p.tables e below (T2.setTop (mkF m 20 #[.val (.int p1), .val (.int (p1 &&& (7 : Int32))), .val (.ref (own_pick (p1 &&& (7 : Int32)) en0 en1 en2 en3 en4 en5 en6 en7)), .unset] [(.int (0 : Int32))])) _
      have w0 : (bi (¬ (4 : Int32) < (p1 &&& (7 : Int32)))) = (0 : Int32) := by first | exact bi_t hc12 | exact bi_f (fun z => z hc12)
      replace q := Eq.mp (congrArg (fun z => Steps p.tables e below (T2.setTop (mkF m 20 #[.val (.int p1), .val (.int (p1 &&& (7 : Int32))), .val (.ref (own_pick (p1 &&& (7 : Int32)) en0 en1 en2 en3 en4 en5 en6 en7)), .unset] [(.int z)])) t) w0) q
      exact q
    · refine XS.icmpNo X2.here hx rfl (hb hby at_12) rfl (flt hc12).2.2.1 ?_
      show Steps p.tables e below (T2.setTop (mkF m 15 #[.val (.int p1), .val (.int (p1 &&& (7 : Int32))), .val (.ref (own_pick (p1 &&& (7 : Int32)) en0 en1 en2 en3 en4 en5 en6 en7)), .unset] [])) _
      refine XS.iconst X2.here hx rfl (hb hby at_15) ?_
      show Steps p.tables e below (T2.setTop (mkF m 16 #[.val (.int p1), .val (.int (p1 &&& (7 : Int32))), .val (.ref (own_pick (p1 &&& (7 : Int32)) en0 en1 en2 en3 en4 en5 en6 en7)), .unset] [(.int (1 : Int32))])) _
      refine XS.goto X2.here hx rfl (pc0 := 16) (pc' := 20) rfl (hb hby at_16) (by decide) (by decide) ?_
      show Steps p.tables e below (T2.setTop (mkF m 20 #[.val (.int p1), .val (.int (p1 &&& (7 : Int32))), .val (.ref (own_pick (p1 &&& (7 : Int32)) en0 en1 en2 en3 en4 en5 en6 en7)), .unset] [(.int (1 : Int32))])) _
      have w0 : (bi (¬ (4 : Int32) < (p1 &&& (7 : Int32)))) = (1 : Int32) := by first | exact bi_t hc12 | exact bi_f (fun z => z hc12)
      replace q := Eq.mp (congrArg (fun z => Steps p.tables e below (T2.setTop (mkF m 20 #[.val (.int p1), .val (.int (p1 &&& (7 : Int32))), .val (.ref (own_pick (p1 &&& (7 : Int32)) en0 en1 en2 en3 en4 en5 en6 en7)), .unset] [(.int z)])) t) w0) q
      exact q
  have k6_ : ∀ t, Steps p.tables e below (T2.setTop (mkF m 22 #[.val (.int p1), .val (.int (p1 &&& (7 : Int32))), .val (.ref (own_pick (p1 &&& (7 : Int32)) en0 en1 en2 en3 en4 en5 en6 en7)), .val (.int (bi (¬ (4 : Int32) < (p1 &&& (7 : Int32)))))] [(.ref (own_pick (p1 &&& (7 : Int32)) en0 en1 en2 en3 en4 en5 en6 en7))])) t → Steps p.tables e below (s₁.setTop (mkF m 0 #[.val (.int p1), .unset, .unset, .unset] [])) t := by
    intro t q
    refine k5_ _ ?_
    show Steps p.tables e below (T2.setTop (mkF m 20 #[.val (.int p1), .val (.int (p1 &&& (7 : Int32))), .val (.ref (own_pick (p1 &&& (7 : Int32)) en0 en1 en2 en3 en4 en5 en6 en7)), .unset] [(.int (bi (¬ (4 : Int32) < (p1 &&& (7 : Int32)))))])) _
    refine XS.istoreN X2.here hx rfl (hb hby at_20) rfl (l' := #[.val (.int p1), .val (.int (p1 &&& (7 : Int32))), .val (.ref (own_pick (p1 &&& (7 : Int32)) en0 en1 en2 en3 en4 en5 en6 en7)), .val (.int (bi (¬ (4 : Int32) < (p1 &&& (7 : Int32)))))]) rfl ?_
    show Steps p.tables e below (T2.setTop (mkF m 21 #[.val (.int p1), .val (.int (p1 &&& (7 : Int32))), .val (.ref (own_pick (p1 &&& (7 : Int32)) en0 en1 en2 en3 en4 en5 en6 en7)), .val (.int (bi (¬ (4 : Int32) < (p1 &&& (7 : Int32)))))] [])) _
    refine XS.aloadN X2.here hx rfl (hb hby at_21) rfl rfl ?_
    show Steps p.tables e below (T2.setTop (mkF m 22 #[.val (.int p1), .val (.int (p1 &&& (7 : Int32))), .val (.ref (own_pick (p1 &&& (7 : Int32)) en0 en1 en2 en3 en4 en5 en6 en7)), .val (.int (bi (¬ (4 : Int32) < (p1 &&& (7 : Int32)))))] [(.ref (own_pick (p1 &&& (7 : Int32)) en0 en1 en2 en3 en4 en5 en6 en7))])) _
    exact q
  obtain ⟨cq7, kq7, q7a, q7b, q7c⟩ := isOf hZ hq2 (own_pick_P (P := fun a => Exa Z h0 a "com/example/kingsbetween/kingsbetween/game/GameStatus") E0 E1 E2 E3 E4 E5 E6 E7 (p1 &&& (7 : Int32)))
  obtain ⟨_, _, ⟨T7, L7, kk7, n7⟩, -, X7, ⟨Lc7, hQ7, l7, y7, z7⟩, st7⟩ := X2.virtualBack hx (y := (⟨"com/example/kingsbetween/kingsbetween/game/GameStatus", "endsGame", "()Z"⟩ : MethodName)) (z := (⟨"com/example/kingsbetween/kingsbetween/game/GameStatus", "endsGame", "()Z"⟩ : MethodName)) hown (mvT hZ (hw _ (List.mem_of_getElem? (i := 7) rfl))) (mvT hZ (hw _ (List.mem_of_getElem? (i := 8) rfl))) (notFace_of_selects (args := #[]) (mvT hZ (hw _ (List.mem_of_getElem? (i := 10) rfl)))) (mvT hZ (hw _ (List.mem_of_getElem? (i := 10) rfl))) (mvT hZ (hw _ (List.mem_of_getElem? (i := 9) rfl))) (by decide) (backOf (W := 0) (rmN l Z a0 hw [] (own_pick (p1 &&& (7 : Int32)) en0 en1 en2 en3 en4 en5 en6 en7) en5 en6 en7 h0 n0 Z0 S5 S6 S7) hZ (hw _ (List.mem_of_getElem? (i := 11) rfl)) (hw _ (List.mem_of_getElem? (i := 5) rfl)) (by decide) (by decide)) q7a q7c (g := (mkF m 22 #[.val (.int p1), .val (.int (p1 &&& (7 : Int32))), .val (.ref (own_pick (p1 &&& (7 : Int32)) en0 en1 en2 en3 en4 en5 en6 en7)), .val (.int (bi (¬ (4 : Int32) < (p1 &&& (7 : Int32)))))] [(.ref (own_pick (p1 &&& (7 : Int32)) en0 en1 en2 en3 en4 en5 en6 en7))])) rfl (by rw [hml]; rfl) (Steps.refl _) (argsL := []) (rest := []) (lenOf pd_48338 rfl) rfl (by show 2 * 0 + _ ≤ _; exact Nat.le_of_eq rfl) (hb hby at_22) (fun _ _ => ⟨rfl, hq2, (by decide : 0 + 0 + 0 ≤ _), (by decide : 0 + 0 + 0 ≤ _)⟩)
  dsimp only [Pt.U, Pt.locs, Pt.cells, Pt.slots] at X7 l7 y7 z7 st7 hQ7
  subst l7 y7 z7
  obtain ⟨rfl, Nq7, hq7⟩ := hQ7
  have N7 := Fr.app N2 Nq7
  have k8_ : ∀ t, Steps p.tables e below (T7.setTop (mkF m 25 #[.val (.int p1), .val (.int (p1 &&& (7 : Int32))), .val (.ref (own_pick (p1 &&& (7 : Int32)) en0 en1 en2 en3 en4 en5 en6 en7)), .val (.int (bi (¬ (4 : Int32) < (p1 &&& (7 : Int32)))))] [(.int (own_ends (own_pick (p1 &&& (7 : Int32)) en0 en1 en2 en3 en4 en5 en6 en7) en5 en6 en7))])) t → Steps p.tables e below (s₁.setTop (mkF m 0 #[.val (.int p1), .unset, .unset, .unset] [])) t := fun t q => k6_ t (st7.trans q)
  have k9_ : ∀ t, Steps p.tables e below (T7.setTop (mkF m 26 #[.val (.int p1), .val (.int (p1 &&& (7 : Int32))), .val (.ref (own_pick (p1 &&& (7 : Int32)) en0 en1 en2 en3 en4 en5 en6 en7)), .val (.int (bi (¬ (4 : Int32) < (p1 &&& (7 : Int32)))))] [(.int (bi (¬ (4 : Int32) < (p1 &&& (7 : Int32))))), (.int (own_ends (own_pick (p1 &&& (7 : Int32)) en0 en1 en2 en3 en4 en5 en6 en7) en5 en6 en7))])) t → Steps p.tables e below (s₁.setTop (mkF m 0 #[.val (.int p1), .unset, .unset, .unset] [])) t := by
    intro t q
    refine k8_ _ ?_
    show Steps p.tables e below (T7.setTop (mkF m 25 #[.val (.int p1), .val (.int (p1 &&& (7 : Int32))), .val (.ref (own_pick (p1 &&& (7 : Int32)) en0 en1 en2 en3 en4 en5 en6 en7)), .val (.int (bi (¬ (4 : Int32) < (p1 &&& (7 : Int32)))))] [(.int (own_ends (own_pick (p1 &&& (7 : Int32)) en0 en1 en2 en3 en4 en5 en6 en7) en5 en6 en7))])) _
    refine XS.iloadN X7.here hx rfl (hb hby at_25) rfl ?_
    show Steps p.tables e below (T7.setTop (mkF m 26 #[.val (.int p1), .val (.int (p1 &&& (7 : Int32))), .val (.ref (own_pick (p1 &&& (7 : Int32)) en0 en1 en2 en3 en4 en5 en6 en7)), .val (.int (bi (¬ (4 : Int32) < (p1 &&& (7 : Int32)))))] [(.int (bi (¬ (4 : Int32) < (p1 &&& (7 : Int32))))), (.int (own_ends (own_pick (p1 &&& (7 : Int32)) en0 en1 en2 en3 en4 en5 en6 en7) en5 en6 en7))])) _
    exact q
  have k10_ : ∀ t, Steps p.tables e below (T7.setTop (mkF m 29 #[.val (.int p1), .val (.int (p1 &&& (7 : Int32))), .val (.ref (own_pick (p1 &&& (7 : Int32)) en0 en1 en2 en3 en4 en5 en6 en7)), .val (.int (bi (¬ (4 : Int32) < (p1 &&& (7 : Int32)))))] [])) t → Steps p.tables e below (s₁.setTop (mkF m 0 #[.val (.int p1), .unset, .unset, .unset] [])) t := by
    intro t q
    refine k9_ _ ?_
    show Steps p.tables e below (T7.setTop (mkF m 26 #[.val (.int p1), .val (.int (p1 &&& (7 : Int32))), .val (.ref (own_pick (p1 &&& (7 : Int32)) en0 en1 en2 en3 en4 en5 en6 en7)), .val (.int (bi (¬ (4 : Int32) < (p1 &&& (7 : Int32)))))] [(.int (bi (¬ (4 : Int32) < (p1 &&& (7 : Int32))))), (.int (own_ends (own_pick (p1 &&& (7 : Int32)) en0 en1 en2 en3 en4 en5 en6 en7) en5 en6 en7))])) _
    refine XS.icmpNo X7.here hx rfl (hb hby at_26) rfl (teq (own_eq p1 ho0 ho1 ho2 ho3 ho4 ho5 ho6 ho7)).2 ?_
    show Steps p.tables e below (T7.setTop (mkF m 29 #[.val (.int p1), .val (.int (p1 &&& (7 : Int32))), .val (.ref (own_pick (p1 &&& (7 : Int32)) en0 en1 en2 en3 en4 en5 en6 en7)), .val (.int (bi (¬ (4 : Int32) < (p1 &&& (7 : Int32)))))] [])) _
    exact q
  have k11_ : ∀ t, Steps p.tables e below (T7.setTop (mkF m 34 #[.val (.int p1), .val (.int (p1 &&& (7 : Int32))), .val (.ref (own_pick (p1 &&& (7 : Int32)) en0 en1 en2 en3 en4 en5 en6 en7)), .val (.int (bi (¬ (4 : Int32) < (p1 &&& (7 : Int32)))))] [(.int (1 : Int32))])) t → Steps p.tables e below (s₁.setTop (mkF m 0 #[.val (.int p1), .unset, .unset, .unset] [])) t := by
    intro t q
    refine k10_ _ ?_
    show Steps p.tables e below (T7.setTop (mkF m 29 #[.val (.int p1), .val (.int (p1 &&& (7 : Int32))), .val (.ref (own_pick (p1 &&& (7 : Int32)) en0 en1 en2 en3 en4 en5 en6 en7)), .val (.int (bi (¬ (4 : Int32) < (p1 &&& (7 : Int32)))))] [])) _
    refine XS.iconst X7.here hx rfl (hb hby at_29) ?_
    show Steps p.tables e below (T7.setTop (mkF m 30 #[.val (.int p1), .val (.int (p1 &&& (7 : Int32))), .val (.ref (own_pick (p1 &&& (7 : Int32)) en0 en1 en2 en3 en4 en5 en6 en7)), .val (.int (bi (¬ (4 : Int32) < (p1 &&& (7 : Int32)))))] [(.int (1 : Int32))])) _
    refine XS.goto X7.here hx rfl (pc0 := 30) (pc' := 34) rfl (hb hby at_30) (by decide) (by decide) ?_
    show Steps p.tables e below (T7.setTop (mkF m 34 #[.val (.int p1), .val (.int (p1 &&& (7 : Int32))), .val (.ref (own_pick (p1 &&& (7 : Int32)) en0 en1 en2 en3 en4 en5 en6 en7)), .val (.int (bi (¬ (4 : Int32) < (p1 &&& (7 : Int32)))))] [(.int (1 : Int32))])) _
    exact q
  obtain ⟨fs, hr, hrun, hended, hW, hsame⟩ := X7.leave (v := some (.int (1 : Int32))) (fun h => by rw [Bd.returns] at h; cases h)
  refine ⟨_, _, pre0 _ (k11_ _ ?_), hrun, hended, _, _, rfl, ?_, ⟨_, rfl⟩, hW, hsame.mono (by decide) (by decide)⟩
  · show Steps p.tables e below (T7.setTop (mkF m 34 #[.val (.int p1), .val (.int (p1 &&& (7 : Int32))), .val (.ref (own_pick (p1 &&& (7 : Int32)) en0 en1 en2 en3 en4 en5 en6 en7)), .val (.int (bi (¬ (4 : Int32) < (p1 &&& (7 : Int32)))))] [(.int (1 : Int32))])) _
    exact retN X7 hx (t := .boolean) Bd.returns (by simp) (hb hby at_34) hr
  · show Q0 Z p1 en0 en1 en2 en3 en4 en5 en6 en7 od h0 n0 _ T7.heap _
    rw [hq7]
    exact ⟨rfl, N7⟩
set_option maxRecDepth 65536 in
set_option maxHeartbeats 40000000 in
theorem comes_1 {Post : Tables → Env → Array Value → State → Outcome → State → Prop} (hpost : ∀ tb e args s v u, (limb_1_1.after args s (.returned v) u = true ∧ limb_1_2.after args s (.returned v) u = true ∧ True) → FrameEnd s (.returned v) u (Jvm.fieldLocs frame_1_writes args s ++ Jvm.arrayLocs frame_1_arrays args s ++ Jvm.staticLocs frame_1_statics s) 0 0 → Post tb e args s (.returned v) u) :
    ArmFor flags0 classFile x code maxLocals ret World_1 tables_1 room_1 Calls_1 rest_1 Pre_1 Post := by
  intro l hfl _ _ p e ha hc hk s m args below hf hA hF happ hP
  obtain ⟨hcalls, hrest, hpre⟩ := hP
  obtain ⟨-, -, -, hnamed, -, -, -, hat⟩ := (Spec.applies_iff hf).mp happ
  obtain ⟨hg, hn⟩ := and_e (Cond.before_iff.mp (show (Jvm.Cond.and given_1 narrow_1).before args s = true from hpre))
  obtain ⟨hcnt, hg0⟩ := and_e hg
  have hi0 := hg0
  obtain ⟨w0, rfl⟩ : ∃ w0 : Value, args = #[w0] := by
    have hs : args.size = 1 := by simpa [Cond.value, given_1] using hcnt
    obtain ⟨L⟩ := args
    match L, hs with
    | [w0], _ => exact ⟨w0, rfl⟩
  have hw := fun d (hd : d ∈ tables_1) => atoms_spec (ws := Jvm.Cond.code x code maxLocals ret :: tables_1) hat d (List.mem_cons_of_mem _ hd)
  have hfit : Fit s := fun {y c} hc i hi => by
    obtain ⟨ha, rfl⟩ := Array.getElem?_eq_some_iff.mp hc
    have q := List.all_eq_true.mp ((Array.all_eq_true_iff_forall_mem.mp hF) _ (Array.getElem_mem ha)) i (List.mem_range.mpr hi)
    simpa [Array.getElem?_eq_getElem hi] using q
  obtain ⟨i0, ei0⟩ := is_v hi0
  obtain rfl : w0 = (.int i0) := Option.some.inj ei0
  obtain ⟨na0, nr0⟩ := and_e hn
  obtain ⟨e_CHECKMATE, ev_CHECKMATE⟩ := exa_v na0
  have E_CHECKMATE := Exa.start ev_CHECKMATE na0
  have S_CHECKMATE := Sta.start ev_CHECKMATE (Or.inr ⟨(hw _ (List.mem_of_getElem? (i := 5) rfl)), (hw _ (List.mem_of_getElem? (i := 6) rfl))⟩)
  obtain ⟨na1, nr1⟩ := and_e nr0
  obtain ⟨e_THREEFOLD_CLAIMABLE, ev_THREEFOLD_CLAIMABLE⟩ := exa_v na1
  have E_THREEFOLD_CLAIMABLE := Exa.start ev_THREEFOLD_CLAIMABLE na1
  have S_THREEFOLD_CLAIMABLE := Sta.start ev_THREEFOLD_CLAIMABLE (Or.inr ⟨(hw _ (List.mem_of_getElem? (i := 5) rfl)), (hw _ (List.mem_of_getElem? (i := 13) rfl))⟩)
  obtain ⟨na2, nr2⟩ := and_e nr1
  have o_CHECKMATE := own_ord na2 ev_CHECKMATE
  obtain ⟨na3, nr3⟩ := and_e nr2
  have o_THREEFOLD_CLAIMABLE := own_ord na3 ev_THREEFOLD_CLAIMABLE
  obtain ⟨na4, nr4⟩ := and_e nr3
  obtain ⟨e_FIFTY_MOVES_CLAIMABLE, ev_FIFTY_MOVES_CLAIMABLE⟩ := exa_v na4
  have E_FIFTY_MOVES_CLAIMABLE := Exa.start ev_FIFTY_MOVES_CLAIMABLE na4
  have S_FIFTY_MOVES_CLAIMABLE := Sta.start ev_FIFTY_MOVES_CLAIMABLE (Or.inr ⟨(hw _ (List.mem_of_getElem? (i := 5) rfl)), (hw _ (List.mem_of_getElem? (i := 15) rfl))⟩)
  obtain ⟨na5, nr5⟩ := and_e nr4
  have o_FIFTY_MOVES_CLAIMABLE := own_ord na5 ev_FIFTY_MOVES_CLAIMABLE
  obtain ⟨na6, nr6⟩ := and_e nr5
  obtain ⟨e_ONGOING, ev_ONGOING⟩ := exa_v na6
  have E_ONGOING := Exa.start ev_ONGOING na6
  have S_ONGOING := Sta.start ev_ONGOING (Or.inr ⟨(hw _ (List.mem_of_getElem? (i := 5) rfl)), (hw _ (List.mem_of_getElem? (i := 17) rfl))⟩)
  obtain ⟨na7, nr7⟩ := and_e nr6
  have o_ONGOING := own_ord na7 ev_ONGOING
  obtain ⟨na8, nr8⟩ := and_e nr7
  obtain ⟨e_FIVEFOLD_REPETITION, ev_FIVEFOLD_REPETITION⟩ := exa_v na8
  have E_FIVEFOLD_REPETITION := Exa.start ev_FIVEFOLD_REPETITION na8
  have S_FIVEFOLD_REPETITION := Sta.start ev_FIVEFOLD_REPETITION (Or.inr ⟨(hw _ (List.mem_of_getElem? (i := 5) rfl)), (hw _ (List.mem_of_getElem? (i := 19) rfl))⟩)
  obtain ⟨na9, nr9⟩ := and_e nr8
  have o_FIVEFOLD_REPETITION := own_ord na9 ev_FIVEFOLD_REPETITION
  obtain ⟨na10, nr10⟩ := and_e nr9
  obtain ⟨e_INSUFFICIENT_MATERIAL, ev_INSUFFICIENT_MATERIAL⟩ := exa_v na10
  have E_INSUFFICIENT_MATERIAL := Exa.start ev_INSUFFICIENT_MATERIAL na10
  have S_INSUFFICIENT_MATERIAL := Sta.start ev_INSUFFICIENT_MATERIAL (Or.inr ⟨(hw _ (List.mem_of_getElem? (i := 5) rfl)), (hw _ (List.mem_of_getElem? (i := 23) rfl))⟩)
  obtain ⟨na11, nr11⟩ := and_e nr10
  have o_INSUFFICIENT_MATERIAL := own_ord na11 ev_INSUFFICIENT_MATERIAL
  obtain ⟨na12, nr12⟩ := and_e nr11
  obtain ⟨e_STALEMATE, ev_STALEMATE⟩ := exa_v na12
  have E_STALEMATE := Exa.start ev_STALEMATE na12
  have S_STALEMATE := Sta.start ev_STALEMATE (Or.inr ⟨(hw _ (List.mem_of_getElem? (i := 5) rfl)), (hw _ (List.mem_of_getElem? (i := 25) rfl))⟩)
  obtain ⟨na13, nr13⟩ := and_e nr12
  have o_STALEMATE := own_ord na13 ev_STALEMATE
  obtain ⟨na14, nr14⟩ := and_e nr13
  obtain ⟨e_SEVENTY_FIVE_MOVES, ev_SEVENTY_FIVE_MOVES⟩ := exa_v na14
  have E_SEVENTY_FIVE_MOVES := Exa.start ev_SEVENTY_FIVE_MOVES na14
  have S_SEVENTY_FIVE_MOVES := Sta.start ev_SEVENTY_FIVE_MOVES (Or.inr ⟨(hw _ (List.mem_of_getElem? (i := 5) rfl)), (hw _ (List.mem_of_getElem? (i := 27) rfl))⟩)
  have na15 := nr14
  have o_SEVENTY_FIVE_MOVES := own_ord na15 ev_SEVENTY_FIVE_MOVES
  obtain ⟨n, o, h1, h2, h3, _, L, rfl, ⟨rfl, N⟩, hq⟩ := rm0 l s _ hw tables_1 i0 e_CHECKMATE e_STALEMATE e_INSUFFICIENT_MATERIAL e_FIVEFOLD_REPETITION e_SEVENTY_FIVE_MOVES e_THREEFOLD_CLAIMABLE e_FIFTY_MOVES_CLAIMABLE e_ONGOING (fun a => s.fieldOf? a "java/lang/Enum" "ordinal" "I") s.heap s.heap.size (Nat.le_refl _) S_CHECKMATE S_STALEMATE S_INSUFFICIENT_MATERIAL S_FIVEFOLD_REPETITION S_SEVENTY_FIVE_MOVES S_THREEFOLD_CLAIMABLE S_FIFTY_MOVES_CLAIMABLE S_ONGOING E_CHECKMATE E_STALEMATE E_INSUFFICIENT_MATERIAL E_FIVEFOLD_REPETITION E_SEVENTY_FIVE_MOVES E_THREEFOLD_CLAIMABLE E_FIFTY_MOVES_CLAIMABLE E_ONGOING o_CHECKMATE o_STALEMATE o_INSUFFICIENT_MATERIAL o_FIVEFOLD_REPETITION o_SEVENTY_FIVE_MOVES o_THREEFOLD_CLAIMABLE o_FIFTY_MOVES_CLAIMABLE o_ONGOING p e ha hc hk s m _ below hf ((Spec.applies_iff_loose hf).mp happ).1 ⟨rfl, State.Warmed39.refl s, rfl⟩ trivial
  refine ⟨n, _, h1, h2, h3, hpost _ _ _ _ _ _ ⟨Cond.after_iff.mpr rfl, Cond.after_iff.mpr (eq_i res_at (Term.int_eval (1)) rfl), trivial⟩ ⟨hq.1, hq.2.1, (hq.2.2.sift fun y hy => Or.inr (N y hy)).mono (by decide) (by decide)⟩⟩
theorem main_1_1 : Claimed_1_1 := comes_1 fun _ _ _ _ _ _ h hF => ⟨h.1, hF⟩
theorem main_1_2 : Claimed_1_2 := comes_1 fun _ _ _ _ _ _ h hF => ⟨h.2.1, hF⟩
end Jvm.Pilot.@@N@@
namespace Jvm.Pilot.@@N@@
open Jvm Jvm.ClassFile Sem Op Lib Jvm.Free Jvm.Stand Jvm.Pilot.@@N@@.Jvm.D
/-! MADE BY PROGRAM (witnessworld.py) out of the Statement's table words and the real class files: 12 classes; the members and pool entries that the words name. The judged class is class 1, her method 2. -/
namespace start1
open Jvm.ClassFile
def u (s : String) : CpInfo := .utf8 (stringToUtf16 s)
/-- a pool by its gaps: so many unusable entries, then the entry; so many at the end -/
def gap : Nat → List CpInfo → List CpInfo
  | 0, r => r
  | n + 1, r => .unusable :: gap n r
def poolList (es : List (Nat × CpInfo)) (last : Nat) : List CpInfo := es.foldr (fun e r => gap e.1 (e.2 :: r)) (gap last [])
def pool (es : List (Nat × CpInfo)) (last : Nat) : Array CpInfo := ⟨poolList es last⟩
def fileOf (pool : Array CpInfo) (this : Nat) (attrs : Array Attribute := #[]) (ms : Array MethodInfo := #[]) (fl : Nat := 33) (sup : Nat := 0) (ifs : Array Nat := #[]) (fds : Array FieldInfo := #[]) : ClassFile where
  minorVersion := 0
  majorVersion := 65
  constantPool := pool
  accessFlags := fl
  thisClass := this
  superClass := sup
  interfaces := ifs
  fields := fds
  methods := ms
  attributes := attrs
def plain (name : String) (sup : Option ClassId) : Class where
  name := name
  kind := .ordinary
  loader := none
  accessFlags := 33
  super := sup
  interfaces := #[]
  cf := none
  fields := #[]
  methods := #[]
  instanceTypes := #[]
  staticTypes := #[]
  resolved := #[]
  callSites := []
  init := .initialized
  statics := none
  mirror := none

def pool0 : Array CpInfo := pool [(5, u "<init>"), (0, u "()V"), (1, .class_ 10), (1, u "java/lang/Object")] 113

def k0m0 : Method := { name := "<init>", desc := "()V", sig := { parameters := [], returnType := none }, accessFlags := 1, code := none }
/-- java/lang/Object -/
def k0 : Class := { plain "java/lang/Object" none with
  accessFlags := 33
  interfaces := #[]
  cf := some (fileOf pool0 8 #[] #[{ accessFlags := 1, nameIndex := 5, descriptorIndex := 6, attributes := #[] }] 33 0 #[] #[])
  fields := #[]
  methods := #[k0m0]
  instanceTypes := #[]
  staticTypes := #[]
  resolved := Array.replicate 124 none
  statics := none }

def pool1 : Array CpInfo := pool [(2, .class_ 4), (1, u "java/lang/Object"), (0, u "<init>"), (0, u "()V"), (0, .fieldref 8 9), (0, .class_ 10), (0, .nameAndType 11 12), (0, u "com/example/kingsbetween/kingsbetween/game/GameStatus"), (0, u "CHECKMATE"), (0, u "Lcom/example/kingsbetween/kingsbetween/game/GameStatus;"), (0, .fieldref 8 14), (0, .nameAndType 15 12), (0, u "STALEMATE"), (0, .fieldref 8 17), (0, .nameAndType 18 12), (0, u "INSUFFICIENT_MATERIAL"), (0, .fieldref 8 20), (0, .nameAndType 21 12), (0, u "FIVEFOLD_REPETITION"), (0, .fieldref 8 23), (0, .nameAndType 24 12), (0, u "SEVENTY_FIVE_MOVES"), (0, .fieldref 8 26), (0, .nameAndType 27 12), (0, u "THREEFOLD_CLAIMABLE"), (0, .fieldref 8 29), (0, .nameAndType 30 12), (0, u "FIFTY_MOVES_CLAIMABLE"), (0, .fieldref 8 32), (0, .nameAndType 33 12), (0, u "ONGOING"), (0, .methodref 35 36), (0, .class_ 37), (0, .nameAndType 38 39), (0, u "com/example/kingsbetween/kingsbetween/game/GameStatusEndsGamePinLaw"), (0, u "pick"), (0, u "(I)Lcom/example/kingsbetween/kingsbetween/game/GameStatus;"), (0, .methodref 8 41), (0, .nameAndType 42 43), (0, u "endsGame"), (0, u "()Z"), (3, u "law"), (0, u "(I)Z")] 2

def k1m0 : Method := { name := "<init>", desc := "()V", sig := { parameters := [], returnType := none }, accessFlags := 1, code := none }
def k1c1 : Code := { maxStack := 2, maxLocals := 1, code := method_2_code, exceptionTable := #[], attributes := #[] }
def k1m1 : Method := { name := "pick", desc := "(I)Lcom/example/kingsbetween/kingsbetween/game/GameStatus;", sig := { parameters := [.int], returnType := some (.object "com/example/kingsbetween/kingsbetween/game/GameStatus") }, accessFlags := 10, code := some k1c1 }
def k1c2 : Code := { maxStack := 2, maxLocals := 4, code := code, exceptionTable := #[], attributes := #[] }
def k1m2 : Method := { name := "law", desc := "(I)Z", sig := { parameters := [.int], returnType := some .boolean }, accessFlags := 9, code := some k1c2 }
/-- com/example/kingsbetween/kingsbetween/game/GameStatusEndsGamePinLaw -/
def k1 : Class := { plain "com/example/kingsbetween/kingsbetween/game/GameStatusEndsGamePinLaw" (some 0) with
  accessFlags := 49
  interfaces := #[]
  cf := some (fileOf pool1 35 #[] #[{ accessFlags := 1, nameIndex := 5, descriptorIndex := 6, attributes := #[] }, { accessFlags := 10, nameIndex := 38, descriptorIndex := 39, attributes := #[] }, { accessFlags := 9, nameIndex := 47, descriptorIndex := 48, attributes := #[] }] 49 2 #[] #[])
  fields := #[]
  methods := #[k1m0, k1m1, k1m2]
  instanceTypes := #[]
  staticTypes := #[]
  resolved := Array.replicate 51 none
  statics := none }

def pool2 : Array CpInfo := pool [(1, .class_ 2), (0, u "java/lang/constant/Constable"), (0, .class_ 4), (0, u "java/lang/Object")] 6

/-- java/lang/constant/Constable -/
def k2 : Class := { plain "java/lang/constant/Constable" (some 0) with
  accessFlags := 1537
  interfaces := #[]
  cf := some (fileOf pool2 1 #[] #[] 1537 3 #[] #[])
  fields := #[]
  methods := #[]
  instanceTypes := #[]
  staticTypes := #[]
  resolved := Array.replicate 11 none
  statics := none }

def pool3 : Array CpInfo := pool [(1, .class_ 2), (0, u "java/lang/Comparable"), (0, .class_ 4), (0, u "java/lang/Object")] 7

/-- java/lang/Comparable -/
def k3 : Class := { plain "java/lang/Comparable" (some 0) with
  accessFlags := 1537
  interfaces := #[]
  cf := some (fileOf pool3 1 #[] #[] 1537 3 #[] #[])
  fields := #[]
  methods := #[]
  instanceTypes := #[]
  staticTypes := #[]
  resolved := Array.replicate 12 none
  statics := none }

def pool4 : Array CpInfo := pool [(1, .class_ 2), (0, u "java/io/Serializable"), (0, .class_ 4), (0, u "java/lang/Object")] 2

/-- java/io/Serializable -/
def k4 : Class := { plain "java/io/Serializable" (some 0) with
  accessFlags := 1537
  interfaces := #[]
  cf := some (fileOf pool4 1 #[] #[] 1537 3 #[] #[])
  fields := #[]
  methods := #[]
  instanceTypes := #[]
  staticTypes := #[]
  resolved := Array.replicate 7 none
  statics := none }

def pool5 : Array CpInfo := pool [(2, .class_ 4), (1, u "java/lang/Enum"), (0, u "name"), (0, u "Ljava/lang/String;"), (2, u "ordinal"), (0, u "I"), (1, .class_ 14), (1, u "java/lang/Object"), (4, u "hash"), (86, .class_ 108), (1, u "java/lang/Enum$EnumDesc"), (2, .class_ 112), (0, u "java/lang/constant/Constable"), (0, .class_ 114), (0, u "java/lang/Comparable"), (0, .class_ 116), (0, u "java/io/Serializable")] 87

/-- java/lang/Enum -/
def k5 : Class := { plain "java/lang/Enum" (some 0) with
  accessFlags := 1057
  interfaces := #[2, 3, 4]
  cf := some (fileOf pool5 2 #[.nestMembers #[106]] #[] 1057 12 #[111, 113, 115] #[{ accessFlags := 18, nameIndex := 5, descriptorIndex := 6, attributes := #[] }, { accessFlags := 18, nameIndex := 9, descriptorIndex := 10, attributes := #[] }, { accessFlags := 2, nameIndex := 19, descriptorIndex := 10, attributes := #[] }])
  fields := #[{ name := "name", type := (.object "java/lang/String"), accessFlags := 18, slot := 0, constantValue := 0 }, { name := "ordinal", type := .int, accessFlags := 18, slot := 1, constantValue := 0 }, { name := "hash", type := .int, accessFlags := 2, slot := 2, constantValue := 0 }]
  methods := #[]
  instanceTypes := #[(.object "java/lang/String"), .int, .int]
  staticTypes := #[]
  resolved := Array.replicate 204 none
  statics := none }

def pool6 : Array CpInfo := pool [(1, .class_ 2), (0, u "com/example/kingsbetween/kingsbetween/game/GameStatus"), (2, u "CHECKMATE"), (0, u "Lcom/example/kingsbetween/kingsbetween/game/GameStatus;"), (2, u "STALEMATE"), (2, u "INSUFFICIENT_MATERIAL"), (2, u "FIVEFOLD_REPETITION"), (2, u "SEVENTY_FIVE_MOVES"), (0, .fieldref 1 20), (0, .nameAndType 21 6), (0, u "THREEFOLD_CLAIMABLE"), (0, .fieldref 1 23), (0, .nameAndType 24 6), (0, u "FIFTY_MOVES_CLAIMABLE"), (0, .fieldref 1 26), (0, .nameAndType 27 6), (0, u "ONGOING"), (2, u "$VALUES"), (0, u "[Lcom/example/kingsbetween/kingsbetween/game/GameStatus;"), (6, .class_ 40), (1, u "java/lang/Enum"), (8, u "word"), (0, u "Ljava/lang/String;"), (2, u "endsGame"), (0, u "()Z")] 47

def k6c0 : Code := { maxStack := 2, maxLocals := 1, code := prog_21_method_5_code, exceptionTable := #[], attributes := #[] }
def k6m0 : Method := { name := "endsGame", desc := "()Z", sig := { parameters := [], returnType := some .boolean }, accessFlags := 1, code := some k6c0 }
/-- com/example/kingsbetween/kingsbetween/game/GameStatus -/
def k6 : Class := { plain "com/example/kingsbetween/kingsbetween/game/GameStatus" (some 5) with
  accessFlags := 16433
  interfaces := #[]
  cf := some (fileOf pool6 1 #[] #[{ accessFlags := 1, nameIndex := 53, descriptorIndex := 54, attributes := #[] }] 16433 38 #[] #[{ accessFlags := 16409, nameIndex := 5, descriptorIndex := 6, attributes := #[] }, { accessFlags := 16409, nameIndex := 9, descriptorIndex := 6, attributes := #[] }, { accessFlags := 16409, nameIndex := 12, descriptorIndex := 6, attributes := #[] }, { accessFlags := 16409, nameIndex := 15, descriptorIndex := 6, attributes := #[] }, { accessFlags := 16409, nameIndex := 18, descriptorIndex := 6, attributes := #[] }, { accessFlags := 16409, nameIndex := 21, descriptorIndex := 6, attributes := #[] }, { accessFlags := 16409, nameIndex := 24, descriptorIndex := 6, attributes := #[] }, { accessFlags := 16409, nameIndex := 27, descriptorIndex := 6, attributes := #[] }, { accessFlags := 18, nameIndex := 49, descriptorIndex := 50, attributes := #[] }, { accessFlags := 4122, nameIndex := 30, descriptorIndex := 31, attributes := #[] }])
  fields := #[{ name := "CHECKMATE", type := (.object "com/example/kingsbetween/kingsbetween/game/GameStatus"), accessFlags := 16409, slot := 0, constantValue := 0 }, { name := "STALEMATE", type := (.object "com/example/kingsbetween/kingsbetween/game/GameStatus"), accessFlags := 16409, slot := 1, constantValue := 0 }, { name := "INSUFFICIENT_MATERIAL", type := (.object "com/example/kingsbetween/kingsbetween/game/GameStatus"), accessFlags := 16409, slot := 2, constantValue := 0 }, { name := "FIVEFOLD_REPETITION", type := (.object "com/example/kingsbetween/kingsbetween/game/GameStatus"), accessFlags := 16409, slot := 3, constantValue := 0 }, { name := "SEVENTY_FIVE_MOVES", type := (.object "com/example/kingsbetween/kingsbetween/game/GameStatus"), accessFlags := 16409, slot := 4, constantValue := 0 }, { name := "THREEFOLD_CLAIMABLE", type := (.object "com/example/kingsbetween/kingsbetween/game/GameStatus"), accessFlags := 16409, slot := 5, constantValue := 0 }, { name := "FIFTY_MOVES_CLAIMABLE", type := (.object "com/example/kingsbetween/kingsbetween/game/GameStatus"), accessFlags := 16409, slot := 6, constantValue := 0 }, { name := "ONGOING", type := (.object "com/example/kingsbetween/kingsbetween/game/GameStatus"), accessFlags := 16409, slot := 7, constantValue := 0 }, { name := "word", type := (.object "java/lang/String"), accessFlags := 18, slot := 3, constantValue := 0 }, { name := "$VALUES", type := (.array (.object "com/example/kingsbetween/kingsbetween/game/GameStatus")), accessFlags := 4122, slot := 8, constantValue := 0 }]
  methods := #[k6m0]
  instanceTypes := #[(.object "java/lang/String"), .int, .int, (.object "java/lang/String")]
  staticTypes := #[(.object "com/example/kingsbetween/kingsbetween/game/GameStatus"), (.object "com/example/kingsbetween/kingsbetween/game/GameStatus"), (.object "com/example/kingsbetween/kingsbetween/game/GameStatus"), (.object "com/example/kingsbetween/kingsbetween/game/GameStatus"), (.object "com/example/kingsbetween/kingsbetween/game/GameStatus"), (.object "com/example/kingsbetween/kingsbetween/game/GameStatus"), (.object "com/example/kingsbetween/kingsbetween/game/GameStatus"), (.object "com/example/kingsbetween/kingsbetween/game/GameStatus"), (.array (.object "com/example/kingsbetween/kingsbetween/game/GameStatus"))]
  resolved := Array.replicate 102 none
  statics := some 0 }

def pool7 : Array CpInfo := pool [(1, u "java/lang/Cloneable"), (0, .class_ 1), (0, u "java/lang/Object"), (0, .class_ 3)] 3

/-- java/lang/Cloneable -/
def k7 : Class := { plain "java/lang/Cloneable" (some 0) with
  accessFlags := 1537
  interfaces := #[]
  cf := some (fileOf pool7 2 #[] #[] 1537 4 #[] #[])
  fields := #[]
  methods := #[]
  instanceTypes := #[]
  staticTypes := #[]
  resolved := Array.replicate 8 none
  statics := none }

/-- the primitive byte -/
def k8 : Class := { plain "byte" none with kind := .primitive 'B', accessFlags := 0x411 }
/-- [B -/
def k9 : Class := { plain "[B" (some 0) with kind := .array 8 .byte, interfaces := #[7, 4], accessFlags := 1041 }

/-- the primitive int -/
def k10 : Class := { plain "int" none with kind := .primitive 'I', accessFlags := 0x411 }
/-- [I -/
def k11 : Class := { plain "[I" (some 0) with kind := .array 10 .int, interfaces := #[7, 4], accessFlags := 1041 }

def heap : Heap := #[{ cls := 6, slots := #[.ref 1, .ref 2, .ref 3, .ref 4, .ref 5, .ref 6, .ref 7, .ref 8, .null], vm := .statics 6 },
  { cls := 6, slots := #[.null, .int 0, .int 0, .null], vm := .none },
  { cls := 6, slots := #[.null, .int 1, .int 0, .null], vm := .none },
  { cls := 6, slots := #[.null, .int 2, .int 0, .null], vm := .none },
  { cls := 6, slots := #[.null, .int 3, .int 0, .null], vm := .none },
  { cls := 6, slots := #[.null, .int 4, .int 0, .null], vm := .none },
  { cls := 6, slots := #[.null, .int 5, .int 0, .null], vm := .none },
  { cls := 6, slots := #[.null, .int 6, .int 0, .null], vm := .none },
  { cls := 6, slots := #[.null, .int 7, .int 0, .null], vm := .none }]
def classes : Array Class := #[k0, k1, k2, k3, k4, k5, k6, k7, k8, k9, k10, k11]
def interned : List (Array UInt16 × Addr) := []
def slotsUsed : Nat := 41
def theMethod : MethodId := ⟨1, 2⟩
def args0 : Array Value := #[.int 5]
def aboutOver (below : List Frame) : State where
  vm := { classes := classes, interned := interned.toArray }
  heap := heap
  slotsUsed := slotsUsed
  threads := #[{ frames := .invoking theMethod args0 :: below }]
def below0 : List Frame := [.native { method := ⟨0, 0⟩, args := #[] }]
def about1 : State := aboutOver below0
def p0 : Program := .bare "" "" ""
def e0 : Env := launch0.env 0 0 0
theorem w_frames : about1.frames = Frame.invoking theMethod args0 :: below0 := rfl
set_option maxRecDepth 65536 in
theorem w_args : argsFit about1.vm theMethod args0 = true := by decide +kernel
set_option maxRecDepth 65536 in
theorem w_heap : heapFits about1 = true := by decide +kernel
set_option maxRecDepth 65536 in
theorem w_runnable : about1.curStatus? = some .runnable := by decide +kernel
set_option maxRecDepth 65536 in
theorem w_alone : about1.alone = true := by decide +kernel
set_option maxRecDepth 65536 in
theorem w_named : about1.methodNamed? x = some theMethod := by decide +kernel
set_option maxRecDepth 65536 in
theorem w_hears : about1.hears theMethod below0 = true := by decide +kernel
set_option maxRecDepth 65536 in
theorem w_ripe : about1.ripe theMethod args0 below0 = true := by decide +kernel
theorem w_running : about1.status = .running := rfl
set_option maxRecDepth 65536 in
theorem w_room : about1.hasRoom e0.platform room_1 = true :=
  launch0.hasRoom_least _ room_1 (by decide +kernel) (by decide +kernel) (by decide +kernel) (by decide +kernel) (by decide +kernel) (by decide +kernel)
theorem allAtoms_all (ts : List Jvm.Cond) (a : Array Jvm.Value) (st : Jvm.State) : (allAtoms ts).before a st = ts.all (fun c => c.before a st) := by
  induction ts with
  | nil => rfl
  | cons c t ih =>
    show (Jvm.Cond.and c (allAtoms t)).before a st = _
    rw [Jvm.Cond.before_and, ih, List.all_cons]
def words1 : List Jvm.Cond := Jvm.Cond.code x code maxLocals ret :: tables_1
/-- a 'code' word, met by the world's own term for the bytes: nothing is compared byte by byte -/
theorem code_word {y : MethodName} {bytes : ByteArray} {mx : Nat} {rt : Option FieldType} {a : Array Value} {s : State} {m : MethodId} {meth : Method} {c : Code} (h1 : s.methodNamed? y = some m) (h2 : s.vm.method? m = some meth) (h3 : meth.code = some c) (h4 : c.code = bytes)
    (h5 : (c.maxLocals == mx && c.exceptionTable.isEmpty && decide (c.maxStack ≤ mostOperands) && decide (meth.sig.returnType = rt) && !meth.locks && decide (parseMethodDescriptor y.desc = some meth.sig)) = true) : (Jvm.Cond.code y bytes mx rt).before a s = true := by
  simp only [Bool.and_eq_true, beq_iff_eq, Bool.not_eq_true', decide_eq_true_eq] at h5
  obtain ⟨⟨⟨⟨⟨g1, g2⟩, g3⟩, g4⟩, g5⟩, g6⟩ := h5
  simp [Cond.before, Cond.holds, Cond.value, h1, h2, h3, h4, g1, g2, g3, g4, g5, g6]
def isCode : Jvm.Cond → Bool
  | .code _ _ _ _ => true
  | _ => false
theorem all_split {L : List Jvm.Cond} {P : Jvm.Cond → Bool} (h1 : L.all (fun c => isCode c || P c) = true) (h2 : ∀ c ∈ L.filter isCode, P c = true) : L.all P = true := by
  refine List.all_eq_true.mpr fun c hc => ?_
  have h := List.all_eq_true.mp h1 c hc
  rcases Bool.eq_false_or_eq_true (isCode c) with hi | hi
  · exact h2 c (List.mem_filter.mpr ⟨hc, hi⟩)
  · simpa [hi] using h
set_option maxRecDepth 65536 in
theorem w_c0 : (Jvm.Cond.code x code maxLocals ret).before args0 about1 = true := code_word (m := ⟨1, 2⟩) (meth := k1m2) (c := k1c2) (by decide +kernel) rfl rfl rfl (by decide +kernel)
set_option maxRecDepth 65536 in
theorem w_c1 : (Jvm.Cond.code ({ cls := "com/example/kingsbetween/kingsbetween/game/GameStatusEndsGamePinLaw", name := "pick", desc := "(I)Lcom/example/kingsbetween/kingsbetween/game/GameStatus;" } : Jvm.MethodName) method_2_code (1 : Nat) (Option.some (Jvm.ClassFile.FieldType.object "com/example/kingsbetween/kingsbetween/game/GameStatus"))).before args0 about1 = true := code_word (m := ⟨1, 1⟩) (meth := k1m1) (c := k1c1) (by decide +kernel) rfl rfl rfl (by decide +kernel)
set_option maxRecDepth 65536 in
theorem w_c2 : (Jvm.Cond.code ({ cls := "com/example/kingsbetween/kingsbetween/game/GameStatus", name := "endsGame", desc := "()Z" } : Jvm.MethodName) prog_21_method_5_code (1 : Nat) (Option.some Jvm.ClassFile.FieldType.boolean)).before args0 about1 = true := code_word (m := ⟨6, 0⟩) (meth := k6m0) (c := k6c0) (by decide +kernel) rfl rfl rfl (by decide +kernel)
def codes1 : List Jvm.Cond := [Jvm.Cond.code x code maxLocals ret, Jvm.Cond.code ({ cls := "com/example/kingsbetween/kingsbetween/game/GameStatusEndsGamePinLaw", name := "pick", desc := "(I)Lcom/example/kingsbetween/kingsbetween/game/GameStatus;" } : Jvm.MethodName) method_2_code (1 : Nat) (Option.some (Jvm.ClassFile.FieldType.object "com/example/kingsbetween/kingsbetween/game/GameStatus")), Jvm.Cond.code ({ cls := "com/example/kingsbetween/kingsbetween/game/GameStatus", name := "endsGame", desc := "()Z" } : Jvm.MethodName) prog_21_method_5_code (1 : Nat) (Option.some Jvm.ClassFile.FieldType.boolean)]
set_option maxRecDepth 65536 in
theorem codes_eq : words1.filter isCode = codes1 := rfl
theorem w_codes : ∀ c ∈ words1.filter isCode, c.before args0 about1 = true := by
  rw [codes_eq]
  intro c hc
  simp only [codes1, List.mem_cons, List.not_mem_nil, or_false] at hc
  rcases hc with rfl | rfl | rfl
  · exact w_c0
  · exact w_c1
  · exact w_c2
set_option maxRecDepth 65536 in
theorem w_t1 : (words1.take 24).all (fun c => isCode c || c.before args0 about1) = true := by decide +kernel
set_option maxRecDepth 65536 in
theorem w_t2 : (words1.drop 24).all (fun c => isCode c || c.before args0 about1) = true := by decide +kernel
theorem w_tables : (allAtoms (Jvm.Cond.code x code maxLocals ret :: tables_1)).before args0 about1 = true := by
  rw [allAtoms_all]
  show words1.all (fun c => c.before args0 about1) = true
  refine all_split ?_ w_codes
  rw [← List.take_append_drop 24 words1, List.all_append, w_t1, w_t2]
  rfl
set_option maxRecDepth 65536 in
theorem w_case : (Jvm.Cond.and given_1 narrow_1).before args0 about1 = true := by decide +kernel
theorem w_applies : (headSpec (Jvm.Cond.code x code maxLocals ret :: tables_1) room_1).applies x e0.platform about1 = true :=
  (Spec.applies_iff w_frames).mpr ⟨w_running, w_runnable, w_alone, w_named, w_hears, w_ripe, w_room, w_tables⟩
theorem atStart : AtStart classFile x code maxLocals ret World_1 tables_1 room_1 Calls_1 rest_1 Pre_1 launch0 p0 e0 about1 theMethod args0 below0 :=
  ⟨lists_1, trivial, launch0.admits_env _ _ _, launch0.least_env, fairChoices_fair.cas, fairChoices_fair.clock, w_frames, w_args, w_heap, w_applies, trivial, trivial, w_case⟩
end start1
theorem witness_1 : WitnessClaimed_1 := ⟨start1.p0, start1.e0, start1.about1, start1.theMethod, start1.args0, start1.below0, start1.atStart⟩
end Jvm.Pilot.@@N@@
