import JvmDerived
import JvmDerived.Pilot.@@N@@Statement
import JvmDerived.Pilot.@@N@@Code
set_option linter.unusedVariables false
set_option linter.unusedSimpArgs false
namespace Jvm.RoadKit
open Sem ClassFile Op Lib Jvm.Stand Jvm.Free Jvm.LawKit
section New
variable {p : Program} {l : Launch} {e : Env} {R : Room} {s : State} {m : MethodId} {args : Array Value} {below : List Frame} {meth : Method} {c : Code} {T : State} {locs : List Loc} {cells slots : Nat}
theorem retI (X : Stand p l e R s m args below meth c T locs cells slots) (hx : p.tables.exec = Jvm.exec) {pc : Nat} {Ls : Array Slot} {z : Int32} {rest : List Value} (hret : meth.sig.returnType = some .int) (hd : decode c.code pc = .ok (.ireturn, 1)) {fs : List Frame}
    (hl : ∀ (f : JFrame) (acts : List Action), f.method = m → f.locked = none → f.entered = [] → (doReturn e (T.setTop f) acts (some (.int z))).1 = T.setFrames fs) : Steps p.tables e below (T.setTop (mkF m pc Ls (.int z :: rest))) (T.setFrames fs) := by
  have hm' : T.vm.method? m = some meth := X.method'
  have hn : narrow .int (.int z) = .int z := rfl
  show Steps p.tables e below (T.setTop { method := m, pc := pc, locals := Ls, stack := _ :: rest, locked := none }) _
  jvm_step X.here [X.here.top, hx, hd, hm', hret, hn]
  first | (intro acts; rw [hl _ acts rfl rfl rfl]) | rw [hl _ _ rfl rfl rfl]
  exact Steps.refl _
end New
end Jvm.RoadKit
namespace Jvm.Pilot.@@N@@
open Jvm Jvm.ClassFile Sem Op Lib Jvm.Free Jvm.Stand Jvm.LawKit Jvm.RoadKit Bundle Jvm.Pilot.@@N@@.Jvm.D
def own_Goes (p : Program) (e : Env) (below : List Frame) (S : State) (K : State → Outcome → Prop) : Prop := ∃ s₂ o, Steps p.tables e below S s₂ ∧ s₂.status = .running ∧ Ended s₂ below o ∧ K s₂ o
theorem own_of {p : Program} {e : Env} {below : List Frame} {S S' : State} {K : State → Outcome → Prop} (k : ∀ t, Steps p.tables e below S' t → Steps p.tables e below S t) (h : own_Goes p e below S' K) : own_Goes p e below S K := by
  obtain ⟨t, o, h1, h2⟩ := h
  exact ⟨t, o, k t h1, h2⟩
theorem own_nameK {p : Program} {e : Env} {below : List Frame} {S : State} {K' : State → Outcome → Prop} (h : ∀ K, K = K' → own_Goes p e below S K) : own_Goes p e below S K' := h K' rfl
theorem own_nar {g : Int32} (h : g = (0 : Int32) ∨ g = (1 : Int32)) : nar .boolean g = g := by rcases h with rfl | rfl <;> rfl
theorem own_narV {g : Int32} (h : g = (0 : Int32) ∨ g = (1 : Int32)) : narrow .boolean (.int g) = .int g := by rcases h with rfl | rfl <;> rfl
theorem own_fitsZ {g : Int32} (h : g = (0 : Int32) ∨ g = (1 : Int32)) : fits .boolean (.int g) = true := by rcases h with rfl | rfl <;> rfl
theorem own_cat {v : Value} (h : v.isRef = true) : v.category = 1 := by
  rcases ref_cases h with rfl | ⟨a, rfl⟩ <;> rfl
theorem own_eqI {args : Array Value} {s : State} {t : Term} {k : Int32} (h : (Jvm.Cond.eq t (.int k)).value args s none s [] = some true) : t.eval args s none [] s = some (.int k) := by
  simp only [Cond.value, Term.eval] at h
  cases ht : t.eval args s none [] s with
  | none => simp [ht] at h
  | some x => cases x <;> simp [ht] at h ⊢; exact h
theorem own_eqL {args : Array Value} {s : State} {t : Term} {k : Int64} (h : (Jvm.Cond.eq t (.long k)).value args s none s [] = some true) : t.eval args s none [] s = some (.long k) := by
  simp only [Cond.value, Term.eval] at h
  cases ht : t.eval args s none [] s with
  | none => simp [ht] at h
  | some x => cases x <;> simp [ht] at h ⊢; exact h
def own_Ar (Z : State) (h : Heap) (a : Addr) (ty : FieldType) (n : Nat) (f : Nat → Value) : Prop := ∃ c : Cell, Arr Z h a c ty ∧ c.slots.size = n ∧ ∀ i, i < n → c.slots[i]? = some (f i)
section OwnArr
variable {Z : State} {h h' : Heap} {a b : Addr} {ty : FieldType} {n sl : Nat} {f : Nat → Value} {v : Value} {ws : List Addr}
theorem own_Ar.lt (F : own_Ar Z h a ty n f) : a < h.size := by obtain ⟨c, A, -⟩ := F; exact A.lt
theorem own_Ar.ext (F : own_Ar Z h a ty n f) (E : Ext h h') : own_Ar Z h' a ty n f := by obtain ⟨c, A, r⟩ := F; exact ⟨c, A.ext E, r⟩
theorem own_Ar.other (F : own_Ar Z h b ty n f) (W : Wr h h' a sl v) (q : b ≠ a) : own_Ar Z h' b ty n f := by obtain ⟨c, A, r⟩ := F; exact ⟨c, A.other W q, r⟩
theorem own_Ar.keep (F : own_Ar Z h a ty n f) (K : Keep h h' ws) (q : a ∉ ws) : own_Ar Z h' a ty n f := by obtain ⟨c, A, r⟩ := F; exact ⟨c, ⟨K.2.1 a c A.1 q, A.2⟩, r⟩
theorem own_Ar.new {k : ClassId} {z : Int32} (A : Arr Z h a (newA k ty z) ty) (q : ¬ z < 0) (e : z.toNatClampNeg = n) : own_Ar Z h a ty n (fun _ => defaultValue ty) := by
  obtain ⟨c, A', r1, r2, r3, H, G⟩ := Arv.new A q
  refine ⟨c, A', r2.trans e, fun i hi => ?_⟩
  rw [H i (by rw [r2, e]; exact hi)]
  simp
theorem own_Ar.upd {c : Cell} (A : Arr Z h a c ty) (S : c.slots.size = n) (H : ∀ i, i < n → c.slots[i]? = some (f i)) (hj : sl < n) (W : Wr h h' a sl v) : own_Ar Z h' a ty n (fun i => if i = sl then v else f i) := by
  refine ⟨_, A.same W, by simp [Cell.setSlot, S], fun i hi => ?_⟩
  by_cases q : i = sl
  · subst q
    simp [Cell.setSlot, S, hj]
  · simp only [q, if_false]
    rw [← H i hi]
    show (c.slots.setIfInBounds sl v)[i]? = _
    rw [Array.getElem?_setIfInBounds_ne (fun e => q e.symm)]
def own_nst (h : Heap) (x : Addr) : Prop := ∃ c : Cell, h[x]? = some c ∧ c.vm.isStatics = false
theorem own_nstE {C : String} (E : Exa Z h a C) : own_nst h a := by obtain ⟨c, _, h1, -, -, h4, -⟩ := E; exact ⟨c, h1, h4⟩
theorem own_nstA (F : own_Ar Z h a ty n f) : own_nst h a := by obtain ⟨c, A, -⟩ := F; exact ⟨c, A.1, A.plain⟩
theorem own_staK {C k d : String} (F : Sta Z h C k d v) (K : Keep h h' ws) (q : ∀ x ∈ ws, own_nst h x) : Sta Z h' C k d v := by
  obtain ⟨cf, i, k, fd, st, cell, h1, h2, h3, h4, h5, h6, h7⟩ := F
  refine ⟨cf, i, k, fd, st, cell, h1, h2, h3, h4, K.2.1 _ _ h5 fun hm => ?_, h6, h7⟩
  obtain ⟨c, e1, e2⟩ := q _ hm
  cases h5.symm.trans e1
  rw [h6] at e2; cases e2
theorem own_since0 {s : State} : s.Since s.vm 0 := (State.WarmedH.refl s).since 0
theorem own_inb {c : Cell} {j : Int32} (S : c.slots.size = n) (q : ¬ j < 0) (r : j.toNatClampNeg < n) : ¬ (j < 0 ∨ c.slots.size ≤ j.toNatClampNeg) := fun u => u.elim q (fun w => by omega)
end OwnArr
section OwnSteps
variable {p : Program} {l : Launch} {e : Env} {R : Room} {s : State} {m : MethodId} {args : Array Value} {below : List Frame} {meth : Method} {c : Code} {T : State} {locs : List Loc} {cells slots : Nat} {Z : State} {h : Heap}
theorem own_stI (X : Stand p l e R s m args below meth c T locs cells slots) (hx : p.tables.exec = Jvm.exec) (hZ : Z.Warmed39 s.vm) (eT : T.heap = h) {a : Addr} {n : Nat} {f : Nat → Value} (F : own_Ar Z h a .int n f) {j x : Int32} (q : ¬ j < 0) (r : j.toNatClampNeg < n) {g : JFrame} (hg : g.method = m) {rest : List Value} (hs : g.stack = .int x :: .int j :: .ref a :: rest) (hd : decode c.code g.pc = .ok (.iastore, 1)) :
    ∃ T' h' L', Stand p l e R s m args below meth c T' L' cells slots ∧ T'.heap = h' ∧ Wr h h' a j.toNatClampNeg (.int x) ∧ own_Ar Z h' a .int n (fun i => if i = j.toNatClampNeg then .int x else f i) ∧ (∀ k, Fr k locs → k ≤ a → Fr k L') ∧ ∀ target, Steps p.tables e below (T'.setTop { g with pc := g.pc + 1, stack := rest }) target → Steps p.tables e below (T.setTop g) target := by
  obtain ⟨cl, A, S, H⟩ := F
  obtain ⟨T', h', X', e', W, st⟩ := stI X hx hZ eT A (j := j) (own_inb S q r) hg hs hd
  exact ⟨T', h', _, X', e', W, own_Ar.upd A S H r W, fun k N q => Fr.snoc X' N q, st⟩
theorem own_stB (X : Stand p l e R s m args below meth c T locs cells slots) (hx : p.tables.exec = Jvm.exec) (hZ : Z.Warmed39 s.vm) (eT : T.heap = h) {a : Addr} {n : Nat} {f : Nat → Value} (F : own_Ar Z h a .byte n f) {j x : Int32} (q : ¬ j < 0) (r : j.toNatClampNeg < n) {g : JFrame} (hg : g.method = m) {rest : List Value} (hs : g.stack = .int x :: .int j :: .ref a :: rest) (hd : decode c.code g.pc = .ok (.bastore, 1)) :
    ∃ T' h' L', Stand p l e R s m args below meth c T' L' cells slots ∧ T'.heap = h' ∧ Wr h h' a j.toNatClampNeg (.int (nar .byte x)) ∧ own_Ar Z h' a .byte n (fun i => if i = j.toNatClampNeg then .int (nar .byte x) else f i) ∧ (∀ k, Fr k locs → k ≤ a → Fr k L') ∧ ∀ target, Steps p.tables e below (T'.setTop { g with pc := g.pc + 1, stack := rest }) target → Steps p.tables e below (T.setTop g) target := by
  obtain ⟨cl, A, S, H⟩ := F
  obtain ⟨T', h', X', e', W, st⟩ := stB X hx hZ eT A (j := j) (own_inb S q r) hg hs hd
  exact ⟨T', h', _, X', e', W, own_Ar.upd A S H r W, fun k N q => Fr.snoc X' N q, st⟩
theorem own_ldI (X : Stand p l e R s m args below meth c T locs cells slots) (hx : p.tables.exec = Jvm.exec) (hZ : Z.Warmed39 s.vm) (eT : T.heap = h) {a : Addr} {n : Nat} {f : Nat → Value} (F : own_Ar Z h a .int n f) {j y : Int32} (q : ¬ j < 0) (r : j.toNatClampNeg < n) (hy : f j.toNatClampNeg = .int y) {g : JFrame} (hg : g.method = m) {rest : List Value} (hs : g.stack = .int j :: .ref a :: rest) (hd : decode c.code g.pc = .ok (.iaload, 1)) (target : State) (k : Steps p.tables e below (T.setTop { g with pc := g.pc + 1, stack := .int y :: rest }) target) : Steps p.tables e below (T.setTop g) target := by
  obtain ⟨cl, A, S, H⟩ := F
  exact X.iaload hx (j := j) (v := .int y) (by rw [eT]; exact A.1) (State.isArrayOf_alike hZ.alike A.2.1) A.2.2 (own_inb S q r) (by rw [H _ r, hy]) hg hs hd _ k
theorem own_ldB (X : Stand p l e R s m args below meth c T locs cells slots) (hx : p.tables.exec = Jvm.exec) (hZ : Z.Warmed39 s.vm) (eT : T.heap = h) {a : Addr} {n : Nat} {f : Nat → Value} (F : own_Ar Z h a .byte n f) {j y : Int32} (q : ¬ j < 0) (r : j.toNatClampNeg < n) (hy : f j.toNatClampNeg = .int y) {g : JFrame} (hg : g.method = m) {rest : List Value} (hs : g.stack = .int j :: .ref a :: rest) (hd : decode c.code g.pc = .ok (.baload, 1)) (target : State) (k : Steps p.tables e below (T.setTop { g with pc := g.pc + 1, stack := .int y :: rest }) target) : Steps p.tables e below (T.setTop g) target := by
  obtain ⟨cl, A, S, H⟩ := F
  exact X.baloadBytes hx (j := j) (v := .int y) (by rw [eT]; exact A.1) (State.isArrayOf_alike hZ.alike A.2.1) A.2.2 (own_inb S q r) (by rw [H _ r, hy]) hg hs hd _ k
theorem own_ldA (X : Stand p l e R s m args below meth c T locs cells slots) (hx : p.tables.exec = Jvm.exec) (hZ : Z.Warmed39 s.vm) (eT : T.heap = h) {a : Addr} {n : Nat} {ty : FieldType} {f : Nat → Value} (F : own_Ar Z h a ty n f) (ht : ty.isReference = true) {j : Int32} {y : Value} (q : ¬ j < 0) (r : j.toNatClampNeg < n) (hy : f j.toNatClampNeg = y) {g : JFrame} (hg : g.method = m) {rest : List Value} (hs : g.stack = .int j :: .ref a :: rest) (hd : decode c.code g.pc = .ok (.aaload, 1)) (target : State) (k : Steps p.tables e below (T.setTop { g with pc := g.pc + 1, stack := y :: rest }) target) : Steps p.tables e below (T.setTop g) target := by
  obtain ⟨cl, A, S, H⟩ := F
  exact X.aaload hx (j := j) (v := y) (by rw [eT]; exact A.1) (State.isArrayOf_alike hZ.alike A.2.1) ht A.2.2 (own_inb S q r) (by rw [H _ r, hy]) hg hs hd _ k
theorem own_len (X : Stand p l e R s m args below meth c T locs cells slots) (hx : p.tables.exec = Jvm.exec) (hZ : Z.Warmed39 s.vm) (eT : T.heap = h) {a : Addr} {n : Nat} {ty : FieldType} {f : Nat → Value} (F : own_Ar Z h a ty n f) {z : Int32} (hz : n.toInt32 = z) {g : JFrame} (hg : g.method = m) {rest : List Value} (hs : g.stack = .ref a :: rest) (hd : decode c.code g.pc = .ok (.arraylength, 1)) (target : State) (k : Steps p.tables e below (T.setTop { g with pc := g.pc + 1, stack := .int z :: rest }) target) : Steps p.tables e below (T.setTop g) target := by
  obtain ⟨cl, A, S, H⟩ := F
  exact X.arraylength hx (by rw [eT]; exact A.1) (State.isArrayOf_alike hZ.alike A.2.1) hg hs hd _ (by rw [S, hz]; exact k)
end OwnSteps
def own_op (k : Int32) (w_BIND w_UNBIND w_SEARCH w_MODIFY w_ADD w_DELETE w_MODIFY_DN w_COMPARE w_ABANDON w_EXTENDED : Addr) : Value := if k = (96 : Int32) then .ref w_BIND else if k = (66 : Int32) then .ref w_UNBIND else if k = (99 : Int32) then .ref w_SEARCH else if k = (102 : Int32) then .ref w_MODIFY else if k = (104 : Int32) then .ref w_ADD else if k = (74 : Int32) then .ref w_DELETE else if k = (108 : Int32) then .ref w_MODIFY_DN else if k = (110 : Int32) then .ref w_COMPARE else if k = (80 : Int32) then .ref w_ABANDON else if k = (119 : Int32) then .ref w_EXTENDED else .null
theorem own_opR (k : Int32) (w_BIND w_UNBIND w_SEARCH w_MODIFY w_ADD w_DELETE w_MODIFY_DN w_COMPARE w_ABANDON w_EXTENDED : Addr) : (own_op k w_BIND w_UNBIND w_SEARCH w_MODIFY w_ADD w_DELETE w_MODIFY_DN w_COMPARE w_ABANDON w_EXTENDED).isRef = true := by
  unfold own_op
  repeat' split
  all_goals rfl
def own_AllI (f : Nat → Value) : Prop := ∀ i, ∃ y : Int32, f i = .int y
theorem own_AllI_upd {f f' : Nat → Value} {j : Nat} {x : Int32} (q : f' = (fun i => if i = j then .int x else f i)) (h : own_AllI f) : own_AllI f' := by
  intro i
  rw [q]
  by_cases e : i = j
  · exact ⟨x, if_pos e⟩
  · obtain ⟨y, hy⟩ := h i
    exact ⟨y, (if_neg e).trans hy⟩
theorem own_idx (p : Int32) : ¬ (((p.toUInt32 >>> ((2 : Int32) &&& 31).toUInt32).toInt32) % (24 : Int32)) < 0 ∧ (((p.toUInt32 >>> ((2 : Int32) &&& 31).toUInt32).toInt32) % (24 : Int32)).toNatClampNeg < 24 := by
  have h1 := c_iushr p (2 : Int32) 2 (by decide) (by decide)
  have h2 := c_irem ((p.toUInt32 >>> ((2 : Int32) &&& 31).toUInt32).toInt32) (24 : Int32) 24 (by decide)
  generalize ((p.toUInt32 >>> ((2 : Int32) &&& 31).toUInt32).toInt32) = x at h1 h2 ⊢
  have h3 : (0 : Int32).toInt = 0 := by decide
  have h4 : (x % (24 : Int32)).toNatClampNeg = (x % (24 : Int32)).toInt.toNat := rfl
  rw [Int32.lt_iff_toInt_lt, h3, h4]
  have h5 := h2.1 (by omega)
  omega
theorem own_eqR {args : Array Value} {s : State} {a b : Term} {w : Addr} (h : (Jvm.Cond.eq a b).value args s none s [] = some true) (hb : b.eval args s none [] s = some (.ref w)) : a.eval args s none [] s = some (.ref w) := by
  simp only [Cond.value, hb] at h
  cases ha : a.eval args s none [] s with
  | none => simp [ha] at h
  | some x => cases x <;> simp [ha] at h ⊢; exact h
theorem own_size {args : Array Value} {s : State} {t : Term} {a : Addr} {cl : Cell} (h : (Term.length t).eval args s none [] s = some (.int (10 : Int32))) (ht : t.eval args s none [] s = some (.ref a)) (hc : s.heap[a]? = some cl) : cl.slots.size = 10 := by
  obtain ⟨a', c', e1, e2, e3⟩ := Term.length_spec h
  cases ht.symm.trans e1
  have e4 := (State.arrayAt?_spec e2).1
  cases hc.symm.trans e4
  have hf : cl.slots.size < 2 ^ 31 := by
    by_cases hs : cl.slots.size < 2 ^ 31
    · exact hs
    · exfalso
      simp only [Term.eval, ht, Option.bind_eq_bind, Option.bind_some, e2, if_neg hs] at h
      cases h
  have q := len_toInt hf
  rw [← Value.int.inj e3] at q
  have q2 : (10 : Int32).toInt = 10 := by decide
  omega
theorem d1_0 : decode prog_71_method_6_code 0 = .ok (.getstatic 64, 3) := by decide +kernel
theorem d1_3 : decode prog_71_method_6_code 3 = .ok (.astore_n 1, 1) := by decide +kernel
theorem d1_4 : decode prog_71_method_6_code 4 = .ok (.aload_n 1, 1) := by decide +kernel
theorem d1_5 : decode prog_71_method_6_code 5 = .ok (.arraylength, 1) := by decide +kernel
theorem d1_6 : decode prog_71_method_6_code 6 = .ok (.istore_n 2, 1) := by decide +kernel
theorem d1_7 : decode prog_71_method_6_code 7 = .ok (.iconst 0, 1) := by decide +kernel
theorem d1_8 : decode prog_71_method_6_code 8 = .ok (.istore_n 3, 1) := by decide +kernel
theorem d1_9 : decode prog_71_method_6_code 9 = .ok (.iload_n 3, 1) := by decide +kernel
theorem d1_10 : decode prog_71_method_6_code 10 = .ok (.iload_n 2, 1) := by decide +kernel
theorem d1_11 : decode prog_71_method_6_code 11 = .ok (.if_icmp .ge 26, 3) := by decide +kernel
theorem d1_14 : decode prog_71_method_6_code 14 = .ok (.aload_n 1, 1) := by decide +kernel
theorem d1_15 : decode prog_71_method_6_code 15 = .ok (.iload_n 3, 1) := by decide +kernel
theorem d1_16 : decode prog_71_method_6_code 16 = .ok (.aaload, 1) := by decide +kernel
theorem d1_17 : decode prog_71_method_6_code 17 = .ok (.astore 4, 2) := by decide +kernel
theorem d1_19 : decode prog_71_method_6_code 19 = .ok (.aload 4, 2) := by decide +kernel
theorem d1_21 : decode prog_71_method_6_code 21 = .ok (.getfield 53, 3) := by decide +kernel
theorem d1_24 : decode prog_71_method_6_code 24 = .ok (.iload_n 0, 1) := by decide +kernel
theorem d1_25 : decode prog_71_method_6_code 25 = .ok (.if_icmp .ne 6, 3) := by decide +kernel
theorem d1_28 : decode prog_71_method_6_code 28 = .ok (.aload 4, 2) := by decide +kernel
theorem d1_30 : decode prog_71_method_6_code 30 = .ok (.areturn, 1) := by decide +kernel
theorem d1_31 : decode prog_71_method_6_code 31 = .ok (.iinc 3 1, 3) := by decide +kernel
theorem d1_34 : decode prog_71_method_6_code 34 = .ok (.goto (-25), 3) := by decide +kernel
theorem d1_37 : decode prog_71_method_6_code 37 = .ok (.aconst_null, 1) := by decide +kernel
theorem d1_38 : decode prog_71_method_6_code 38 = .ok (.areturn, 1) := by decide +kernel
theorem pn_1 : plainName "com/example/waypost/waypost/ldap/Operation" = true := by first | (simp [plainName, overriddenIn]; done) | decide +kernel
theorem ef_1 (m : MethodId) (p1 : Int32) : entryFrame m #[(.int p1)] 5 = mkF m 0 #[.val (.int p1), .unset, .unset, .unset, .unset] [] := by first | (simp [entryFrame, mkF, argsToLocals, Value.category]; done) | rfl
def Q1 (Z : State) (p1 : Int32) (wall : Addr) (w_BIND : Addr) (w_UNBIND : Addr) (w_SEARCH : Addr) (w_MODIFY : Addr) (w_ADD : Addr) (w_DELETE : Addr) (w_MODIFY_DN : Addr) (w_COMPARE : Addr) (w_ABANDON : Addr) (w_EXTENDED : Addr) (h0 : Heap) (n0 : Nat) (v : Option Value) (h : Heap) (L : List Loc) : Prop := (v = some (own_op p1 w_BIND w_UNBIND w_SEARCH w_MODIFY w_ADD w_DELETE w_MODIFY_DN w_COMPARE w_ABANDON w_EXTENDED)) ∧ (Fr n0 L) ∧ (h = h0)
set_option maxRecDepth 65536 in
set_option maxHeartbeats 40000000 in
theorem rm1 (l : Launch) (Z : State) (a0 : Array Value) (hw : ∀ d ∈ tables_1, d.before a0 Z = true) (ws : List Jvm.Cond) (p1 : Int32) (wall : Addr) (w_BIND : Addr) (w_UNBIND : Addr) (w_SEARCH : Addr) (w_MODIFY : Addr) (w_ADD : Addr) (w_DELETE : Addr) (w_MODIFY_DN : Addr) (w_COMPARE : Addr) (w_ABANDON : Addr) (w_EXTENDED : Addr) (h0 : Heap) (n0 : Nat) (Z0 : n0 ≤ h0.size) (S_ALL : Sta Z h0 "com/example/waypost/waypost/ldap/Operation" "ALL" "[Lcom/example/waypost/waypost/ldap/Operation;" (.ref wall)) (V_wall : own_Ar Z h0 wall (.object "com/example/waypost/waypost/ldap/Operation") 10 (fun i => ([.ref w_BIND, .ref w_UNBIND, .ref w_SEARCH, .ref w_MODIFY, .ref w_ADD, .ref w_DELETE, .ref w_MODIFY_DN, .ref w_COMPARE, .ref w_ABANDON, .ref w_EXTENDED] : List Value).getD i .null)) (F_requestTag_w_BIND : Fld Z h0 w_BIND "com/example/waypost/waypost/ldap/Operation" "requestTag" "I" (.int (96 : Int32))) (F_requestTag_w_UNBIND : Fld Z h0 w_UNBIND "com/example/waypost/waypost/ldap/Operation" "requestTag" "I" (.int (66 : Int32))) (F_requestTag_w_SEARCH : Fld Z h0 w_SEARCH "com/example/waypost/waypost/ldap/Operation" "requestTag" "I" (.int (99 : Int32))) (F_requestTag_w_MODIFY : Fld Z h0 w_MODIFY "com/example/waypost/waypost/ldap/Operation" "requestTag" "I" (.int (102 : Int32))) (F_requestTag_w_ADD : Fld Z h0 w_ADD "com/example/waypost/waypost/ldap/Operation" "requestTag" "I" (.int (104 : Int32))) (F_requestTag_w_DELETE : Fld Z h0 w_DELETE "com/example/waypost/waypost/ldap/Operation" "requestTag" "I" (.int (74 : Int32))) (F_requestTag_w_MODIFY_DN : Fld Z h0 w_MODIFY_DN "com/example/waypost/waypost/ldap/Operation" "requestTag" "I" (.int (108 : Int32))) (F_requestTag_w_COMPARE : Fld Z h0 w_COMPARE "com/example/waypost/waypost/ldap/Operation" "requestTag" "I" (.int (110 : Int32))) (F_requestTag_w_ABANDON : Fld Z h0 w_ABANDON "com/example/waypost/waypost/ldap/Operation" "requestTag" "I" (.int (80 : Int32))) (F_requestTag_w_EXTENDED : Fld Z h0 w_EXTENDED "com/example/waypost/waypost/ldap/Operation" "requestTag" "I" (.int (119 : Int32))) :
    MetFree l (⟨"com/example/waypost/waypost/ldap/Operation", "of", "(I)Lcom/example/waypost/waypost/ldap/Operation;"⟩ : MethodName) (head1 (Jvm.Cond.code (⟨"com/example/waypost/waypost/ldap/Operation", "of", "(I)Lcom/example/waypost/waypost/ldap/Operation;"⟩ : MethodName) prog_71_method_6_code 5 (some (.object "com/example/waypost/waypost/ldap/Operation")) :: ws) ({ frames := 0, cells := 0, slots := 0, locals := 0 } : Room)) (fun a U => a = #[(.int p1)] ∧ Z.Warmed39 U.vm ∧ U.heap = h0) (fun _ _ _ _ _ => True) (fun _ U o U' => ∃ v L, o = .returned v ∧ Q1 Z p1 wall w_BIND w_UNBIND w_SEARCH w_MODIFY w_ADD w_DELETE w_MODIFY_DN w_COMPARE w_ABANDON w_EXTENDED h0 n0 v U'.heap L ∧ FrameEnd U o U' L ({ frames := 0, cells := 0, slots := 0, locals := 0 } : Room).cells ({ frames := 0, cells := 0, slots := 0, locals := 0 } : Room).slots) := by
  refine MetFree.of_bodySF (plainFor_of_name pn_1) hisR ?_
  intro p e s m args below meth c s₁ Bd hml0 hP hK
  obtain ⟨rfl, hZ, hh⟩ := hP
  have hx := Bd.exec
  have hby := Bd.bytes
  have hml : c.maxLocals = 5 := hml0
  have hown : s.vm.findClass "com/example/waypost/waypost/ldap/Operation" = some m.cls := findClass_of_methodNamed Bd.named
  have hnm := (name_of_methodNamed Bd.named Bd.method).1
  have X0 : Stand p l e ({ frames := 0, cells := 0, slots := 0, locals := 0 } : Room) s m #[(.int p1)] below meth c s₁ [] 0 0 := Stand.of_body Bd
  have e0 : s₁.heap = h0 := by rw [← hh, Bd.state]; rfl
  have N0 := Fr.nil n0
  refine own_of (S := s₁.setTop (entryFrame m #[(.int p1)] 5)) (S' := s₁.setTop (mkF m 0 #[.val (.int p1), .unset, .unset, .unset, .unset] [])) (K := fun s₂ o => ∃ v L, o = .returned v ∧ Q1 Z p1 wall w_BIND w_UNBIND w_SEARCH w_MODIFY w_ADD w_DELETE w_MODIFY_DN w_COMPARE w_ABANDON w_EXTENDED h0 n0 v s₂.heap L ∧ FrameEnd s o s₂ L ({ frames := 0, cells := 0, slots := 0, locals := 0 } : Room).cells ({ frames := 0, cells := 0, slots := 0, locals := 0 } : Room).slots) (fun t k => castTop (ef_1 m p1) k) ?_
  refine own_nameK fun K hKd => ?_
  obtain ⟨T1, X1, e1, st1⟩ := getS2 X0 hx hZ hown (host := "") (Or.inl (hw _ (List.mem_of_getElem? (i := 5) rfl))) Via.refl e0 S_ALL (g := (mkF m 0 #[.val (.int p1), .unset, .unset, .unset, .unset] [])) rfl (hb hby d1_0)
  refine own_of (S' := T1.setTop (mkF m 3 #[.val (.int p1), .unset, .unset, .unset, .unset] [(.ref wall)])) st1 ?_
  refine own_of (S' := T1.setTop (mkF m 4 #[.val (.int p1), .val (.ref wall), .unset, .unset, .unset] [])) (fun t k => XS.astoreN X1.here hx rfl (hb hby d1_3) rfl rfl (l' := #[.val (.int p1), .val (.ref wall), .unset, .unset, .unset]) rfl k) ?_
  refine own_of (S' := T1.setTop (mkF m 5 #[.val (.int p1), .val (.ref wall), .unset, .unset, .unset] [(.ref wall)])) (fun t k => XS.aloadN X1.here hx rfl (hb hby d1_4) rfl rfl k) ?_
  refine own_of (S' := T1.setTop (mkF m 6 #[.val (.int p1), .val (.ref wall), .unset, .unset, .unset] [(.int (10 : Int32))])) (own_len X1 hx hZ e1 V_wall (z := (10 : Int32)) (by decide) (g := (mkF m 5 #[.val (.int p1), .val (.ref wall), .unset, .unset, .unset] [(.ref wall)])) rfl rfl (hb hby d1_5)) ?_
  refine own_of (S' := T1.setTop (mkF m 7 #[.val (.int p1), .val (.ref wall), .val (.int (10 : Int32)), .unset, .unset] [])) (fun t k => XS.istoreN X1.here hx rfl (hb hby d1_6) rfl (l' := #[.val (.int p1), .val (.ref wall), .val (.int (10 : Int32)), .unset, .unset]) rfl k) ?_
  refine own_of (S' := T1.setTop (mkF m 8 #[.val (.int p1), .val (.ref wall), .val (.int (10 : Int32)), .unset, .unset] [(.int (0 : Int32))])) (fun t k => XS.iconst X1.here hx rfl (hb hby d1_7) k) ?_
  refine own_of (S' := T1.setTop (mkF m 9 #[.val (.int p1), .val (.ref wall), .val (.int (10 : Int32)), .val (.int (0 : Int32)), .unset] [])) (fun t k => XS.istoreN X1.here hx rfl (hb hby d1_8) rfl (l' := #[.val (.int p1), .val (.ref wall), .val (.int (10 : Int32)), .val (.int (0 : Int32)), .unset]) rfl k) ?_
  refine own_of (S' := T1.setTop (mkF m 10 #[.val (.int p1), .val (.ref wall), .val (.int (10 : Int32)), .val (.int (0 : Int32)), .unset] [(.int (0 : Int32))])) (fun t k => XS.iloadN X1.here hx rfl (hb hby d1_9) rfl k) ?_
  refine own_of (S' := T1.setTop (mkF m 11 #[.val (.int p1), .val (.ref wall), .val (.int (10 : Int32)), .val (.int (0 : Int32)), .unset] [(.int (10 : Int32)), (.int (0 : Int32))])) (fun t k => XS.iloadN X1.here hx rfl (hb hby d1_10) rfl k) ?_
  refine own_of (S' := T1.setTop (mkF m 14 #[.val (.int p1), .val (.ref wall), .val (.int (10 : Int32)), .val (.int (0 : Int32)), .unset] [])) (fun t k => XS.icmpNo X1.here hx rfl (hb hby d1_11) rfl (tlt (by decide : (0 : Int32) < (10 : Int32))).2.1 k) ?_
  refine own_of (S' := T1.setTop (mkF m 15 #[.val (.int p1), .val (.ref wall), .val (.int (10 : Int32)), .val (.int (0 : Int32)), .unset] [(.ref wall)])) (fun t k => XS.aloadN X1.here hx rfl (hb hby d1_14) rfl rfl k) ?_
  refine own_of (S' := T1.setTop (mkF m 16 #[.val (.int p1), .val (.ref wall), .val (.int (10 : Int32)), .val (.int (0 : Int32)), .unset] [(.int (0 : Int32)), (.ref wall)])) (fun t k => XS.iloadN X1.here hx rfl (hb hby d1_15) rfl k) ?_
  refine own_of (S' := T1.setTop (mkF m 17 #[.val (.int p1), .val (.ref wall), .val (.int (10 : Int32)), .val (.int (0 : Int32)), .unset] [(.ref w_BIND)])) (own_ldA X1 hx hZ e1 V_wall rfl (j := (0 : Int32)) (y := (.ref w_BIND)) (by decide) (by decide) rfl (g := (mkF m 16 #[.val (.int p1), .val (.ref wall), .val (.int (10 : Int32)), .val (.int (0 : Int32)), .unset] [(.int (0 : Int32)), (.ref wall)])) rfl rfl (hb hby d1_16)) ?_
  refine own_of (S' := T1.setTop (mkF m 19 #[.val (.int p1), .val (.ref wall), .val (.int (10 : Int32)), .val (.int (0 : Int32)), .val (.ref w_BIND)] [])) (fun t k => XS.astore X1.here hx rfl (hb hby d1_17) rfl rfl (l' := #[.val (.int p1), .val (.ref wall), .val (.int (10 : Int32)), .val (.int (0 : Int32)), .val (.ref w_BIND)]) rfl k) ?_
  refine own_of (S' := T1.setTop (mkF m 21 #[.val (.int p1), .val (.ref wall), .val (.int (10 : Int32)), .val (.int (0 : Int32)), .val (.ref w_BIND)] [(.ref w_BIND)])) (fun t k => XS.aload X1.here hx rfl (hb hby d1_19) rfl rfl k) ?_
  obtain ⟨T2, X2, e2, st2⟩ := getF X1 hx hZ hown (host := "") (Or.inl (hw _ (List.mem_of_getElem? (i := 8) rfl))) Via.refl e1 F_requestTag_w_BIND (g := (mkF m 21 #[.val (.int p1), .val (.ref wall), .val (.int (10 : Int32)), .val (.int (0 : Int32)), .val (.ref w_BIND)] [(.ref w_BIND)])) rfl rfl (hb hby d1_21)
  refine own_of (S' := T2.setTop (mkF m 24 #[.val (.int p1), .val (.ref wall), .val (.int (10 : Int32)), .val (.int (0 : Int32)), .val (.ref w_BIND)] [(.int (96 : Int32))])) st2 ?_
  refine own_of (S' := T2.setTop (mkF m 25 #[.val (.int p1), .val (.ref wall), .val (.int (10 : Int32)), .val (.int (0 : Int32)), .val (.ref w_BIND)] [(.int p1), (.int (96 : Int32))])) (fun t k => XS.iloadN X2.here hx rfl (hb hby d1_24) rfl k) ?_
  by_cases hc25_3 : (96 : Int32) = p1
  · refine own_of (S' := T2.setTop (mkF m 28 #[.val (.int p1), .val (.ref wall), .val (.int (10 : Int32)), .val (.int (0 : Int32)), .val (.ref w_BIND)] [])) (fun t k => XS.icmpNo X2.here hx rfl (hb hby d1_25) rfl (teq hc25_3).2 k) ?_
    refine own_of (S' := T2.setTop (mkF m 30 #[.val (.int p1), .val (.ref wall), .val (.int (10 : Int32)), .val (.int (0 : Int32)), .val (.ref w_BIND)] [(.ref w_BIND)])) (fun t k => XS.aload X2.here hx rfl (hb hby d1_28) rfl rfl k) ?_
    obtain ⟨fs, hr, hrun, hended, hW, hsame⟩ := X2.leave (v := some (.ref w_BIND)) (fun h => by rw [Bd.returns] at h; cases h)
    subst hKd
    exact ⟨_, _, (retOut X2 hx Bd.returns rfl (Or.inr (Or.inr (Or.inr (Or.inr ⟨rfl, rfl, rfl⟩)))) (hb hby d1_30) hr), hrun, hended, _, _, rfl, (by
      show Q1 Z p1 wall w_BIND w_UNBIND w_SEARCH w_MODIFY w_ADD w_DELETE w_MODIFY_DN w_COMPARE w_ABANDON w_EXTENDED h0 n0 _ T2.heap _
      rw [show T2.heap = h0 from e2]
      exact ⟨(by rw [own_op, if_pos hc25_3.symm]), N0, rfl⟩), ⟨_, rfl⟩, hW, hsame.mono (by decide) (by decide)⟩
  refine own_of (S' := T2.setTop (mkF m 31 #[.val (.int p1), .val (.ref wall), .val (.int (10 : Int32)), .val (.int (0 : Int32)), .val (.ref w_BIND)] [])) (fun t k => XS.icmpYes X2.here hx rfl (pc0 := 25) (pc' := 31) rfl (hb hby d1_25) rfl (feq hc25_3).2 (by decide) (by decide) k) ?_
  refine own_of (S' := T2.setTop (mkF m 34 #[.val (.int p1), .val (.ref wall), .val (.int (10 : Int32)), .val (.int (1 : Int32)), .val (.ref w_BIND)] [])) (fun t k => XS.iinc X2.here hx rfl (hb hby d1_31) rfl (l' := #[.val (.int p1), .val (.ref wall), .val (.int (10 : Int32)), .val (.int (1 : Int32)), .val (.ref w_BIND)]) rfl k) ?_
  refine own_of (S' := T2.setTop (mkF m 9 #[.val (.int p1), .val (.ref wall), .val (.int (10 : Int32)), .val (.int (1 : Int32)), .val (.ref w_BIND)] [])) (fun t k => XS.goto X2.here hx rfl (pc0 := 34) (pc' := 9) rfl (hb hby d1_34) (by decide) (by decide) k) ?_
  refine own_of (S' := T2.setTop (mkF m 10 #[.val (.int p1), .val (.ref wall), .val (.int (10 : Int32)), .val (.int (1 : Int32)), .val (.ref w_BIND)] [(.int (1 : Int32))])) (fun t k => XS.iloadN X2.here hx rfl (hb hby d1_9) rfl k) ?_
  refine own_of (S' := T2.setTop (mkF m 11 #[.val (.int p1), .val (.ref wall), .val (.int (10 : Int32)), .val (.int (1 : Int32)), .val (.ref w_BIND)] [(.int (10 : Int32)), (.int (1 : Int32))])) (fun t k => XS.iloadN X2.here hx rfl (hb hby d1_10) rfl k) ?_
  refine own_of (S' := T2.setTop (mkF m 14 #[.val (.int p1), .val (.ref wall), .val (.int (10 : Int32)), .val (.int (1 : Int32)), .val (.ref w_BIND)] [])) (fun t k => XS.icmpNo X2.here hx rfl (hb hby d1_11) rfl (tlt (by decide : (1 : Int32) < (10 : Int32))).2.1 k) ?_
  refine own_of (S' := T2.setTop (mkF m 15 #[.val (.int p1), .val (.ref wall), .val (.int (10 : Int32)), .val (.int (1 : Int32)), .val (.ref w_BIND)] [(.ref wall)])) (fun t k => XS.aloadN X2.here hx rfl (hb hby d1_14) rfl rfl k) ?_
  refine own_of (S' := T2.setTop (mkF m 16 #[.val (.int p1), .val (.ref wall), .val (.int (10 : Int32)), .val (.int (1 : Int32)), .val (.ref w_BIND)] [(.int (1 : Int32)), (.ref wall)])) (fun t k => XS.iloadN X2.here hx rfl (hb hby d1_15) rfl k) ?_
  refine own_of (S' := T2.setTop (mkF m 17 #[.val (.int p1), .val (.ref wall), .val (.int (10 : Int32)), .val (.int (1 : Int32)), .val (.ref w_BIND)] [(.ref w_UNBIND)])) (own_ldA X2 hx hZ e2 V_wall rfl (j := (1 : Int32)) (y := (.ref w_UNBIND)) (by decide) (by decide) rfl (g := (mkF m 16 #[.val (.int p1), .val (.ref wall), .val (.int (10 : Int32)), .val (.int (1 : Int32)), .val (.ref w_BIND)] [(.int (1 : Int32)), (.ref wall)])) rfl rfl (hb hby d1_16)) ?_
  refine own_of (S' := T2.setTop (mkF m 19 #[.val (.int p1), .val (.ref wall), .val (.int (10 : Int32)), .val (.int (1 : Int32)), .val (.ref w_UNBIND)] [])) (fun t k => XS.astore X2.here hx rfl (hb hby d1_17) rfl rfl (l' := #[.val (.int p1), .val (.ref wall), .val (.int (10 : Int32)), .val (.int (1 : Int32)), .val (.ref w_UNBIND)]) rfl k) ?_
  refine own_of (S' := T2.setTop (mkF m 21 #[.val (.int p1), .val (.ref wall), .val (.int (10 : Int32)), .val (.int (1 : Int32)), .val (.ref w_UNBIND)] [(.ref w_UNBIND)])) (fun t k => XS.aload X2.here hx rfl (hb hby d1_19) rfl rfl k) ?_
  obtain ⟨T4, X4, e4, st4⟩ := getF X2 hx hZ hown (host := "") (Or.inl (hw _ (List.mem_of_getElem? (i := 8) rfl))) Via.refl e2 F_requestTag_w_UNBIND (g := (mkF m 21 #[.val (.int p1), .val (.ref wall), .val (.int (10 : Int32)), .val (.int (1 : Int32)), .val (.ref w_UNBIND)] [(.ref w_UNBIND)])) rfl rfl (hb hby d1_21)
  refine own_of (S' := T4.setTop (mkF m 24 #[.val (.int p1), .val (.ref wall), .val (.int (10 : Int32)), .val (.int (1 : Int32)), .val (.ref w_UNBIND)] [(.int (66 : Int32))])) st4 ?_
  refine own_of (S' := T4.setTop (mkF m 25 #[.val (.int p1), .val (.ref wall), .val (.int (10 : Int32)), .val (.int (1 : Int32)), .val (.ref w_UNBIND)] [(.int p1), (.int (66 : Int32))])) (fun t k => XS.iloadN X4.here hx rfl (hb hby d1_24) rfl k) ?_
  by_cases hc25_5 : (66 : Int32) = p1
  · refine own_of (S' := T4.setTop (mkF m 28 #[.val (.int p1), .val (.ref wall), .val (.int (10 : Int32)), .val (.int (1 : Int32)), .val (.ref w_UNBIND)] [])) (fun t k => XS.icmpNo X4.here hx rfl (hb hby d1_25) rfl (teq hc25_5).2 k) ?_
    refine own_of (S' := T4.setTop (mkF m 30 #[.val (.int p1), .val (.ref wall), .val (.int (10 : Int32)), .val (.int (1 : Int32)), .val (.ref w_UNBIND)] [(.ref w_UNBIND)])) (fun t k => XS.aload X4.here hx rfl (hb hby d1_28) rfl rfl k) ?_
    obtain ⟨fs, hr, hrun, hended, hW, hsame⟩ := X4.leave (v := some (.ref w_UNBIND)) (fun h => by rw [Bd.returns] at h; cases h)
    subst hKd
    exact ⟨_, _, (retOut X4 hx Bd.returns rfl (Or.inr (Or.inr (Or.inr (Or.inr ⟨rfl, rfl, rfl⟩)))) (hb hby d1_30) hr), hrun, hended, _, _, rfl, (by
      show Q1 Z p1 wall w_BIND w_UNBIND w_SEARCH w_MODIFY w_ADD w_DELETE w_MODIFY_DN w_COMPARE w_ABANDON w_EXTENDED h0 n0 _ T4.heap _
      rw [show T4.heap = h0 from e4]
      exact ⟨(by rw [own_op, if_neg (fun q => hc25_3 q.symm), if_pos hc25_5.symm]), N0, rfl⟩), ⟨_, rfl⟩, hW, hsame.mono (by decide) (by decide)⟩
  refine own_of (S' := T4.setTop (mkF m 31 #[.val (.int p1), .val (.ref wall), .val (.int (10 : Int32)), .val (.int (1 : Int32)), .val (.ref w_UNBIND)] [])) (fun t k => XS.icmpYes X4.here hx rfl (pc0 := 25) (pc' := 31) rfl (hb hby d1_25) rfl (feq hc25_5).2 (by decide) (by decide) k) ?_
  refine own_of (S' := T4.setTop (mkF m 34 #[.val (.int p1), .val (.ref wall), .val (.int (10 : Int32)), .val (.int (2 : Int32)), .val (.ref w_UNBIND)] [])) (fun t k => XS.iinc X4.here hx rfl (hb hby d1_31) rfl (l' := #[.val (.int p1), .val (.ref wall), .val (.int (10 : Int32)), .val (.int (2 : Int32)), .val (.ref w_UNBIND)]) rfl k) ?_
  refine own_of (S' := T4.setTop (mkF m 9 #[.val (.int p1), .val (.ref wall), .val (.int (10 : Int32)), .val (.int (2 : Int32)), .val (.ref w_UNBIND)] [])) (fun t k => XS.goto X4.here hx rfl (pc0 := 34) (pc' := 9) rfl (hb hby d1_34) (by decide) (by decide) k) ?_
  refine own_of (S' := T4.setTop (mkF m 10 #[.val (.int p1), .val (.ref wall), .val (.int (10 : Int32)), .val (.int (2 : Int32)), .val (.ref w_UNBIND)] [(.int (2 : Int32))])) (fun t k => XS.iloadN X4.here hx rfl (hb hby d1_9) rfl k) ?_
  refine own_of (S' := T4.setTop (mkF m 11 #[.val (.int p1), .val (.ref wall), .val (.int (10 : Int32)), .val (.int (2 : Int32)), .val (.ref w_UNBIND)] [(.int (10 : Int32)), (.int (2 : Int32))])) (fun t k => XS.iloadN X4.here hx rfl (hb hby d1_10) rfl k) ?_
  refine own_of (S' := T4.setTop (mkF m 14 #[.val (.int p1), .val (.ref wall), .val (.int (10 : Int32)), .val (.int (2 : Int32)), .val (.ref w_UNBIND)] [])) (fun t k => XS.icmpNo X4.here hx rfl (hb hby d1_11) rfl (tlt (by decide : (2 : Int32) < (10 : Int32))).2.1 k) ?_
  refine own_of (S' := T4.setTop (mkF m 15 #[.val (.int p1), .val (.ref wall), .val (.int (10 : Int32)), .val (.int (2 : Int32)), .val (.ref w_UNBIND)] [(.ref wall)])) (fun t k => XS.aloadN X4.here hx rfl (hb hby d1_14) rfl rfl k) ?_
  refine own_of (S' := T4.setTop (mkF m 16 #[.val (.int p1), .val (.ref wall), .val (.int (10 : Int32)), .val (.int (2 : Int32)), .val (.ref w_UNBIND)] [(.int (2 : Int32)), (.ref wall)])) (fun t k => XS.iloadN X4.here hx rfl (hb hby d1_15) rfl k) ?_
  refine own_of (S' := T4.setTop (mkF m 17 #[.val (.int p1), .val (.ref wall), .val (.int (10 : Int32)), .val (.int (2 : Int32)), .val (.ref w_UNBIND)] [(.ref w_SEARCH)])) (own_ldA X4 hx hZ e4 V_wall rfl (j := (2 : Int32)) (y := (.ref w_SEARCH)) (by decide) (by decide) rfl (g := (mkF m 16 #[.val (.int p1), .val (.ref wall), .val (.int (10 : Int32)), .val (.int (2 : Int32)), .val (.ref w_UNBIND)] [(.int (2 : Int32)), (.ref wall)])) rfl rfl (hb hby d1_16)) ?_
  refine own_of (S' := T4.setTop (mkF m 19 #[.val (.int p1), .val (.ref wall), .val (.int (10 : Int32)), .val (.int (2 : Int32)), .val (.ref w_SEARCH)] [])) (fun t k => XS.astore X4.here hx rfl (hb hby d1_17) rfl rfl (l' := #[.val (.int p1), .val (.ref wall), .val (.int (10 : Int32)), .val (.int (2 : Int32)), .val (.ref w_SEARCH)]) rfl k) ?_
  refine own_of (S' := T4.setTop (mkF m 21 #[.val (.int p1), .val (.ref wall), .val (.int (10 : Int32)), .val (.int (2 : Int32)), .val (.ref w_SEARCH)] [(.ref w_SEARCH)])) (fun t k => XS.aload X4.here hx rfl (hb hby d1_19) rfl rfl k) ?_
  obtain ⟨T6, X6, e6, st6⟩ := getF X4 hx hZ hown (host := "") (Or.inl (hw _ (List.mem_of_getElem? (i := 8) rfl))) Via.refl e4 F_requestTag_w_SEARCH (g := (mkF m 21 #[.val (.int p1), .val (.ref wall), .val (.int (10 : Int32)), .val (.int (2 : Int32)), .val (.ref w_SEARCH)] [(.ref w_SEARCH)])) rfl rfl (hb hby d1_21)
  refine own_of (S' := T6.setTop (mkF m 24 #[.val (.int p1), .val (.ref wall), .val (.int (10 : Int32)), .val (.int (2 : Int32)), .val (.ref w_SEARCH)] [(.int (99 : Int32))])) st6 ?_
  refine own_of (S' := T6.setTop (mkF m 25 #[.val (.int p1), .val (.ref wall), .val (.int (10 : Int32)), .val (.int (2 : Int32)), .val (.ref w_SEARCH)] [(.int p1), (.int (99 : Int32))])) (fun t k => XS.iloadN X6.here hx rfl (hb hby d1_24) rfl k) ?_
  by_cases hc25_7 : (99 : Int32) = p1
  · refine own_of (S' := T6.setTop (mkF m 28 #[.val (.int p1), .val (.ref wall), .val (.int (10 : Int32)), .val (.int (2 : Int32)), .val (.ref w_SEARCH)] [])) (fun t k => XS.icmpNo X6.here hx rfl (hb hby d1_25) rfl (teq hc25_7).2 k) ?_
    refine own_of (S' := T6.setTop (mkF m 30 #[.val (.int p1), .val (.ref wall), .val (.int (10 : Int32)), .val (.int (2 : Int32)), .val (.ref w_SEARCH)] [(.ref w_SEARCH)])) (fun t k => XS.aload X6.here hx rfl (hb hby d1_28) rfl rfl k) ?_
    obtain ⟨fs, hr, hrun, hended, hW, hsame⟩ := X6.leave (v := some (.ref w_SEARCH)) (fun h => by rw [Bd.returns] at h; cases h)
    subst hKd
    exact ⟨_, _, (retOut X6 hx Bd.returns rfl (Or.inr (Or.inr (Or.inr (Or.inr ⟨rfl, rfl, rfl⟩)))) (hb hby d1_30) hr), hrun, hended, _, _, rfl, (by
      show Q1 Z p1 wall w_BIND w_UNBIND w_SEARCH w_MODIFY w_ADD w_DELETE w_MODIFY_DN w_COMPARE w_ABANDON w_EXTENDED h0 n0 _ T6.heap _
      rw [show T6.heap = h0 from e6]
      exact ⟨(by rw [own_op, if_neg (fun q => hc25_3 q.symm), if_neg (fun q => hc25_5 q.symm), if_pos hc25_7.symm]), N0, rfl⟩), ⟨_, rfl⟩, hW, hsame.mono (by decide) (by decide)⟩
  refine own_of (S' := T6.setTop (mkF m 31 #[.val (.int p1), .val (.ref wall), .val (.int (10 : Int32)), .val (.int (2 : Int32)), .val (.ref w_SEARCH)] [])) (fun t k => XS.icmpYes X6.here hx rfl (pc0 := 25) (pc' := 31) rfl (hb hby d1_25) rfl (feq hc25_7).2 (by decide) (by decide) k) ?_
  refine own_of (S' := T6.setTop (mkF m 34 #[.val (.int p1), .val (.ref wall), .val (.int (10 : Int32)), .val (.int (3 : Int32)), .val (.ref w_SEARCH)] [])) (fun t k => XS.iinc X6.here hx rfl (hb hby d1_31) rfl (l' := #[.val (.int p1), .val (.ref wall), .val (.int (10 : Int32)), .val (.int (3 : Int32)), .val (.ref w_SEARCH)]) rfl k) ?_
  refine own_of (S' := T6.setTop (mkF m 9 #[.val (.int p1), .val (.ref wall), .val (.int (10 : Int32)), .val (.int (3 : Int32)), .val (.ref w_SEARCH)] [])) (fun t k => XS.goto X6.here hx rfl (pc0 := 34) (pc' := 9) rfl (hb hby d1_34) (by decide) (by decide) k) ?_
  refine own_of (S' := T6.setTop (mkF m 10 #[.val (.int p1), .val (.ref wall), .val (.int (10 : Int32)), .val (.int (3 : Int32)), .val (.ref w_SEARCH)] [(.int (3 : Int32))])) (fun t k => XS.iloadN X6.here hx rfl (hb hby d1_9) rfl k) ?_
  refine own_of (S' := T6.setTop (mkF m 11 #[.val (.int p1), .val (.ref wall), .val (.int (10 : Int32)), .val (.int (3 : Int32)), .val (.ref w_SEARCH)] [(.int (10 : Int32)), (.int (3 : Int32))])) (fun t k => XS.iloadN X6.here hx rfl (hb hby d1_10) rfl k) ?_
  refine own_of (S' := T6.setTop (mkF m 14 #[.val (.int p1), .val (.ref wall), .val (.int (10 : Int32)), .val (.int (3 : Int32)), .val (.ref w_SEARCH)] [])) (fun t k => XS.icmpNo X6.here hx rfl (hb hby d1_11) rfl (tlt (by decide : (3 : Int32) < (10 : Int32))).2.1 k) ?_
  refine own_of (S' := T6.setTop (mkF m 15 #[.val (.int p1), .val (.ref wall), .val (.int (10 : Int32)), .val (.int (3 : Int32)), .val (.ref w_SEARCH)] [(.ref wall)])) (fun t k => XS.aloadN X6.here hx rfl (hb hby d1_14) rfl rfl k) ?_
  refine own_of (S' := T6.setTop (mkF m 16 #[.val (.int p1), .val (.ref wall), .val (.int (10 : Int32)), .val (.int (3 : Int32)), .val (.ref w_SEARCH)] [(.int (3 : Int32)), (.ref wall)])) (fun t k => XS.iloadN X6.here hx rfl (hb hby d1_15) rfl k) ?_
  refine own_of (S' := T6.setTop (mkF m 17 #[.val (.int p1), .val (.ref wall), .val (.int (10 : Int32)), .val (.int (3 : Int32)), .val (.ref w_SEARCH)] [(.ref w_MODIFY)])) (own_ldA X6 hx hZ e6 V_wall rfl (j := (3 : Int32)) (y := (.ref w_MODIFY)) (by decide) (by decide) rfl (g := (mkF m 16 #[.val (.int p1), .val (.ref wall), .val (.int (10 : Int32)), .val (.int (3 : Int32)), .val (.ref w_SEARCH)] [(.int (3 : Int32)), (.ref wall)])) rfl rfl (hb hby d1_16)) ?_
  refine own_of (S' := T6.setTop (mkF m 19 #[.val (.int p1), .val (.ref wall), .val (.int (10 : Int32)), .val (.int (3 : Int32)), .val (.ref w_MODIFY)] [])) (fun t k => XS.astore X6.here hx rfl (hb hby d1_17) rfl rfl (l' := #[.val (.int p1), .val (.ref wall), .val (.int (10 : Int32)), .val (.int (3 : Int32)), .val (.ref w_MODIFY)]) rfl k) ?_
  refine own_of (S' := T6.setTop (mkF m 21 #[.val (.int p1), .val (.ref wall), .val (.int (10 : Int32)), .val (.int (3 : Int32)), .val (.ref w_MODIFY)] [(.ref w_MODIFY)])) (fun t k => XS.aload X6.here hx rfl (hb hby d1_19) rfl rfl k) ?_
  obtain ⟨T8, X8, e8, st8⟩ := getF X6 hx hZ hown (host := "") (Or.inl (hw _ (List.mem_of_getElem? (i := 8) rfl))) Via.refl e6 F_requestTag_w_MODIFY (g := (mkF m 21 #[.val (.int p1), .val (.ref wall), .val (.int (10 : Int32)), .val (.int (3 : Int32)), .val (.ref w_MODIFY)] [(.ref w_MODIFY)])) rfl rfl (hb hby d1_21)
  refine own_of (S' := T8.setTop (mkF m 24 #[.val (.int p1), .val (.ref wall), .val (.int (10 : Int32)), .val (.int (3 : Int32)), .val (.ref w_MODIFY)] [(.int (102 : Int32))])) st8 ?_
  refine own_of (S' := T8.setTop (mkF m 25 #[.val (.int p1), .val (.ref wall), .val (.int (10 : Int32)), .val (.int (3 : Int32)), .val (.ref w_MODIFY)] [(.int p1), (.int (102 : Int32))])) (fun t k => XS.iloadN X8.here hx rfl (hb hby d1_24) rfl k) ?_
  by_cases hc25_9 : (102 : Int32) = p1
  · refine own_of (S' := T8.setTop (mkF m 28 #[.val (.int p1), .val (.ref wall), .val (.int (10 : Int32)), .val (.int (3 : Int32)), .val (.ref w_MODIFY)] [])) (fun t k => XS.icmpNo X8.here hx rfl (hb hby d1_25) rfl (teq hc25_9).2 k) ?_
    refine own_of (S' := T8.setTop (mkF m 30 #[.val (.int p1), .val (.ref wall), .val (.int (10 : Int32)), .val (.int (3 : Int32)), .val (.ref w_MODIFY)] [(.ref w_MODIFY)])) (fun t k => XS.aload X8.here hx rfl (hb hby d1_28) rfl rfl k) ?_
    obtain ⟨fs, hr, hrun, hended, hW, hsame⟩ := X8.leave (v := some (.ref w_MODIFY)) (fun h => by rw [Bd.returns] at h; cases h)
    subst hKd
    exact ⟨_, _, (retOut X8 hx Bd.returns rfl (Or.inr (Or.inr (Or.inr (Or.inr ⟨rfl, rfl, rfl⟩)))) (hb hby d1_30) hr), hrun, hended, _, _, rfl, (by
      show Q1 Z p1 wall w_BIND w_UNBIND w_SEARCH w_MODIFY w_ADD w_DELETE w_MODIFY_DN w_COMPARE w_ABANDON w_EXTENDED h0 n0 _ T8.heap _
      rw [show T8.heap = h0 from e8]
      exact ⟨(by rw [own_op, if_neg (fun q => hc25_3 q.symm), if_neg (fun q => hc25_5 q.symm), if_neg (fun q => hc25_7 q.symm), if_pos hc25_9.symm]), N0, rfl⟩), ⟨_, rfl⟩, hW, hsame.mono (by decide) (by decide)⟩
  refine own_of (S' := T8.setTop (mkF m 31 #[.val (.int p1), .val (.ref wall), .val (.int (10 : Int32)), .val (.int (3 : Int32)), .val (.ref w_MODIFY)] [])) (fun t k => XS.icmpYes X8.here hx rfl (pc0 := 25) (pc' := 31) rfl (hb hby d1_25) rfl (feq hc25_9).2 (by decide) (by decide) k) ?_
  refine own_of (S' := T8.setTop (mkF m 34 #[.val (.int p1), .val (.ref wall), .val (.int (10 : Int32)), .val (.int (4 : Int32)), .val (.ref w_MODIFY)] [])) (fun t k => XS.iinc X8.here hx rfl (hb hby d1_31) rfl (l' := #[.val (.int p1), .val (.ref wall), .val (.int (10 : Int32)), .val (.int (4 : Int32)), .val (.ref w_MODIFY)]) rfl k) ?_
  refine own_of (S' := T8.setTop (mkF m 9 #[.val (.int p1), .val (.ref wall), .val (.int (10 : Int32)), .val (.int (4 : Int32)), .val (.ref w_MODIFY)] [])) (fun t k => XS.goto X8.here hx rfl (pc0 := 34) (pc' := 9) rfl (hb hby d1_34) (by decide) (by decide) k) ?_
  refine own_of (S' := T8.setTop (mkF m 10 #[.val (.int p1), .val (.ref wall), .val (.int (10 : Int32)), .val (.int (4 : Int32)), .val (.ref w_MODIFY)] [(.int (4 : Int32))])) (fun t k => XS.iloadN X8.here hx rfl (hb hby d1_9) rfl k) ?_
  refine own_of (S' := T8.setTop (mkF m 11 #[.val (.int p1), .val (.ref wall), .val (.int (10 : Int32)), .val (.int (4 : Int32)), .val (.ref w_MODIFY)] [(.int (10 : Int32)), (.int (4 : Int32))])) (fun t k => XS.iloadN X8.here hx rfl (hb hby d1_10) rfl k) ?_
  refine own_of (S' := T8.setTop (mkF m 14 #[.val (.int p1), .val (.ref wall), .val (.int (10 : Int32)), .val (.int (4 : Int32)), .val (.ref w_MODIFY)] [])) (fun t k => XS.icmpNo X8.here hx rfl (hb hby d1_11) rfl (tlt (by decide : (4 : Int32) < (10 : Int32))).2.1 k) ?_
  refine own_of (S' := T8.setTop (mkF m 15 #[.val (.int p1), .val (.ref wall), .val (.int (10 : Int32)), .val (.int (4 : Int32)), .val (.ref w_MODIFY)] [(.ref wall)])) (fun t k => XS.aloadN X8.here hx rfl (hb hby d1_14) rfl rfl k) ?_
  refine own_of (S' := T8.setTop (mkF m 16 #[.val (.int p1), .val (.ref wall), .val (.int (10 : Int32)), .val (.int (4 : Int32)), .val (.ref w_MODIFY)] [(.int (4 : Int32)), (.ref wall)])) (fun t k => XS.iloadN X8.here hx rfl (hb hby d1_15) rfl k) ?_
  refine own_of (S' := T8.setTop (mkF m 17 #[.val (.int p1), .val (.ref wall), .val (.int (10 : Int32)), .val (.int (4 : Int32)), .val (.ref w_MODIFY)] [(.ref w_ADD)])) (own_ldA X8 hx hZ e8 V_wall rfl (j := (4 : Int32)) (y := (.ref w_ADD)) (by decide) (by decide) rfl (g := (mkF m 16 #[.val (.int p1), .val (.ref wall), .val (.int (10 : Int32)), .val (.int (4 : Int32)), .val (.ref w_MODIFY)] [(.int (4 : Int32)), (.ref wall)])) rfl rfl (hb hby d1_16)) ?_
  refine own_of (S' := T8.setTop (mkF m 19 #[.val (.int p1), .val (.ref wall), .val (.int (10 : Int32)), .val (.int (4 : Int32)), .val (.ref w_ADD)] [])) (fun t k => XS.astore X8.here hx rfl (hb hby d1_17) rfl rfl (l' := #[.val (.int p1), .val (.ref wall), .val (.int (10 : Int32)), .val (.int (4 : Int32)), .val (.ref w_ADD)]) rfl k) ?_
  refine own_of (S' := T8.setTop (mkF m 21 #[.val (.int p1), .val (.ref wall), .val (.int (10 : Int32)), .val (.int (4 : Int32)), .val (.ref w_ADD)] [(.ref w_ADD)])) (fun t k => XS.aload X8.here hx rfl (hb hby d1_19) rfl rfl k) ?_
  obtain ⟨T10, X10, e10, st10⟩ := getF X8 hx hZ hown (host := "") (Or.inl (hw _ (List.mem_of_getElem? (i := 8) rfl))) Via.refl e8 F_requestTag_w_ADD (g := (mkF m 21 #[.val (.int p1), .val (.ref wall), .val (.int (10 : Int32)), .val (.int (4 : Int32)), .val (.ref w_ADD)] [(.ref w_ADD)])) rfl rfl (hb hby d1_21)
  refine own_of (S' := T10.setTop (mkF m 24 #[.val (.int p1), .val (.ref wall), .val (.int (10 : Int32)), .val (.int (4 : Int32)), .val (.ref w_ADD)] [(.int (104 : Int32))])) st10 ?_
  refine own_of (S' := T10.setTop (mkF m 25 #[.val (.int p1), .val (.ref wall), .val (.int (10 : Int32)), .val (.int (4 : Int32)), .val (.ref w_ADD)] [(.int p1), (.int (104 : Int32))])) (fun t k => XS.iloadN X10.here hx rfl (hb hby d1_24) rfl k) ?_
  by_cases hc25_11 : (104 : Int32) = p1
  · refine own_of (S' := T10.setTop (mkF m 28 #[.val (.int p1), .val (.ref wall), .val (.int (10 : Int32)), .val (.int (4 : Int32)), .val (.ref w_ADD)] [])) (fun t k => XS.icmpNo X10.here hx rfl (hb hby d1_25) rfl (teq hc25_11).2 k) ?_
    refine own_of (S' := T10.setTop (mkF m 30 #[.val (.int p1), .val (.ref wall), .val (.int (10 : Int32)), .val (.int (4 : Int32)), .val (.ref w_ADD)] [(.ref w_ADD)])) (fun t k => XS.aload X10.here hx rfl (hb hby d1_28) rfl rfl k) ?_
    obtain ⟨fs, hr, hrun, hended, hW, hsame⟩ := X10.leave (v := some (.ref w_ADD)) (fun h => by rw [Bd.returns] at h; cases h)
    subst hKd
    exact ⟨_, _, (retOut X10 hx Bd.returns rfl (Or.inr (Or.inr (Or.inr (Or.inr ⟨rfl, rfl, rfl⟩)))) (hb hby d1_30) hr), hrun, hended, _, _, rfl, (by
      show Q1 Z p1 wall w_BIND w_UNBIND w_SEARCH w_MODIFY w_ADD w_DELETE w_MODIFY_DN w_COMPARE w_ABANDON w_EXTENDED h0 n0 _ T10.heap _
      rw [show T10.heap = h0 from e10]
      exact ⟨(by rw [own_op, if_neg (fun q => hc25_3 q.symm), if_neg (fun q => hc25_5 q.symm), if_neg (fun q => hc25_7 q.symm), if_neg (fun q => hc25_9 q.symm), if_pos hc25_11.symm]), N0, rfl⟩), ⟨_, rfl⟩, hW, hsame.mono (by decide) (by decide)⟩
  refine own_of (S' := T10.setTop (mkF m 31 #[.val (.int p1), .val (.ref wall), .val (.int (10 : Int32)), .val (.int (4 : Int32)), .val (.ref w_ADD)] [])) (fun t k => XS.icmpYes X10.here hx rfl (pc0 := 25) (pc' := 31) rfl (hb hby d1_25) rfl (feq hc25_11).2 (by decide) (by decide) k) ?_
  refine own_of (S' := T10.setTop (mkF m 34 #[.val (.int p1), .val (.ref wall), .val (.int (10 : Int32)), .val (.int (5 : Int32)), .val (.ref w_ADD)] [])) (fun t k => XS.iinc X10.here hx rfl (hb hby d1_31) rfl (l' := #[.val (.int p1), .val (.ref wall), .val (.int (10 : Int32)), .val (.int (5 : Int32)), .val (.ref w_ADD)]) rfl k) ?_
  refine own_of (S' := T10.setTop (mkF m 9 #[.val (.int p1), .val (.ref wall), .val (.int (10 : Int32)), .val (.int (5 : Int32)), .val (.ref w_ADD)] [])) (fun t k => XS.goto X10.here hx rfl (pc0 := 34) (pc' := 9) rfl (hb hby d1_34) (by decide) (by decide) k) ?_
  refine own_of (S' := T10.setTop (mkF m 10 #[.val (.int p1), .val (.ref wall), .val (.int (10 : Int32)), .val (.int (5 : Int32)), .val (.ref w_ADD)] [(.int (5 : Int32))])) (fun t k => XS.iloadN X10.here hx rfl (hb hby d1_9) rfl k) ?_
  refine own_of (S' := T10.setTop (mkF m 11 #[.val (.int p1), .val (.ref wall), .val (.int (10 : Int32)), .val (.int (5 : Int32)), .val (.ref w_ADD)] [(.int (10 : Int32)), (.int (5 : Int32))])) (fun t k => XS.iloadN X10.here hx rfl (hb hby d1_10) rfl k) ?_
  refine own_of (S' := T10.setTop (mkF m 14 #[.val (.int p1), .val (.ref wall), .val (.int (10 : Int32)), .val (.int (5 : Int32)), .val (.ref w_ADD)] [])) (fun t k => XS.icmpNo X10.here hx rfl (hb hby d1_11) rfl (tlt (by decide : (5 : Int32) < (10 : Int32))).2.1 k) ?_
  refine own_of (S' := T10.setTop (mkF m 15 #[.val (.int p1), .val (.ref wall), .val (.int (10 : Int32)), .val (.int (5 : Int32)), .val (.ref w_ADD)] [(.ref wall)])) (fun t k => XS.aloadN X10.here hx rfl (hb hby d1_14) rfl rfl k) ?_
  refine own_of (S' := T10.setTop (mkF m 16 #[.val (.int p1), .val (.ref wall), .val (.int (10 : Int32)), .val (.int (5 : Int32)), .val (.ref w_ADD)] [(.int (5 : Int32)), (.ref wall)])) (fun t k => XS.iloadN X10.here hx rfl (hb hby d1_15) rfl k) ?_
  refine own_of (S' := T10.setTop (mkF m 17 #[.val (.int p1), .val (.ref wall), .val (.int (10 : Int32)), .val (.int (5 : Int32)), .val (.ref w_ADD)] [(.ref w_DELETE)])) (own_ldA X10 hx hZ e10 V_wall rfl (j := (5 : Int32)) (y := (.ref w_DELETE)) (by decide) (by decide) rfl (g := (mkF m 16 #[.val (.int p1), .val (.ref wall), .val (.int (10 : Int32)), .val (.int (5 : Int32)), .val (.ref w_ADD)] [(.int (5 : Int32)), (.ref wall)])) rfl rfl (hb hby d1_16)) ?_
  refine own_of (S' := T10.setTop (mkF m 19 #[.val (.int p1), .val (.ref wall), .val (.int (10 : Int32)), .val (.int (5 : Int32)), .val (.ref w_DELETE)] [])) (fun t k => XS.astore X10.here hx rfl (hb hby d1_17) rfl rfl (l' := #[.val (.int p1), .val (.ref wall), .val (.int (10 : Int32)), .val (.int (5 : Int32)), .val (.ref w_DELETE)]) rfl k) ?_
  refine own_of (S' := T10.setTop (mkF m 21 #[.val (.int p1), .val (.ref wall), .val (.int (10 : Int32)), .val (.int (5 : Int32)), .val (.ref w_DELETE)] [(.ref w_DELETE)])) (fun t k => XS.aload X10.here hx rfl (hb hby d1_19) rfl rfl k) ?_
  obtain ⟨T12, X12, e12, st12⟩ := getF X10 hx hZ hown (host := "") (Or.inl (hw _ (List.mem_of_getElem? (i := 8) rfl))) Via.refl e10 F_requestTag_w_DELETE (g := (mkF m 21 #[.val (.int p1), .val (.ref wall), .val (.int (10 : Int32)), .val (.int (5 : Int32)), .val (.ref w_DELETE)] [(.ref w_DELETE)])) rfl rfl (hb hby d1_21)
  refine own_of (S' := T12.setTop (mkF m 24 #[.val (.int p1), .val (.ref wall), .val (.int (10 : Int32)), .val (.int (5 : Int32)), .val (.ref w_DELETE)] [(.int (74 : Int32))])) st12 ?_
  refine own_of (S' := T12.setTop (mkF m 25 #[.val (.int p1), .val (.ref wall), .val (.int (10 : Int32)), .val (.int (5 : Int32)), .val (.ref w_DELETE)] [(.int p1), (.int (74 : Int32))])) (fun t k => XS.iloadN X12.here hx rfl (hb hby d1_24) rfl k) ?_
  by_cases hc25_13 : (74 : Int32) = p1
  · refine own_of (S' := T12.setTop (mkF m 28 #[.val (.int p1), .val (.ref wall), .val (.int (10 : Int32)), .val (.int (5 : Int32)), .val (.ref w_DELETE)] [])) (fun t k => XS.icmpNo X12.here hx rfl (hb hby d1_25) rfl (teq hc25_13).2 k) ?_
    refine own_of (S' := T12.setTop (mkF m 30 #[.val (.int p1), .val (.ref wall), .val (.int (10 : Int32)), .val (.int (5 : Int32)), .val (.ref w_DELETE)] [(.ref w_DELETE)])) (fun t k => XS.aload X12.here hx rfl (hb hby d1_28) rfl rfl k) ?_
    obtain ⟨fs, hr, hrun, hended, hW, hsame⟩ := X12.leave (v := some (.ref w_DELETE)) (fun h => by rw [Bd.returns] at h; cases h)
    subst hKd
    exact ⟨_, _, (retOut X12 hx Bd.returns rfl (Or.inr (Or.inr (Or.inr (Or.inr ⟨rfl, rfl, rfl⟩)))) (hb hby d1_30) hr), hrun, hended, _, _, rfl, (by
      show Q1 Z p1 wall w_BIND w_UNBIND w_SEARCH w_MODIFY w_ADD w_DELETE w_MODIFY_DN w_COMPARE w_ABANDON w_EXTENDED h0 n0 _ T12.heap _
      rw [show T12.heap = h0 from e12]
      exact ⟨(by rw [own_op, if_neg (fun q => hc25_3 q.symm), if_neg (fun q => hc25_5 q.symm), if_neg (fun q => hc25_7 q.symm), if_neg (fun q => hc25_9 q.symm), if_neg (fun q => hc25_11 q.symm), if_pos hc25_13.symm]), N0, rfl⟩), ⟨_, rfl⟩, hW, hsame.mono (by decide) (by decide)⟩
  refine own_of (S' := T12.setTop (mkF m 31 #[.val (.int p1), .val (.ref wall), .val (.int (10 : Int32)), .val (.int (5 : Int32)), .val (.ref w_DELETE)] [])) (fun t k => XS.icmpYes X12.here hx rfl (pc0 := 25) (pc' := 31) rfl (hb hby d1_25) rfl (feq hc25_13).2 (by decide) (by decide) k) ?_
  refine own_of (S' := T12.setTop (mkF m 34 #[.val (.int p1), .val (.ref wall), .val (.int (10 : Int32)), .val (.int (6 : Int32)), .val (.ref w_DELETE)] [])) (fun t k => XS.iinc X12.here hx rfl (hb hby d1_31) rfl (l' := #[.val (.int p1), .val (.ref wall), .val (.int (10 : Int32)), .val (.int (6 : Int32)), .val (.ref w_DELETE)]) rfl k) ?_
  refine own_of (S' := T12.setTop (mkF m 9 #[.val (.int p1), .val (.ref wall), .val (.int (10 : Int32)), .val (.int (6 : Int32)), .val (.ref w_DELETE)] [])) (fun t k => XS.goto X12.here hx rfl (pc0 := 34) (pc' := 9) rfl (hb hby d1_34) (by decide) (by decide) k) ?_
  refine own_of (S' := T12.setTop (mkF m 10 #[.val (.int p1), .val (.ref wall), .val (.int (10 : Int32)), .val (.int (6 : Int32)), .val (.ref w_DELETE)] [(.int (6 : Int32))])) (fun t k => XS.iloadN X12.here hx rfl (hb hby d1_9) rfl k) ?_
  refine own_of (S' := T12.setTop (mkF m 11 #[.val (.int p1), .val (.ref wall), .val (.int (10 : Int32)), .val (.int (6 : Int32)), .val (.ref w_DELETE)] [(.int (10 : Int32)), (.int (6 : Int32))])) (fun t k => XS.iloadN X12.here hx rfl (hb hby d1_10) rfl k) ?_
  refine own_of (S' := T12.setTop (mkF m 14 #[.val (.int p1), .val (.ref wall), .val (.int (10 : Int32)), .val (.int (6 : Int32)), .val (.ref w_DELETE)] [])) (fun t k => XS.icmpNo X12.here hx rfl (hb hby d1_11) rfl (tlt (by decide : (6 : Int32) < (10 : Int32))).2.1 k) ?_
  refine own_of (S' := T12.setTop (mkF m 15 #[.val (.int p1), .val (.ref wall), .val (.int (10 : Int32)), .val (.int (6 : Int32)), .val (.ref w_DELETE)] [(.ref wall)])) (fun t k => XS.aloadN X12.here hx rfl (hb hby d1_14) rfl rfl k) ?_
  refine own_of (S' := T12.setTop (mkF m 16 #[.val (.int p1), .val (.ref wall), .val (.int (10 : Int32)), .val (.int (6 : Int32)), .val (.ref w_DELETE)] [(.int (6 : Int32)), (.ref wall)])) (fun t k => XS.iloadN X12.here hx rfl (hb hby d1_15) rfl k) ?_
  refine own_of (S' := T12.setTop (mkF m 17 #[.val (.int p1), .val (.ref wall), .val (.int (10 : Int32)), .val (.int (6 : Int32)), .val (.ref w_DELETE)] [(.ref w_MODIFY_DN)])) (own_ldA X12 hx hZ e12 V_wall rfl (j := (6 : Int32)) (y := (.ref w_MODIFY_DN)) (by decide) (by decide) rfl (g := (mkF m 16 #[.val (.int p1), .val (.ref wall), .val (.int (10 : Int32)), .val (.int (6 : Int32)), .val (.ref w_DELETE)] [(.int (6 : Int32)), (.ref wall)])) rfl rfl (hb hby d1_16)) ?_
  refine own_of (S' := T12.setTop (mkF m 19 #[.val (.int p1), .val (.ref wall), .val (.int (10 : Int32)), .val (.int (6 : Int32)), .val (.ref w_MODIFY_DN)] [])) (fun t k => XS.astore X12.here hx rfl (hb hby d1_17) rfl rfl (l' := #[.val (.int p1), .val (.ref wall), .val (.int (10 : Int32)), .val (.int (6 : Int32)), .val (.ref w_MODIFY_DN)]) rfl k) ?_
  refine own_of (S' := T12.setTop (mkF m 21 #[.val (.int p1), .val (.ref wall), .val (.int (10 : Int32)), .val (.int (6 : Int32)), .val (.ref w_MODIFY_DN)] [(.ref w_MODIFY_DN)])) (fun t k => XS.aload X12.here hx rfl (hb hby d1_19) rfl rfl k) ?_
  obtain ⟨T14, X14, e14, st14⟩ := getF X12 hx hZ hown (host := "") (Or.inl (hw _ (List.mem_of_getElem? (i := 8) rfl))) Via.refl e12 F_requestTag_w_MODIFY_DN (g := (mkF m 21 #[.val (.int p1), .val (.ref wall), .val (.int (10 : Int32)), .val (.int (6 : Int32)), .val (.ref w_MODIFY_DN)] [(.ref w_MODIFY_DN)])) rfl rfl (hb hby d1_21)
  refine own_of (S' := T14.setTop (mkF m 24 #[.val (.int p1), .val (.ref wall), .val (.int (10 : Int32)), .val (.int (6 : Int32)), .val (.ref w_MODIFY_DN)] [(.int (108 : Int32))])) st14 ?_
  refine own_of (S' := T14.setTop (mkF m 25 #[.val (.int p1), .val (.ref wall), .val (.int (10 : Int32)), .val (.int (6 : Int32)), .val (.ref w_MODIFY_DN)] [(.int p1), (.int (108 : Int32))])) (fun t k => XS.iloadN X14.here hx rfl (hb hby d1_24) rfl k) ?_
  by_cases hc25_15 : (108 : Int32) = p1
  · refine own_of (S' := T14.setTop (mkF m 28 #[.val (.int p1), .val (.ref wall), .val (.int (10 : Int32)), .val (.int (6 : Int32)), .val (.ref w_MODIFY_DN)] [])) (fun t k => XS.icmpNo X14.here hx rfl (hb hby d1_25) rfl (teq hc25_15).2 k) ?_
    refine own_of (S' := T14.setTop (mkF m 30 #[.val (.int p1), .val (.ref wall), .val (.int (10 : Int32)), .val (.int (6 : Int32)), .val (.ref w_MODIFY_DN)] [(.ref w_MODIFY_DN)])) (fun t k => XS.aload X14.here hx rfl (hb hby d1_28) rfl rfl k) ?_
    obtain ⟨fs, hr, hrun, hended, hW, hsame⟩ := X14.leave (v := some (.ref w_MODIFY_DN)) (fun h => by rw [Bd.returns] at h; cases h)
    subst hKd
    exact ⟨_, _, (retOut X14 hx Bd.returns rfl (Or.inr (Or.inr (Or.inr (Or.inr ⟨rfl, rfl, rfl⟩)))) (hb hby d1_30) hr), hrun, hended, _, _, rfl, (by
      show Q1 Z p1 wall w_BIND w_UNBIND w_SEARCH w_MODIFY w_ADD w_DELETE w_MODIFY_DN w_COMPARE w_ABANDON w_EXTENDED h0 n0 _ T14.heap _
      rw [show T14.heap = h0 from e14]
      exact ⟨(by rw [own_op, if_neg (fun q => hc25_3 q.symm), if_neg (fun q => hc25_5 q.symm), if_neg (fun q => hc25_7 q.symm), if_neg (fun q => hc25_9 q.symm), if_neg (fun q => hc25_11 q.symm), if_neg (fun q => hc25_13 q.symm), if_pos hc25_15.symm]), N0, rfl⟩), ⟨_, rfl⟩, hW, hsame.mono (by decide) (by decide)⟩
  refine own_of (S' := T14.setTop (mkF m 31 #[.val (.int p1), .val (.ref wall), .val (.int (10 : Int32)), .val (.int (6 : Int32)), .val (.ref w_MODIFY_DN)] [])) (fun t k => XS.icmpYes X14.here hx rfl (pc0 := 25) (pc' := 31) rfl (hb hby d1_25) rfl (feq hc25_15).2 (by decide) (by decide) k) ?_
  refine own_of (S' := T14.setTop (mkF m 34 #[.val (.int p1), .val (.ref wall), .val (.int (10 : Int32)), .val (.int (7 : Int32)), .val (.ref w_MODIFY_DN)] [])) (fun t k => XS.iinc X14.here hx rfl (hb hby d1_31) rfl (l' := #[.val (.int p1), .val (.ref wall), .val (.int (10 : Int32)), .val (.int (7 : Int32)), .val (.ref w_MODIFY_DN)]) rfl k) ?_
  refine own_of (S' := T14.setTop (mkF m 9 #[.val (.int p1), .val (.ref wall), .val (.int (10 : Int32)), .val (.int (7 : Int32)), .val (.ref w_MODIFY_DN)] [])) (fun t k => XS.goto X14.here hx rfl (pc0 := 34) (pc' := 9) rfl (hb hby d1_34) (by decide) (by decide) k) ?_
  refine own_of (S' := T14.setTop (mkF m 10 #[.val (.int p1), .val (.ref wall), .val (.int (10 : Int32)), .val (.int (7 : Int32)), .val (.ref w_MODIFY_DN)] [(.int (7 : Int32))])) (fun t k => XS.iloadN X14.here hx rfl (hb hby d1_9) rfl k) ?_
  refine own_of (S' := T14.setTop (mkF m 11 #[.val (.int p1), .val (.ref wall), .val (.int (10 : Int32)), .val (.int (7 : Int32)), .val (.ref w_MODIFY_DN)] [(.int (10 : Int32)), (.int (7 : Int32))])) (fun t k => XS.iloadN X14.here hx rfl (hb hby d1_10) rfl k) ?_
  refine own_of (S' := T14.setTop (mkF m 14 #[.val (.int p1), .val (.ref wall), .val (.int (10 : Int32)), .val (.int (7 : Int32)), .val (.ref w_MODIFY_DN)] [])) (fun t k => XS.icmpNo X14.here hx rfl (hb hby d1_11) rfl (tlt (by decide : (7 : Int32) < (10 : Int32))).2.1 k) ?_
  refine own_of (S' := T14.setTop (mkF m 15 #[.val (.int p1), .val (.ref wall), .val (.int (10 : Int32)), .val (.int (7 : Int32)), .val (.ref w_MODIFY_DN)] [(.ref wall)])) (fun t k => XS.aloadN X14.here hx rfl (hb hby d1_14) rfl rfl k) ?_
  refine own_of (S' := T14.setTop (mkF m 16 #[.val (.int p1), .val (.ref wall), .val (.int (10 : Int32)), .val (.int (7 : Int32)), .val (.ref w_MODIFY_DN)] [(.int (7 : Int32)), (.ref wall)])) (fun t k => XS.iloadN X14.here hx rfl (hb hby d1_15) rfl k) ?_
  refine own_of (S' := T14.setTop (mkF m 17 #[.val (.int p1), .val (.ref wall), .val (.int (10 : Int32)), .val (.int (7 : Int32)), .val (.ref w_MODIFY_DN)] [(.ref w_COMPARE)])) (own_ldA X14 hx hZ e14 V_wall rfl (j := (7 : Int32)) (y := (.ref w_COMPARE)) (by decide) (by decide) rfl (g := (mkF m 16 #[.val (.int p1), .val (.ref wall), .val (.int (10 : Int32)), .val (.int (7 : Int32)), .val (.ref w_MODIFY_DN)] [(.int (7 : Int32)), (.ref wall)])) rfl rfl (hb hby d1_16)) ?_
  refine own_of (S' := T14.setTop (mkF m 19 #[.val (.int p1), .val (.ref wall), .val (.int (10 : Int32)), .val (.int (7 : Int32)), .val (.ref w_COMPARE)] [])) (fun t k => XS.astore X14.here hx rfl (hb hby d1_17) rfl rfl (l' := #[.val (.int p1), .val (.ref wall), .val (.int (10 : Int32)), .val (.int (7 : Int32)), .val (.ref w_COMPARE)]) rfl k) ?_
  refine own_of (S' := T14.setTop (mkF m 21 #[.val (.int p1), .val (.ref wall), .val (.int (10 : Int32)), .val (.int (7 : Int32)), .val (.ref w_COMPARE)] [(.ref w_COMPARE)])) (fun t k => XS.aload X14.here hx rfl (hb hby d1_19) rfl rfl k) ?_
  obtain ⟨T16, X16, e16, st16⟩ := getF X14 hx hZ hown (host := "") (Or.inl (hw _ (List.mem_of_getElem? (i := 8) rfl))) Via.refl e14 F_requestTag_w_COMPARE (g := (mkF m 21 #[.val (.int p1), .val (.ref wall), .val (.int (10 : Int32)), .val (.int (7 : Int32)), .val (.ref w_COMPARE)] [(.ref w_COMPARE)])) rfl rfl (hb hby d1_21)
  refine own_of (S' := T16.setTop (mkF m 24 #[.val (.int p1), .val (.ref wall), .val (.int (10 : Int32)), .val (.int (7 : Int32)), .val (.ref w_COMPARE)] [(.int (110 : Int32))])) st16 ?_
  refine own_of (S' := T16.setTop (mkF m 25 #[.val (.int p1), .val (.ref wall), .val (.int (10 : Int32)), .val (.int (7 : Int32)), .val (.ref w_COMPARE)] [(.int p1), (.int (110 : Int32))])) (fun t k => XS.iloadN X16.here hx rfl (hb hby d1_24) rfl k) ?_
  by_cases hc25_17 : (110 : Int32) = p1
  · refine own_of (S' := T16.setTop (mkF m 28 #[.val (.int p1), .val (.ref wall), .val (.int (10 : Int32)), .val (.int (7 : Int32)), .val (.ref w_COMPARE)] [])) (fun t k => XS.icmpNo X16.here hx rfl (hb hby d1_25) rfl (teq hc25_17).2 k) ?_
    refine own_of (S' := T16.setTop (mkF m 30 #[.val (.int p1), .val (.ref wall), .val (.int (10 : Int32)), .val (.int (7 : Int32)), .val (.ref w_COMPARE)] [(.ref w_COMPARE)])) (fun t k => XS.aload X16.here hx rfl (hb hby d1_28) rfl rfl k) ?_
    obtain ⟨fs, hr, hrun, hended, hW, hsame⟩ := X16.leave (v := some (.ref w_COMPARE)) (fun h => by rw [Bd.returns] at h; cases h)
    subst hKd
    exact ⟨_, _, (retOut X16 hx Bd.returns rfl (Or.inr (Or.inr (Or.inr (Or.inr ⟨rfl, rfl, rfl⟩)))) (hb hby d1_30) hr), hrun, hended, _, _, rfl, (by
      show Q1 Z p1 wall w_BIND w_UNBIND w_SEARCH w_MODIFY w_ADD w_DELETE w_MODIFY_DN w_COMPARE w_ABANDON w_EXTENDED h0 n0 _ T16.heap _
      rw [show T16.heap = h0 from e16]
      exact ⟨(by rw [own_op, if_neg (fun q => hc25_3 q.symm), if_neg (fun q => hc25_5 q.symm), if_neg (fun q => hc25_7 q.symm), if_neg (fun q => hc25_9 q.symm), if_neg (fun q => hc25_11 q.symm), if_neg (fun q => hc25_13 q.symm), if_neg (fun q => hc25_15 q.symm), if_pos hc25_17.symm]), N0, rfl⟩), ⟨_, rfl⟩, hW, hsame.mono (by decide) (by decide)⟩
  refine own_of (S' := T16.setTop (mkF m 31 #[.val (.int p1), .val (.ref wall), .val (.int (10 : Int32)), .val (.int (7 : Int32)), .val (.ref w_COMPARE)] [])) (fun t k => XS.icmpYes X16.here hx rfl (pc0 := 25) (pc' := 31) rfl (hb hby d1_25) rfl (feq hc25_17).2 (by decide) (by decide) k) ?_
  refine own_of (S' := T16.setTop (mkF m 34 #[.val (.int p1), .val (.ref wall), .val (.int (10 : Int32)), .val (.int (8 : Int32)), .val (.ref w_COMPARE)] [])) (fun t k => XS.iinc X16.here hx rfl (hb hby d1_31) rfl (l' := #[.val (.int p1), .val (.ref wall), .val (.int (10 : Int32)), .val (.int (8 : Int32)), .val (.ref w_COMPARE)]) rfl k) ?_
  refine own_of (S' := T16.setTop (mkF m 9 #[.val (.int p1), .val (.ref wall), .val (.int (10 : Int32)), .val (.int (8 : Int32)), .val (.ref w_COMPARE)] [])) (fun t k => XS.goto X16.here hx rfl (pc0 := 34) (pc' := 9) rfl (hb hby d1_34) (by decide) (by decide) k) ?_
  refine own_of (S' := T16.setTop (mkF m 10 #[.val (.int p1), .val (.ref wall), .val (.int (10 : Int32)), .val (.int (8 : Int32)), .val (.ref w_COMPARE)] [(.int (8 : Int32))])) (fun t k => XS.iloadN X16.here hx rfl (hb hby d1_9) rfl k) ?_
  refine own_of (S' := T16.setTop (mkF m 11 #[.val (.int p1), .val (.ref wall), .val (.int (10 : Int32)), .val (.int (8 : Int32)), .val (.ref w_COMPARE)] [(.int (10 : Int32)), (.int (8 : Int32))])) (fun t k => XS.iloadN X16.here hx rfl (hb hby d1_10) rfl k) ?_
  refine own_of (S' := T16.setTop (mkF m 14 #[.val (.int p1), .val (.ref wall), .val (.int (10 : Int32)), .val (.int (8 : Int32)), .val (.ref w_COMPARE)] [])) (fun t k => XS.icmpNo X16.here hx rfl (hb hby d1_11) rfl (tlt (by decide : (8 : Int32) < (10 : Int32))).2.1 k) ?_
  refine own_of (S' := T16.setTop (mkF m 15 #[.val (.int p1), .val (.ref wall), .val (.int (10 : Int32)), .val (.int (8 : Int32)), .val (.ref w_COMPARE)] [(.ref wall)])) (fun t k => XS.aloadN X16.here hx rfl (hb hby d1_14) rfl rfl k) ?_
  refine own_of (S' := T16.setTop (mkF m 16 #[.val (.int p1), .val (.ref wall), .val (.int (10 : Int32)), .val (.int (8 : Int32)), .val (.ref w_COMPARE)] [(.int (8 : Int32)), (.ref wall)])) (fun t k => XS.iloadN X16.here hx rfl (hb hby d1_15) rfl k) ?_
  refine own_of (S' := T16.setTop (mkF m 17 #[.val (.int p1), .val (.ref wall), .val (.int (10 : Int32)), .val (.int (8 : Int32)), .val (.ref w_COMPARE)] [(.ref w_ABANDON)])) (own_ldA X16 hx hZ e16 V_wall rfl (j := (8 : Int32)) (y := (.ref w_ABANDON)) (by decide) (by decide) rfl (g := (mkF m 16 #[.val (.int p1), .val (.ref wall), .val (.int (10 : Int32)), .val (.int (8 : Int32)), .val (.ref w_COMPARE)] [(.int (8 : Int32)), (.ref wall)])) rfl rfl (hb hby d1_16)) ?_
  refine own_of (S' := T16.setTop (mkF m 19 #[.val (.int p1), .val (.ref wall), .val (.int (10 : Int32)), .val (.int (8 : Int32)), .val (.ref w_ABANDON)] [])) (fun t k => XS.astore X16.here hx rfl (hb hby d1_17) rfl rfl (l' := #[.val (.int p1), .val (.ref wall), .val (.int (10 : Int32)), .val (.int (8 : Int32)), .val (.ref w_ABANDON)]) rfl k) ?_
  refine own_of (S' := T16.setTop (mkF m 21 #[.val (.int p1), .val (.ref wall), .val (.int (10 : Int32)), .val (.int (8 : Int32)), .val (.ref w_ABANDON)] [(.ref w_ABANDON)])) (fun t k => XS.aload X16.here hx rfl (hb hby d1_19) rfl rfl k) ?_
  obtain ⟨T18, X18, e18, st18⟩ := getF X16 hx hZ hown (host := "") (Or.inl (hw _ (List.mem_of_getElem? (i := 8) rfl))) Via.refl e16 F_requestTag_w_ABANDON (g := (mkF m 21 #[.val (.int p1), .val (.ref wall), .val (.int (10 : Int32)), .val (.int (8 : Int32)), .val (.ref w_ABANDON)] [(.ref w_ABANDON)])) rfl rfl (hb hby d1_21)
  refine own_of (S' := T18.setTop (mkF m 24 #[.val (.int p1), .val (.ref wall), .val (.int (10 : Int32)), .val (.int (8 : Int32)), .val (.ref w_ABANDON)] [(.int (80 : Int32))])) st18 ?_
  refine own_of (S' := T18.setTop (mkF m 25 #[.val (.int p1), .val (.ref wall), .val (.int (10 : Int32)), .val (.int (8 : Int32)), .val (.ref w_ABANDON)] [(.int p1), (.int (80 : Int32))])) (fun t k => XS.iloadN X18.here hx rfl (hb hby d1_24) rfl k) ?_
  by_cases hc25_19 : (80 : Int32) = p1
  · refine own_of (S' := T18.setTop (mkF m 28 #[.val (.int p1), .val (.ref wall), .val (.int (10 : Int32)), .val (.int (8 : Int32)), .val (.ref w_ABANDON)] [])) (fun t k => XS.icmpNo X18.here hx rfl (hb hby d1_25) rfl (teq hc25_19).2 k) ?_
    refine own_of (S' := T18.setTop (mkF m 30 #[.val (.int p1), .val (.ref wall), .val (.int (10 : Int32)), .val (.int (8 : Int32)), .val (.ref w_ABANDON)] [(.ref w_ABANDON)])) (fun t k => XS.aload X18.here hx rfl (hb hby d1_28) rfl rfl k) ?_
    obtain ⟨fs, hr, hrun, hended, hW, hsame⟩ := X18.leave (v := some (.ref w_ABANDON)) (fun h => by rw [Bd.returns] at h; cases h)
    subst hKd
    exact ⟨_, _, (retOut X18 hx Bd.returns rfl (Or.inr (Or.inr (Or.inr (Or.inr ⟨rfl, rfl, rfl⟩)))) (hb hby d1_30) hr), hrun, hended, _, _, rfl, (by
      show Q1 Z p1 wall w_BIND w_UNBIND w_SEARCH w_MODIFY w_ADD w_DELETE w_MODIFY_DN w_COMPARE w_ABANDON w_EXTENDED h0 n0 _ T18.heap _
      rw [show T18.heap = h0 from e18]
      exact ⟨(by rw [own_op, if_neg (fun q => hc25_3 q.symm), if_neg (fun q => hc25_5 q.symm), if_neg (fun q => hc25_7 q.symm), if_neg (fun q => hc25_9 q.symm), if_neg (fun q => hc25_11 q.symm), if_neg (fun q => hc25_13 q.symm), if_neg (fun q => hc25_15 q.symm), if_neg (fun q => hc25_17 q.symm), if_pos hc25_19.symm]), N0, rfl⟩), ⟨_, rfl⟩, hW, hsame.mono (by decide) (by decide)⟩
  refine own_of (S' := T18.setTop (mkF m 31 #[.val (.int p1), .val (.ref wall), .val (.int (10 : Int32)), .val (.int (8 : Int32)), .val (.ref w_ABANDON)] [])) (fun t k => XS.icmpYes X18.here hx rfl (pc0 := 25) (pc' := 31) rfl (hb hby d1_25) rfl (feq hc25_19).2 (by decide) (by decide) k) ?_
  refine own_of (S' := T18.setTop (mkF m 34 #[.val (.int p1), .val (.ref wall), .val (.int (10 : Int32)), .val (.int (9 : Int32)), .val (.ref w_ABANDON)] [])) (fun t k => XS.iinc X18.here hx rfl (hb hby d1_31) rfl (l' := #[.val (.int p1), .val (.ref wall), .val (.int (10 : Int32)), .val (.int (9 : Int32)), .val (.ref w_ABANDON)]) rfl k) ?_
  refine own_of (S' := T18.setTop (mkF m 9 #[.val (.int p1), .val (.ref wall), .val (.int (10 : Int32)), .val (.int (9 : Int32)), .val (.ref w_ABANDON)] [])) (fun t k => XS.goto X18.here hx rfl (pc0 := 34) (pc' := 9) rfl (hb hby d1_34) (by decide) (by decide) k) ?_
  refine own_of (S' := T18.setTop (mkF m 10 #[.val (.int p1), .val (.ref wall), .val (.int (10 : Int32)), .val (.int (9 : Int32)), .val (.ref w_ABANDON)] [(.int (9 : Int32))])) (fun t k => XS.iloadN X18.here hx rfl (hb hby d1_9) rfl k) ?_
  refine own_of (S' := T18.setTop (mkF m 11 #[.val (.int p1), .val (.ref wall), .val (.int (10 : Int32)), .val (.int (9 : Int32)), .val (.ref w_ABANDON)] [(.int (10 : Int32)), (.int (9 : Int32))])) (fun t k => XS.iloadN X18.here hx rfl (hb hby d1_10) rfl k) ?_
  refine own_of (S' := T18.setTop (mkF m 14 #[.val (.int p1), .val (.ref wall), .val (.int (10 : Int32)), .val (.int (9 : Int32)), .val (.ref w_ABANDON)] [])) (fun t k => XS.icmpNo X18.here hx rfl (hb hby d1_11) rfl (tlt (by decide : (9 : Int32) < (10 : Int32))).2.1 k) ?_
  refine own_of (S' := T18.setTop (mkF m 15 #[.val (.int p1), .val (.ref wall), .val (.int (10 : Int32)), .val (.int (9 : Int32)), .val (.ref w_ABANDON)] [(.ref wall)])) (fun t k => XS.aloadN X18.here hx rfl (hb hby d1_14) rfl rfl k) ?_
  refine own_of (S' := T18.setTop (mkF m 16 #[.val (.int p1), .val (.ref wall), .val (.int (10 : Int32)), .val (.int (9 : Int32)), .val (.ref w_ABANDON)] [(.int (9 : Int32)), (.ref wall)])) (fun t k => XS.iloadN X18.here hx rfl (hb hby d1_15) rfl k) ?_
  refine own_of (S' := T18.setTop (mkF m 17 #[.val (.int p1), .val (.ref wall), .val (.int (10 : Int32)), .val (.int (9 : Int32)), .val (.ref w_ABANDON)] [(.ref w_EXTENDED)])) (own_ldA X18 hx hZ e18 V_wall rfl (j := (9 : Int32)) (y := (.ref w_EXTENDED)) (by decide) (by decide) rfl (g := (mkF m 16 #[.val (.int p1), .val (.ref wall), .val (.int (10 : Int32)), .val (.int (9 : Int32)), .val (.ref w_ABANDON)] [(.int (9 : Int32)), (.ref wall)])) rfl rfl (hb hby d1_16)) ?_
  refine own_of (S' := T18.setTop (mkF m 19 #[.val (.int p1), .val (.ref wall), .val (.int (10 : Int32)), .val (.int (9 : Int32)), .val (.ref w_EXTENDED)] [])) (fun t k => XS.astore X18.here hx rfl (hb hby d1_17) rfl rfl (l' := #[.val (.int p1), .val (.ref wall), .val (.int (10 : Int32)), .val (.int (9 : Int32)), .val (.ref w_EXTENDED)]) rfl k) ?_
  refine own_of (S' := T18.setTop (mkF m 21 #[.val (.int p1), .val (.ref wall), .val (.int (10 : Int32)), .val (.int (9 : Int32)), .val (.ref w_EXTENDED)] [(.ref w_EXTENDED)])) (fun t k => XS.aload X18.here hx rfl (hb hby d1_19) rfl rfl k) ?_
  obtain ⟨T20, X20, e20, st20⟩ := getF X18 hx hZ hown (host := "") (Or.inl (hw _ (List.mem_of_getElem? (i := 8) rfl))) Via.refl e18 F_requestTag_w_EXTENDED (g := (mkF m 21 #[.val (.int p1), .val (.ref wall), .val (.int (10 : Int32)), .val (.int (9 : Int32)), .val (.ref w_EXTENDED)] [(.ref w_EXTENDED)])) rfl rfl (hb hby d1_21)
  refine own_of (S' := T20.setTop (mkF m 24 #[.val (.int p1), .val (.ref wall), .val (.int (10 : Int32)), .val (.int (9 : Int32)), .val (.ref w_EXTENDED)] [(.int (119 : Int32))])) st20 ?_
  refine own_of (S' := T20.setTop (mkF m 25 #[.val (.int p1), .val (.ref wall), .val (.int (10 : Int32)), .val (.int (9 : Int32)), .val (.ref w_EXTENDED)] [(.int p1), (.int (119 : Int32))])) (fun t k => XS.iloadN X20.here hx rfl (hb hby d1_24) rfl k) ?_
  by_cases hc25_21 : (119 : Int32) = p1
  · refine own_of (S' := T20.setTop (mkF m 28 #[.val (.int p1), .val (.ref wall), .val (.int (10 : Int32)), .val (.int (9 : Int32)), .val (.ref w_EXTENDED)] [])) (fun t k => XS.icmpNo X20.here hx rfl (hb hby d1_25) rfl (teq hc25_21).2 k) ?_
    refine own_of (S' := T20.setTop (mkF m 30 #[.val (.int p1), .val (.ref wall), .val (.int (10 : Int32)), .val (.int (9 : Int32)), .val (.ref w_EXTENDED)] [(.ref w_EXTENDED)])) (fun t k => XS.aload X20.here hx rfl (hb hby d1_28) rfl rfl k) ?_
    obtain ⟨fs, hr, hrun, hended, hW, hsame⟩ := X20.leave (v := some (.ref w_EXTENDED)) (fun h => by rw [Bd.returns] at h; cases h)
    subst hKd
    exact ⟨_, _, (retOut X20 hx Bd.returns rfl (Or.inr (Or.inr (Or.inr (Or.inr ⟨rfl, rfl, rfl⟩)))) (hb hby d1_30) hr), hrun, hended, _, _, rfl, (by
      show Q1 Z p1 wall w_BIND w_UNBIND w_SEARCH w_MODIFY w_ADD w_DELETE w_MODIFY_DN w_COMPARE w_ABANDON w_EXTENDED h0 n0 _ T20.heap _
      rw [show T20.heap = h0 from e20]
      exact ⟨(by rw [own_op, if_neg (fun q => hc25_3 q.symm), if_neg (fun q => hc25_5 q.symm), if_neg (fun q => hc25_7 q.symm), if_neg (fun q => hc25_9 q.symm), if_neg (fun q => hc25_11 q.symm), if_neg (fun q => hc25_13 q.symm), if_neg (fun q => hc25_15 q.symm), if_neg (fun q => hc25_17 q.symm), if_neg (fun q => hc25_19 q.symm), if_pos hc25_21.symm]), N0, rfl⟩), ⟨_, rfl⟩, hW, hsame.mono (by decide) (by decide)⟩
  refine own_of (S' := T20.setTop (mkF m 31 #[.val (.int p1), .val (.ref wall), .val (.int (10 : Int32)), .val (.int (9 : Int32)), .val (.ref w_EXTENDED)] [])) (fun t k => XS.icmpYes X20.here hx rfl (pc0 := 25) (pc' := 31) rfl (hb hby d1_25) rfl (feq hc25_21).2 (by decide) (by decide) k) ?_
  refine own_of (S' := T20.setTop (mkF m 34 #[.val (.int p1), .val (.ref wall), .val (.int (10 : Int32)), .val (.int (10 : Int32)), .val (.ref w_EXTENDED)] [])) (fun t k => XS.iinc X20.here hx rfl (hb hby d1_31) rfl (l' := #[.val (.int p1), .val (.ref wall), .val (.int (10 : Int32)), .val (.int (10 : Int32)), .val (.ref w_EXTENDED)]) rfl k) ?_
  refine own_of (S' := T20.setTop (mkF m 9 #[.val (.int p1), .val (.ref wall), .val (.int (10 : Int32)), .val (.int (10 : Int32)), .val (.ref w_EXTENDED)] [])) (fun t k => XS.goto X20.here hx rfl (pc0 := 34) (pc' := 9) rfl (hb hby d1_34) (by decide) (by decide) k) ?_
  refine own_of (S' := T20.setTop (mkF m 10 #[.val (.int p1), .val (.ref wall), .val (.int (10 : Int32)), .val (.int (10 : Int32)), .val (.ref w_EXTENDED)] [(.int (10 : Int32))])) (fun t k => XS.iloadN X20.here hx rfl (hb hby d1_9) rfl k) ?_
  refine own_of (S' := T20.setTop (mkF m 11 #[.val (.int p1), .val (.ref wall), .val (.int (10 : Int32)), .val (.int (10 : Int32)), .val (.ref w_EXTENDED)] [(.int (10 : Int32)), (.int (10 : Int32))])) (fun t k => XS.iloadN X20.here hx rfl (hb hby d1_10) rfl k) ?_
  refine own_of (S' := T20.setTop (mkF m 37 #[.val (.int p1), .val (.ref wall), .val (.int (10 : Int32)), .val (.int (10 : Int32)), .val (.ref w_EXTENDED)] [])) (fun t k => XS.icmpYes X20.here hx rfl (pc0 := 11) (pc' := 37) rfl (hb hby d1_11) rfl (flt (by decide : ¬ ((10 : Int32) < (10 : Int32)))).2.1 (by decide) (by decide) k) ?_
  refine own_of (S' := T20.setTop (mkF m 38 #[.val (.int p1), .val (.ref wall), .val (.int (10 : Int32)), .val (.int (10 : Int32)), .val (.ref w_EXTENDED)] [.null])) (fun t k => XS.aconstNull X20.here hx rfl (hb hby d1_37) k) ?_
  obtain ⟨fs, hr, hrun, hended, hW, hsame⟩ := X20.leave (v := some .null) (fun h => by rw [Bd.returns] at h; cases h)
  subst hKd
  exact ⟨_, _, (retOut X20 hx Bd.returns rfl (Or.inr (Or.inr (Or.inr (Or.inr ⟨rfl, rfl, rfl⟩)))) (hb hby d1_38) hr), hrun, hended, _, _, rfl, (by
    show Q1 Z p1 wall w_BIND w_UNBIND w_SEARCH w_MODIFY w_ADD w_DELETE w_MODIFY_DN w_COMPARE w_ABANDON w_EXTENDED h0 n0 _ T20.heap _
    rw [show T20.heap = h0 from e20]
    exact ⟨(by rw [own_op, if_neg (fun q => hc25_3 q.symm), if_neg (fun q => hc25_5 q.symm), if_neg (fun q => hc25_7 q.symm), if_neg (fun q => hc25_9 q.symm), if_neg (fun q => hc25_11 q.symm), if_neg (fun q => hc25_13 q.symm), if_neg (fun q => hc25_15 q.symm), if_neg (fun q => hc25_17 q.symm), if_neg (fun q => hc25_19 q.symm), if_neg (fun q => hc25_21 q.symm)]), N0, rfl⟩), ⟨_, rfl⟩, hW, hsame.mono (by decide) (by decide)⟩
theorem d2_0 : decode method_3_code 0 = .ok (.iload_n 0, 1) := by decide +kernel
theorem d2_1 : decode method_3_code 1 = .ok (.bipush 96, 2) := by decide +kernel
theorem d2_3 : decode method_3_code 3 = .ok (.if_icmp .ne 7, 3) := by decide +kernel
theorem d2_6 : decode method_3_code 6 = .ok (.getstatic 18, 3) := by decide +kernel
theorem d2_9 : decode method_3_code 9 = .ok (.areturn, 1) := by decide +kernel
theorem d2_10 : decode method_3_code 10 = .ok (.iload_n 0, 1) := by decide +kernel
theorem d2_11 : decode method_3_code 11 = .ok (.bipush 66, 2) := by decide +kernel
theorem d2_13 : decode method_3_code 13 = .ok (.if_icmp .ne 7, 3) := by decide +kernel
theorem d2_16 : decode method_3_code 16 = .ok (.getstatic 22, 3) := by decide +kernel
theorem d2_19 : decode method_3_code 19 = .ok (.areturn, 1) := by decide +kernel
theorem d2_20 : decode method_3_code 20 = .ok (.iload_n 0, 1) := by decide +kernel
theorem d2_21 : decode method_3_code 21 = .ok (.bipush 99, 2) := by decide +kernel
theorem d2_23 : decode method_3_code 23 = .ok (.if_icmp .ne 7, 3) := by decide +kernel
theorem d2_26 : decode method_3_code 26 = .ok (.getstatic 25, 3) := by decide +kernel
theorem d2_29 : decode method_3_code 29 = .ok (.areturn, 1) := by decide +kernel
theorem d2_30 : decode method_3_code 30 = .ok (.iload_n 0, 1) := by decide +kernel
theorem d2_31 : decode method_3_code 31 = .ok (.bipush 102, 2) := by decide +kernel
theorem d2_33 : decode method_3_code 33 = .ok (.if_icmp .ne 7, 3) := by decide +kernel
theorem d2_36 : decode method_3_code 36 = .ok (.getstatic 28, 3) := by decide +kernel
theorem d2_39 : decode method_3_code 39 = .ok (.areturn, 1) := by decide +kernel
theorem d2_40 : decode method_3_code 40 = .ok (.iload_n 0, 1) := by decide +kernel
theorem d2_41 : decode method_3_code 41 = .ok (.bipush 104, 2) := by decide +kernel
theorem d2_43 : decode method_3_code 43 = .ok (.if_icmp .ne 7, 3) := by decide +kernel
theorem d2_46 : decode method_3_code 46 = .ok (.getstatic 31, 3) := by decide +kernel
theorem d2_49 : decode method_3_code 49 = .ok (.areturn, 1) := by decide +kernel
theorem d2_50 : decode method_3_code 50 = .ok (.iload_n 0, 1) := by decide +kernel
theorem d2_51 : decode method_3_code 51 = .ok (.bipush 74, 2) := by decide +kernel
theorem d2_53 : decode method_3_code 53 = .ok (.if_icmp .ne 7, 3) := by decide +kernel
theorem d2_56 : decode method_3_code 56 = .ok (.getstatic 34, 3) := by decide +kernel
theorem d2_59 : decode method_3_code 59 = .ok (.areturn, 1) := by decide +kernel
theorem d2_60 : decode method_3_code 60 = .ok (.iload_n 0, 1) := by decide +kernel
theorem d2_61 : decode method_3_code 61 = .ok (.bipush 108, 2) := by decide +kernel
theorem d2_63 : decode method_3_code 63 = .ok (.if_icmp .ne 7, 3) := by decide +kernel
theorem d2_66 : decode method_3_code 66 = .ok (.getstatic 37, 3) := by decide +kernel
theorem d2_69 : decode method_3_code 69 = .ok (.areturn, 1) := by decide +kernel
theorem d2_70 : decode method_3_code 70 = .ok (.iload_n 0, 1) := by decide +kernel
theorem d2_71 : decode method_3_code 71 = .ok (.bipush 110, 2) := by decide +kernel
theorem d2_73 : decode method_3_code 73 = .ok (.if_icmp .ne 7, 3) := by decide +kernel
theorem d2_76 : decode method_3_code 76 = .ok (.getstatic 40, 3) := by decide +kernel
theorem d2_79 : decode method_3_code 79 = .ok (.areturn, 1) := by decide +kernel
theorem d2_80 : decode method_3_code 80 = .ok (.iload_n 0, 1) := by decide +kernel
theorem d2_81 : decode method_3_code 81 = .ok (.bipush 80, 2) := by decide +kernel
theorem d2_83 : decode method_3_code 83 = .ok (.if_icmp .ne 7, 3) := by decide +kernel
theorem d2_86 : decode method_3_code 86 = .ok (.getstatic 43, 3) := by decide +kernel
theorem d2_89 : decode method_3_code 89 = .ok (.areturn, 1) := by decide +kernel
theorem d2_90 : decode method_3_code 90 = .ok (.iload_n 0, 1) := by decide +kernel
theorem d2_91 : decode method_3_code 91 = .ok (.bipush 119, 2) := by decide +kernel
theorem d2_93 : decode method_3_code 93 = .ok (.if_icmp .ne 7, 3) := by decide +kernel
theorem d2_96 : decode method_3_code 96 = .ok (.getstatic 46, 3) := by decide +kernel
theorem d2_99 : decode method_3_code 99 = .ok (.areturn, 1) := by decide +kernel
theorem d2_100 : decode method_3_code 100 = .ok (.aconst_null, 1) := by decide +kernel
theorem d2_101 : decode method_3_code 101 = .ok (.areturn, 1) := by decide +kernel
theorem pn_2 : plainName "com/example/waypost/waypost/ldap/OperationOfPinLaw" = true := by first | (simp [plainName, overriddenIn]; done) | decide +kernel
theorem ef_2 (m : MethodId) (p1 : Int32) : entryFrame m #[(.int p1)] 1 = mkF m 0 #[.val (.int p1)] [] := by first | (simp [entryFrame, mkF, argsToLocals, Value.category]; done) | rfl
def Q2 (Z : State) (p1 : Int32) (w_BIND : Addr) (w_UNBIND : Addr) (w_SEARCH : Addr) (w_MODIFY : Addr) (w_ADD : Addr) (w_DELETE : Addr) (w_MODIFY_DN : Addr) (w_COMPARE : Addr) (w_ABANDON : Addr) (w_EXTENDED : Addr) (h0 : Heap) (n0 : Nat) (v : Option Value) (h : Heap) (L : List Loc) : Prop := (v = some (own_op p1 w_BIND w_UNBIND w_SEARCH w_MODIFY w_ADD w_DELETE w_MODIFY_DN w_COMPARE w_ABANDON w_EXTENDED)) ∧ (Fr n0 L) ∧ (h = h0)
set_option maxRecDepth 65536 in
set_option maxHeartbeats 40000000 in
theorem rm2 (l : Launch) (Z : State) (a0 : Array Value) (hw : ∀ d ∈ tables_1, d.before a0 Z = true) (ws : List Jvm.Cond) (p1 : Int32) (w_BIND : Addr) (w_UNBIND : Addr) (w_SEARCH : Addr) (w_MODIFY : Addr) (w_ADD : Addr) (w_DELETE : Addr) (w_MODIFY_DN : Addr) (w_COMPARE : Addr) (w_ABANDON : Addr) (w_EXTENDED : Addr) (h0 : Heap) (n0 : Nat) (Z0 : n0 ≤ h0.size) (S_BIND : Sta Z h0 "com/example/waypost/waypost/ldap/Operation" "BIND" "Lcom/example/waypost/waypost/ldap/Operation;" (.ref w_BIND)) (S_UNBIND : Sta Z h0 "com/example/waypost/waypost/ldap/Operation" "UNBIND" "Lcom/example/waypost/waypost/ldap/Operation;" (.ref w_UNBIND)) (S_SEARCH : Sta Z h0 "com/example/waypost/waypost/ldap/Operation" "SEARCH" "Lcom/example/waypost/waypost/ldap/Operation;" (.ref w_SEARCH)) (S_MODIFY : Sta Z h0 "com/example/waypost/waypost/ldap/Operation" "MODIFY" "Lcom/example/waypost/waypost/ldap/Operation;" (.ref w_MODIFY)) (S_ADD : Sta Z h0 "com/example/waypost/waypost/ldap/Operation" "ADD" "Lcom/example/waypost/waypost/ldap/Operation;" (.ref w_ADD)) (S_DELETE : Sta Z h0 "com/example/waypost/waypost/ldap/Operation" "DELETE" "Lcom/example/waypost/waypost/ldap/Operation;" (.ref w_DELETE)) (S_MODIFY_DN : Sta Z h0 "com/example/waypost/waypost/ldap/Operation" "MODIFY_DN" "Lcom/example/waypost/waypost/ldap/Operation;" (.ref w_MODIFY_DN)) (S_COMPARE : Sta Z h0 "com/example/waypost/waypost/ldap/Operation" "COMPARE" "Lcom/example/waypost/waypost/ldap/Operation;" (.ref w_COMPARE)) (S_ABANDON : Sta Z h0 "com/example/waypost/waypost/ldap/Operation" "ABANDON" "Lcom/example/waypost/waypost/ldap/Operation;" (.ref w_ABANDON)) (S_EXTENDED : Sta Z h0 "com/example/waypost/waypost/ldap/Operation" "EXTENDED" "Lcom/example/waypost/waypost/ldap/Operation;" (.ref w_EXTENDED)) :
    MetFree l (⟨"com/example/waypost/waypost/ldap/OperationOfPinLaw", "expected", "(I)Lcom/example/waypost/waypost/ldap/Operation;"⟩ : MethodName) (head1 (Jvm.Cond.code (⟨"com/example/waypost/waypost/ldap/OperationOfPinLaw", "expected", "(I)Lcom/example/waypost/waypost/ldap/Operation;"⟩ : MethodName) method_3_code 1 (some (.object "com/example/waypost/waypost/ldap/Operation")) :: ws) ({ frames := 0, cells := 0, slots := 0, locals := 0 } : Room)) (fun a U => a = #[(.int p1)] ∧ Z.Warmed39 U.vm ∧ U.heap = h0) (fun _ _ _ _ _ => True) (fun _ U o U' => ∃ v L, o = .returned v ∧ Q2 Z p1 w_BIND w_UNBIND w_SEARCH w_MODIFY w_ADD w_DELETE w_MODIFY_DN w_COMPARE w_ABANDON w_EXTENDED h0 n0 v U'.heap L ∧ FrameEnd U o U' L ({ frames := 0, cells := 0, slots := 0, locals := 0 } : Room).cells ({ frames := 0, cells := 0, slots := 0, locals := 0 } : Room).slots) := by
  refine MetFree.of_bodySF (plainFor_of_name pn_2) hisR ?_
  intro p e s m args below meth c s₁ Bd hml0 hP hK
  obtain ⟨rfl, hZ, hh⟩ := hP
  have hx := Bd.exec
  have hby := Bd.bytes
  have hml : c.maxLocals = 1 := hml0
  have hown : s.vm.findClass "com/example/waypost/waypost/ldap/OperationOfPinLaw" = some m.cls := findClass_of_methodNamed Bd.named
  have hnm := (name_of_methodNamed Bd.named Bd.method).1
  have X0 : Stand p l e ({ frames := 0, cells := 0, slots := 0, locals := 0 } : Room) s m #[(.int p1)] below meth c s₁ [] 0 0 := Stand.of_body Bd
  have e0 : s₁.heap = h0 := by rw [← hh, Bd.state]; rfl
  have N0 := Fr.nil n0
  refine own_of (S := s₁.setTop (entryFrame m #[(.int p1)] 1)) (S' := s₁.setTop (mkF m 0 #[.val (.int p1)] [])) (K := fun s₂ o => ∃ v L, o = .returned v ∧ Q2 Z p1 w_BIND w_UNBIND w_SEARCH w_MODIFY w_ADD w_DELETE w_MODIFY_DN w_COMPARE w_ABANDON w_EXTENDED h0 n0 v s₂.heap L ∧ FrameEnd s o s₂ L ({ frames := 0, cells := 0, slots := 0, locals := 0 } : Room).cells ({ frames := 0, cells := 0, slots := 0, locals := 0 } : Room).slots) (fun t k => castTop (ef_2 m p1) k) ?_
  refine own_nameK fun K hKd => ?_
  refine own_of (S' := s₁.setTop (mkF m 1 #[.val (.int p1)] [(.int p1)])) (fun t k => XS.iloadN X0.here hx rfl (hb hby d2_0) rfl k) ?_
  refine own_of (S' := s₁.setTop (mkF m 3 #[.val (.int p1)] [(.int (96 : Int32)), (.int p1)])) (fun t k => XS.bipush X0.here hx rfl (hb hby d2_1) k) ?_
  by_cases hc3_1 : p1 = (96 : Int32)
  · refine own_of (S' := s₁.setTop (mkF m 6 #[.val (.int p1)] [])) (fun t k => XS.icmpNo X0.here hx rfl (hb hby d2_3) rfl (teq hc3_1).2 k) ?_
    obtain ⟨T2, X2, e2, st2⟩ := getS2 X0 hx hZ hown (host := "") (Or.inl (hw _ (List.mem_of_getElem? (i := 26) rfl))) Via.refl e0 S_BIND (g := (mkF m 6 #[.val (.int p1)] [])) rfl (hb hby d2_6)
    refine own_of (S' := T2.setTop (mkF m 9 #[.val (.int p1)] [(.ref w_BIND)])) st2 ?_
    obtain ⟨fs, hr, hrun, hended, hW, hsame⟩ := X2.leave (v := some (.ref w_BIND)) (fun h => by rw [Bd.returns] at h; cases h)
    subst hKd
    exact ⟨_, _, (retOut X2 hx Bd.returns rfl (Or.inr (Or.inr (Or.inr (Or.inr ⟨rfl, rfl, rfl⟩)))) (hb hby d2_9) hr), hrun, hended, _, _, rfl, (by
      show Q2 Z p1 w_BIND w_UNBIND w_SEARCH w_MODIFY w_ADD w_DELETE w_MODIFY_DN w_COMPARE w_ABANDON w_EXTENDED h0 n0 _ T2.heap _
      rw [show T2.heap = h0 from e2]
      exact ⟨(by rw [own_op, if_pos hc3_1]), N0, rfl⟩), ⟨_, rfl⟩, hW, hsame.mono (by decide) (by decide)⟩
  refine own_of (S' := s₁.setTop (mkF m 10 #[.val (.int p1)] [])) (fun t k => XS.icmpYes X0.here hx rfl (pc0 := 3) (pc' := 10) rfl (hb hby d2_3) rfl (feq hc3_1).2 (by decide) (by decide) k) ?_
  refine own_of (S' := s₁.setTop (mkF m 11 #[.val (.int p1)] [(.int p1)])) (fun t k => XS.iloadN X0.here hx rfl (hb hby d2_10) rfl k) ?_
  refine own_of (S' := s₁.setTop (mkF m 13 #[.val (.int p1)] [(.int (66 : Int32)), (.int p1)])) (fun t k => XS.bipush X0.here hx rfl (hb hby d2_11) k) ?_
  by_cases hc13_3 : p1 = (66 : Int32)
  · refine own_of (S' := s₁.setTop (mkF m 16 #[.val (.int p1)] [])) (fun t k => XS.icmpNo X0.here hx rfl (hb hby d2_13) rfl (teq hc13_3).2 k) ?_
    obtain ⟨T4, X4, e4, st4⟩ := getS2 X0 hx hZ hown (host := "") (Or.inl (hw _ (List.mem_of_getElem? (i := 24) rfl))) Via.refl e0 S_UNBIND (g := (mkF m 16 #[.val (.int p1)] [])) rfl (hb hby d2_16)
    refine own_of (S' := T4.setTop (mkF m 19 #[.val (.int p1)] [(.ref w_UNBIND)])) st4 ?_
    obtain ⟨fs, hr, hrun, hended, hW, hsame⟩ := X4.leave (v := some (.ref w_UNBIND)) (fun h => by rw [Bd.returns] at h; cases h)
    subst hKd
    exact ⟨_, _, (retOut X4 hx Bd.returns rfl (Or.inr (Or.inr (Or.inr (Or.inr ⟨rfl, rfl, rfl⟩)))) (hb hby d2_19) hr), hrun, hended, _, _, rfl, (by
      show Q2 Z p1 w_BIND w_UNBIND w_SEARCH w_MODIFY w_ADD w_DELETE w_MODIFY_DN w_COMPARE w_ABANDON w_EXTENDED h0 n0 _ T4.heap _
      rw [show T4.heap = h0 from e4]
      exact ⟨(by rw [own_op, if_neg hc3_1, if_pos hc13_3]), N0, rfl⟩), ⟨_, rfl⟩, hW, hsame.mono (by decide) (by decide)⟩
  refine own_of (S' := s₁.setTop (mkF m 20 #[.val (.int p1)] [])) (fun t k => XS.icmpYes X0.here hx rfl (pc0 := 13) (pc' := 20) rfl (hb hby d2_13) rfl (feq hc13_3).2 (by decide) (by decide) k) ?_
  refine own_of (S' := s₁.setTop (mkF m 21 #[.val (.int p1)] [(.int p1)])) (fun t k => XS.iloadN X0.here hx rfl (hb hby d2_20) rfl k) ?_
  refine own_of (S' := s₁.setTop (mkF m 23 #[.val (.int p1)] [(.int (99 : Int32)), (.int p1)])) (fun t k => XS.bipush X0.here hx rfl (hb hby d2_21) k) ?_
  by_cases hc23_5 : p1 = (99 : Int32)
  · refine own_of (S' := s₁.setTop (mkF m 26 #[.val (.int p1)] [])) (fun t k => XS.icmpNo X0.here hx rfl (hb hby d2_23) rfl (teq hc23_5).2 k) ?_
    obtain ⟨T6, X6, e6, st6⟩ := getS2 X0 hx hZ hown (host := "") (Or.inl (hw _ (List.mem_of_getElem? (i := 30) rfl))) Via.refl e0 S_SEARCH (g := (mkF m 26 #[.val (.int p1)] [])) rfl (hb hby d2_26)
    refine own_of (S' := T6.setTop (mkF m 29 #[.val (.int p1)] [(.ref w_SEARCH)])) st6 ?_
    obtain ⟨fs, hr, hrun, hended, hW, hsame⟩ := X6.leave (v := some (.ref w_SEARCH)) (fun h => by rw [Bd.returns] at h; cases h)
    subst hKd
    exact ⟨_, _, (retOut X6 hx Bd.returns rfl (Or.inr (Or.inr (Or.inr (Or.inr ⟨rfl, rfl, rfl⟩)))) (hb hby d2_29) hr), hrun, hended, _, _, rfl, (by
      show Q2 Z p1 w_BIND w_UNBIND w_SEARCH w_MODIFY w_ADD w_DELETE w_MODIFY_DN w_COMPARE w_ABANDON w_EXTENDED h0 n0 _ T6.heap _
      rw [show T6.heap = h0 from e6]
      exact ⟨(by rw [own_op, if_neg hc3_1, if_neg hc13_3, if_pos hc23_5]), N0, rfl⟩), ⟨_, rfl⟩, hW, hsame.mono (by decide) (by decide)⟩
  refine own_of (S' := s₁.setTop (mkF m 30 #[.val (.int p1)] [])) (fun t k => XS.icmpYes X0.here hx rfl (pc0 := 23) (pc' := 30) rfl (hb hby d2_23) rfl (feq hc23_5).2 (by decide) (by decide) k) ?_
  refine own_of (S' := s₁.setTop (mkF m 31 #[.val (.int p1)] [(.int p1)])) (fun t k => XS.iloadN X0.here hx rfl (hb hby d2_30) rfl k) ?_
  refine own_of (S' := s₁.setTop (mkF m 33 #[.val (.int p1)] [(.int (102 : Int32)), (.int p1)])) (fun t k => XS.bipush X0.here hx rfl (hb hby d2_31) k) ?_
  by_cases hc33_7 : p1 = (102 : Int32)
  · refine own_of (S' := s₁.setTop (mkF m 36 #[.val (.int p1)] [])) (fun t k => XS.icmpNo X0.here hx rfl (hb hby d2_33) rfl (teq hc33_7).2 k) ?_
    obtain ⟨T8, X8, e8, st8⟩ := getS2 X0 hx hZ hown (host := "") (Or.inl (hw _ (List.mem_of_getElem? (i := 23) rfl))) Via.refl e0 S_MODIFY (g := (mkF m 36 #[.val (.int p1)] [])) rfl (hb hby d2_36)
    refine own_of (S' := T8.setTop (mkF m 39 #[.val (.int p1)] [(.ref w_MODIFY)])) st8 ?_
    obtain ⟨fs, hr, hrun, hended, hW, hsame⟩ := X8.leave (v := some (.ref w_MODIFY)) (fun h => by rw [Bd.returns] at h; cases h)
    subst hKd
    exact ⟨_, _, (retOut X8 hx Bd.returns rfl (Or.inr (Or.inr (Or.inr (Or.inr ⟨rfl, rfl, rfl⟩)))) (hb hby d2_39) hr), hrun, hended, _, _, rfl, (by
      show Q2 Z p1 w_BIND w_UNBIND w_SEARCH w_MODIFY w_ADD w_DELETE w_MODIFY_DN w_COMPARE w_ABANDON w_EXTENDED h0 n0 _ T8.heap _
      rw [show T8.heap = h0 from e8]
      exact ⟨(by rw [own_op, if_neg hc3_1, if_neg hc13_3, if_neg hc23_5, if_pos hc33_7]), N0, rfl⟩), ⟨_, rfl⟩, hW, hsame.mono (by decide) (by decide)⟩
  refine own_of (S' := s₁.setTop (mkF m 40 #[.val (.int p1)] [])) (fun t k => XS.icmpYes X0.here hx rfl (pc0 := 33) (pc' := 40) rfl (hb hby d2_33) rfl (feq hc33_7).2 (by decide) (by decide) k) ?_
  refine own_of (S' := s₁.setTop (mkF m 41 #[.val (.int p1)] [(.int p1)])) (fun t k => XS.iloadN X0.here hx rfl (hb hby d2_40) rfl k) ?_
  refine own_of (S' := s₁.setTop (mkF m 43 #[.val (.int p1)] [(.int (104 : Int32)), (.int p1)])) (fun t k => XS.bipush X0.here hx rfl (hb hby d2_41) k) ?_
  by_cases hc43_9 : p1 = (104 : Int32)
  · refine own_of (S' := s₁.setTop (mkF m 46 #[.val (.int p1)] [])) (fun t k => XS.icmpNo X0.here hx rfl (hb hby d2_43) rfl (teq hc43_9).2 k) ?_
    obtain ⟨T10, X10, e10, st10⟩ := getS2 X0 hx hZ hown (host := "") (Or.inl (hw _ (List.mem_of_getElem? (i := 29) rfl))) Via.refl e0 S_ADD (g := (mkF m 46 #[.val (.int p1)] [])) rfl (hb hby d2_46)
    refine own_of (S' := T10.setTop (mkF m 49 #[.val (.int p1)] [(.ref w_ADD)])) st10 ?_
    obtain ⟨fs, hr, hrun, hended, hW, hsame⟩ := X10.leave (v := some (.ref w_ADD)) (fun h => by rw [Bd.returns] at h; cases h)
    subst hKd
    exact ⟨_, _, (retOut X10 hx Bd.returns rfl (Or.inr (Or.inr (Or.inr (Or.inr ⟨rfl, rfl, rfl⟩)))) (hb hby d2_49) hr), hrun, hended, _, _, rfl, (by
      show Q2 Z p1 w_BIND w_UNBIND w_SEARCH w_MODIFY w_ADD w_DELETE w_MODIFY_DN w_COMPARE w_ABANDON w_EXTENDED h0 n0 _ T10.heap _
      rw [show T10.heap = h0 from e10]
      exact ⟨(by rw [own_op, if_neg hc3_1, if_neg hc13_3, if_neg hc23_5, if_neg hc33_7, if_pos hc43_9]), N0, rfl⟩), ⟨_, rfl⟩, hW, hsame.mono (by decide) (by decide)⟩
  refine own_of (S' := s₁.setTop (mkF m 50 #[.val (.int p1)] [])) (fun t k => XS.icmpYes X0.here hx rfl (pc0 := 43) (pc' := 50) rfl (hb hby d2_43) rfl (feq hc43_9).2 (by decide) (by decide) k) ?_
  refine own_of (S' := s₁.setTop (mkF m 51 #[.val (.int p1)] [(.int p1)])) (fun t k => XS.iloadN X0.here hx rfl (hb hby d2_50) rfl k) ?_
  refine own_of (S' := s₁.setTop (mkF m 53 #[.val (.int p1)] [(.int (74 : Int32)), (.int p1)])) (fun t k => XS.bipush X0.here hx rfl (hb hby d2_51) k) ?_
  by_cases hc53_11 : p1 = (74 : Int32)
  · refine own_of (S' := s₁.setTop (mkF m 56 #[.val (.int p1)] [])) (fun t k => XS.icmpNo X0.here hx rfl (hb hby d2_53) rfl (teq hc53_11).2 k) ?_
    obtain ⟨T12, X12, e12, st12⟩ := getS2 X0 hx hZ hown (host := "") (Or.inl (hw _ (List.mem_of_getElem? (i := 25) rfl))) Via.refl e0 S_DELETE (g := (mkF m 56 #[.val (.int p1)] [])) rfl (hb hby d2_56)
    refine own_of (S' := T12.setTop (mkF m 59 #[.val (.int p1)] [(.ref w_DELETE)])) st12 ?_
    obtain ⟨fs, hr, hrun, hended, hW, hsame⟩ := X12.leave (v := some (.ref w_DELETE)) (fun h => by rw [Bd.returns] at h; cases h)
    subst hKd
    exact ⟨_, _, (retOut X12 hx Bd.returns rfl (Or.inr (Or.inr (Or.inr (Or.inr ⟨rfl, rfl, rfl⟩)))) (hb hby d2_59) hr), hrun, hended, _, _, rfl, (by
      show Q2 Z p1 w_BIND w_UNBIND w_SEARCH w_MODIFY w_ADD w_DELETE w_MODIFY_DN w_COMPARE w_ABANDON w_EXTENDED h0 n0 _ T12.heap _
      rw [show T12.heap = h0 from e12]
      exact ⟨(by rw [own_op, if_neg hc3_1, if_neg hc13_3, if_neg hc23_5, if_neg hc33_7, if_neg hc43_9, if_pos hc53_11]), N0, rfl⟩), ⟨_, rfl⟩, hW, hsame.mono (by decide) (by decide)⟩
  refine own_of (S' := s₁.setTop (mkF m 60 #[.val (.int p1)] [])) (fun t k => XS.icmpYes X0.here hx rfl (pc0 := 53) (pc' := 60) rfl (hb hby d2_53) rfl (feq hc53_11).2 (by decide) (by decide) k) ?_
  refine own_of (S' := s₁.setTop (mkF m 61 #[.val (.int p1)] [(.int p1)])) (fun t k => XS.iloadN X0.here hx rfl (hb hby d2_60) rfl k) ?_
  refine own_of (S' := s₁.setTop (mkF m 63 #[.val (.int p1)] [(.int (108 : Int32)), (.int p1)])) (fun t k => XS.bipush X0.here hx rfl (hb hby d2_61) k) ?_
  by_cases hc63_13 : p1 = (108 : Int32)
  · refine own_of (S' := s₁.setTop (mkF m 66 #[.val (.int p1)] [])) (fun t k => XS.icmpNo X0.here hx rfl (hb hby d2_63) rfl (teq hc63_13).2 k) ?_
    obtain ⟨T14, X14, e14, st14⟩ := getS2 X0 hx hZ hown (host := "") (Or.inl (hw _ (List.mem_of_getElem? (i := 32) rfl))) Via.refl e0 S_MODIFY_DN (g := (mkF m 66 #[.val (.int p1)] [])) rfl (hb hby d2_66)
    refine own_of (S' := T14.setTop (mkF m 69 #[.val (.int p1)] [(.ref w_MODIFY_DN)])) st14 ?_
    obtain ⟨fs, hr, hrun, hended, hW, hsame⟩ := X14.leave (v := some (.ref w_MODIFY_DN)) (fun h => by rw [Bd.returns] at h; cases h)
    subst hKd
    exact ⟨_, _, (retOut X14 hx Bd.returns rfl (Or.inr (Or.inr (Or.inr (Or.inr ⟨rfl, rfl, rfl⟩)))) (hb hby d2_69) hr), hrun, hended, _, _, rfl, (by
      show Q2 Z p1 w_BIND w_UNBIND w_SEARCH w_MODIFY w_ADD w_DELETE w_MODIFY_DN w_COMPARE w_ABANDON w_EXTENDED h0 n0 _ T14.heap _
      rw [show T14.heap = h0 from e14]
      exact ⟨(by rw [own_op, if_neg hc3_1, if_neg hc13_3, if_neg hc23_5, if_neg hc33_7, if_neg hc43_9, if_neg hc53_11, if_pos hc63_13]), N0, rfl⟩), ⟨_, rfl⟩, hW, hsame.mono (by decide) (by decide)⟩
  refine own_of (S' := s₁.setTop (mkF m 70 #[.val (.int p1)] [])) (fun t k => XS.icmpYes X0.here hx rfl (pc0 := 63) (pc' := 70) rfl (hb hby d2_63) rfl (feq hc63_13).2 (by decide) (by decide) k) ?_
  refine own_of (S' := s₁.setTop (mkF m 71 #[.val (.int p1)] [(.int p1)])) (fun t k => XS.iloadN X0.here hx rfl (hb hby d2_70) rfl k) ?_
  refine own_of (S' := s₁.setTop (mkF m 73 #[.val (.int p1)] [(.int (110 : Int32)), (.int p1)])) (fun t k => XS.bipush X0.here hx rfl (hb hby d2_71) k) ?_
  by_cases hc73_15 : p1 = (110 : Int32)
  · refine own_of (S' := s₁.setTop (mkF m 76 #[.val (.int p1)] [])) (fun t k => XS.icmpNo X0.here hx rfl (hb hby d2_73) rfl (teq hc73_15).2 k) ?_
    obtain ⟨T16, X16, e16, st16⟩ := getS2 X0 hx hZ hown (host := "") (Or.inl (hw _ (List.mem_of_getElem? (i := 27) rfl))) Via.refl e0 S_COMPARE (g := (mkF m 76 #[.val (.int p1)] [])) rfl (hb hby d2_76)
    refine own_of (S' := T16.setTop (mkF m 79 #[.val (.int p1)] [(.ref w_COMPARE)])) st16 ?_
    obtain ⟨fs, hr, hrun, hended, hW, hsame⟩ := X16.leave (v := some (.ref w_COMPARE)) (fun h => by rw [Bd.returns] at h; cases h)
    subst hKd
    exact ⟨_, _, (retOut X16 hx Bd.returns rfl (Or.inr (Or.inr (Or.inr (Or.inr ⟨rfl, rfl, rfl⟩)))) (hb hby d2_79) hr), hrun, hended, _, _, rfl, (by
      show Q2 Z p1 w_BIND w_UNBIND w_SEARCH w_MODIFY w_ADD w_DELETE w_MODIFY_DN w_COMPARE w_ABANDON w_EXTENDED h0 n0 _ T16.heap _
      rw [show T16.heap = h0 from e16]
      exact ⟨(by rw [own_op, if_neg hc3_1, if_neg hc13_3, if_neg hc23_5, if_neg hc33_7, if_neg hc43_9, if_neg hc53_11, if_neg hc63_13, if_pos hc73_15]), N0, rfl⟩), ⟨_, rfl⟩, hW, hsame.mono (by decide) (by decide)⟩
  refine own_of (S' := s₁.setTop (mkF m 80 #[.val (.int p1)] [])) (fun t k => XS.icmpYes X0.here hx rfl (pc0 := 73) (pc' := 80) rfl (hb hby d2_73) rfl (feq hc73_15).2 (by decide) (by decide) k) ?_
  refine own_of (S' := s₁.setTop (mkF m 81 #[.val (.int p1)] [(.int p1)])) (fun t k => XS.iloadN X0.here hx rfl (hb hby d2_80) rfl k) ?_
  refine own_of (S' := s₁.setTop (mkF m 83 #[.val (.int p1)] [(.int (80 : Int32)), (.int p1)])) (fun t k => XS.bipush X0.here hx rfl (hb hby d2_81) k) ?_
  by_cases hc83_17 : p1 = (80 : Int32)
  · refine own_of (S' := s₁.setTop (mkF m 86 #[.val (.int p1)] [])) (fun t k => XS.icmpNo X0.here hx rfl (hb hby d2_83) rfl (teq hc83_17).2 k) ?_
    obtain ⟨T18, X18, e18, st18⟩ := getS2 X0 hx hZ hown (host := "") (Or.inl (hw _ (List.mem_of_getElem? (i := 31) rfl))) Via.refl e0 S_ABANDON (g := (mkF m 86 #[.val (.int p1)] [])) rfl (hb hby d2_86)
    refine own_of (S' := T18.setTop (mkF m 89 #[.val (.int p1)] [(.ref w_ABANDON)])) st18 ?_
    obtain ⟨fs, hr, hrun, hended, hW, hsame⟩ := X18.leave (v := some (.ref w_ABANDON)) (fun h => by rw [Bd.returns] at h; cases h)
    subst hKd
    exact ⟨_, _, (retOut X18 hx Bd.returns rfl (Or.inr (Or.inr (Or.inr (Or.inr ⟨rfl, rfl, rfl⟩)))) (hb hby d2_89) hr), hrun, hended, _, _, rfl, (by
      show Q2 Z p1 w_BIND w_UNBIND w_SEARCH w_MODIFY w_ADD w_DELETE w_MODIFY_DN w_COMPARE w_ABANDON w_EXTENDED h0 n0 _ T18.heap _
      rw [show T18.heap = h0 from e18]
      exact ⟨(by rw [own_op, if_neg hc3_1, if_neg hc13_3, if_neg hc23_5, if_neg hc33_7, if_neg hc43_9, if_neg hc53_11, if_neg hc63_13, if_neg hc73_15, if_pos hc83_17]), N0, rfl⟩), ⟨_, rfl⟩, hW, hsame.mono (by decide) (by decide)⟩
  refine own_of (S' := s₁.setTop (mkF m 90 #[.val (.int p1)] [])) (fun t k => XS.icmpYes X0.here hx rfl (pc0 := 83) (pc' := 90) rfl (hb hby d2_83) rfl (feq hc83_17).2 (by decide) (by decide) k) ?_
  refine own_of (S' := s₁.setTop (mkF m 91 #[.val (.int p1)] [(.int p1)])) (fun t k => XS.iloadN X0.here hx rfl (hb hby d2_90) rfl k) ?_
  refine own_of (S' := s₁.setTop (mkF m 93 #[.val (.int p1)] [(.int (119 : Int32)), (.int p1)])) (fun t k => XS.bipush X0.here hx rfl (hb hby d2_91) k) ?_
  by_cases hc93_19 : p1 = (119 : Int32)
  · refine own_of (S' := s₁.setTop (mkF m 96 #[.val (.int p1)] [])) (fun t k => XS.icmpNo X0.here hx rfl (hb hby d2_93) rfl (teq hc93_19).2 k) ?_
    obtain ⟨T20, X20, e20, st20⟩ := getS2 X0 hx hZ hown (host := "") (Or.inl (hw _ (List.mem_of_getElem? (i := 28) rfl))) Via.refl e0 S_EXTENDED (g := (mkF m 96 #[.val (.int p1)] [])) rfl (hb hby d2_96)
    refine own_of (S' := T20.setTop (mkF m 99 #[.val (.int p1)] [(.ref w_EXTENDED)])) st20 ?_
    obtain ⟨fs, hr, hrun, hended, hW, hsame⟩ := X20.leave (v := some (.ref w_EXTENDED)) (fun h => by rw [Bd.returns] at h; cases h)
    subst hKd
    exact ⟨_, _, (retOut X20 hx Bd.returns rfl (Or.inr (Or.inr (Or.inr (Or.inr ⟨rfl, rfl, rfl⟩)))) (hb hby d2_99) hr), hrun, hended, _, _, rfl, (by
      show Q2 Z p1 w_BIND w_UNBIND w_SEARCH w_MODIFY w_ADD w_DELETE w_MODIFY_DN w_COMPARE w_ABANDON w_EXTENDED h0 n0 _ T20.heap _
      rw [show T20.heap = h0 from e20]
      exact ⟨(by rw [own_op, if_neg hc3_1, if_neg hc13_3, if_neg hc23_5, if_neg hc33_7, if_neg hc43_9, if_neg hc53_11, if_neg hc63_13, if_neg hc73_15, if_neg hc83_17, if_pos hc93_19]), N0, rfl⟩), ⟨_, rfl⟩, hW, hsame.mono (by decide) (by decide)⟩
  refine own_of (S' := s₁.setTop (mkF m 100 #[.val (.int p1)] [])) (fun t k => XS.icmpYes X0.here hx rfl (pc0 := 93) (pc' := 100) rfl (hb hby d2_93) rfl (feq hc93_19).2 (by decide) (by decide) k) ?_
  refine own_of (S' := s₁.setTop (mkF m 101 #[.val (.int p1)] [.null])) (fun t k => XS.aconstNull X0.here hx rfl (hb hby d2_100) k) ?_
  obtain ⟨fs, hr, hrun, hended, hW, hsame⟩ := X0.leave (v := some .null) (fun h => by rw [Bd.returns] at h; cases h)
  subst hKd
  exact ⟨_, _, (retOut X0 hx Bd.returns rfl (Or.inr (Or.inr (Or.inr (Or.inr ⟨rfl, rfl, rfl⟩)))) (hb hby d2_101) hr), hrun, hended, _, _, rfl, (by
    show Q2 Z p1 w_BIND w_UNBIND w_SEARCH w_MODIFY w_ADD w_DELETE w_MODIFY_DN w_COMPARE w_ABANDON w_EXTENDED h0 n0 _ s₁.heap _
    rw [show s₁.heap = h0 from e0]
    exact ⟨(by rw [own_op, if_neg hc3_1, if_neg hc13_3, if_neg hc23_5, if_neg hc33_7, if_neg hc43_9, if_neg hc53_11, if_neg hc63_13, if_neg hc73_15, if_neg hc83_17, if_neg hc93_19]), N0, rfl⟩), ⟨_, rfl⟩, hW, hsame.mono (by decide) (by decide)⟩
theorem pn_0 : plainName "com/example/waypost/waypost/ldap/OperationOfPinLaw" = true := by first | (simp [plainName, overriddenIn]; done) | decide +kernel
theorem pd0_0 : parseMethodDescriptor "(I)Lcom/example/waypost/waypost/ldap/Operation;" = some ⟨[.int], some (.object "com/example/waypost/waypost/ldap/Operation")⟩ := by decide +kernel
theorem ef_0 (m : MethodId) (p1 : Int32) (p2 : Int32) : entryFrame m #[(.int p1), (.int p2)] maxLocals = mkF m 0 #[.val (.int p1), .val (.int p2), .unset, .unset, .unset, .unset] [] := by first | (simp [entryFrame, mkF, argsToLocals, Value.category, maxLocals]; done) | rfl
def Q0 (Z : State) (p1 : Int32) (p2 : Int32) (wall : Addr) (w_BIND : Addr) (w_UNBIND : Addr) (w_SEARCH : Addr) (w_MODIFY : Addr) (w_ADD : Addr) (w_DELETE : Addr) (w_MODIFY_DN : Addr) (w_COMPARE : Addr) (w_ABANDON : Addr) (w_EXTENDED : Addr) (h0 : Heap) (n0 : Nat) (v : Option Value) (h : Heap) (L : List Loc) : Prop := (v = some (.int (1 : Int32))) ∧ (Fr n0 L)
set_option maxRecDepth 65536 in
set_option maxHeartbeats 40000000 in
theorem rm0 (l : Launch) (Z : State) (a0 : Array Value) (hw : ∀ d ∈ tables_1, d.before a0 Z = true) (ws : List Jvm.Cond) (p1 : Int32) (p2 : Int32) (wall : Addr) (w_BIND : Addr) (w_UNBIND : Addr) (w_SEARCH : Addr) (w_MODIFY : Addr) (w_ADD : Addr) (w_DELETE : Addr) (w_MODIFY_DN : Addr) (w_COMPARE : Addr) (w_ABANDON : Addr) (w_EXTENDED : Addr) (h0 : Heap) (n0 : Nat) (Z0 : n0 ≤ h0.size) (S_ALL : Sta Z h0 "com/example/waypost/waypost/ldap/Operation" "ALL" "[Lcom/example/waypost/waypost/ldap/Operation;" (.ref wall)) (V_wall : own_Ar Z h0 wall (.object "com/example/waypost/waypost/ldap/Operation") 10 (fun i => ([.ref w_BIND, .ref w_UNBIND, .ref w_SEARCH, .ref w_MODIFY, .ref w_ADD, .ref w_DELETE, .ref w_MODIFY_DN, .ref w_COMPARE, .ref w_ABANDON, .ref w_EXTENDED] : List Value).getD i .null)) (S_BIND : Sta Z h0 "com/example/waypost/waypost/ldap/Operation" "BIND" "Lcom/example/waypost/waypost/ldap/Operation;" (.ref w_BIND)) (S_UNBIND : Sta Z h0 "com/example/waypost/waypost/ldap/Operation" "UNBIND" "Lcom/example/waypost/waypost/ldap/Operation;" (.ref w_UNBIND)) (S_SEARCH : Sta Z h0 "com/example/waypost/waypost/ldap/Operation" "SEARCH" "Lcom/example/waypost/waypost/ldap/Operation;" (.ref w_SEARCH)) (S_MODIFY : Sta Z h0 "com/example/waypost/waypost/ldap/Operation" "MODIFY" "Lcom/example/waypost/waypost/ldap/Operation;" (.ref w_MODIFY)) (S_ADD : Sta Z h0 "com/example/waypost/waypost/ldap/Operation" "ADD" "Lcom/example/waypost/waypost/ldap/Operation;" (.ref w_ADD)) (S_DELETE : Sta Z h0 "com/example/waypost/waypost/ldap/Operation" "DELETE" "Lcom/example/waypost/waypost/ldap/Operation;" (.ref w_DELETE)) (S_MODIFY_DN : Sta Z h0 "com/example/waypost/waypost/ldap/Operation" "MODIFY_DN" "Lcom/example/waypost/waypost/ldap/Operation;" (.ref w_MODIFY_DN)) (S_COMPARE : Sta Z h0 "com/example/waypost/waypost/ldap/Operation" "COMPARE" "Lcom/example/waypost/waypost/ldap/Operation;" (.ref w_COMPARE)) (S_ABANDON : Sta Z h0 "com/example/waypost/waypost/ldap/Operation" "ABANDON" "Lcom/example/waypost/waypost/ldap/Operation;" (.ref w_ABANDON)) (S_EXTENDED : Sta Z h0 "com/example/waypost/waypost/ldap/Operation" "EXTENDED" "Lcom/example/waypost/waypost/ldap/Operation;" (.ref w_EXTENDED)) (F_requestTag_w_BIND : Fld Z h0 w_BIND "com/example/waypost/waypost/ldap/Operation" "requestTag" "I" (.int (96 : Int32))) (F_requestTag_w_UNBIND : Fld Z h0 w_UNBIND "com/example/waypost/waypost/ldap/Operation" "requestTag" "I" (.int (66 : Int32))) (F_requestTag_w_SEARCH : Fld Z h0 w_SEARCH "com/example/waypost/waypost/ldap/Operation" "requestTag" "I" (.int (99 : Int32))) (F_requestTag_w_MODIFY : Fld Z h0 w_MODIFY "com/example/waypost/waypost/ldap/Operation" "requestTag" "I" (.int (102 : Int32))) (F_requestTag_w_ADD : Fld Z h0 w_ADD "com/example/waypost/waypost/ldap/Operation" "requestTag" "I" (.int (104 : Int32))) (F_requestTag_w_DELETE : Fld Z h0 w_DELETE "com/example/waypost/waypost/ldap/Operation" "requestTag" "I" (.int (74 : Int32))) (F_requestTag_w_MODIFY_DN : Fld Z h0 w_MODIFY_DN "com/example/waypost/waypost/ldap/Operation" "requestTag" "I" (.int (108 : Int32))) (F_requestTag_w_COMPARE : Fld Z h0 w_COMPARE "com/example/waypost/waypost/ldap/Operation" "requestTag" "I" (.int (110 : Int32))) (F_requestTag_w_ABANDON : Fld Z h0 w_ABANDON "com/example/waypost/waypost/ldap/Operation" "requestTag" "I" (.int (80 : Int32))) (F_requestTag_w_EXTENDED : Fld Z h0 w_EXTENDED "com/example/waypost/waypost/ldap/Operation" "requestTag" "I" (.int (119 : Int32))) :
    MetFree l x (head1 (Jvm.Cond.code x code maxLocals ret :: ws) room_1) (fun a U => a = #[(.int p1), (.int p2)] ∧ Z.Warmed39 U.vm ∧ U.heap = h0) (fun _ _ _ _ _ => True) (fun _ U o U' => ∃ v L, o = .returned v ∧ Q0 Z p1 p2 wall w_BIND w_UNBIND w_SEARCH w_MODIFY w_ADD w_DELETE w_MODIFY_DN w_COMPARE w_ABANDON w_EXTENDED h0 n0 v U'.heap L ∧ FrameEnd U o U' L room_1.cells room_1.slots) := by
  refine MetFree.of_bodySF (plainFor_of_name pn_0) hisR ?_
  intro p e s m args below meth c s₁ Bd hml0 hP hK
  obtain ⟨rfl, hZ, hh⟩ := hP
  have hx := Bd.exec
  have hby := Bd.bytes
  have hml : c.maxLocals = 6 := hml0
  have hown : s.vm.findClass "com/example/waypost/waypost/ldap/OperationOfPinLaw" = some m.cls := findClass_of_methodNamed Bd.named
  have hnm := (name_of_methodNamed Bd.named Bd.method).1
  have X0 : Stand p l e room_1 s m #[(.int p1), (.int p2)] below meth c s₁ [] 0 0 := Stand.of_body Bd
  have e0 : s₁.heap = h0 := by rw [← hh, Bd.state]; rfl
  have N0 := Fr.nil n0
  refine own_of (S := s₁.setTop (entryFrame m #[(.int p1), (.int p2)] maxLocals)) (S' := s₁.setTop (mkF m 0 #[.val (.int p1), .val (.int p2), .unset, .unset, .unset, .unset] [])) (K := fun s₂ o => ∃ v L, o = .returned v ∧ Q0 Z p1 p2 wall w_BIND w_UNBIND w_SEARCH w_MODIFY w_ADD w_DELETE w_MODIFY_DN w_COMPARE w_ABANDON w_EXTENDED h0 n0 v s₂.heap L ∧ FrameEnd s o s₂ L room_1.cells room_1.slots) (fun t k => castTop (ef_0 m p1 p2) k) ?_
  refine own_nameK fun K hKd => ?_
  refine own_of (S' := s₁.setTop (mkF m 2 #[.val (.int p1), .val (.int p2), .unset, .unset, .unset, .unset] [(.int (24 : Int32))])) (fun t k => XS.bipush X0.here hx rfl (hb hby at_0) k) ?_
  obtain ⟨T1, h1, k1, X1, e1, E1, A1, st1⟩ := newP X0 hx hZ (hw _ (List.mem_of_getElem? (i := 0) rfl)) e0 (g := (mkF m 2 #[.val (.int p1), .val (.int p2), .unset, .unset, .unset, .unset] [(.int (24 : Int32))])) rfl (hb hby at_2) rfl (by decide) (cap := 24) (by decide) (by decide) (by decide) (by decide)
  obtain ⟨b1, g1⟩ : ∃ z, z = h0.size := ⟨_, rfl⟩
  rw [← g1] at A1 st1
  have KK2 : Keep h0 h0 [] := Keep.refl _ _
  have g_b1 : n0 ≤ b1 := Nat.le_trans Z0 (Nat.le_trans KK2.1 (Nat.le_of_eq g1.symm))
  have V_b1 : own_Ar Z h1 b1 .int 24 (fun _ => defaultValue .int) := own_Ar.new A1 (by decide) (by decide)
  refine own_of (S' := T1.setTop (mkF m 4 #[.val (.int p1), .val (.int p2), .unset, .unset, .unset, .unset] [(.ref b1)])) st1 ?_
  refine own_of (S' := T1.setTop (mkF m 5 #[.val (.int p1), .val (.int p2), .unset, .unset, .unset, .unset] [(.ref b1), (.ref b1)])) (fun t k => XS.dup X1.here hx rfl (hb hby at_4) rfl rfl k) ?_
  refine own_of (S' := T1.setTop (mkF m 6 #[.val (.int p1), .val (.int p2), .unset, .unset, .unset, .unset] [(.int (0 : Int32)), (.ref b1), (.ref b1)])) (fun t k => XS.iconst X1.here hx rfl (hb hby at_5) k) ?_
  refine own_of (S' := T1.setTop (mkF m 8 #[.val (.int p1), .val (.int p2), .unset, .unset, .unset, .unset] [(.int (96 : Int32)), (.int (0 : Int32)), (.ref b1), (.ref b1)])) (fun t k => XS.bipush X1.here hx rfl (hb hby at_6) k) ?_
  obtain ⟨T3, h3, L3, X3, e3, W3, V3, hN3, st3⟩ := own_stI X1 hx hZ e1 V_b1 (j := (0 : Int32)) (by decide) (by decide) (g := (mkF m 8 #[.val (.int p1), .val (.int p2), .unset, .unset, .unset, .unset] [(.int (96 : Int32)), (.int (0 : Int32)), (.ref b1), (.ref b1)])) rfl rfl (hb hby at_8)
  have N3 := hN3 _ N0 g_b1
  obtain ⟨fn3, q3⟩ : ∃ y : Nat → Value, y = (fun i => if i = ((0 : Int32)).toNatClampNeg then .int (96 : Int32) else (fun _ => defaultValue .int) i) := ⟨_, rfl⟩
  rw [← q3] at V3
  refine own_of (S' := T3.setTop (mkF m 9 #[.val (.int p1), .val (.int p2), .unset, .unset, .unset, .unset] [(.ref b1)])) st3 ?_
  refine own_of (S' := T3.setTop (mkF m 10 #[.val (.int p1), .val (.int p2), .unset, .unset, .unset, .unset] [(.ref b1), (.ref b1)])) (fun t k => XS.dup X3.here hx rfl (hb hby at_9) rfl rfl k) ?_
  refine own_of (S' := T3.setTop (mkF m 11 #[.val (.int p1), .val (.int p2), .unset, .unset, .unset, .unset] [(.int (1 : Int32)), (.ref b1), (.ref b1)])) (fun t k => XS.iconst X3.here hx rfl (hb hby at_10) k) ?_
  refine own_of (S' := T3.setTop (mkF m 13 #[.val (.int p1), .val (.int p2), .unset, .unset, .unset, .unset] [(.int (66 : Int32)), (.int (1 : Int32)), (.ref b1), (.ref b1)])) (fun t k => XS.bipush X3.here hx rfl (hb hby at_11) k) ?_
  obtain ⟨T4, h4, L4, X4, e4, W4, V4, hN4, st4⟩ := own_stI X3 hx hZ e3 V3 (j := (1 : Int32)) (by decide) (by decide) (g := (mkF m 13 #[.val (.int p1), .val (.int p2), .unset, .unset, .unset, .unset] [(.int (66 : Int32)), (.int (1 : Int32)), (.ref b1), (.ref b1)])) rfl rfl (hb hby at_13)
  have N4 := hN4 _ N3 g_b1
  obtain ⟨fn4, q4⟩ : ∃ y : Nat → Value, y = (fun i => if i = ((1 : Int32)).toNatClampNeg then .int (66 : Int32) else fn3 i) := ⟨_, rfl⟩
  rw [← q4] at V4
  refine own_of (S' := T4.setTop (mkF m 14 #[.val (.int p1), .val (.int p2), .unset, .unset, .unset, .unset] [(.ref b1)])) st4 ?_
  refine own_of (S' := T4.setTop (mkF m 15 #[.val (.int p1), .val (.int p2), .unset, .unset, .unset, .unset] [(.ref b1), (.ref b1)])) (fun t k => XS.dup X4.here hx rfl (hb hby at_14) rfl rfl k) ?_
  refine own_of (S' := T4.setTop (mkF m 16 #[.val (.int p1), .val (.int p2), .unset, .unset, .unset, .unset] [(.int (2 : Int32)), (.ref b1), (.ref b1)])) (fun t k => XS.iconst X4.here hx rfl (hb hby at_15) k) ?_
  refine own_of (S' := T4.setTop (mkF m 18 #[.val (.int p1), .val (.int p2), .unset, .unset, .unset, .unset] [(.int (99 : Int32)), (.int (2 : Int32)), (.ref b1), (.ref b1)])) (fun t k => XS.bipush X4.here hx rfl (hb hby at_16) k) ?_
  obtain ⟨T5, h5, L5, X5, e5, W5, V5, hN5, st5⟩ := own_stI X4 hx hZ e4 V4 (j := (2 : Int32)) (by decide) (by decide) (g := (mkF m 18 #[.val (.int p1), .val (.int p2), .unset, .unset, .unset, .unset] [(.int (99 : Int32)), (.int (2 : Int32)), (.ref b1), (.ref b1)])) rfl rfl (hb hby at_18)
  have N5 := hN5 _ N4 g_b1
  obtain ⟨fn5, q5⟩ : ∃ y : Nat → Value, y = (fun i => if i = ((2 : Int32)).toNatClampNeg then .int (99 : Int32) else fn4 i) := ⟨_, rfl⟩
  rw [← q5] at V5
  refine own_of (S' := T5.setTop (mkF m 19 #[.val (.int p1), .val (.int p2), .unset, .unset, .unset, .unset] [(.ref b1)])) st5 ?_
  refine own_of (S' := T5.setTop (mkF m 20 #[.val (.int p1), .val (.int p2), .unset, .unset, .unset, .unset] [(.ref b1), (.ref b1)])) (fun t k => XS.dup X5.here hx rfl (hb hby at_19) rfl rfl k) ?_
  refine own_of (S' := T5.setTop (mkF m 21 #[.val (.int p1), .val (.int p2), .unset, .unset, .unset, .unset] [(.int (3 : Int32)), (.ref b1), (.ref b1)])) (fun t k => XS.iconst X5.here hx rfl (hb hby at_20) k) ?_
  refine own_of (S' := T5.setTop (mkF m 23 #[.val (.int p1), .val (.int p2), .unset, .unset, .unset, .unset] [(.int (102 : Int32)), (.int (3 : Int32)), (.ref b1), (.ref b1)])) (fun t k => XS.bipush X5.here hx rfl (hb hby at_21) k) ?_
  obtain ⟨T6, h6, L6, X6, e6, W6, V6, hN6, st6⟩ := own_stI X5 hx hZ e5 V5 (j := (3 : Int32)) (by decide) (by decide) (g := (mkF m 23 #[.val (.int p1), .val (.int p2), .unset, .unset, .unset, .unset] [(.int (102 : Int32)), (.int (3 : Int32)), (.ref b1), (.ref b1)])) rfl rfl (hb hby at_23)
  have N6 := hN6 _ N5 g_b1
  obtain ⟨fn6, q6⟩ : ∃ y : Nat → Value, y = (fun i => if i = ((3 : Int32)).toNatClampNeg then .int (102 : Int32) else fn5 i) := ⟨_, rfl⟩
  rw [← q6] at V6
  refine own_of (S' := T6.setTop (mkF m 24 #[.val (.int p1), .val (.int p2), .unset, .unset, .unset, .unset] [(.ref b1)])) st6 ?_
  refine own_of (S' := T6.setTop (mkF m 25 #[.val (.int p1), .val (.int p2), .unset, .unset, .unset, .unset] [(.ref b1), (.ref b1)])) (fun t k => XS.dup X6.here hx rfl (hb hby at_24) rfl rfl k) ?_
  refine own_of (S' := T6.setTop (mkF m 26 #[.val (.int p1), .val (.int p2), .unset, .unset, .unset, .unset] [(.int (4 : Int32)), (.ref b1), (.ref b1)])) (fun t k => XS.iconst X6.here hx rfl (hb hby at_25) k) ?_
  refine own_of (S' := T6.setTop (mkF m 28 #[.val (.int p1), .val (.int p2), .unset, .unset, .unset, .unset] [(.int (104 : Int32)), (.int (4 : Int32)), (.ref b1), (.ref b1)])) (fun t k => XS.bipush X6.here hx rfl (hb hby at_26) k) ?_
  obtain ⟨T7, h7, L7, X7, e7, W7, V7, hN7, st7⟩ := own_stI X6 hx hZ e6 V6 (j := (4 : Int32)) (by decide) (by decide) (g := (mkF m 28 #[.val (.int p1), .val (.int p2), .unset, .unset, .unset, .unset] [(.int (104 : Int32)), (.int (4 : Int32)), (.ref b1), (.ref b1)])) rfl rfl (hb hby at_28)
  have N7 := hN7 _ N6 g_b1
  obtain ⟨fn7, q7⟩ : ∃ y : Nat → Value, y = (fun i => if i = ((4 : Int32)).toNatClampNeg then .int (104 : Int32) else fn6 i) := ⟨_, rfl⟩
  rw [← q7] at V7
  refine own_of (S' := T7.setTop (mkF m 29 #[.val (.int p1), .val (.int p2), .unset, .unset, .unset, .unset] [(.ref b1)])) st7 ?_
  refine own_of (S' := T7.setTop (mkF m 30 #[.val (.int p1), .val (.int p2), .unset, .unset, .unset, .unset] [(.ref b1), (.ref b1)])) (fun t k => XS.dup X7.here hx rfl (hb hby at_29) rfl rfl k) ?_
  refine own_of (S' := T7.setTop (mkF m 31 #[.val (.int p1), .val (.int p2), .unset, .unset, .unset, .unset] [(.int (5 : Int32)), (.ref b1), (.ref b1)])) (fun t k => XS.iconst X7.here hx rfl (hb hby at_30) k) ?_
  refine own_of (S' := T7.setTop (mkF m 33 #[.val (.int p1), .val (.int p2), .unset, .unset, .unset, .unset] [(.int (74 : Int32)), (.int (5 : Int32)), (.ref b1), (.ref b1)])) (fun t k => XS.bipush X7.here hx rfl (hb hby at_31) k) ?_
  obtain ⟨T8, h8, L8, X8, e8, W8, V8, hN8, st8⟩ := own_stI X7 hx hZ e7 V7 (j := (5 : Int32)) (by decide) (by decide) (g := (mkF m 33 #[.val (.int p1), .val (.int p2), .unset, .unset, .unset, .unset] [(.int (74 : Int32)), (.int (5 : Int32)), (.ref b1), (.ref b1)])) rfl rfl (hb hby at_33)
  have N8 := hN8 _ N7 g_b1
  obtain ⟨fn8, q8⟩ : ∃ y : Nat → Value, y = (fun i => if i = ((5 : Int32)).toNatClampNeg then .int (74 : Int32) else fn7 i) := ⟨_, rfl⟩
  rw [← q8] at V8
  refine own_of (S' := T8.setTop (mkF m 34 #[.val (.int p1), .val (.int p2), .unset, .unset, .unset, .unset] [(.ref b1)])) st8 ?_
  refine own_of (S' := T8.setTop (mkF m 35 #[.val (.int p1), .val (.int p2), .unset, .unset, .unset, .unset] [(.ref b1), (.ref b1)])) (fun t k => XS.dup X8.here hx rfl (hb hby at_34) rfl rfl k) ?_
  refine own_of (S' := T8.setTop (mkF m 37 #[.val (.int p1), .val (.int p2), .unset, .unset, .unset, .unset] [(.int (6 : Int32)), (.ref b1), (.ref b1)])) (fun t k => XS.bipush X8.here hx rfl (hb hby at_35) k) ?_
  refine own_of (S' := T8.setTop (mkF m 39 #[.val (.int p1), .val (.int p2), .unset, .unset, .unset, .unset] [(.int (108 : Int32)), (.int (6 : Int32)), (.ref b1), (.ref b1)])) (fun t k => XS.bipush X8.here hx rfl (hb hby at_37) k) ?_
  obtain ⟨T9, h9, L9, X9, e9, W9, V9, hN9, st9⟩ := own_stI X8 hx hZ e8 V8 (j := (6 : Int32)) (by decide) (by decide) (g := (mkF m 39 #[.val (.int p1), .val (.int p2), .unset, .unset, .unset, .unset] [(.int (108 : Int32)), (.int (6 : Int32)), (.ref b1), (.ref b1)])) rfl rfl (hb hby at_39)
  have N9 := hN9 _ N8 g_b1
  obtain ⟨fn9, q9⟩ : ∃ y : Nat → Value, y = (fun i => if i = ((6 : Int32)).toNatClampNeg then .int (108 : Int32) else fn8 i) := ⟨_, rfl⟩
  rw [← q9] at V9
  refine own_of (S' := T9.setTop (mkF m 40 #[.val (.int p1), .val (.int p2), .unset, .unset, .unset, .unset] [(.ref b1)])) st9 ?_
  refine own_of (S' := T9.setTop (mkF m 41 #[.val (.int p1), .val (.int p2), .unset, .unset, .unset, .unset] [(.ref b1), (.ref b1)])) (fun t k => XS.dup X9.here hx rfl (hb hby at_40) rfl rfl k) ?_
  refine own_of (S' := T9.setTop (mkF m 43 #[.val (.int p1), .val (.int p2), .unset, .unset, .unset, .unset] [(.int (7 : Int32)), (.ref b1), (.ref b1)])) (fun t k => XS.bipush X9.here hx rfl (hb hby at_41) k) ?_
  refine own_of (S' := T9.setTop (mkF m 45 #[.val (.int p1), .val (.int p2), .unset, .unset, .unset, .unset] [(.int (110 : Int32)), (.int (7 : Int32)), (.ref b1), (.ref b1)])) (fun t k => XS.bipush X9.here hx rfl (hb hby at_43) k) ?_
  obtain ⟨T10, h10, L10, X10, e10, W10, V10, hN10, st10⟩ := own_stI X9 hx hZ e9 V9 (j := (7 : Int32)) (by decide) (by decide) (g := (mkF m 45 #[.val (.int p1), .val (.int p2), .unset, .unset, .unset, .unset] [(.int (110 : Int32)), (.int (7 : Int32)), (.ref b1), (.ref b1)])) rfl rfl (hb hby at_45)
  have N10 := hN10 _ N9 g_b1
  obtain ⟨fn10, q10⟩ : ∃ y : Nat → Value, y = (fun i => if i = ((7 : Int32)).toNatClampNeg then .int (110 : Int32) else fn9 i) := ⟨_, rfl⟩
  rw [← q10] at V10
  refine own_of (S' := T10.setTop (mkF m 46 #[.val (.int p1), .val (.int p2), .unset, .unset, .unset, .unset] [(.ref b1)])) st10 ?_
  refine own_of (S' := T10.setTop (mkF m 47 #[.val (.int p1), .val (.int p2), .unset, .unset, .unset, .unset] [(.ref b1), (.ref b1)])) (fun t k => XS.dup X10.here hx rfl (hb hby at_46) rfl rfl k) ?_
  refine own_of (S' := T10.setTop (mkF m 49 #[.val (.int p1), .val (.int p2), .unset, .unset, .unset, .unset] [(.int (8 : Int32)), (.ref b1), (.ref b1)])) (fun t k => XS.bipush X10.here hx rfl (hb hby at_47) k) ?_
  refine own_of (S' := T10.setTop (mkF m 51 #[.val (.int p1), .val (.int p2), .unset, .unset, .unset, .unset] [(.int (80 : Int32)), (.int (8 : Int32)), (.ref b1), (.ref b1)])) (fun t k => XS.bipush X10.here hx rfl (hb hby at_49) k) ?_
  obtain ⟨T11, h11, L11, X11, e11, W11, V11, hN11, st11⟩ := own_stI X10 hx hZ e10 V10 (j := (8 : Int32)) (by decide) (by decide) (g := (mkF m 51 #[.val (.int p1), .val (.int p2), .unset, .unset, .unset, .unset] [(.int (80 : Int32)), (.int (8 : Int32)), (.ref b1), (.ref b1)])) rfl rfl (hb hby at_51)
  have N11 := hN11 _ N10 g_b1
  obtain ⟨fn11, q11⟩ : ∃ y : Nat → Value, y = (fun i => if i = ((8 : Int32)).toNatClampNeg then .int (80 : Int32) else fn10 i) := ⟨_, rfl⟩
  rw [← q11] at V11
  refine own_of (S' := T11.setTop (mkF m 52 #[.val (.int p1), .val (.int p2), .unset, .unset, .unset, .unset] [(.ref b1)])) st11 ?_
  refine own_of (S' := T11.setTop (mkF m 53 #[.val (.int p1), .val (.int p2), .unset, .unset, .unset, .unset] [(.ref b1), (.ref b1)])) (fun t k => XS.dup X11.here hx rfl (hb hby at_52) rfl rfl k) ?_
  refine own_of (S' := T11.setTop (mkF m 55 #[.val (.int p1), .val (.int p2), .unset, .unset, .unset, .unset] [(.int (9 : Int32)), (.ref b1), (.ref b1)])) (fun t k => XS.bipush X11.here hx rfl (hb hby at_53) k) ?_
  refine own_of (S' := T11.setTop (mkF m 57 #[.val (.int p1), .val (.int p2), .unset, .unset, .unset, .unset] [(.int (119 : Int32)), (.int (9 : Int32)), (.ref b1), (.ref b1)])) (fun t k => XS.bipush X11.here hx rfl (hb hby at_55) k) ?_
  obtain ⟨T12, h12, L12, X12, e12, W12, V12, hN12, st12⟩ := own_stI X11 hx hZ e11 V11 (j := (9 : Int32)) (by decide) (by decide) (g := (mkF m 57 #[.val (.int p1), .val (.int p2), .unset, .unset, .unset, .unset] [(.int (119 : Int32)), (.int (9 : Int32)), (.ref b1), (.ref b1)])) rfl rfl (hb hby at_57)
  have N12 := hN12 _ N11 g_b1
  obtain ⟨fn12, q12⟩ : ∃ y : Nat → Value, y = (fun i => if i = ((9 : Int32)).toNatClampNeg then .int (119 : Int32) else fn11 i) := ⟨_, rfl⟩
  rw [← q12] at V12
  refine own_of (S' := T12.setTop (mkF m 58 #[.val (.int p1), .val (.int p2), .unset, .unset, .unset, .unset] [(.ref b1)])) st12 ?_
  refine own_of (S' := T12.setTop (mkF m 59 #[.val (.int p1), .val (.int p2), .unset, .unset, .unset, .unset] [(.ref b1), (.ref b1)])) (fun t k => XS.dup X12.here hx rfl (hb hby at_58) rfl rfl k) ?_
  refine own_of (S' := T12.setTop (mkF m 61 #[.val (.int p1), .val (.int p2), .unset, .unset, .unset, .unset] [(.int (10 : Int32)), (.ref b1), (.ref b1)])) (fun t k => XS.bipush X12.here hx rfl (hb hby at_59) k) ?_
  refine own_of (S' := T12.setTop (mkF m 63 #[.val (.int p1), .val (.int p2), .unset, .unset, .unset, .unset] [(.int (97 : Int32)), (.int (10 : Int32)), (.ref b1), (.ref b1)])) (fun t k => XS.bipush X12.here hx rfl (hb hby at_61) k) ?_
  obtain ⟨T13, h13, L13, X13, e13, W13, V13, hN13, st13⟩ := own_stI X12 hx hZ e12 V12 (j := (10 : Int32)) (by decide) (by decide) (g := (mkF m 63 #[.val (.int p1), .val (.int p2), .unset, .unset, .unset, .unset] [(.int (97 : Int32)), (.int (10 : Int32)), (.ref b1), (.ref b1)])) rfl rfl (hb hby at_63)
  have N13 := hN13 _ N12 g_b1
  obtain ⟨fn13, q13⟩ : ∃ y : Nat → Value, y = (fun i => if i = ((10 : Int32)).toNatClampNeg then .int (97 : Int32) else fn12 i) := ⟨_, rfl⟩
  rw [← q13] at V13
  refine own_of (S' := T13.setTop (mkF m 64 #[.val (.int p1), .val (.int p2), .unset, .unset, .unset, .unset] [(.ref b1)])) st13 ?_
  refine own_of (S' := T13.setTop (mkF m 65 #[.val (.int p1), .val (.int p2), .unset, .unset, .unset, .unset] [(.ref b1), (.ref b1)])) (fun t k => XS.dup X13.here hx rfl (hb hby at_64) rfl rfl k) ?_
  refine own_of (S' := T13.setTop (mkF m 67 #[.val (.int p1), .val (.int p2), .unset, .unset, .unset, .unset] [(.int (11 : Int32)), (.ref b1), (.ref b1)])) (fun t k => XS.bipush X13.here hx rfl (hb hby at_65) k) ?_
  refine own_of (S' := T13.setTop (mkF m 69 #[.val (.int p1), .val (.int p2), .unset, .unset, .unset, .unset] [(.int (101 : Int32)), (.int (11 : Int32)), (.ref b1), (.ref b1)])) (fun t k => XS.bipush X13.here hx rfl (hb hby at_67) k) ?_
  obtain ⟨T14, h14, L14, X14, e14, W14, V14, hN14, st14⟩ := own_stI X13 hx hZ e13 V13 (j := (11 : Int32)) (by decide) (by decide) (g := (mkF m 69 #[.val (.int p1), .val (.int p2), .unset, .unset, .unset, .unset] [(.int (101 : Int32)), (.int (11 : Int32)), (.ref b1), (.ref b1)])) rfl rfl (hb hby at_69)
  have N14 := hN14 _ N13 g_b1
  obtain ⟨fn14, q14⟩ : ∃ y : Nat → Value, y = (fun i => if i = ((11 : Int32)).toNatClampNeg then .int (101 : Int32) else fn13 i) := ⟨_, rfl⟩
  rw [← q14] at V14
  refine own_of (S' := T14.setTop (mkF m 70 #[.val (.int p1), .val (.int p2), .unset, .unset, .unset, .unset] [(.ref b1)])) st14 ?_
  refine own_of (S' := T14.setTop (mkF m 71 #[.val (.int p1), .val (.int p2), .unset, .unset, .unset, .unset] [(.ref b1), (.ref b1)])) (fun t k => XS.dup X14.here hx rfl (hb hby at_70) rfl rfl k) ?_
  refine own_of (S' := T14.setTop (mkF m 73 #[.val (.int p1), .val (.int p2), .unset, .unset, .unset, .unset] [(.int (12 : Int32)), (.ref b1), (.ref b1)])) (fun t k => XS.bipush X14.here hx rfl (hb hby at_71) k) ?_
  refine own_of (S' := T14.setTop (mkF m 75 #[.val (.int p1), .val (.int p2), .unset, .unset, .unset, .unset] [(.int (103 : Int32)), (.int (12 : Int32)), (.ref b1), (.ref b1)])) (fun t k => XS.bipush X14.here hx rfl (hb hby at_73) k) ?_
  obtain ⟨T15, h15, L15, X15, e15, W15, V15, hN15, st15⟩ := own_stI X14 hx hZ e14 V14 (j := (12 : Int32)) (by decide) (by decide) (g := (mkF m 75 #[.val (.int p1), .val (.int p2), .unset, .unset, .unset, .unset] [(.int (103 : Int32)), (.int (12 : Int32)), (.ref b1), (.ref b1)])) rfl rfl (hb hby at_75)
  have N15 := hN15 _ N14 g_b1
  obtain ⟨fn15, q15⟩ : ∃ y : Nat → Value, y = (fun i => if i = ((12 : Int32)).toNatClampNeg then .int (103 : Int32) else fn14 i) := ⟨_, rfl⟩
  rw [← q15] at V15
  refine own_of (S' := T15.setTop (mkF m 76 #[.val (.int p1), .val (.int p2), .unset, .unset, .unset, .unset] [(.ref b1)])) st15 ?_
  refine own_of (S' := T15.setTop (mkF m 77 #[.val (.int p1), .val (.int p2), .unset, .unset, .unset, .unset] [(.ref b1), (.ref b1)])) (fun t k => XS.dup X15.here hx rfl (hb hby at_76) rfl rfl k) ?_
  refine own_of (S' := T15.setTop (mkF m 79 #[.val (.int p1), .val (.int p2), .unset, .unset, .unset, .unset] [(.int (13 : Int32)), (.ref b1), (.ref b1)])) (fun t k => XS.bipush X15.here hx rfl (hb hby at_77) k) ?_
  refine own_of (S' := T15.setTop (mkF m 81 #[.val (.int p1), .val (.int p2), .unset, .unset, .unset, .unset] [(.int (100 : Int32)), (.int (13 : Int32)), (.ref b1), (.ref b1)])) (fun t k => XS.bipush X15.here hx rfl (hb hby at_79) k) ?_
  obtain ⟨T16, h16, L16, X16, e16, W16, V16, hN16, st16⟩ := own_stI X15 hx hZ e15 V15 (j := (13 : Int32)) (by decide) (by decide) (g := (mkF m 81 #[.val (.int p1), .val (.int p2), .unset, .unset, .unset, .unset] [(.int (100 : Int32)), (.int (13 : Int32)), (.ref b1), (.ref b1)])) rfl rfl (hb hby at_81)
  have N16 := hN16 _ N15 g_b1
  obtain ⟨fn16, q16⟩ : ∃ y : Nat → Value, y = (fun i => if i = ((13 : Int32)).toNatClampNeg then .int (100 : Int32) else fn15 i) := ⟨_, rfl⟩
  rw [← q16] at V16
  refine own_of (S' := T16.setTop (mkF m 82 #[.val (.int p1), .val (.int p2), .unset, .unset, .unset, .unset] [(.ref b1)])) st16 ?_
  refine own_of (S' := T16.setTop (mkF m 83 #[.val (.int p1), .val (.int p2), .unset, .unset, .unset, .unset] [(.ref b1), (.ref b1)])) (fun t k => XS.dup X16.here hx rfl (hb hby at_82) rfl rfl k) ?_
  refine own_of (S' := T16.setTop (mkF m 85 #[.val (.int p1), .val (.int p2), .unset, .unset, .unset, .unset] [(.int (14 : Int32)), (.ref b1), (.ref b1)])) (fun t k => XS.bipush X16.here hx rfl (hb hby at_83) k) ?_
  refine own_of (S' := T16.setTop (mkF m 87 #[.val (.int p1), .val (.int p2), .unset, .unset, .unset, .unset] [(.int (107 : Int32)), (.int (14 : Int32)), (.ref b1), (.ref b1)])) (fun t k => XS.bipush X16.here hx rfl (hb hby at_85) k) ?_
  obtain ⟨T17, h17, L17, X17, e17, W17, V17, hN17, st17⟩ := own_stI X16 hx hZ e16 V16 (j := (14 : Int32)) (by decide) (by decide) (g := (mkF m 87 #[.val (.int p1), .val (.int p2), .unset, .unset, .unset, .unset] [(.int (107 : Int32)), (.int (14 : Int32)), (.ref b1), (.ref b1)])) rfl rfl (hb hby at_87)
  have N17 := hN17 _ N16 g_b1
  obtain ⟨fn17, q17⟩ : ∃ y : Nat → Value, y = (fun i => if i = ((14 : Int32)).toNatClampNeg then .int (107 : Int32) else fn16 i) := ⟨_, rfl⟩
  rw [← q17] at V17
  refine own_of (S' := T17.setTop (mkF m 88 #[.val (.int p1), .val (.int p2), .unset, .unset, .unset, .unset] [(.ref b1)])) st17 ?_
  refine own_of (S' := T17.setTop (mkF m 89 #[.val (.int p1), .val (.int p2), .unset, .unset, .unset, .unset] [(.ref b1), (.ref b1)])) (fun t k => XS.dup X17.here hx rfl (hb hby at_88) rfl rfl k) ?_
  refine own_of (S' := T17.setTop (mkF m 91 #[.val (.int p1), .val (.int p2), .unset, .unset, .unset, .unset] [(.int (15 : Int32)), (.ref b1), (.ref b1)])) (fun t k => XS.bipush X17.here hx rfl (hb hby at_89) k) ?_
  refine own_of (S' := T17.setTop (mkF m 93 #[.val (.int p1), .val (.int p2), .unset, .unset, .unset, .unset] [(.int (109 : Int32)), (.int (15 : Int32)), (.ref b1), (.ref b1)])) (fun t k => XS.bipush X17.here hx rfl (hb hby at_91) k) ?_
  obtain ⟨T18, h18, L18, X18, e18, W18, V18, hN18, st18⟩ := own_stI X17 hx hZ e17 V17 (j := (15 : Int32)) (by decide) (by decide) (g := (mkF m 93 #[.val (.int p1), .val (.int p2), .unset, .unset, .unset, .unset] [(.int (109 : Int32)), (.int (15 : Int32)), (.ref b1), (.ref b1)])) rfl rfl (hb hby at_93)
  have N18 := hN18 _ N17 g_b1
  obtain ⟨fn18, q18⟩ : ∃ y : Nat → Value, y = (fun i => if i = ((15 : Int32)).toNatClampNeg then .int (109 : Int32) else fn17 i) := ⟨_, rfl⟩
  rw [← q18] at V18
  refine own_of (S' := T18.setTop (mkF m 94 #[.val (.int p1), .val (.int p2), .unset, .unset, .unset, .unset] [(.ref b1)])) st18 ?_
  refine own_of (S' := T18.setTop (mkF m 95 #[.val (.int p1), .val (.int p2), .unset, .unset, .unset, .unset] [(.ref b1), (.ref b1)])) (fun t k => XS.dup X18.here hx rfl (hb hby at_94) rfl rfl k) ?_
  refine own_of (S' := T18.setTop (mkF m 97 #[.val (.int p1), .val (.int p2), .unset, .unset, .unset, .unset] [(.int (16 : Int32)), (.ref b1), (.ref b1)])) (fun t k => XS.bipush X18.here hx rfl (hb hby at_95) k) ?_
  refine own_of (S' := T18.setTop (mkF m 99 #[.val (.int p1), .val (.int p2), .unset, .unset, .unset, .unset] [(.int (111 : Int32)), (.int (16 : Int32)), (.ref b1), (.ref b1)])) (fun t k => XS.bipush X18.here hx rfl (hb hby at_97) k) ?_
  obtain ⟨T19, h19, L19, X19, e19, W19, V19, hN19, st19⟩ := own_stI X18 hx hZ e18 V18 (j := (16 : Int32)) (by decide) (by decide) (g := (mkF m 99 #[.val (.int p1), .val (.int p2), .unset, .unset, .unset, .unset] [(.int (111 : Int32)), (.int (16 : Int32)), (.ref b1), (.ref b1)])) rfl rfl (hb hby at_99)
  have N19 := hN19 _ N18 g_b1
  obtain ⟨fn19, q19⟩ : ∃ y : Nat → Value, y = (fun i => if i = ((16 : Int32)).toNatClampNeg then .int (111 : Int32) else fn18 i) := ⟨_, rfl⟩
  rw [← q19] at V19
  refine own_of (S' := T19.setTop (mkF m 100 #[.val (.int p1), .val (.int p2), .unset, .unset, .unset, .unset] [(.ref b1)])) st19 ?_
  refine own_of (S' := T19.setTop (mkF m 101 #[.val (.int p1), .val (.int p2), .unset, .unset, .unset, .unset] [(.ref b1), (.ref b1)])) (fun t k => XS.dup X19.here hx rfl (hb hby at_100) rfl rfl k) ?_
  refine own_of (S' := T19.setTop (mkF m 103 #[.val (.int p1), .val (.int p2), .unset, .unset, .unset, .unset] [(.int (17 : Int32)), (.ref b1), (.ref b1)])) (fun t k => XS.bipush X19.here hx rfl (hb hby at_101) k) ?_
  refine own_of (S' := T19.setTop (mkF m 105 #[.val (.int p1), .val (.int p2), .unset, .unset, .unset, .unset] [(.int (120 : Int32)), (.int (17 : Int32)), (.ref b1), (.ref b1)])) (fun t k => XS.bipush X19.here hx rfl (hb hby at_103) k) ?_
  obtain ⟨T20, h20, L20, X20, e20, W20, V20, hN20, st20⟩ := own_stI X19 hx hZ e19 V19 (j := (17 : Int32)) (by decide) (by decide) (g := (mkF m 105 #[.val (.int p1), .val (.int p2), .unset, .unset, .unset, .unset] [(.int (120 : Int32)), (.int (17 : Int32)), (.ref b1), (.ref b1)])) rfl rfl (hb hby at_105)
  have N20 := hN20 _ N19 g_b1
  obtain ⟨fn20, q20⟩ : ∃ y : Nat → Value, y = (fun i => if i = ((17 : Int32)).toNatClampNeg then .int (120 : Int32) else fn19 i) := ⟨_, rfl⟩
  rw [← q20] at V20
  refine own_of (S' := T20.setTop (mkF m 106 #[.val (.int p1), .val (.int p2), .unset, .unset, .unset, .unset] [(.ref b1)])) st20 ?_
  refine own_of (S' := T20.setTop (mkF m 107 #[.val (.int p1), .val (.int p2), .unset, .unset, .unset, .unset] [(.ref b1), (.ref b1)])) (fun t k => XS.dup X20.here hx rfl (hb hby at_106) rfl rfl k) ?_
  refine own_of (S' := T20.setTop (mkF m 109 #[.val (.int p1), .val (.int p2), .unset, .unset, .unset, .unset] [(.int (18 : Int32)), (.ref b1), (.ref b1)])) (fun t k => XS.bipush X20.here hx rfl (hb hby at_107) k) ?_
  refine own_of (S' := T20.setTop (mkF m 111 #[.val (.int p1), .val (.int p2), .unset, .unset, .unset, .unset] [(.int (121 : Int32)), (.int (18 : Int32)), (.ref b1), (.ref b1)])) (fun t k => XS.bipush X20.here hx rfl (hb hby at_109) k) ?_
  obtain ⟨T21, h21, L21, X21, e21, W21, V21, hN21, st21⟩ := own_stI X20 hx hZ e20 V20 (j := (18 : Int32)) (by decide) (by decide) (g := (mkF m 111 #[.val (.int p1), .val (.int p2), .unset, .unset, .unset, .unset] [(.int (121 : Int32)), (.int (18 : Int32)), (.ref b1), (.ref b1)])) rfl rfl (hb hby at_111)
  have N21 := hN21 _ N20 g_b1
  obtain ⟨fn21, q21⟩ : ∃ y : Nat → Value, y = (fun i => if i = ((18 : Int32)).toNatClampNeg then .int (121 : Int32) else fn20 i) := ⟨_, rfl⟩
  rw [← q21] at V21
  refine own_of (S' := T21.setTop (mkF m 112 #[.val (.int p1), .val (.int p2), .unset, .unset, .unset, .unset] [(.ref b1)])) st21 ?_
  refine own_of (S' := T21.setTop (mkF m 113 #[.val (.int p1), .val (.int p2), .unset, .unset, .unset, .unset] [(.ref b1), (.ref b1)])) (fun t k => XS.dup X21.here hx rfl (hb hby at_112) rfl rfl k) ?_
  refine own_of (S' := T21.setTop (mkF m 115 #[.val (.int p1), .val (.int p2), .unset, .unset, .unset, .unset] [(.int (19 : Int32)), (.ref b1), (.ref b1)])) (fun t k => XS.bipush X21.here hx rfl (hb hby at_113) k) ?_
  refine own_of (S' := T21.setTop (mkF m 117 #[.val (.int p1), .val (.int p2), .unset, .unset, .unset, .unset] [(.int (115 : Int32)), (.int (19 : Int32)), (.ref b1), (.ref b1)])) (fun t k => XS.bipush X21.here hx rfl (hb hby at_115) k) ?_
  obtain ⟨T22, h22, L22, X22, e22, W22, V22, hN22, st22⟩ := own_stI X21 hx hZ e21 V21 (j := (19 : Int32)) (by decide) (by decide) (g := (mkF m 117 #[.val (.int p1), .val (.int p2), .unset, .unset, .unset, .unset] [(.int (115 : Int32)), (.int (19 : Int32)), (.ref b1), (.ref b1)])) rfl rfl (hb hby at_117)
  have N22 := hN22 _ N21 g_b1
  obtain ⟨fn22, q22⟩ : ∃ y : Nat → Value, y = (fun i => if i = ((19 : Int32)).toNatClampNeg then .int (115 : Int32) else fn21 i) := ⟨_, rfl⟩
  rw [← q22] at V22
  refine own_of (S' := T22.setTop (mkF m 118 #[.val (.int p1), .val (.int p2), .unset, .unset, .unset, .unset] [(.ref b1)])) st22 ?_
  refine own_of (S' := T22.setTop (mkF m 119 #[.val (.int p1), .val (.int p2), .unset, .unset, .unset, .unset] [(.ref b1), (.ref b1)])) (fun t k => XS.dup X22.here hx rfl (hb hby at_118) rfl rfl k) ?_
  refine own_of (S' := T22.setTop (mkF m 121 #[.val (.int p1), .val (.int p2), .unset, .unset, .unset, .unset] [(.int (20 : Int32)), (.ref b1), (.ref b1)])) (fun t k => XS.bipush X22.here hx rfl (hb hby at_119) k) ?_
  refine own_of (S' := T22.setTop (mkF m 123 #[.val (.int p1), .val (.int p2), .unset, .unset, .unset, .unset] [(.int (75 : Int32)), (.int (20 : Int32)), (.ref b1), (.ref b1)])) (fun t k => XS.bipush X22.here hx rfl (hb hby at_121) k) ?_
  obtain ⟨T23, h23, L23, X23, e23, W23, V23, hN23, st23⟩ := own_stI X22 hx hZ e22 V22 (j := (20 : Int32)) (by decide) (by decide) (g := (mkF m 123 #[.val (.int p1), .val (.int p2), .unset, .unset, .unset, .unset] [(.int (75 : Int32)), (.int (20 : Int32)), (.ref b1), (.ref b1)])) rfl rfl (hb hby at_123)
  have N23 := hN23 _ N22 g_b1
  obtain ⟨fn23, q23⟩ : ∃ y : Nat → Value, y = (fun i => if i = ((20 : Int32)).toNatClampNeg then .int (75 : Int32) else fn22 i) := ⟨_, rfl⟩
  rw [← q23] at V23
  refine own_of (S' := T23.setTop (mkF m 124 #[.val (.int p1), .val (.int p2), .unset, .unset, .unset, .unset] [(.ref b1)])) st23 ?_
  refine own_of (S' := T23.setTop (mkF m 125 #[.val (.int p1), .val (.int p2), .unset, .unset, .unset, .unset] [(.ref b1), (.ref b1)])) (fun t k => XS.dup X23.here hx rfl (hb hby at_124) rfl rfl k) ?_
  refine own_of (S' := T23.setTop (mkF m 127 #[.val (.int p1), .val (.int p2), .unset, .unset, .unset, .unset] [(.int (21 : Int32)), (.ref b1), (.ref b1)])) (fun t k => XS.bipush X23.here hx rfl (hb hby at_125) k) ?_
  refine own_of (S' := T23.setTop (mkF m 129 #[.val (.int p1), .val (.int p2), .unset, .unset, .unset, .unset] [(.int (67 : Int32)), (.int (21 : Int32)), (.ref b1), (.ref b1)])) (fun t k => XS.bipush X23.here hx rfl (hb hby at_127) k) ?_
  obtain ⟨T24, h24, L24, X24, e24, W24, V24, hN24, st24⟩ := own_stI X23 hx hZ e23 V23 (j := (21 : Int32)) (by decide) (by decide) (g := (mkF m 129 #[.val (.int p1), .val (.int p2), .unset, .unset, .unset, .unset] [(.int (67 : Int32)), (.int (21 : Int32)), (.ref b1), (.ref b1)])) rfl rfl (hb hby at_129)
  have N24 := hN24 _ N23 g_b1
  obtain ⟨fn24, q24⟩ : ∃ y : Nat → Value, y = (fun i => if i = ((21 : Int32)).toNatClampNeg then .int (67 : Int32) else fn23 i) := ⟨_, rfl⟩
  rw [← q24] at V24
  refine own_of (S' := T24.setTop (mkF m 130 #[.val (.int p1), .val (.int p2), .unset, .unset, .unset, .unset] [(.ref b1)])) st24 ?_
  refine own_of (S' := T24.setTop (mkF m 131 #[.val (.int p1), .val (.int p2), .unset, .unset, .unset, .unset] [(.ref b1), (.ref b1)])) (fun t k => XS.dup X24.here hx rfl (hb hby at_130) rfl rfl k) ?_
  refine own_of (S' := T24.setTop (mkF m 133 #[.val (.int p1), .val (.int p2), .unset, .unset, .unset, .unset] [(.int (22 : Int32)), (.ref b1), (.ref b1)])) (fun t k => XS.bipush X24.here hx rfl (hb hby at_131) k) ?_
  refine own_of (S' := T24.setTop (mkF m 135 #[.val (.int p1), .val (.int p2), .unset, .unset, .unset, .unset] [(.int (81 : Int32)), (.int (22 : Int32)), (.ref b1), (.ref b1)])) (fun t k => XS.bipush X24.here hx rfl (hb hby at_133) k) ?_
  obtain ⟨T25, h25, L25, X25, e25, W25, V25, hN25, st25⟩ := own_stI X24 hx hZ e24 V24 (j := (22 : Int32)) (by decide) (by decide) (g := (mkF m 135 #[.val (.int p1), .val (.int p2), .unset, .unset, .unset, .unset] [(.int (81 : Int32)), (.int (22 : Int32)), (.ref b1), (.ref b1)])) rfl rfl (hb hby at_135)
  have N25 := hN25 _ N24 g_b1
  obtain ⟨fn25, q25⟩ : ∃ y : Nat → Value, y = (fun i => if i = ((22 : Int32)).toNatClampNeg then .int (81 : Int32) else fn24 i) := ⟨_, rfl⟩
  rw [← q25] at V25
  refine own_of (S' := T25.setTop (mkF m 136 #[.val (.int p1), .val (.int p2), .unset, .unset, .unset, .unset] [(.ref b1)])) st25 ?_
  refine own_of (S' := T25.setTop (mkF m 137 #[.val (.int p1), .val (.int p2), .unset, .unset, .unset, .unset] [(.ref b1), (.ref b1)])) (fun t k => XS.dup X25.here hx rfl (hb hby at_136) rfl rfl k) ?_
  refine own_of (S' := T25.setTop (mkF m 139 #[.val (.int p1), .val (.int p2), .unset, .unset, .unset, .unset] [(.int (23 : Int32)), (.ref b1), (.ref b1)])) (fun t k => XS.bipush X25.here hx rfl (hb hby at_137) k) ?_
  refine own_of (S' := T25.setTop (mkF m 141 #[.val (.int p1), .val (.int p2), .unset, .unset, .unset, .unset] [(.int (98 : Int32)), (.int (23 : Int32)), (.ref b1), (.ref b1)])) (fun t k => XS.bipush X25.here hx rfl (hb hby at_139) k) ?_
  obtain ⟨T26, h26, L26, X26, e26, W26, V26, hN26, st26⟩ := own_stI X25 hx hZ e25 V25 (j := (23 : Int32)) (by decide) (by decide) (g := (mkF m 141 #[.val (.int p1), .val (.int p2), .unset, .unset, .unset, .unset] [(.int (98 : Int32)), (.int (23 : Int32)), (.ref b1), (.ref b1)])) rfl rfl (hb hby at_141)
  have N26 := hN26 _ N25 g_b1
  obtain ⟨fn26, q26⟩ : ∃ y : Nat → Value, y = (fun i => if i = ((23 : Int32)).toNatClampNeg then .int (98 : Int32) else fn25 i) := ⟨_, rfl⟩
  rw [← q26] at V26
  refine own_of (S' := T26.setTop (mkF m 142 #[.val (.int p1), .val (.int p2), .unset, .unset, .unset, .unset] [(.ref b1)])) st26 ?_
  refine own_of (S' := T26.setTop (mkF m 143 #[.val (.int p1), .val (.int p2), .val (.ref b1), .unset, .unset, .unset] [])) (fun t k => XS.astoreN X26.here hx rfl (hb hby at_142) rfl rfl (l' := #[.val (.int p1), .val (.int p2), .val (.ref b1), .unset, .unset, .unset]) rfl k) ?_
  refine own_of (S' := T26.setTop (mkF m 144 #[.val (.int p1), .val (.int p2), .val (.ref b1), .unset, .unset, .unset] [(.int p1)])) (fun t k => XS.iloadN X26.here hx rfl (hb hby at_143) rfl k) ?_
  refine own_of (S' := T26.setTop (mkF m 145 #[.val (.int p1), .val (.int p2), .val (.ref b1), .unset, .unset, .unset] [(.int (3 : Int32)), (.int p1)])) (fun t k => XS.iconst X26.here hx rfl (hb hby at_144) k) ?_
  refine own_of (S' := T26.setTop (mkF m 146 #[.val (.int p1), .val (.int p2), .val (.ref b1), .unset, .unset, .unset] [(.int (p1 &&& (3 : Int32)))])) (fun t k => XS.iand X26.here hx rfl (hb hby at_145) rfl k) ?_
  refine own_of (S' := T26.setTop (mkF m 147 #[.val (.int p1), .val (.int p2), .val (.ref b1), .val (.int (p1 &&& (3 : Int32))), .unset, .unset] [])) (fun t k => XS.istoreN X26.here hx rfl (hb hby at_146) rfl (l' := #[.val (.int p1), .val (.int p2), .val (.ref b1), .val (.int (p1 &&& (3 : Int32))), .unset, .unset]) rfl k) ?_
  refine own_of (S' := T26.setTop (mkF m 148 #[.val (.int p1), .val (.int p2), .val (.ref b1), .val (.int (p1 &&& (3 : Int32))), .unset, .unset] [(.int (p1 &&& (3 : Int32)))])) (fun t k => XS.iloadN X26.here hx rfl (hb hby at_147) rfl k) ?_
  by_cases hc148_27 : (p1 &&& (3 : Int32)) = (0 : Int32)
  · refine own_of (S' := T26.setTop (mkF m 151 #[.val (.int p1), .val (.int p2), .val (.ref b1), .val (.int (p1 &&& (3 : Int32))), .unset, .unset] [])) (fun t k => XS.ifNo X26.here hx rfl (hb hby at_148) rfl ((if0 _ _).trans (teq hc148_27).2) k) ?_
    refine own_of (S' := T26.setTop (mkF m 152 #[.val (.int p1), .val (.int p2), .val (.ref b1), .val (.int (p1 &&& (3 : Int32))), .unset, .unset] [(.int p2)])) (fun t k => XS.iloadN X26.here hx rfl (hb hby at_151) rfl k) ?_
    refine own_of (S' := T26.setTop (mkF m 154 #[.val (.int p1), .val (.int p2), .val (.ref b1), .val (.int (p1 &&& (3 : Int32))), .val (.int p2), .unset] [])) (fun t k => XS.istore X26.here hx rfl (hb hby at_152) rfl (l' := #[.val (.int p1), .val (.int p2), .val (.ref b1), .val (.int (p1 &&& (3 : Int32))), .val (.int p2), .unset]) rfl k) ?_
    refine own_of (S' := T26.setTop (mkF m 182 #[.val (.int p1), .val (.int p2), .val (.ref b1), .val (.int (p1 &&& (3 : Int32))), .val (.int p2), .unset] [])) (fun t k => XS.goto X26.here hx rfl (pc0 := 154) (pc' := 182) rfl (hb hby at_154) (by decide) (by decide) k) ?_
    refine own_of (S' := T26.setTop (mkF m 184 #[.val (.int p1), .val (.int p2), .val (.ref b1), .val (.int (p1 &&& (3 : Int32))), .val (.int p2), .unset] [(.int p2)])) (fun t k => XS.iload X26.here hx rfl (hb hby at_182) rfl k) ?_
    have KK28 : Keep h0 h1 [] := KK2.ext E1
    have KK29 : Keep h0 h3 [] := KK28.wr W3 (Or.inr (Nat.le_trans KK2.1 (Nat.le_of_eq g1.symm)))
    have KK30 : Keep h0 h4 [] := KK29.wr W4 (Or.inr (Nat.le_trans KK2.1 (Nat.le_of_eq g1.symm)))
    have KK31 : Keep h0 h5 [] := KK30.wr W5 (Or.inr (Nat.le_trans KK2.1 (Nat.le_of_eq g1.symm)))
    have KK32 : Keep h0 h6 [] := KK31.wr W6 (Or.inr (Nat.le_trans KK2.1 (Nat.le_of_eq g1.symm)))
    have KK33 : Keep h0 h7 [] := KK32.wr W7 (Or.inr (Nat.le_trans KK2.1 (Nat.le_of_eq g1.symm)))
    have KK34 : Keep h0 h8 [] := KK33.wr W8 (Or.inr (Nat.le_trans KK2.1 (Nat.le_of_eq g1.symm)))
    have KK35 : Keep h0 h9 [] := KK34.wr W9 (Or.inr (Nat.le_trans KK2.1 (Nat.le_of_eq g1.symm)))
    have KK36 : Keep h0 h10 [] := KK35.wr W10 (Or.inr (Nat.le_trans KK2.1 (Nat.le_of_eq g1.symm)))
    have KK37 : Keep h0 h11 [] := KK36.wr W11 (Or.inr (Nat.le_trans KK2.1 (Nat.le_of_eq g1.symm)))
    have KK38 : Keep h0 h12 [] := KK37.wr W12 (Or.inr (Nat.le_trans KK2.1 (Nat.le_of_eq g1.symm)))
    have KK39 : Keep h0 h13 [] := KK38.wr W13 (Or.inr (Nat.le_trans KK2.1 (Nat.le_of_eq g1.symm)))
    have KK40 : Keep h0 h14 [] := KK39.wr W14 (Or.inr (Nat.le_trans KK2.1 (Nat.le_of_eq g1.symm)))
    have KK41 : Keep h0 h15 [] := KK40.wr W15 (Or.inr (Nat.le_trans KK2.1 (Nat.le_of_eq g1.symm)))
    have KK42 : Keep h0 h16 [] := KK41.wr W16 (Or.inr (Nat.le_trans KK2.1 (Nat.le_of_eq g1.symm)))
    have KK43 : Keep h0 h17 [] := KK42.wr W17 (Or.inr (Nat.le_trans KK2.1 (Nat.le_of_eq g1.symm)))
    have KK44 : Keep h0 h18 [] := KK43.wr W18 (Or.inr (Nat.le_trans KK2.1 (Nat.le_of_eq g1.symm)))
    have KK45 : Keep h0 h19 [] := KK44.wr W19 (Or.inr (Nat.le_trans KK2.1 (Nat.le_of_eq g1.symm)))
    have KK46 : Keep h0 h20 [] := KK45.wr W20 (Or.inr (Nat.le_trans KK2.1 (Nat.le_of_eq g1.symm)))
    have KK47 : Keep h0 h21 [] := KK46.wr W21 (Or.inr (Nat.le_trans KK2.1 (Nat.le_of_eq g1.symm)))
    have KK48 : Keep h0 h22 [] := KK47.wr W22 (Or.inr (Nat.le_trans KK2.1 (Nat.le_of_eq g1.symm)))
    have KK49 : Keep h0 h23 [] := KK48.wr W23 (Or.inr (Nat.le_trans KK2.1 (Nat.le_of_eq g1.symm)))
    have KK50 : Keep h0 h24 [] := KK49.wr W24 (Or.inr (Nat.le_trans KK2.1 (Nat.le_of_eq g1.symm)))
    have KK51 : Keep h0 h25 [] := KK50.wr W25 (Or.inr (Nat.le_trans KK2.1 (Nat.le_of_eq g1.symm)))
    have KK52 : Keep h0 h26 [] := KK51.wr W26 (Or.inr (Nat.le_trans KK2.1 (Nat.le_of_eq g1.symm)))
    have S_ALL_t53 : Sta Z h26 "com/example/waypost/waypost/ldap/Operation" "ALL" "[Lcom/example/waypost/waypost/ldap/Operation;" (.ref wall) := own_staK S_ALL KK52 all0
    have V_wall_t54 : own_Ar Z h26 wall (.object "com/example/waypost/waypost/ldap/Operation") 10 (fun i => ([.ref w_BIND, .ref w_UNBIND, .ref w_SEARCH, .ref w_MODIFY, .ref w_ADD, .ref w_DELETE, .ref w_MODIFY_DN, .ref w_COMPARE, .ref w_ABANDON, .ref w_EXTENDED] : List Value).getD i .null) := V_wall.keep KK52 nin0
    have F_requestTag_w_BIND_t55 : Fld Z h26 w_BIND "com/example/waypost/waypost/ldap/Operation" "requestTag" "I" (.int (96 : Int32)) := F_requestTag_w_BIND.keep KK52 nin0
    have F_requestTag_w_UNBIND_t56 : Fld Z h26 w_UNBIND "com/example/waypost/waypost/ldap/Operation" "requestTag" "I" (.int (66 : Int32)) := F_requestTag_w_UNBIND.keep KK52 nin0
    have F_requestTag_w_SEARCH_t57 : Fld Z h26 w_SEARCH "com/example/waypost/waypost/ldap/Operation" "requestTag" "I" (.int (99 : Int32)) := F_requestTag_w_SEARCH.keep KK52 nin0
    have F_requestTag_w_MODIFY_t58 : Fld Z h26 w_MODIFY "com/example/waypost/waypost/ldap/Operation" "requestTag" "I" (.int (102 : Int32)) := F_requestTag_w_MODIFY.keep KK52 nin0
    have F_requestTag_w_ADD_t59 : Fld Z h26 w_ADD "com/example/waypost/waypost/ldap/Operation" "requestTag" "I" (.int (104 : Int32)) := F_requestTag_w_ADD.keep KK52 nin0
    have F_requestTag_w_DELETE_t60 : Fld Z h26 w_DELETE "com/example/waypost/waypost/ldap/Operation" "requestTag" "I" (.int (74 : Int32)) := F_requestTag_w_DELETE.keep KK52 nin0
    have F_requestTag_w_MODIFY_DN_t61 : Fld Z h26 w_MODIFY_DN "com/example/waypost/waypost/ldap/Operation" "requestTag" "I" (.int (108 : Int32)) := F_requestTag_w_MODIFY_DN.keep KK52 nin0
    have F_requestTag_w_COMPARE_t62 : Fld Z h26 w_COMPARE "com/example/waypost/waypost/ldap/Operation" "requestTag" "I" (.int (110 : Int32)) := F_requestTag_w_COMPARE.keep KK52 nin0
    have F_requestTag_w_ABANDON_t63 : Fld Z h26 w_ABANDON "com/example/waypost/waypost/ldap/Operation" "requestTag" "I" (.int (80 : Int32)) := F_requestTag_w_ABANDON.keep KK52 nin0
    have F_requestTag_w_EXTENDED_t64 : Fld Z h26 w_EXTENDED "com/example/waypost/waypost/ldap/Operation" "requestTag" "I" (.int (119 : Int32)) := F_requestTag_w_EXTENDED.keep KK52 nin0
    obtain ⟨_, _, ⟨T65, L65, k65, n65⟩, -, X65, ⟨Lc65, hQ65, l65, y65, z65⟩, st65⟩ := Jvm.LawKit.callS X26 hx (y := (⟨"com/example/waypost/waypost/ldap/Operation", "of", "(I)Lcom/example/waypost/waypost/ldap/Operation;"⟩ : MethodName)) hown (mvT hZ (hw _ (List.mem_of_getElem? (i := 1) rfl))) (mvT hZ (hw _ (List.mem_of_getElem? (i := 2) rfl))) (mvT hZ (hw _ (List.mem_of_getElem? (i := 3) rfl))) (mvT hZ (hw _ (List.mem_of_getElem? (i := 4) rfl))) (by decide) (backOf (W := 0) (rm1 l Z a0 hw [] p2 wall w_BIND w_UNBIND w_SEARCH w_MODIFY w_ADD w_DELETE w_MODIFY_DN w_COMPARE w_ABANDON w_EXTENDED h26 n0 (Nat.le_trans Z0 KK52.1) S_ALL_t53 V_wall_t54 F_requestTag_w_BIND_t55 F_requestTag_w_UNBIND_t56 F_requestTag_w_SEARCH_t57 F_requestTag_w_MODIFY_t58 F_requestTag_w_ADD_t59 F_requestTag_w_DELETE_t60 F_requestTag_w_MODIFY_DN_t61 F_requestTag_w_COMPARE_t62 F_requestTag_w_ABANDON_t63 F_requestTag_w_EXTENDED_t64) hZ (hw _ (List.mem_of_getElem? (i := 4) rfl)) (hw _ (List.mem_of_getElem? (i := 3) rfl)) (by decide) (by decide)) (g := (mkF m 184 #[.val (.int p1), .val (.int p2), .val (.ref b1), .val (.int (p1 &&& (3 : Int32))), .val (.int p2), .unset] [(.int p2)])) rfl (by rw [hml]; rfl) (argsL := [(.int p2)]) (rest := []) (lenOf pd0_0 rfl) rfl (by show 2 * 0 + _ ≤ _; exact Nat.le_of_eq rfl) (hb hby at_184) (fun _ _ => ⟨rfl, e26, (by decide : (0 + 1) + _ ≤ _), (by decide : (0 + 24) + _ ≤ _)⟩)
    dsimp only [Pt.U, Pt.locs, Pt.cells, Pt.slots] at X65 l65 y65 z65 st65 hQ65
    subst l65 y65 z65
    obtain ⟨rfl, N65q, hh65⟩ := hQ65
    have N65 := Fr.app N26 N65q
    refine own_of (S' := T65.setTop (mkF m 187 #[.val (.int p1), .val (.int p2), .val (.ref b1), .val (.int (p1 &&& (3 : Int32))), .val (.int p2), .unset] [(own_op p2 w_BIND w_UNBIND w_SEARCH w_MODIFY w_ADD w_DELETE w_MODIFY_DN w_COMPARE w_ABANDON w_EXTENDED)])) st65 ?_
    refine own_of (S' := T65.setTop (mkF m 189 #[.val (.int p1), .val (.int p2), .val (.ref b1), .val (.int (p1 &&& (3 : Int32))), .val (.int p2), .val (own_op p2 w_BIND w_UNBIND w_SEARCH w_MODIFY w_ADD w_DELETE w_MODIFY_DN w_COMPARE w_ABANDON w_EXTENDED)] [])) (fun t k => XS.astoreS X65.here hx rfl (hb hby at_187) rfl (own_opR _ _ _ _ _ _ _ _ _ _ _) (own_cat (own_opR _ _ _ _ _ _ _ _ _ _ _)) rfl (Or.inl rfl) k) ?_
    refine own_of (S' := T65.setTop (mkF m 191 #[.val (.int p1), .val (.int p2), .val (.ref b1), .val (.int (p1 &&& (3 : Int32))), .val (.int p2), .val (own_op p2 w_BIND w_UNBIND w_SEARCH w_MODIFY w_ADD w_DELETE w_MODIFY_DN w_COMPARE w_ABANDON w_EXTENDED)] [(own_op p2 w_BIND w_UNBIND w_SEARCH w_MODIFY w_ADD w_DELETE w_MODIFY_DN w_COMPARE w_ABANDON w_EXTENDED)])) (fun t k => XS.aload X65.here hx rfl (hb hby at_189) rfl ((own_opR _ _ _ _ _ _ _ _ _ _ _)) k) ?_
    refine own_of (S' := T65.setTop (mkF m 193 #[.val (.int p1), .val (.int p2), .val (.ref b1), .val (.int (p1 &&& (3 : Int32))), .val (.int p2), .val (own_op p2 w_BIND w_UNBIND w_SEARCH w_MODIFY w_ADD w_DELETE w_MODIFY_DN w_COMPARE w_ABANDON w_EXTENDED)] [(.int p2), (own_op p2 w_BIND w_UNBIND w_SEARCH w_MODIFY w_ADD w_DELETE w_MODIFY_DN w_COMPARE w_ABANDON w_EXTENDED)])) (fun t k => XS.iload X65.here hx rfl (hb hby at_191) rfl k) ?_
    have S_BIND_t66 : Sta Z h26 "com/example/waypost/waypost/ldap/Operation" "BIND" "Lcom/example/waypost/waypost/ldap/Operation;" (.ref w_BIND) := own_staK S_BIND KK52 all0
    have S_UNBIND_t67 : Sta Z h26 "com/example/waypost/waypost/ldap/Operation" "UNBIND" "Lcom/example/waypost/waypost/ldap/Operation;" (.ref w_UNBIND) := own_staK S_UNBIND KK52 all0
    have S_SEARCH_t68 : Sta Z h26 "com/example/waypost/waypost/ldap/Operation" "SEARCH" "Lcom/example/waypost/waypost/ldap/Operation;" (.ref w_SEARCH) := own_staK S_SEARCH KK52 all0
    have S_MODIFY_t69 : Sta Z h26 "com/example/waypost/waypost/ldap/Operation" "MODIFY" "Lcom/example/waypost/waypost/ldap/Operation;" (.ref w_MODIFY) := own_staK S_MODIFY KK52 all0
    have S_ADD_t70 : Sta Z h26 "com/example/waypost/waypost/ldap/Operation" "ADD" "Lcom/example/waypost/waypost/ldap/Operation;" (.ref w_ADD) := own_staK S_ADD KK52 all0
    have S_DELETE_t71 : Sta Z h26 "com/example/waypost/waypost/ldap/Operation" "DELETE" "Lcom/example/waypost/waypost/ldap/Operation;" (.ref w_DELETE) := own_staK S_DELETE KK52 all0
    have S_MODIFY_DN_t72 : Sta Z h26 "com/example/waypost/waypost/ldap/Operation" "MODIFY_DN" "Lcom/example/waypost/waypost/ldap/Operation;" (.ref w_MODIFY_DN) := own_staK S_MODIFY_DN KK52 all0
    have S_COMPARE_t73 : Sta Z h26 "com/example/waypost/waypost/ldap/Operation" "COMPARE" "Lcom/example/waypost/waypost/ldap/Operation;" (.ref w_COMPARE) := own_staK S_COMPARE KK52 all0
    have S_ABANDON_t74 : Sta Z h26 "com/example/waypost/waypost/ldap/Operation" "ABANDON" "Lcom/example/waypost/waypost/ldap/Operation;" (.ref w_ABANDON) := own_staK S_ABANDON KK52 all0
    have S_EXTENDED_t75 : Sta Z h26 "com/example/waypost/waypost/ldap/Operation" "EXTENDED" "Lcom/example/waypost/waypost/ldap/Operation;" (.ref w_EXTENDED) := own_staK S_EXTENDED KK52 all0
    obtain ⟨_, _, ⟨T76, L76, k76, n76⟩, -, X76, ⟨Lc76, hQ76, l76, y76, z76⟩, st76⟩ := Jvm.LawKit.callS X65 hx (y := (⟨"com/example/waypost/waypost/ldap/OperationOfPinLaw", "expected", "(I)Lcom/example/waypost/waypost/ldap/Operation;"⟩ : MethodName)) hown (mvT hZ (hw _ (List.mem_of_getElem? (i := 19) rfl))) (mvT hZ (hw _ (List.mem_of_getElem? (i := 20) rfl))) (mvT hZ (hw _ (List.mem_of_getElem? (i := 21) rfl))) (mvT hZ (hw _ (List.mem_of_getElem? (i := 22) rfl))) (by decide) (backOf (W := 1) (rm2 l Z a0 hw [] p2 w_BIND w_UNBIND w_SEARCH w_MODIFY w_ADD w_DELETE w_MODIFY_DN w_COMPARE w_ABANDON w_EXTENDED h26 n0 (Nat.le_trans Z0 KK52.1) S_BIND_t66 S_UNBIND_t67 S_SEARCH_t68 S_MODIFY_t69 S_ADD_t70 S_DELETE_t71 S_MODIFY_DN_t72 S_COMPARE_t73 S_ABANDON_t74 S_EXTENDED_t75) hZ (hw _ (List.mem_of_getElem? (i := 22) rfl)) (hw _ (List.mem_of_getElem? (i := 21) rfl)) (by decide) (by decide)) (g := (mkF m 193 #[.val (.int p1), .val (.int p2), .val (.ref b1), .val (.int (p1 &&& (3 : Int32))), .val (.int p2), .val (own_op p2 w_BIND w_UNBIND w_SEARCH w_MODIFY w_ADD w_DELETE w_MODIFY_DN w_COMPARE w_ABANDON w_EXTENDED)] [(.int p2), (own_op p2 w_BIND w_UNBIND w_SEARCH w_MODIFY w_ADD w_DELETE w_MODIFY_DN w_COMPARE w_ABANDON w_EXTENDED)])) rfl (by rw [hml]; rfl) (argsL := [(.int p2)]) (rest := [(own_op p2 w_BIND w_UNBIND w_SEARCH w_MODIFY w_ADD w_DELETE w_MODIFY_DN w_COMPARE w_ABANDON w_EXTENDED)]) (lenOf pd0_0 rfl) rfl (by show 2 * 0 + (((own_op p2 w_BIND w_UNBIND w_SEARCH w_MODIFY w_ADD w_DELETE w_MODIFY_DN w_COMPARE w_ABANDON w_EXTENDED)).category + 0) ≤ _; rw [own_cat (own_opR _ _ _ _ _ _ _ _ _ _ _)]; exact Nat.le_of_eq rfl) (hb hby at_193) (fun _ _ => ⟨rfl, (hh65), (by decide : ((0 + 1) + 0) + _ ≤ _), (by decide : ((0 + 24) + 0) + _ ≤ _)⟩)
    dsimp only [Pt.U, Pt.locs, Pt.cells, Pt.slots] at X76 l76 y76 z76 st76 hQ76
    subst l76 y76 z76
    obtain ⟨rfl, N76q, hh76⟩ := hQ76
    have N76 := Fr.app N65 N76q
    refine own_of (S' := T76.setTop (mkF m 196 #[.val (.int p1), .val (.int p2), .val (.ref b1), .val (.int (p1 &&& (3 : Int32))), .val (.int p2), .val (own_op p2 w_BIND w_UNBIND w_SEARCH w_MODIFY w_ADD w_DELETE w_MODIFY_DN w_COMPARE w_ABANDON w_EXTENDED)] [(own_op p2 w_BIND w_UNBIND w_SEARCH w_MODIFY w_ADD w_DELETE w_MODIFY_DN w_COMPARE w_ABANDON w_EXTENDED), (own_op p2 w_BIND w_UNBIND w_SEARCH w_MODIFY w_ADD w_DELETE w_MODIFY_DN w_COMPARE w_ABANDON w_EXTENDED)])) st76 ?_
    refine own_of (S' := T76.setTop (mkF m 199 #[.val (.int p1), .val (.int p2), .val (.ref b1), .val (.int (p1 &&& (3 : Int32))), .val (.int p2), .val (own_op p2 w_BIND w_UNBIND w_SEARCH w_MODIFY w_ADD w_DELETE w_MODIFY_DN w_COMPARE w_ABANDON w_EXTENDED)] [])) (fun t k => Jvm.RoadKit.acmp (g := (mkF m 196 #[.val (.int p1), .val (.int p2), .val (.ref b1), .val (.int (p1 &&& (3 : Int32))), .val (.int p2), .val (own_op p2 w_BIND w_UNBIND w_SEARCH w_MODIFY w_ADD w_DELETE w_MODIFY_DN w_COMPARE w_ABANDON w_EXTENDED)] [(own_op p2 w_BIND w_UNBIND w_SEARCH w_MODIFY w_ADD w_DELETE w_MODIFY_DN w_COMPARE w_ABANDON w_EXTENDED), (own_op p2 w_BIND w_UNBIND w_SEARCH w_MODIFY w_ADD w_DELETE w_MODIFY_DN w_COMPARE w_ABANDON w_EXTENDED)])) X76 hx rfl ((own_opR _ _ _ _ _ _ _ _ _ _ _)) ((own_opR _ _ _ _ _ _ _ _ _ _ _)) (pc0 := 196) (pc' := 199) (same := true) rfl (hb hby at_196) rfl (decide_eq_true rfl) (by decide) (by decide) k) ?_
    refine own_of (S' := T76.setTop (mkF m 200 #[.val (.int p1), .val (.int p2), .val (.ref b1), .val (.int (p1 &&& (3 : Int32))), .val (.int p2), .val (own_op p2 w_BIND w_UNBIND w_SEARCH w_MODIFY w_ADD w_DELETE w_MODIFY_DN w_COMPARE w_ABANDON w_EXTENDED)] [(.int (1 : Int32))])) (fun t k => XS.iconst X76.here hx rfl (hb hby at_199) k) ?_
    refine own_of (S' := T76.setTop (mkF m 204 #[.val (.int p1), .val (.int p2), .val (.ref b1), .val (.int (p1 &&& (3 : Int32))), .val (.int p2), .val (own_op p2 w_BIND w_UNBIND w_SEARCH w_MODIFY w_ADD w_DELETE w_MODIFY_DN w_COMPARE w_ABANDON w_EXTENDED)] [(.int (1 : Int32))])) (fun t k => XS.goto X76.here hx rfl (pc0 := 200) (pc' := 204) rfl (hb hby at_200) (by decide) (by decide) k) ?_
    obtain ⟨fs, hr, hrun, hended, hW, hsame⟩ := X76.leave (v := some (.int (1 : Int32))) (fun h => by rw [Bd.returns] at h; cases h)
    subst hKd
    exact ⟨_, _, retN X76 hx (t := .boolean) Bd.returns (by simp) (hb hby at_204) hr, hrun, hended, _, _, rfl, (by
      show Q0 Z p1 p2 wall w_BIND w_UNBIND w_SEARCH w_MODIFY w_ADD w_DELETE w_MODIFY_DN w_COMPARE w_ABANDON w_EXTENDED h0 n0 _ T76.heap _
      rw [show T76.heap = h26 from (hh76)]
      exact ⟨rfl, N76⟩), ⟨_, rfl⟩, hW, hsame.mono (by decide) (by decide)⟩
  refine own_of (S' := T26.setTop (mkF m 157 #[.val (.int p1), .val (.int p2), .val (.ref b1), .val (.int (p1 &&& (3 : Int32))), .unset, .unset] [])) (fun t k => XS.ifYes X26.here hx rfl (pc0 := 148) (pc' := 157) rfl (hb hby at_148) rfl ((if0 _ _).trans (feq hc148_27).2) (by decide) (by decide) k) ?_
  refine own_of (S' := T26.setTop (mkF m 158 #[.val (.int p1), .val (.int p2), .val (.ref b1), .val (.int (p1 &&& (3 : Int32))), .unset, .unset] [(.int (p1 &&& (3 : Int32)))])) (fun t k => XS.iloadN X26.here hx rfl (hb hby at_157) rfl k) ?_
  refine own_of (S' := T26.setTop (mkF m 159 #[.val (.int p1), .val (.int p2), .val (.ref b1), .val (.int (p1 &&& (3 : Int32))), .unset, .unset] [(.int (1 : Int32)), (.int (p1 &&& (3 : Int32)))])) (fun t k => XS.iconst X26.here hx rfl (hb hby at_158) k) ?_
  by_cases hc159_77 : (p1 &&& (3 : Int32)) = (1 : Int32)
  · refine own_of (S' := T26.setTop (mkF m 162 #[.val (.int p1), .val (.int p2), .val (.ref b1), .val (.int (p1 &&& (3 : Int32))), .unset, .unset] [])) (fun t k => XS.icmpNo X26.here hx rfl (hb hby at_159) rfl (teq hc159_77).2 k) ?_
    refine own_of (S' := T26.setTop (mkF m 163 #[.val (.int p1), .val (.int p2), .val (.ref b1), .val (.int (p1 &&& (3 : Int32))), .unset, .unset] [(.int p2)])) (fun t k => XS.iloadN X26.here hx rfl (hb hby at_162) rfl k) ?_
    refine own_of (S' := T26.setTop (mkF m 166 #[.val (.int p1), .val (.int p2), .val (.ref b1), .val (.int (p1 &&& (3 : Int32))), .unset, .unset] [(.int (255 : Int32)), (.int p2)])) (fun t k => XS.sipush X26.here hx rfl (hb hby at_163) k) ?_
    refine own_of (S' := T26.setTop (mkF m 167 #[.val (.int p1), .val (.int p2), .val (.ref b1), .val (.int (p1 &&& (3 : Int32))), .unset, .unset] [(.int (p2 &&& (255 : Int32)))])) (fun t k => XS.iand X26.here hx rfl (hb hby at_166) rfl k) ?_
    refine own_of (S' := T26.setTop (mkF m 169 #[.val (.int p1), .val (.int p2), .val (.ref b1), .val (.int (p1 &&& (3 : Int32))), .val (.int (p2 &&& (255 : Int32))), .unset] [])) (fun t k => XS.istore X26.here hx rfl (hb hby at_167) rfl (l' := #[.val (.int p1), .val (.int p2), .val (.ref b1), .val (.int (p1 &&& (3 : Int32))), .val (.int (p2 &&& (255 : Int32))), .unset]) rfl k) ?_
    refine own_of (S' := T26.setTop (mkF m 182 #[.val (.int p1), .val (.int p2), .val (.ref b1), .val (.int (p1 &&& (3 : Int32))), .val (.int (p2 &&& (255 : Int32))), .unset] [])) (fun t k => XS.goto X26.here hx rfl (pc0 := 169) (pc' := 182) rfl (hb hby at_169) (by decide) (by decide) k) ?_
    refine own_of (S' := T26.setTop (mkF m 184 #[.val (.int p1), .val (.int p2), .val (.ref b1), .val (.int (p1 &&& (3 : Int32))), .val (.int (p2 &&& (255 : Int32))), .unset] [(.int (p2 &&& (255 : Int32)))])) (fun t k => XS.iload X26.here hx rfl (hb hby at_182) rfl k) ?_
    have KK78 : Keep h0 h1 [] := KK2.ext E1
    have KK79 : Keep h0 h3 [] := KK78.wr W3 (Or.inr (Nat.le_trans KK2.1 (Nat.le_of_eq g1.symm)))
    have KK80 : Keep h0 h4 [] := KK79.wr W4 (Or.inr (Nat.le_trans KK2.1 (Nat.le_of_eq g1.symm)))
    have KK81 : Keep h0 h5 [] := KK80.wr W5 (Or.inr (Nat.le_trans KK2.1 (Nat.le_of_eq g1.symm)))
    have KK82 : Keep h0 h6 [] := KK81.wr W6 (Or.inr (Nat.le_trans KK2.1 (Nat.le_of_eq g1.symm)))
    have KK83 : Keep h0 h7 [] := KK82.wr W7 (Or.inr (Nat.le_trans KK2.1 (Nat.le_of_eq g1.symm)))
    have KK84 : Keep h0 h8 [] := KK83.wr W8 (Or.inr (Nat.le_trans KK2.1 (Nat.le_of_eq g1.symm)))
    have KK85 : Keep h0 h9 [] := KK84.wr W9 (Or.inr (Nat.le_trans KK2.1 (Nat.le_of_eq g1.symm)))
    have KK86 : Keep h0 h10 [] := KK85.wr W10 (Or.inr (Nat.le_trans KK2.1 (Nat.le_of_eq g1.symm)))
    have KK87 : Keep h0 h11 [] := KK86.wr W11 (Or.inr (Nat.le_trans KK2.1 (Nat.le_of_eq g1.symm)))
    have KK88 : Keep h0 h12 [] := KK87.wr W12 (Or.inr (Nat.le_trans KK2.1 (Nat.le_of_eq g1.symm)))
    have KK89 : Keep h0 h13 [] := KK88.wr W13 (Or.inr (Nat.le_trans KK2.1 (Nat.le_of_eq g1.symm)))
    have KK90 : Keep h0 h14 [] := KK89.wr W14 (Or.inr (Nat.le_trans KK2.1 (Nat.le_of_eq g1.symm)))
    have KK91 : Keep h0 h15 [] := KK90.wr W15 (Or.inr (Nat.le_trans KK2.1 (Nat.le_of_eq g1.symm)))
    have KK92 : Keep h0 h16 [] := KK91.wr W16 (Or.inr (Nat.le_trans KK2.1 (Nat.le_of_eq g1.symm)))
    have KK93 : Keep h0 h17 [] := KK92.wr W17 (Or.inr (Nat.le_trans KK2.1 (Nat.le_of_eq g1.symm)))
    have KK94 : Keep h0 h18 [] := KK93.wr W18 (Or.inr (Nat.le_trans KK2.1 (Nat.le_of_eq g1.symm)))
    have KK95 : Keep h0 h19 [] := KK94.wr W19 (Or.inr (Nat.le_trans KK2.1 (Nat.le_of_eq g1.symm)))
    have KK96 : Keep h0 h20 [] := KK95.wr W20 (Or.inr (Nat.le_trans KK2.1 (Nat.le_of_eq g1.symm)))
    have KK97 : Keep h0 h21 [] := KK96.wr W21 (Or.inr (Nat.le_trans KK2.1 (Nat.le_of_eq g1.symm)))
    have KK98 : Keep h0 h22 [] := KK97.wr W22 (Or.inr (Nat.le_trans KK2.1 (Nat.le_of_eq g1.symm)))
    have KK99 : Keep h0 h23 [] := KK98.wr W23 (Or.inr (Nat.le_trans KK2.1 (Nat.le_of_eq g1.symm)))
    have KK100 : Keep h0 h24 [] := KK99.wr W24 (Or.inr (Nat.le_trans KK2.1 (Nat.le_of_eq g1.symm)))
    have KK101 : Keep h0 h25 [] := KK100.wr W25 (Or.inr (Nat.le_trans KK2.1 (Nat.le_of_eq g1.symm)))
    have KK102 : Keep h0 h26 [] := KK101.wr W26 (Or.inr (Nat.le_trans KK2.1 (Nat.le_of_eq g1.symm)))
    have S_ALL_t103 : Sta Z h26 "com/example/waypost/waypost/ldap/Operation" "ALL" "[Lcom/example/waypost/waypost/ldap/Operation;" (.ref wall) := own_staK S_ALL KK102 all0
    have V_wall_t104 : own_Ar Z h26 wall (.object "com/example/waypost/waypost/ldap/Operation") 10 (fun i => ([.ref w_BIND, .ref w_UNBIND, .ref w_SEARCH, .ref w_MODIFY, .ref w_ADD, .ref w_DELETE, .ref w_MODIFY_DN, .ref w_COMPARE, .ref w_ABANDON, .ref w_EXTENDED] : List Value).getD i .null) := V_wall.keep KK102 nin0
    have F_requestTag_w_BIND_t105 : Fld Z h26 w_BIND "com/example/waypost/waypost/ldap/Operation" "requestTag" "I" (.int (96 : Int32)) := F_requestTag_w_BIND.keep KK102 nin0
    have F_requestTag_w_UNBIND_t106 : Fld Z h26 w_UNBIND "com/example/waypost/waypost/ldap/Operation" "requestTag" "I" (.int (66 : Int32)) := F_requestTag_w_UNBIND.keep KK102 nin0
    have F_requestTag_w_SEARCH_t107 : Fld Z h26 w_SEARCH "com/example/waypost/waypost/ldap/Operation" "requestTag" "I" (.int (99 : Int32)) := F_requestTag_w_SEARCH.keep KK102 nin0
    have F_requestTag_w_MODIFY_t108 : Fld Z h26 w_MODIFY "com/example/waypost/waypost/ldap/Operation" "requestTag" "I" (.int (102 : Int32)) := F_requestTag_w_MODIFY.keep KK102 nin0
    have F_requestTag_w_ADD_t109 : Fld Z h26 w_ADD "com/example/waypost/waypost/ldap/Operation" "requestTag" "I" (.int (104 : Int32)) := F_requestTag_w_ADD.keep KK102 nin0
    have F_requestTag_w_DELETE_t110 : Fld Z h26 w_DELETE "com/example/waypost/waypost/ldap/Operation" "requestTag" "I" (.int (74 : Int32)) := F_requestTag_w_DELETE.keep KK102 nin0
    have F_requestTag_w_MODIFY_DN_t111 : Fld Z h26 w_MODIFY_DN "com/example/waypost/waypost/ldap/Operation" "requestTag" "I" (.int (108 : Int32)) := F_requestTag_w_MODIFY_DN.keep KK102 nin0
    have F_requestTag_w_COMPARE_t112 : Fld Z h26 w_COMPARE "com/example/waypost/waypost/ldap/Operation" "requestTag" "I" (.int (110 : Int32)) := F_requestTag_w_COMPARE.keep KK102 nin0
    have F_requestTag_w_ABANDON_t113 : Fld Z h26 w_ABANDON "com/example/waypost/waypost/ldap/Operation" "requestTag" "I" (.int (80 : Int32)) := F_requestTag_w_ABANDON.keep KK102 nin0
    have F_requestTag_w_EXTENDED_t114 : Fld Z h26 w_EXTENDED "com/example/waypost/waypost/ldap/Operation" "requestTag" "I" (.int (119 : Int32)) := F_requestTag_w_EXTENDED.keep KK102 nin0
    obtain ⟨_, _, ⟨T115, L115, k115, n115⟩, -, X115, ⟨Lc115, hQ115, l115, y115, z115⟩, st115⟩ := Jvm.LawKit.callS X26 hx (y := (⟨"com/example/waypost/waypost/ldap/Operation", "of", "(I)Lcom/example/waypost/waypost/ldap/Operation;"⟩ : MethodName)) hown (mvT hZ (hw _ (List.mem_of_getElem? (i := 1) rfl))) (mvT hZ (hw _ (List.mem_of_getElem? (i := 2) rfl))) (mvT hZ (hw _ (List.mem_of_getElem? (i := 3) rfl))) (mvT hZ (hw _ (List.mem_of_getElem? (i := 4) rfl))) (by decide) (backOf (W := 0) (rm1 l Z a0 hw [] (p2 &&& (255 : Int32)) wall w_BIND w_UNBIND w_SEARCH w_MODIFY w_ADD w_DELETE w_MODIFY_DN w_COMPARE w_ABANDON w_EXTENDED h26 n0 (Nat.le_trans Z0 KK102.1) S_ALL_t103 V_wall_t104 F_requestTag_w_BIND_t105 F_requestTag_w_UNBIND_t106 F_requestTag_w_SEARCH_t107 F_requestTag_w_MODIFY_t108 F_requestTag_w_ADD_t109 F_requestTag_w_DELETE_t110 F_requestTag_w_MODIFY_DN_t111 F_requestTag_w_COMPARE_t112 F_requestTag_w_ABANDON_t113 F_requestTag_w_EXTENDED_t114) hZ (hw _ (List.mem_of_getElem? (i := 4) rfl)) (hw _ (List.mem_of_getElem? (i := 3) rfl)) (by decide) (by decide)) (g := (mkF m 184 #[.val (.int p1), .val (.int p2), .val (.ref b1), .val (.int (p1 &&& (3 : Int32))), .val (.int (p2 &&& (255 : Int32))), .unset] [(.int (p2 &&& (255 : Int32)))])) rfl (by rw [hml]; rfl) (argsL := [(.int (p2 &&& (255 : Int32)))]) (rest := []) (lenOf pd0_0 rfl) rfl (by show 2 * 0 + _ ≤ _; exact Nat.le_of_eq rfl) (hb hby at_184) (fun _ _ => ⟨rfl, e26, (by decide : (0 + 1) + _ ≤ _), (by decide : (0 + 24) + _ ≤ _)⟩)
    dsimp only [Pt.U, Pt.locs, Pt.cells, Pt.slots] at X115 l115 y115 z115 st115 hQ115
    subst l115 y115 z115
    obtain ⟨rfl, N115q, hh115⟩ := hQ115
    have N115 := Fr.app N26 N115q
    refine own_of (S' := T115.setTop (mkF m 187 #[.val (.int p1), .val (.int p2), .val (.ref b1), .val (.int (p1 &&& (3 : Int32))), .val (.int (p2 &&& (255 : Int32))), .unset] [(own_op (p2 &&& (255 : Int32)) w_BIND w_UNBIND w_SEARCH w_MODIFY w_ADD w_DELETE w_MODIFY_DN w_COMPARE w_ABANDON w_EXTENDED)])) st115 ?_
    refine own_of (S' := T115.setTop (mkF m 189 #[.val (.int p1), .val (.int p2), .val (.ref b1), .val (.int (p1 &&& (3 : Int32))), .val (.int (p2 &&& (255 : Int32))), .val (own_op (p2 &&& (255 : Int32)) w_BIND w_UNBIND w_SEARCH w_MODIFY w_ADD w_DELETE w_MODIFY_DN w_COMPARE w_ABANDON w_EXTENDED)] [])) (fun t k => XS.astoreS X115.here hx rfl (hb hby at_187) rfl (own_opR _ _ _ _ _ _ _ _ _ _ _) (own_cat (own_opR _ _ _ _ _ _ _ _ _ _ _)) rfl (Or.inl rfl) k) ?_
    refine own_of (S' := T115.setTop (mkF m 191 #[.val (.int p1), .val (.int p2), .val (.ref b1), .val (.int (p1 &&& (3 : Int32))), .val (.int (p2 &&& (255 : Int32))), .val (own_op (p2 &&& (255 : Int32)) w_BIND w_UNBIND w_SEARCH w_MODIFY w_ADD w_DELETE w_MODIFY_DN w_COMPARE w_ABANDON w_EXTENDED)] [(own_op (p2 &&& (255 : Int32)) w_BIND w_UNBIND w_SEARCH w_MODIFY w_ADD w_DELETE w_MODIFY_DN w_COMPARE w_ABANDON w_EXTENDED)])) (fun t k => XS.aload X115.here hx rfl (hb hby at_189) rfl ((own_opR _ _ _ _ _ _ _ _ _ _ _)) k) ?_
    refine own_of (S' := T115.setTop (mkF m 193 #[.val (.int p1), .val (.int p2), .val (.ref b1), .val (.int (p1 &&& (3 : Int32))), .val (.int (p2 &&& (255 : Int32))), .val (own_op (p2 &&& (255 : Int32)) w_BIND w_UNBIND w_SEARCH w_MODIFY w_ADD w_DELETE w_MODIFY_DN w_COMPARE w_ABANDON w_EXTENDED)] [(.int (p2 &&& (255 : Int32))), (own_op (p2 &&& (255 : Int32)) w_BIND w_UNBIND w_SEARCH w_MODIFY w_ADD w_DELETE w_MODIFY_DN w_COMPARE w_ABANDON w_EXTENDED)])) (fun t k => XS.iload X115.here hx rfl (hb hby at_191) rfl k) ?_
    have S_BIND_t116 : Sta Z h26 "com/example/waypost/waypost/ldap/Operation" "BIND" "Lcom/example/waypost/waypost/ldap/Operation;" (.ref w_BIND) := own_staK S_BIND KK102 all0
    have S_UNBIND_t117 : Sta Z h26 "com/example/waypost/waypost/ldap/Operation" "UNBIND" "Lcom/example/waypost/waypost/ldap/Operation;" (.ref w_UNBIND) := own_staK S_UNBIND KK102 all0
    have S_SEARCH_t118 : Sta Z h26 "com/example/waypost/waypost/ldap/Operation" "SEARCH" "Lcom/example/waypost/waypost/ldap/Operation;" (.ref w_SEARCH) := own_staK S_SEARCH KK102 all0
    have S_MODIFY_t119 : Sta Z h26 "com/example/waypost/waypost/ldap/Operation" "MODIFY" "Lcom/example/waypost/waypost/ldap/Operation;" (.ref w_MODIFY) := own_staK S_MODIFY KK102 all0
    have S_ADD_t120 : Sta Z h26 "com/example/waypost/waypost/ldap/Operation" "ADD" "Lcom/example/waypost/waypost/ldap/Operation;" (.ref w_ADD) := own_staK S_ADD KK102 all0
    have S_DELETE_t121 : Sta Z h26 "com/example/waypost/waypost/ldap/Operation" "DELETE" "Lcom/example/waypost/waypost/ldap/Operation;" (.ref w_DELETE) := own_staK S_DELETE KK102 all0
    have S_MODIFY_DN_t122 : Sta Z h26 "com/example/waypost/waypost/ldap/Operation" "MODIFY_DN" "Lcom/example/waypost/waypost/ldap/Operation;" (.ref w_MODIFY_DN) := own_staK S_MODIFY_DN KK102 all0
    have S_COMPARE_t123 : Sta Z h26 "com/example/waypost/waypost/ldap/Operation" "COMPARE" "Lcom/example/waypost/waypost/ldap/Operation;" (.ref w_COMPARE) := own_staK S_COMPARE KK102 all0
    have S_ABANDON_t124 : Sta Z h26 "com/example/waypost/waypost/ldap/Operation" "ABANDON" "Lcom/example/waypost/waypost/ldap/Operation;" (.ref w_ABANDON) := own_staK S_ABANDON KK102 all0
    have S_EXTENDED_t125 : Sta Z h26 "com/example/waypost/waypost/ldap/Operation" "EXTENDED" "Lcom/example/waypost/waypost/ldap/Operation;" (.ref w_EXTENDED) := own_staK S_EXTENDED KK102 all0
    obtain ⟨_, _, ⟨T126, L126, k126, n126⟩, -, X126, ⟨Lc126, hQ126, l126, y126, z126⟩, st126⟩ := Jvm.LawKit.callS X115 hx (y := (⟨"com/example/waypost/waypost/ldap/OperationOfPinLaw", "expected", "(I)Lcom/example/waypost/waypost/ldap/Operation;"⟩ : MethodName)) hown (mvT hZ (hw _ (List.mem_of_getElem? (i := 19) rfl))) (mvT hZ (hw _ (List.mem_of_getElem? (i := 20) rfl))) (mvT hZ (hw _ (List.mem_of_getElem? (i := 21) rfl))) (mvT hZ (hw _ (List.mem_of_getElem? (i := 22) rfl))) (by decide) (backOf (W := 1) (rm2 l Z a0 hw [] (p2 &&& (255 : Int32)) w_BIND w_UNBIND w_SEARCH w_MODIFY w_ADD w_DELETE w_MODIFY_DN w_COMPARE w_ABANDON w_EXTENDED h26 n0 (Nat.le_trans Z0 KK102.1) S_BIND_t116 S_UNBIND_t117 S_SEARCH_t118 S_MODIFY_t119 S_ADD_t120 S_DELETE_t121 S_MODIFY_DN_t122 S_COMPARE_t123 S_ABANDON_t124 S_EXTENDED_t125) hZ (hw _ (List.mem_of_getElem? (i := 22) rfl)) (hw _ (List.mem_of_getElem? (i := 21) rfl)) (by decide) (by decide)) (g := (mkF m 193 #[.val (.int p1), .val (.int p2), .val (.ref b1), .val (.int (p1 &&& (3 : Int32))), .val (.int (p2 &&& (255 : Int32))), .val (own_op (p2 &&& (255 : Int32)) w_BIND w_UNBIND w_SEARCH w_MODIFY w_ADD w_DELETE w_MODIFY_DN w_COMPARE w_ABANDON w_EXTENDED)] [(.int (p2 &&& (255 : Int32))), (own_op (p2 &&& (255 : Int32)) w_BIND w_UNBIND w_SEARCH w_MODIFY w_ADD w_DELETE w_MODIFY_DN w_COMPARE w_ABANDON w_EXTENDED)])) rfl (by rw [hml]; rfl) (argsL := [(.int (p2 &&& (255 : Int32)))]) (rest := [(own_op (p2 &&& (255 : Int32)) w_BIND w_UNBIND w_SEARCH w_MODIFY w_ADD w_DELETE w_MODIFY_DN w_COMPARE w_ABANDON w_EXTENDED)]) (lenOf pd0_0 rfl) rfl (by show 2 * 0 + (((own_op (p2 &&& (255 : Int32)) w_BIND w_UNBIND w_SEARCH w_MODIFY w_ADD w_DELETE w_MODIFY_DN w_COMPARE w_ABANDON w_EXTENDED)).category + 0) ≤ _; rw [own_cat (own_opR _ _ _ _ _ _ _ _ _ _ _)]; exact Nat.le_of_eq rfl) (hb hby at_193) (fun _ _ => ⟨rfl, (hh115), (by decide : ((0 + 1) + 0) + _ ≤ _), (by decide : ((0 + 24) + 0) + _ ≤ _)⟩)
    dsimp only [Pt.U, Pt.locs, Pt.cells, Pt.slots] at X126 l126 y126 z126 st126 hQ126
    subst l126 y126 z126
    obtain ⟨rfl, N126q, hh126⟩ := hQ126
    have N126 := Fr.app N115 N126q
    refine own_of (S' := T126.setTop (mkF m 196 #[.val (.int p1), .val (.int p2), .val (.ref b1), .val (.int (p1 &&& (3 : Int32))), .val (.int (p2 &&& (255 : Int32))), .val (own_op (p2 &&& (255 : Int32)) w_BIND w_UNBIND w_SEARCH w_MODIFY w_ADD w_DELETE w_MODIFY_DN w_COMPARE w_ABANDON w_EXTENDED)] [(own_op (p2 &&& (255 : Int32)) w_BIND w_UNBIND w_SEARCH w_MODIFY w_ADD w_DELETE w_MODIFY_DN w_COMPARE w_ABANDON w_EXTENDED), (own_op (p2 &&& (255 : Int32)) w_BIND w_UNBIND w_SEARCH w_MODIFY w_ADD w_DELETE w_MODIFY_DN w_COMPARE w_ABANDON w_EXTENDED)])) st126 ?_
    refine own_of (S' := T126.setTop (mkF m 199 #[.val (.int p1), .val (.int p2), .val (.ref b1), .val (.int (p1 &&& (3 : Int32))), .val (.int (p2 &&& (255 : Int32))), .val (own_op (p2 &&& (255 : Int32)) w_BIND w_UNBIND w_SEARCH w_MODIFY w_ADD w_DELETE w_MODIFY_DN w_COMPARE w_ABANDON w_EXTENDED)] [])) (fun t k => Jvm.RoadKit.acmp (g := (mkF m 196 #[.val (.int p1), .val (.int p2), .val (.ref b1), .val (.int (p1 &&& (3 : Int32))), .val (.int (p2 &&& (255 : Int32))), .val (own_op (p2 &&& (255 : Int32)) w_BIND w_UNBIND w_SEARCH w_MODIFY w_ADD w_DELETE w_MODIFY_DN w_COMPARE w_ABANDON w_EXTENDED)] [(own_op (p2 &&& (255 : Int32)) w_BIND w_UNBIND w_SEARCH w_MODIFY w_ADD w_DELETE w_MODIFY_DN w_COMPARE w_ABANDON w_EXTENDED), (own_op (p2 &&& (255 : Int32)) w_BIND w_UNBIND w_SEARCH w_MODIFY w_ADD w_DELETE w_MODIFY_DN w_COMPARE w_ABANDON w_EXTENDED)])) X126 hx rfl ((own_opR _ _ _ _ _ _ _ _ _ _ _)) ((own_opR _ _ _ _ _ _ _ _ _ _ _)) (pc0 := 196) (pc' := 199) (same := true) rfl (hb hby at_196) rfl (decide_eq_true rfl) (by decide) (by decide) k) ?_
    refine own_of (S' := T126.setTop (mkF m 200 #[.val (.int p1), .val (.int p2), .val (.ref b1), .val (.int (p1 &&& (3 : Int32))), .val (.int (p2 &&& (255 : Int32))), .val (own_op (p2 &&& (255 : Int32)) w_BIND w_UNBIND w_SEARCH w_MODIFY w_ADD w_DELETE w_MODIFY_DN w_COMPARE w_ABANDON w_EXTENDED)] [(.int (1 : Int32))])) (fun t k => XS.iconst X126.here hx rfl (hb hby at_199) k) ?_
    refine own_of (S' := T126.setTop (mkF m 204 #[.val (.int p1), .val (.int p2), .val (.ref b1), .val (.int (p1 &&& (3 : Int32))), .val (.int (p2 &&& (255 : Int32))), .val (own_op (p2 &&& (255 : Int32)) w_BIND w_UNBIND w_SEARCH w_MODIFY w_ADD w_DELETE w_MODIFY_DN w_COMPARE w_ABANDON w_EXTENDED)] [(.int (1 : Int32))])) (fun t k => XS.goto X126.here hx rfl (pc0 := 200) (pc' := 204) rfl (hb hby at_200) (by decide) (by decide) k) ?_
    obtain ⟨fs, hr, hrun, hended, hW, hsame⟩ := X126.leave (v := some (.int (1 : Int32))) (fun h => by rw [Bd.returns] at h; cases h)
    subst hKd
    exact ⟨_, _, retN X126 hx (t := .boolean) Bd.returns (by simp) (hb hby at_204) hr, hrun, hended, _, _, rfl, (by
      show Q0 Z p1 p2 wall w_BIND w_UNBIND w_SEARCH w_MODIFY w_ADD w_DELETE w_MODIFY_DN w_COMPARE w_ABANDON w_EXTENDED h0 n0 _ T126.heap _
      rw [show T126.heap = h26 from (hh126)]
      exact ⟨rfl, N126⟩), ⟨_, rfl⟩, hW, hsame.mono (by decide) (by decide)⟩
  refine own_of (S' := T26.setTop (mkF m 172 #[.val (.int p1), .val (.int p2), .val (.ref b1), .val (.int (p1 &&& (3 : Int32))), .unset, .unset] [])) (fun t k => XS.icmpYes X26.here hx rfl (pc0 := 159) (pc' := 172) rfl (hb hby at_159) rfl (feq hc159_77).2 (by decide) (by decide) k) ?_
  refine own_of (S' := T26.setTop (mkF m 173 #[.val (.int p1), .val (.int p2), .val (.ref b1), .val (.int (p1 &&& (3 : Int32))), .unset, .unset] [(.ref b1)])) (fun t k => XS.aloadN X26.here hx rfl (hb hby at_172) rfl rfl k) ?_
  refine own_of (S' := T26.setTop (mkF m 174 #[.val (.int p1), .val (.int p2), .val (.ref b1), .val (.int (p1 &&& (3 : Int32))), .unset, .unset] [(.int p1), (.ref b1)])) (fun t k => XS.iloadN X26.here hx rfl (hb hby at_173) rfl k) ?_
  refine own_of (S' := T26.setTop (mkF m 175 #[.val (.int p1), .val (.int p2), .val (.ref b1), .val (.int (p1 &&& (3 : Int32))), .unset, .unset] [(.int (2 : Int32)), (.int p1), (.ref b1)])) (fun t k => XS.iconst X26.here hx rfl (hb hby at_174) k) ?_
  refine own_of (S' := T26.setTop (mkF m 176 #[.val (.int p1), .val (.int p2), .val (.ref b1), .val (.int (p1 &&& (3 : Int32))), .unset, .unset] [(.int ((p1.toUInt32 >>> ((2 : Int32) &&& 31).toUInt32).toInt32)), (.ref b1)])) (fun t k => XS.iushr X26.here hx rfl (hb hby at_175) rfl k) ?_
  refine own_of (S' := T26.setTop (mkF m 178 #[.val (.int p1), .val (.int p2), .val (.ref b1), .val (.int (p1 &&& (3 : Int32))), .unset, .unset] [(.int (24 : Int32)), (.int ((p1.toUInt32 >>> ((2 : Int32) &&& 31).toUInt32).toInt32)), (.ref b1)])) (fun t k => XS.bipush X26.here hx rfl (hb hby at_176) k) ?_
  refine own_of (S' := T26.setTop (mkF m 179 #[.val (.int p1), .val (.int p2), .val (.ref b1), .val (.int (p1 &&& (3 : Int32))), .unset, .unset] [(.int (((p1.toUInt32 >>> ((2 : Int32) &&& 31).toUInt32).toInt32) % (24 : Int32))), (.ref b1)])) (fun t k => iremM X26 hx rfl (hb hby at_178) rfl (by decide) k) ?_
  have i127 : own_AllI (fun _ => defaultValue .int) := fun i => ⟨0, rfl⟩
  have i128 : own_AllI fn3 := own_AllI_upd q3 i127
  have i129 : own_AllI fn4 := own_AllI_upd q4 i128
  have i130 : own_AllI fn5 := own_AllI_upd q5 i129
  have i131 : own_AllI fn6 := own_AllI_upd q6 i130
  have i132 : own_AllI fn7 := own_AllI_upd q7 i131
  have i133 : own_AllI fn8 := own_AllI_upd q8 i132
  have i134 : own_AllI fn9 := own_AllI_upd q9 i133
  have i135 : own_AllI fn10 := own_AllI_upd q10 i134
  have i136 : own_AllI fn11 := own_AllI_upd q11 i135
  have i137 : own_AllI fn12 := own_AllI_upd q12 i136
  have i138 : own_AllI fn13 := own_AllI_upd q13 i137
  have i139 : own_AllI fn14 := own_AllI_upd q14 i138
  have i140 : own_AllI fn15 := own_AllI_upd q15 i139
  have i141 : own_AllI fn16 := own_AllI_upd q16 i140
  have i142 : own_AllI fn17 := own_AllI_upd q17 i141
  have i143 : own_AllI fn18 := own_AllI_upd q18 i142
  have i144 : own_AllI fn19 := own_AllI_upd q19 i143
  have i145 : own_AllI fn20 := own_AllI_upd q20 i144
  have i146 : own_AllI fn21 := own_AllI_upd q21 i145
  have i147 : own_AllI fn22 := own_AllI_upd q22 i146
  have i148 : own_AllI fn23 := own_AllI_upd q23 i147
  have i149 : own_AllI fn24 := own_AllI_upd q24 i148
  have i150 : own_AllI fn25 := own_AllI_upd q25 i149
  have i151 : own_AllI fn26 := own_AllI_upd q26 i150
  obtain ⟨y152, hy152⟩ := i151 ((((p1.toUInt32 >>> ((2 : Int32) &&& 31).toUInt32).toInt32) % (24 : Int32))).toNatClampNeg
  refine own_of (S' := T26.setTop (mkF m 180 #[.val (.int p1), .val (.int p2), .val (.ref b1), .val (.int (p1 &&& (3 : Int32))), .unset, .unset] [(.int y152)])) (own_ldI X26 hx hZ e26 V26 (j := (((p1.toUInt32 >>> ((2 : Int32) &&& 31).toUInt32).toInt32) % (24 : Int32))) (y := y152) (own_idx p1).1 (own_idx p1).2 hy152 (g := (mkF m 179 #[.val (.int p1), .val (.int p2), .val (.ref b1), .val (.int (p1 &&& (3 : Int32))), .unset, .unset] [(.int (((p1.toUInt32 >>> ((2 : Int32) &&& 31).toUInt32).toInt32) % (24 : Int32))), (.ref b1)])) rfl rfl (hb hby at_179)) ?_
  refine own_of (S' := T26.setTop (mkF m 182 #[.val (.int p1), .val (.int p2), .val (.ref b1), .val (.int (p1 &&& (3 : Int32))), .val (.int y152), .unset] [])) (fun t k => XS.istore X26.here hx rfl (hb hby at_180) rfl (l' := #[.val (.int p1), .val (.int p2), .val (.ref b1), .val (.int (p1 &&& (3 : Int32))), .val (.int y152), .unset]) rfl k) ?_
  refine own_of (S' := T26.setTop (mkF m 184 #[.val (.int p1), .val (.int p2), .val (.ref b1), .val (.int (p1 &&& (3 : Int32))), .val (.int y152), .unset] [(.int y152)])) (fun t k => XS.iload X26.here hx rfl (hb hby at_182) rfl k) ?_
  have KK153 : Keep h0 h1 [] := KK2.ext E1
  have KK154 : Keep h0 h3 [] := KK153.wr W3 (Or.inr (Nat.le_trans KK2.1 (Nat.le_of_eq g1.symm)))
  have KK155 : Keep h0 h4 [] := KK154.wr W4 (Or.inr (Nat.le_trans KK2.1 (Nat.le_of_eq g1.symm)))
  have KK156 : Keep h0 h5 [] := KK155.wr W5 (Or.inr (Nat.le_trans KK2.1 (Nat.le_of_eq g1.symm)))
  have KK157 : Keep h0 h6 [] := KK156.wr W6 (Or.inr (Nat.le_trans KK2.1 (Nat.le_of_eq g1.symm)))
  have KK158 : Keep h0 h7 [] := KK157.wr W7 (Or.inr (Nat.le_trans KK2.1 (Nat.le_of_eq g1.symm)))
  have KK159 : Keep h0 h8 [] := KK158.wr W8 (Or.inr (Nat.le_trans KK2.1 (Nat.le_of_eq g1.symm)))
  have KK160 : Keep h0 h9 [] := KK159.wr W9 (Or.inr (Nat.le_trans KK2.1 (Nat.le_of_eq g1.symm)))
  have KK161 : Keep h0 h10 [] := KK160.wr W10 (Or.inr (Nat.le_trans KK2.1 (Nat.le_of_eq g1.symm)))
  have KK162 : Keep h0 h11 [] := KK161.wr W11 (Or.inr (Nat.le_trans KK2.1 (Nat.le_of_eq g1.symm)))
  have KK163 : Keep h0 h12 [] := KK162.wr W12 (Or.inr (Nat.le_trans KK2.1 (Nat.le_of_eq g1.symm)))
  have KK164 : Keep h0 h13 [] := KK163.wr W13 (Or.inr (Nat.le_trans KK2.1 (Nat.le_of_eq g1.symm)))
  have KK165 : Keep h0 h14 [] := KK164.wr W14 (Or.inr (Nat.le_trans KK2.1 (Nat.le_of_eq g1.symm)))
  have KK166 : Keep h0 h15 [] := KK165.wr W15 (Or.inr (Nat.le_trans KK2.1 (Nat.le_of_eq g1.symm)))
  have KK167 : Keep h0 h16 [] := KK166.wr W16 (Or.inr (Nat.le_trans KK2.1 (Nat.le_of_eq g1.symm)))
  have KK168 : Keep h0 h17 [] := KK167.wr W17 (Or.inr (Nat.le_trans KK2.1 (Nat.le_of_eq g1.symm)))
  have KK169 : Keep h0 h18 [] := KK168.wr W18 (Or.inr (Nat.le_trans KK2.1 (Nat.le_of_eq g1.symm)))
  have KK170 : Keep h0 h19 [] := KK169.wr W19 (Or.inr (Nat.le_trans KK2.1 (Nat.le_of_eq g1.symm)))
  have KK171 : Keep h0 h20 [] := KK170.wr W20 (Or.inr (Nat.le_trans KK2.1 (Nat.le_of_eq g1.symm)))
  have KK172 : Keep h0 h21 [] := KK171.wr W21 (Or.inr (Nat.le_trans KK2.1 (Nat.le_of_eq g1.symm)))
  have KK173 : Keep h0 h22 [] := KK172.wr W22 (Or.inr (Nat.le_trans KK2.1 (Nat.le_of_eq g1.symm)))
  have KK174 : Keep h0 h23 [] := KK173.wr W23 (Or.inr (Nat.le_trans KK2.1 (Nat.le_of_eq g1.symm)))
  have KK175 : Keep h0 h24 [] := KK174.wr W24 (Or.inr (Nat.le_trans KK2.1 (Nat.le_of_eq g1.symm)))
  have KK176 : Keep h0 h25 [] := KK175.wr W25 (Or.inr (Nat.le_trans KK2.1 (Nat.le_of_eq g1.symm)))
  have KK177 : Keep h0 h26 [] := KK176.wr W26 (Or.inr (Nat.le_trans KK2.1 (Nat.le_of_eq g1.symm)))
  have S_ALL_t178 : Sta Z h26 "com/example/waypost/waypost/ldap/Operation" "ALL" "[Lcom/example/waypost/waypost/ldap/Operation;" (.ref wall) := own_staK S_ALL KK177 all0
  have V_wall_t179 : own_Ar Z h26 wall (.object "com/example/waypost/waypost/ldap/Operation") 10 (fun i => ([.ref w_BIND, .ref w_UNBIND, .ref w_SEARCH, .ref w_MODIFY, .ref w_ADD, .ref w_DELETE, .ref w_MODIFY_DN, .ref w_COMPARE, .ref w_ABANDON, .ref w_EXTENDED] : List Value).getD i .null) := V_wall.keep KK177 nin0
  have F_requestTag_w_BIND_t180 : Fld Z h26 w_BIND "com/example/waypost/waypost/ldap/Operation" "requestTag" "I" (.int (96 : Int32)) := F_requestTag_w_BIND.keep KK177 nin0
  have F_requestTag_w_UNBIND_t181 : Fld Z h26 w_UNBIND "com/example/waypost/waypost/ldap/Operation" "requestTag" "I" (.int (66 : Int32)) := F_requestTag_w_UNBIND.keep KK177 nin0
  have F_requestTag_w_SEARCH_t182 : Fld Z h26 w_SEARCH "com/example/waypost/waypost/ldap/Operation" "requestTag" "I" (.int (99 : Int32)) := F_requestTag_w_SEARCH.keep KK177 nin0
  have F_requestTag_w_MODIFY_t183 : Fld Z h26 w_MODIFY "com/example/waypost/waypost/ldap/Operation" "requestTag" "I" (.int (102 : Int32)) := F_requestTag_w_MODIFY.keep KK177 nin0
  have F_requestTag_w_ADD_t184 : Fld Z h26 w_ADD "com/example/waypost/waypost/ldap/Operation" "requestTag" "I" (.int (104 : Int32)) := F_requestTag_w_ADD.keep KK177 nin0
  have F_requestTag_w_DELETE_t185 : Fld Z h26 w_DELETE "com/example/waypost/waypost/ldap/Operation" "requestTag" "I" (.int (74 : Int32)) := F_requestTag_w_DELETE.keep KK177 nin0
  have F_requestTag_w_MODIFY_DN_t186 : Fld Z h26 w_MODIFY_DN "com/example/waypost/waypost/ldap/Operation" "requestTag" "I" (.int (108 : Int32)) := F_requestTag_w_MODIFY_DN.keep KK177 nin0
  have F_requestTag_w_COMPARE_t187 : Fld Z h26 w_COMPARE "com/example/waypost/waypost/ldap/Operation" "requestTag" "I" (.int (110 : Int32)) := F_requestTag_w_COMPARE.keep KK177 nin0
  have F_requestTag_w_ABANDON_t188 : Fld Z h26 w_ABANDON "com/example/waypost/waypost/ldap/Operation" "requestTag" "I" (.int (80 : Int32)) := F_requestTag_w_ABANDON.keep KK177 nin0
  have F_requestTag_w_EXTENDED_t189 : Fld Z h26 w_EXTENDED "com/example/waypost/waypost/ldap/Operation" "requestTag" "I" (.int (119 : Int32)) := F_requestTag_w_EXTENDED.keep KK177 nin0
  obtain ⟨_, _, ⟨T190, L190, k190, n190⟩, -, X190, ⟨Lc190, hQ190, l190, y190, z190⟩, st190⟩ := Jvm.LawKit.callS X26 hx (y := (⟨"com/example/waypost/waypost/ldap/Operation", "of", "(I)Lcom/example/waypost/waypost/ldap/Operation;"⟩ : MethodName)) hown (mvT hZ (hw _ (List.mem_of_getElem? (i := 1) rfl))) (mvT hZ (hw _ (List.mem_of_getElem? (i := 2) rfl))) (mvT hZ (hw _ (List.mem_of_getElem? (i := 3) rfl))) (mvT hZ (hw _ (List.mem_of_getElem? (i := 4) rfl))) (by decide) (backOf (W := 0) (rm1 l Z a0 hw [] y152 wall w_BIND w_UNBIND w_SEARCH w_MODIFY w_ADD w_DELETE w_MODIFY_DN w_COMPARE w_ABANDON w_EXTENDED h26 n0 (Nat.le_trans Z0 KK177.1) S_ALL_t178 V_wall_t179 F_requestTag_w_BIND_t180 F_requestTag_w_UNBIND_t181 F_requestTag_w_SEARCH_t182 F_requestTag_w_MODIFY_t183 F_requestTag_w_ADD_t184 F_requestTag_w_DELETE_t185 F_requestTag_w_MODIFY_DN_t186 F_requestTag_w_COMPARE_t187 F_requestTag_w_ABANDON_t188 F_requestTag_w_EXTENDED_t189) hZ (hw _ (List.mem_of_getElem? (i := 4) rfl)) (hw _ (List.mem_of_getElem? (i := 3) rfl)) (by decide) (by decide)) (g := (mkF m 184 #[.val (.int p1), .val (.int p2), .val (.ref b1), .val (.int (p1 &&& (3 : Int32))), .val (.int y152), .unset] [(.int y152)])) rfl (by rw [hml]; rfl) (argsL := [(.int y152)]) (rest := []) (lenOf pd0_0 rfl) rfl (by show 2 * 0 + _ ≤ _; exact Nat.le_of_eq rfl) (hb hby at_184) (fun _ _ => ⟨rfl, e26, (by decide : (0 + 1) + _ ≤ _), (by decide : (0 + 24) + _ ≤ _)⟩)
  dsimp only [Pt.U, Pt.locs, Pt.cells, Pt.slots] at X190 l190 y190 z190 st190 hQ190
  subst l190 y190 z190
  obtain ⟨rfl, N190q, hh190⟩ := hQ190
  have N190 := Fr.app N26 N190q
  refine own_of (S' := T190.setTop (mkF m 187 #[.val (.int p1), .val (.int p2), .val (.ref b1), .val (.int (p1 &&& (3 : Int32))), .val (.int y152), .unset] [(own_op y152 w_BIND w_UNBIND w_SEARCH w_MODIFY w_ADD w_DELETE w_MODIFY_DN w_COMPARE w_ABANDON w_EXTENDED)])) st190 ?_
  refine own_of (S' := T190.setTop (mkF m 189 #[.val (.int p1), .val (.int p2), .val (.ref b1), .val (.int (p1 &&& (3 : Int32))), .val (.int y152), .val (own_op y152 w_BIND w_UNBIND w_SEARCH w_MODIFY w_ADD w_DELETE w_MODIFY_DN w_COMPARE w_ABANDON w_EXTENDED)] [])) (fun t k => XS.astoreS X190.here hx rfl (hb hby at_187) rfl (own_opR _ _ _ _ _ _ _ _ _ _ _) (own_cat (own_opR _ _ _ _ _ _ _ _ _ _ _)) rfl (Or.inl rfl) k) ?_
  refine own_of (S' := T190.setTop (mkF m 191 #[.val (.int p1), .val (.int p2), .val (.ref b1), .val (.int (p1 &&& (3 : Int32))), .val (.int y152), .val (own_op y152 w_BIND w_UNBIND w_SEARCH w_MODIFY w_ADD w_DELETE w_MODIFY_DN w_COMPARE w_ABANDON w_EXTENDED)] [(own_op y152 w_BIND w_UNBIND w_SEARCH w_MODIFY w_ADD w_DELETE w_MODIFY_DN w_COMPARE w_ABANDON w_EXTENDED)])) (fun t k => XS.aload X190.here hx rfl (hb hby at_189) rfl ((own_opR _ _ _ _ _ _ _ _ _ _ _)) k) ?_
  refine own_of (S' := T190.setTop (mkF m 193 #[.val (.int p1), .val (.int p2), .val (.ref b1), .val (.int (p1 &&& (3 : Int32))), .val (.int y152), .val (own_op y152 w_BIND w_UNBIND w_SEARCH w_MODIFY w_ADD w_DELETE w_MODIFY_DN w_COMPARE w_ABANDON w_EXTENDED)] [(.int y152), (own_op y152 w_BIND w_UNBIND w_SEARCH w_MODIFY w_ADD w_DELETE w_MODIFY_DN w_COMPARE w_ABANDON w_EXTENDED)])) (fun t k => XS.iload X190.here hx rfl (hb hby at_191) rfl k) ?_
  have S_BIND_t191 : Sta Z h26 "com/example/waypost/waypost/ldap/Operation" "BIND" "Lcom/example/waypost/waypost/ldap/Operation;" (.ref w_BIND) := own_staK S_BIND KK177 all0
  have S_UNBIND_t192 : Sta Z h26 "com/example/waypost/waypost/ldap/Operation" "UNBIND" "Lcom/example/waypost/waypost/ldap/Operation;" (.ref w_UNBIND) := own_staK S_UNBIND KK177 all0
  have S_SEARCH_t193 : Sta Z h26 "com/example/waypost/waypost/ldap/Operation" "SEARCH" "Lcom/example/waypost/waypost/ldap/Operation;" (.ref w_SEARCH) := own_staK S_SEARCH KK177 all0
  have S_MODIFY_t194 : Sta Z h26 "com/example/waypost/waypost/ldap/Operation" "MODIFY" "Lcom/example/waypost/waypost/ldap/Operation;" (.ref w_MODIFY) := own_staK S_MODIFY KK177 all0
  have S_ADD_t195 : Sta Z h26 "com/example/waypost/waypost/ldap/Operation" "ADD" "Lcom/example/waypost/waypost/ldap/Operation;" (.ref w_ADD) := own_staK S_ADD KK177 all0
  have S_DELETE_t196 : Sta Z h26 "com/example/waypost/waypost/ldap/Operation" "DELETE" "Lcom/example/waypost/waypost/ldap/Operation;" (.ref w_DELETE) := own_staK S_DELETE KK177 all0
  have S_MODIFY_DN_t197 : Sta Z h26 "com/example/waypost/waypost/ldap/Operation" "MODIFY_DN" "Lcom/example/waypost/waypost/ldap/Operation;" (.ref w_MODIFY_DN) := own_staK S_MODIFY_DN KK177 all0
  have S_COMPARE_t198 : Sta Z h26 "com/example/waypost/waypost/ldap/Operation" "COMPARE" "Lcom/example/waypost/waypost/ldap/Operation;" (.ref w_COMPARE) := own_staK S_COMPARE KK177 all0
  have S_ABANDON_t199 : Sta Z h26 "com/example/waypost/waypost/ldap/Operation" "ABANDON" "Lcom/example/waypost/waypost/ldap/Operation;" (.ref w_ABANDON) := own_staK S_ABANDON KK177 all0
  have S_EXTENDED_t200 : Sta Z h26 "com/example/waypost/waypost/ldap/Operation" "EXTENDED" "Lcom/example/waypost/waypost/ldap/Operation;" (.ref w_EXTENDED) := own_staK S_EXTENDED KK177 all0
  obtain ⟨_, _, ⟨T201, L201, k201, n201⟩, -, X201, ⟨Lc201, hQ201, l201, y201, z201⟩, st201⟩ := Jvm.LawKit.callS X190 hx (y := (⟨"com/example/waypost/waypost/ldap/OperationOfPinLaw", "expected", "(I)Lcom/example/waypost/waypost/ldap/Operation;"⟩ : MethodName)) hown (mvT hZ (hw _ (List.mem_of_getElem? (i := 19) rfl))) (mvT hZ (hw _ (List.mem_of_getElem? (i := 20) rfl))) (mvT hZ (hw _ (List.mem_of_getElem? (i := 21) rfl))) (mvT hZ (hw _ (List.mem_of_getElem? (i := 22) rfl))) (by decide) (backOf (W := 1) (rm2 l Z a0 hw [] y152 w_BIND w_UNBIND w_SEARCH w_MODIFY w_ADD w_DELETE w_MODIFY_DN w_COMPARE w_ABANDON w_EXTENDED h26 n0 (Nat.le_trans Z0 KK177.1) S_BIND_t191 S_UNBIND_t192 S_SEARCH_t193 S_MODIFY_t194 S_ADD_t195 S_DELETE_t196 S_MODIFY_DN_t197 S_COMPARE_t198 S_ABANDON_t199 S_EXTENDED_t200) hZ (hw _ (List.mem_of_getElem? (i := 22) rfl)) (hw _ (List.mem_of_getElem? (i := 21) rfl)) (by decide) (by decide)) (g := (mkF m 193 #[.val (.int p1), .val (.int p2), .val (.ref b1), .val (.int (p1 &&& (3 : Int32))), .val (.int y152), .val (own_op y152 w_BIND w_UNBIND w_SEARCH w_MODIFY w_ADD w_DELETE w_MODIFY_DN w_COMPARE w_ABANDON w_EXTENDED)] [(.int y152), (own_op y152 w_BIND w_UNBIND w_SEARCH w_MODIFY w_ADD w_DELETE w_MODIFY_DN w_COMPARE w_ABANDON w_EXTENDED)])) rfl (by rw [hml]; rfl) (argsL := [(.int y152)]) (rest := [(own_op y152 w_BIND w_UNBIND w_SEARCH w_MODIFY w_ADD w_DELETE w_MODIFY_DN w_COMPARE w_ABANDON w_EXTENDED)]) (lenOf pd0_0 rfl) rfl (by show 2 * 0 + (((own_op y152 w_BIND w_UNBIND w_SEARCH w_MODIFY w_ADD w_DELETE w_MODIFY_DN w_COMPARE w_ABANDON w_EXTENDED)).category + 0) ≤ _; rw [own_cat (own_opR _ _ _ _ _ _ _ _ _ _ _)]; exact Nat.le_of_eq rfl) (hb hby at_193) (fun _ _ => ⟨rfl, (hh190), (by decide : ((0 + 1) + 0) + _ ≤ _), (by decide : ((0 + 24) + 0) + _ ≤ _)⟩)
  dsimp only [Pt.U, Pt.locs, Pt.cells, Pt.slots] at X201 l201 y201 z201 st201 hQ201
  subst l201 y201 z201
  obtain ⟨rfl, N201q, hh201⟩ := hQ201
  have N201 := Fr.app N190 N201q
  refine own_of (S' := T201.setTop (mkF m 196 #[.val (.int p1), .val (.int p2), .val (.ref b1), .val (.int (p1 &&& (3 : Int32))), .val (.int y152), .val (own_op y152 w_BIND w_UNBIND w_SEARCH w_MODIFY w_ADD w_DELETE w_MODIFY_DN w_COMPARE w_ABANDON w_EXTENDED)] [(own_op y152 w_BIND w_UNBIND w_SEARCH w_MODIFY w_ADD w_DELETE w_MODIFY_DN w_COMPARE w_ABANDON w_EXTENDED), (own_op y152 w_BIND w_UNBIND w_SEARCH w_MODIFY w_ADD w_DELETE w_MODIFY_DN w_COMPARE w_ABANDON w_EXTENDED)])) st201 ?_
  refine own_of (S' := T201.setTop (mkF m 199 #[.val (.int p1), .val (.int p2), .val (.ref b1), .val (.int (p1 &&& (3 : Int32))), .val (.int y152), .val (own_op y152 w_BIND w_UNBIND w_SEARCH w_MODIFY w_ADD w_DELETE w_MODIFY_DN w_COMPARE w_ABANDON w_EXTENDED)] [])) (fun t k => Jvm.RoadKit.acmp (g := (mkF m 196 #[.val (.int p1), .val (.int p2), .val (.ref b1), .val (.int (p1 &&& (3 : Int32))), .val (.int y152), .val (own_op y152 w_BIND w_UNBIND w_SEARCH w_MODIFY w_ADD w_DELETE w_MODIFY_DN w_COMPARE w_ABANDON w_EXTENDED)] [(own_op y152 w_BIND w_UNBIND w_SEARCH w_MODIFY w_ADD w_DELETE w_MODIFY_DN w_COMPARE w_ABANDON w_EXTENDED), (own_op y152 w_BIND w_UNBIND w_SEARCH w_MODIFY w_ADD w_DELETE w_MODIFY_DN w_COMPARE w_ABANDON w_EXTENDED)])) X201 hx rfl ((own_opR _ _ _ _ _ _ _ _ _ _ _)) ((own_opR _ _ _ _ _ _ _ _ _ _ _)) (pc0 := 196) (pc' := 199) (same := true) rfl (hb hby at_196) rfl (decide_eq_true rfl) (by decide) (by decide) k) ?_
  refine own_of (S' := T201.setTop (mkF m 200 #[.val (.int p1), .val (.int p2), .val (.ref b1), .val (.int (p1 &&& (3 : Int32))), .val (.int y152), .val (own_op y152 w_BIND w_UNBIND w_SEARCH w_MODIFY w_ADD w_DELETE w_MODIFY_DN w_COMPARE w_ABANDON w_EXTENDED)] [(.int (1 : Int32))])) (fun t k => XS.iconst X201.here hx rfl (hb hby at_199) k) ?_
  refine own_of (S' := T201.setTop (mkF m 204 #[.val (.int p1), .val (.int p2), .val (.ref b1), .val (.int (p1 &&& (3 : Int32))), .val (.int y152), .val (own_op y152 w_BIND w_UNBIND w_SEARCH w_MODIFY w_ADD w_DELETE w_MODIFY_DN w_COMPARE w_ABANDON w_EXTENDED)] [(.int (1 : Int32))])) (fun t k => XS.goto X201.here hx rfl (pc0 := 200) (pc' := 204) rfl (hb hby at_200) (by decide) (by decide) k) ?_
  obtain ⟨fs, hr, hrun, hended, hW, hsame⟩ := X201.leave (v := some (.int (1 : Int32))) (fun h => by rw [Bd.returns] at h; cases h)
  subst hKd
  exact ⟨_, _, retN X201 hx (t := .boolean) Bd.returns (by simp) (hb hby at_204) hr, hrun, hended, _, _, rfl, (by
    show Q0 Z p1 p2 wall w_BIND w_UNBIND w_SEARCH w_MODIFY w_ADD w_DELETE w_MODIFY_DN w_COMPARE w_ABANDON w_EXTENDED h0 n0 _ T201.heap _
    rw [show T201.heap = h26 from (hh201)]
    exact ⟨rfl, N201⟩), ⟨_, rfl⟩, hW, hsame.mono (by decide) (by decide)⟩
set_option maxRecDepth 65536 in
set_option maxHeartbeats 40000000 in
theorem comes_1 {Post : Tables → Env → Array Value → State → Outcome → State → Prop} (hpost : ∀ tb e args s v u, (limb_1_1.after args s (.returned v) u = true ∧ limb_1_2.after args s (.returned v) u = true ∧ True) → FrameEnd s (.returned v) u (Jvm.fieldLocs frame_1_writes args s ++ Jvm.arrayLocs frame_1_arrays args s ++ Jvm.staticLocs frame_1_statics s) 16 128 → Post tb e args s (.returned v) u) :
    ArmFor flags0 classFile x code maxLocals ret World_1 tables_1 room_1 Calls_1 rest_1 Pre_1 Post := by
  intro l hfl _ _ p e ha hc hk s m args below hf hA hF happ hP
  obtain ⟨hcalls, hrest, hpre⟩ := hP
  obtain ⟨-, -, -, hnamed, -, -, -, hat⟩ := (Spec.applies_iff hf).mp happ
  obtain ⟨hg, hn⟩ := and_e (Cond.before_iff.mp (show (Jvm.Cond.and given_1 narrow_1).before args s = true from hpre))
  obtain ⟨g1a, g1b⟩ := and_e hg
  obtain ⟨g2a, g2b⟩ := and_e g1b
  obtain ⟨g3a, g3b⟩ := and_e hn
  obtain ⟨g4a, g4b⟩ := and_e g3b
  obtain ⟨g5a, g5b⟩ := and_e g4b
  obtain ⟨g6a, g6b⟩ := and_e g5b
  obtain ⟨g7a, g7b⟩ := and_e g6b
  obtain ⟨g8a, g8b⟩ := and_e g7b
  obtain ⟨g9a, g9b⟩ := and_e g8b
  obtain ⟨g10a, g10b⟩ := and_e g9b
  obtain ⟨g11a, g11b⟩ := and_e g10b
  obtain ⟨g12a, g12b⟩ := and_e g11b
  obtain ⟨g13a, g13b⟩ := and_e g12b
  obtain ⟨g14a, g14b⟩ := and_e g13b
  obtain ⟨g15a, g15b⟩ := and_e g14b
  obtain ⟨g16a, g16b⟩ := and_e g15b
  obtain ⟨g17a, g17b⟩ := and_e g16b
  obtain ⟨g18a, g18b⟩ := and_e g17b
  obtain ⟨g19a, g19b⟩ := and_e g18b
  obtain ⟨g20a, g20b⟩ := and_e g19b
  obtain ⟨g21a, g21b⟩ := and_e g20b
  obtain ⟨g22a, g22b⟩ := and_e g21b
  obtain ⟨g23a, g23b⟩ := and_e g22b
  obtain ⟨g24a, g24b⟩ := and_e g23b
  obtain ⟨g25a, g25b⟩ := and_e g24b
  obtain ⟨g26a, g26b⟩ := and_e g25b
  obtain ⟨g27a, g27b⟩ := and_e g26b
  obtain ⟨g28a, g28b⟩ := and_e g27b
  obtain ⟨g29a, g29b⟩ := and_e g28b
  obtain ⟨g30a, g30b⟩ := and_e g29b
  obtain ⟨g31a, g31b⟩ := and_e g30b
  obtain ⟨g32a, g32b⟩ := and_e g31b
  obtain ⟨g33a, g33b⟩ := and_e g32b
  obtain ⟨w0_, w1_, rfl⟩ : ∃ w0_ w1_ : Value, args = #[w0_, w1_] := by
    have hs : args.size = 2 := by simpa [Cond.value, given_1] using g1a
    obtain ⟨L⟩ := args
    match L, hs with
    | [w0_, w1_], _ => exact ⟨w0_, w1_, rfl⟩
  have hw := fun d (hd : d ∈ tables_1) => atoms_spec (ws := Jvm.Cond.code x code maxLocals ret :: tables_1) hat d (List.mem_cons_of_mem _ hd)
  have hfit : Fit s := fun {y c} hc i hi => by
    obtain ⟨ha, rfl⟩ := Array.getElem?_eq_some_iff.mp hc
    have q := List.all_eq_true.mp ((Array.all_eq_true_iff_forall_mem.mp hF) _ (Array.getElem_mem ha)) i (List.mem_range.mpr hi)
    simpa [Array.getElem?_eq_getElem hi] using q
  obtain ⟨p1, ei0⟩ := is_v g2a
  obtain rfl : w0_ = (.int p1) := Option.some.inj ei0
  obtain ⟨p2, ei1⟩ := is_v g2b
  obtain rfl : w1_ = (.int p2) := Option.some.inj ei1
  obtain ⟨w_BIND, ev_w_BIND⟩ := exa_v g5a
  have S_BIND : Sta s s.heap "com/example/waypost/waypost/ldap/Operation" "BIND" "Lcom/example/waypost/waypost/ldap/Operation;" (.ref w_BIND) := Sta.start ev_w_BIND (Or.inr ⟨(hw _ (List.mem_of_getElem? (i := 3) rfl)), (hw _ (List.mem_of_getElem? (i := 7) rfl))⟩)
  have E_w_BIND : Exa s s.heap w_BIND "com/example/waypost/waypost/ldap/Operation" := Exa.start ev_w_BIND g5a
  obtain ⟨w_UNBIND, ev_w_UNBIND⟩ := exa_v g8a
  have S_UNBIND : Sta s s.heap "com/example/waypost/waypost/ldap/Operation" "UNBIND" "Lcom/example/waypost/waypost/ldap/Operation;" (.ref w_UNBIND) := Sta.start ev_w_UNBIND (Or.inr ⟨(hw _ (List.mem_of_getElem? (i := 3) rfl)), (hw _ (List.mem_of_getElem? (i := 10) rfl))⟩)
  have E_w_UNBIND : Exa s s.heap w_UNBIND "com/example/waypost/waypost/ldap/Operation" := Exa.start ev_w_UNBIND g8a
  obtain ⟨w_SEARCH, ev_w_SEARCH⟩ := exa_v g11a
  have S_SEARCH : Sta s s.heap "com/example/waypost/waypost/ldap/Operation" "SEARCH" "Lcom/example/waypost/waypost/ldap/Operation;" (.ref w_SEARCH) := Sta.start ev_w_SEARCH (Or.inr ⟨(hw _ (List.mem_of_getElem? (i := 3) rfl)), (hw _ (List.mem_of_getElem? (i := 11) rfl))⟩)
  have E_w_SEARCH : Exa s s.heap w_SEARCH "com/example/waypost/waypost/ldap/Operation" := Exa.start ev_w_SEARCH g11a
  obtain ⟨w_MODIFY, ev_w_MODIFY⟩ := exa_v g14a
  have S_MODIFY : Sta s s.heap "com/example/waypost/waypost/ldap/Operation" "MODIFY" "Lcom/example/waypost/waypost/ldap/Operation;" (.ref w_MODIFY) := Sta.start ev_w_MODIFY (Or.inr ⟨(hw _ (List.mem_of_getElem? (i := 3) rfl)), (hw _ (List.mem_of_getElem? (i := 12) rfl))⟩)
  have E_w_MODIFY : Exa s s.heap w_MODIFY "com/example/waypost/waypost/ldap/Operation" := Exa.start ev_w_MODIFY g14a
  obtain ⟨w_ADD, ev_w_ADD⟩ := exa_v g17a
  have S_ADD : Sta s s.heap "com/example/waypost/waypost/ldap/Operation" "ADD" "Lcom/example/waypost/waypost/ldap/Operation;" (.ref w_ADD) := Sta.start ev_w_ADD (Or.inr ⟨(hw _ (List.mem_of_getElem? (i := 3) rfl)), (hw _ (List.mem_of_getElem? (i := 13) rfl))⟩)
  have E_w_ADD : Exa s s.heap w_ADD "com/example/waypost/waypost/ldap/Operation" := Exa.start ev_w_ADD g17a
  obtain ⟨w_DELETE, ev_w_DELETE⟩ := exa_v g20a
  have S_DELETE : Sta s s.heap "com/example/waypost/waypost/ldap/Operation" "DELETE" "Lcom/example/waypost/waypost/ldap/Operation;" (.ref w_DELETE) := Sta.start ev_w_DELETE (Or.inr ⟨(hw _ (List.mem_of_getElem? (i := 3) rfl)), (hw _ (List.mem_of_getElem? (i := 14) rfl))⟩)
  have E_w_DELETE : Exa s s.heap w_DELETE "com/example/waypost/waypost/ldap/Operation" := Exa.start ev_w_DELETE g20a
  obtain ⟨w_MODIFY_DN, ev_w_MODIFY_DN⟩ := exa_v g23a
  have S_MODIFY_DN : Sta s s.heap "com/example/waypost/waypost/ldap/Operation" "MODIFY_DN" "Lcom/example/waypost/waypost/ldap/Operation;" (.ref w_MODIFY_DN) := Sta.start ev_w_MODIFY_DN (Or.inr ⟨(hw _ (List.mem_of_getElem? (i := 3) rfl)), (hw _ (List.mem_of_getElem? (i := 15) rfl))⟩)
  have E_w_MODIFY_DN : Exa s s.heap w_MODIFY_DN "com/example/waypost/waypost/ldap/Operation" := Exa.start ev_w_MODIFY_DN g23a
  obtain ⟨w_COMPARE, ev_w_COMPARE⟩ := exa_v g26a
  have S_COMPARE : Sta s s.heap "com/example/waypost/waypost/ldap/Operation" "COMPARE" "Lcom/example/waypost/waypost/ldap/Operation;" (.ref w_COMPARE) := Sta.start ev_w_COMPARE (Or.inr ⟨(hw _ (List.mem_of_getElem? (i := 3) rfl)), (hw _ (List.mem_of_getElem? (i := 16) rfl))⟩)
  have E_w_COMPARE : Exa s s.heap w_COMPARE "com/example/waypost/waypost/ldap/Operation" := Exa.start ev_w_COMPARE g26a
  obtain ⟨w_ABANDON, ev_w_ABANDON⟩ := exa_v g29a
  have S_ABANDON : Sta s s.heap "com/example/waypost/waypost/ldap/Operation" "ABANDON" "Lcom/example/waypost/waypost/ldap/Operation;" (.ref w_ABANDON) := Sta.start ev_w_ABANDON (Or.inr ⟨(hw _ (List.mem_of_getElem? (i := 3) rfl)), (hw _ (List.mem_of_getElem? (i := 17) rfl))⟩)
  have E_w_ABANDON : Exa s s.heap w_ABANDON "com/example/waypost/waypost/ldap/Operation" := Exa.start ev_w_ABANDON g29a
  obtain ⟨w_EXTENDED, ev_w_EXTENDED⟩ := exa_v g32a
  have S_EXTENDED : Sta s s.heap "com/example/waypost/waypost/ldap/Operation" "EXTENDED" "Lcom/example/waypost/waypost/ldap/Operation;" (.ref w_EXTENDED) := Sta.start ev_w_EXTENDED (Or.inr ⟨(hw _ (List.mem_of_getElem? (i := 3) rfl)), (hw _ (List.mem_of_getElem? (i := 18) rfl))⟩)
  have E_w_EXTENDED : Exa s s.heap w_EXTENDED "com/example/waypost/waypost/ldap/Operation" := Exa.start ev_w_EXTENDED g32a
  have F_requestTag_w_BIND : Fld s s.heap w_BIND "com/example/waypost/waypost/ldap/Operation" "requestTag" "I" (.int (96 : Int32)) := Fld.start ((fld_at ev_w_BIND).symm.trans (own_eqI g7a))
  have F_requestTag_w_UNBIND : Fld s s.heap w_UNBIND "com/example/waypost/waypost/ldap/Operation" "requestTag" "I" (.int (66 : Int32)) := Fld.start ((fld_at ev_w_UNBIND).symm.trans (own_eqI g10a))
  have F_requestTag_w_SEARCH : Fld s s.heap w_SEARCH "com/example/waypost/waypost/ldap/Operation" "requestTag" "I" (.int (99 : Int32)) := Fld.start ((fld_at ev_w_SEARCH).symm.trans (own_eqI g13a))
  have F_requestTag_w_MODIFY : Fld s s.heap w_MODIFY "com/example/waypost/waypost/ldap/Operation" "requestTag" "I" (.int (102 : Int32)) := Fld.start ((fld_at ev_w_MODIFY).symm.trans (own_eqI g16a))
  have F_requestTag_w_ADD : Fld s s.heap w_ADD "com/example/waypost/waypost/ldap/Operation" "requestTag" "I" (.int (104 : Int32)) := Fld.start ((fld_at ev_w_ADD).symm.trans (own_eqI g19a))
  have F_requestTag_w_DELETE : Fld s s.heap w_DELETE "com/example/waypost/waypost/ldap/Operation" "requestTag" "I" (.int (74 : Int32)) := Fld.start ((fld_at ev_w_DELETE).symm.trans (own_eqI g22a))
  have F_requestTag_w_MODIFY_DN : Fld s s.heap w_MODIFY_DN "com/example/waypost/waypost/ldap/Operation" "requestTag" "I" (.int (108 : Int32)) := Fld.start ((fld_at ev_w_MODIFY_DN).symm.trans (own_eqI g25a))
  have F_requestTag_w_COMPARE : Fld s s.heap w_COMPARE "com/example/waypost/waypost/ldap/Operation" "requestTag" "I" (.int (110 : Int32)) := Fld.start ((fld_at ev_w_COMPARE).symm.trans (own_eqI g28a))
  have F_requestTag_w_ABANDON : Fld s s.heap w_ABANDON "com/example/waypost/waypost/ldap/Operation" "requestTag" "I" (.int (80 : Int32)) := Fld.start ((fld_at ev_w_ABANDON).symm.trans (own_eqI g31a))
  have F_requestTag_w_EXTENDED : Fld s s.heap w_EXTENDED "com/example/waypost/waypost/ldap/Operation" "requestTag" "I" (.int (119 : Int32)) := Fld.start ((fld_at ev_w_EXTENDED).symm.trans (own_eqI g33b))
  obtain ⟨wall, ev_wall⟩ := arr_v g3a
  have S_ALL : Sta s s.heap "com/example/waypost/waypost/ldap/Operation" "ALL" "[Lcom/example/waypost/waypost/ldap/Operation;" (.ref wall) := Sta.start ev_wall (Or.inr ⟨(hw _ (List.mem_of_getElem? (i := 3) rfl)), (hw _ (List.mem_of_getElem? (i := 6) rfl))⟩)
  obtain ⟨cal, Aal⟩ := Arr.start ev_wall g3a
  have sz_al : cal.slots.size = 10 := own_size (own_eqI g4a) ev_wall Aal.1
  have el0 : cal.slots[0]? = some (.ref w_BIND) := (elem_in (own_eqR g6a ev_w_BIND) ev_wall (Term.int_eval (0)) Aal.1).2
  have el1 : cal.slots[1]? = some (.ref w_UNBIND) := (elem_in (own_eqR g9a ev_w_UNBIND) ev_wall (Term.int_eval (1)) Aal.1).2
  have el2 : cal.slots[2]? = some (.ref w_SEARCH) := (elem_in (own_eqR g12a ev_w_SEARCH) ev_wall (Term.int_eval (2)) Aal.1).2
  have el3 : cal.slots[3]? = some (.ref w_MODIFY) := (elem_in (own_eqR g15a ev_w_MODIFY) ev_wall (Term.int_eval (3)) Aal.1).2
  have el4 : cal.slots[4]? = some (.ref w_ADD) := (elem_in (own_eqR g18a ev_w_ADD) ev_wall (Term.int_eval (4)) Aal.1).2
  have el5 : cal.slots[5]? = some (.ref w_DELETE) := (elem_in (own_eqR g21a ev_w_DELETE) ev_wall (Term.int_eval (5)) Aal.1).2
  have el6 : cal.slots[6]? = some (.ref w_MODIFY_DN) := (elem_in (own_eqR g24a ev_w_MODIFY_DN) ev_wall (Term.int_eval (6)) Aal.1).2
  have el7 : cal.slots[7]? = some (.ref w_COMPARE) := (elem_in (own_eqR g27a ev_w_COMPARE) ev_wall (Term.int_eval (7)) Aal.1).2
  have el8 : cal.slots[8]? = some (.ref w_ABANDON) := (elem_in (own_eqR g30a ev_w_ABANDON) ev_wall (Term.int_eval (8)) Aal.1).2
  have el9 : cal.slots[9]? = some (.ref w_EXTENDED) := (elem_in (own_eqR g33a ev_w_EXTENDED) ev_wall (Term.int_eval (9)) Aal.1).2
  have V_wall : own_Ar s s.heap wall (.object "com/example/waypost/waypost/ldap/Operation") 10 (fun i => ([.ref w_BIND, .ref w_UNBIND, .ref w_SEARCH, .ref w_MODIFY, .ref w_ADD, .ref w_DELETE, .ref w_MODIFY_DN, .ref w_COMPARE, .ref w_ABANDON, .ref w_EXTENDED] : List Value).getD i .null) := ⟨cal, Aal, sz_al, fun i hi => by
    match i, hi with
    | 0, _ => exact el0
    | 1, _ => exact el1
    | 2, _ => exact el2
    | 3, _ => exact el3
    | 4, _ => exact el4
    | 5, _ => exact el5
    | 6, _ => exact el6
    | 7, _ => exact el7
    | 8, _ => exact el8
    | 9, _ => exact el9
    | n + 10, h => exact absurd h (by omega)⟩
  obtain ⟨n, o, h1, h2, h3, _, L, rfl, ⟨rfl, N⟩, hq⟩ := rm0 l s _ hw tables_1 p1 p2 wall w_BIND w_UNBIND w_SEARCH w_MODIFY w_ADD w_DELETE w_MODIFY_DN w_COMPARE w_ABANDON w_EXTENDED s.heap s.heap.size (Nat.le_refl _) S_ALL V_wall S_BIND S_UNBIND S_SEARCH S_MODIFY S_ADD S_DELETE S_MODIFY_DN S_COMPARE S_ABANDON S_EXTENDED F_requestTag_w_BIND F_requestTag_w_UNBIND F_requestTag_w_SEARCH F_requestTag_w_MODIFY F_requestTag_w_ADD F_requestTag_w_DELETE F_requestTag_w_MODIFY_DN F_requestTag_w_COMPARE F_requestTag_w_ABANDON F_requestTag_w_EXTENDED p e ha hc hk s m _ below hf ((Spec.applies_iff_loose hf).mp happ).1 ⟨rfl, State.Warmed39.refl s, rfl⟩ trivial
  refine ⟨n, _, h1, h2, h3, hpost _ _ _ _ _ _ ⟨Cond.after_iff.mpr rfl, Cond.after_iff.mpr (eq_i res_at (Term.int_eval (1)) rfl), trivial⟩ ⟨hq.1, hq.2.1, (hq.2.2.sift fun y hy => Or.inr (N y hy)).mono (by decide) (by decide)⟩⟩
theorem main_1_1 : Claimed_1_1 := comes_1 fun _ _ _ _ _ _ h hF => ⟨h.1, hF⟩
theorem main_1_2 : Claimed_1_2 := comes_1 fun _ _ _ _ _ _ h hF => ⟨h.2.1, hF⟩
end Jvm.Pilot.@@N@@
namespace Jvm.Pilot.@@N@@
open Jvm Jvm.ClassFile Sem Op Lib Jvm.Free Jvm.Stand Jvm.Pilot.@@N@@.Jvm.D
/-! MADE BY PROGRAM (witnessworld.py) out of the Statement's table words and the real class files: 13 classes; the members and pool entries that the words name. The judged class is class 1, her method 1. -/
namespace start1
open Jvm.ClassFile
def u (s : String) : CpInfo := .utf8 (stringToUtf16 s)
/-- a pool by its gaps: so many unusable entries, then the entry; so many at the end -/
def gap : Nat → List CpInfo → List CpInfo
  | 0, r => r
  | n + 1, r => .unusable :: gap n r
def poolList (es : List (Nat × CpInfo)) (last : Nat) : List CpInfo := es.foldr (fun e r => gap e.1 (e.2 :: r)) (gap last [])
def pool (es : List (Nat × CpInfo)) (last : Nat) : Array CpInfo := ⟨poolList es last⟩
def fileOf (pool : Array CpInfo) (this : Nat) (attrs : Array Attribute := #[]) (ms : Array MethodInfo := #[]) (fl : Nat := 33) (sup : Nat := 0) (ifs : Array Nat := #[]) (fds : Array FieldInfo := #[]) : ClassFile where
  minorVersion := 0
  majorVersion := 65
  constantPool := pool
  accessFlags := fl
  thisClass := this
  superClass := sup
  interfaces := ifs
  fields := fds
  methods := ms
  attributes := attrs
def plain (name : String) (sup : Option ClassId) : Class where
  name := name
  kind := .ordinary
  loader := none
  accessFlags := 33
  super := sup
  interfaces := #[]
  cf := none
  fields := #[]
  methods := #[]
  instanceTypes := #[]
  staticTypes := #[]
  resolved := #[]
  callSites := []
  init := .initialized
  statics := none
  mirror := none

def pool0 : Array CpInfo := pool [(5, u "<init>"), (0, u "()V"), (1, .class_ 10), (1, u "java/lang/Object")] 113

def k0m0 : Method := { name := "<init>", desc := "()V", sig := { parameters := [], returnType := none }, accessFlags := 1, code := none }
/-- java/lang/Object -/
def k0 : Class := { plain "java/lang/Object" none with
  accessFlags := 33
  interfaces := #[]
  cf := some (fileOf pool0 8 #[] #[{ accessFlags := 1, nameIndex := 5, descriptorIndex := 6, attributes := #[] }] 33 0 #[] #[])
  fields := #[]
  methods := #[k0m0]
  instanceTypes := #[]
  staticTypes := #[]
  resolved := Array.replicate 124 none
  statics := none }

def pool1 : Array CpInfo := pool [(2, .class_ 4), (1, u "java/lang/Object"), (0, u "<init>"), (0, u "()V"), (0, .methodref 8 9), (0, .class_ 10), (0, .nameAndType 11 12), (0, u "com/example/waypost/waypost/ldap/Operation"), (0, u "of"), (0, u "(I)Lcom/example/waypost/waypost/ldap/Operation;"), (0, .methodref 14 15), (0, .class_ 16), (0, .nameAndType 17 12), (0, u "com/example/waypost/waypost/ldap/OperationOfPinLaw"), (0, u "expected"), (0, .fieldref 8 19), (0, .nameAndType 20 21), (0, u "BIND"), (0, u "Lcom/example/waypost/waypost/ldap/Operation;"), (0, .fieldref 8 23), (0, .nameAndType 24 21), (0, u "UNBIND"), (0, .fieldref 8 26), (0, .nameAndType 27 21), (0, u "SEARCH"), (0, .fieldref 8 29), (0, .nameAndType 30 21), (0, u "MODIFY"), (0, .fieldref 8 32), (0, .nameAndType 33 21), (0, u "ADD"), (0, .fieldref 8 35), (0, .nameAndType 36 21), (0, u "DELETE"), (0, .fieldref 8 38), (0, .nameAndType 39 21), (0, u "MODIFY_DN"), (0, .fieldref 8 41), (0, .nameAndType 42 21), (0, u "COMPARE"), (0, .fieldref 8 44), (0, .nameAndType 45 21), (0, u "ABANDON"), (0, .fieldref 8 47), (0, .nameAndType 48 21), (0, u "EXTENDED"), (2, u "law"), (0, u "(II)Z")] 5

def k1m0 : Method := { name := "<init>", desc := "()V", sig := { parameters := [], returnType := none }, accessFlags := 2, code := none }
def k1c1 : Code := { maxStack := 4, maxLocals := 6, code := code, exceptionTable := #[], attributes := #[] }
def k1m1 : Method := { name := "law", desc := "(II)Z", sig := { parameters := [.int, .int], returnType := some .boolean }, accessFlags := 9, code := some k1c1 }
def k1c2 : Code := { maxStack := 2, maxLocals := 1, code := method_3_code, exceptionTable := #[], attributes := #[] }
def k1m2 : Method := { name := "expected", desc := "(I)Lcom/example/waypost/waypost/ldap/Operation;", sig := { parameters := [.int], returnType := some (.object "com/example/waypost/waypost/ldap/Operation") }, accessFlags := 10, code := some k1c2 }
/-- com/example/waypost/waypost/ldap/OperationOfPinLaw -/
def k1 : Class := { plain "com/example/waypost/waypost/ldap/OperationOfPinLaw" (some 0) with
  accessFlags := 49
  interfaces := #[]
  cf := some (fileOf pool1 14 #[] #[{ accessFlags := 2, nameIndex := 5, descriptorIndex := 6, attributes := #[] }, { accessFlags := 9, nameIndex := 51, descriptorIndex := 52, attributes := #[] }, { accessFlags := 10, nameIndex := 17, descriptorIndex := 12, attributes := #[] }] 49 2 #[] #[])
  fields := #[]
  methods := #[k1m0, k1m1, k1m2]
  instanceTypes := #[]
  staticTypes := #[]
  resolved := Array.replicate 58 none
  statics := none }

def pool2 : Array CpInfo := pool [(1, .class_ 2), (0, u "java/lang/constant/Constable"), (0, .class_ 4), (0, u "java/lang/Object")] 6

/-- java/lang/constant/Constable -/
def k2 : Class := { plain "java/lang/constant/Constable" (some 0) with
  accessFlags := 1537
  interfaces := #[]
  cf := some (fileOf pool2 1 #[] #[] 1537 3 #[] #[])
  fields := #[]
  methods := #[]
  instanceTypes := #[]
  staticTypes := #[]
  resolved := Array.replicate 11 none
  statics := none }

def pool3 : Array CpInfo := pool [(1, .class_ 2), (0, u "java/lang/Comparable"), (0, .class_ 4), (0, u "java/lang/Object")] 7

/-- java/lang/Comparable -/
def k3 : Class := { plain "java/lang/Comparable" (some 0) with
  accessFlags := 1537
  interfaces := #[]
  cf := some (fileOf pool3 1 #[] #[] 1537 3 #[] #[])
  fields := #[]
  methods := #[]
  instanceTypes := #[]
  staticTypes := #[]
  resolved := Array.replicate 12 none
  statics := none }

def pool4 : Array CpInfo := pool [(1, .class_ 2), (0, u "java/io/Serializable"), (0, .class_ 4), (0, u "java/lang/Object")] 2

/-- java/io/Serializable -/
def k4 : Class := { plain "java/io/Serializable" (some 0) with
  accessFlags := 1537
  interfaces := #[]
  cf := some (fileOf pool4 1 #[] #[] 1537 3 #[] #[])
  fields := #[]
  methods := #[]
  instanceTypes := #[]
  staticTypes := #[]
  resolved := Array.replicate 7 none
  statics := none }

def pool5 : Array CpInfo := pool [(2, .class_ 4), (1, u "java/lang/Enum"), (0, u "name"), (0, u "Ljava/lang/String;"), (2, u "ordinal"), (0, u "I"), (1, .class_ 14), (1, u "java/lang/Object"), (4, u "hash"), (86, .class_ 108), (1, u "java/lang/Enum$EnumDesc"), (2, .class_ 112), (0, u "java/lang/constant/Constable"), (0, .class_ 114), (0, u "java/lang/Comparable"), (0, .class_ 116), (0, u "java/io/Serializable")] 87

/-- java/lang/Enum -/
def k5 : Class := { plain "java/lang/Enum" (some 0) with
  accessFlags := 1057
  interfaces := #[2, 3, 4]
  cf := some (fileOf pool5 2 #[.nestMembers #[106]] #[] 1057 12 #[111, 113, 115] #[{ accessFlags := 18, nameIndex := 5, descriptorIndex := 6, attributes := #[] }, { accessFlags := 18, nameIndex := 9, descriptorIndex := 10, attributes := #[] }, { accessFlags := 2, nameIndex := 19, descriptorIndex := 10, attributes := #[] }])
  fields := #[{ name := "name", type := (.object "java/lang/String"), accessFlags := 18, slot := 0, constantValue := 0 }, { name := "ordinal", type := .int, accessFlags := 18, slot := 1, constantValue := 0 }, { name := "hash", type := .int, accessFlags := 2, slot := 2, constantValue := 0 }]
  methods := #[]
  instanceTypes := #[(.object "java/lang/String"), .int, .int]
  staticTypes := #[]
  resolved := Array.replicate 204 none
  statics := none }

def pool6 : Array CpInfo := pool [(1, .class_ 2), (0, u "com/example/waypost/waypost/ldap/Operation"), (2, u "BIND"), (0, u "Lcom/example/waypost/waypost/ldap/Operation;"), (2, u "UNBIND"), (2, u "SEARCH"), (2, u "MODIFY"), (2, u "ADD"), (2, u "DELETE"), (2, u "MODIFY_DN"), (2, u "COMPARE"), (2, u "ABANDON"), (2, u "EXTENDED"), (2, u "$VALUES"), (0, u "[Lcom/example/waypost/waypost/ldap/Operation;"), (6, .class_ 46), (1, u "java/lang/Enum"), (6, .fieldref 1 54), (0, .nameAndType 55 56), (0, u "requestTag"), (0, u "I"), (2, u "responseTag"), (2, u "word"), (0, u "Ljava/lang/String;"), (0, .fieldref 1 65), (0, .nameAndType 66 37), (0, u "ALL"), (50, u "of"), (0, u "(I)Lcom/example/waypost/waypost/ldap/Operation;")] 6

def k6c0 : Code := { maxStack := 2, maxLocals := 5, code := prog_71_method_6_code, exceptionTable := #[], attributes := #[] }
def k6m0 : Method := { name := "of", desc := "(I)Lcom/example/waypost/waypost/ldap/Operation;", sig := { parameters := [.int], returnType := some (.object "com/example/waypost/waypost/ldap/Operation") }, accessFlags := 8, code := some k6c0 }
/-- com/example/waypost/waypost/ldap/Operation -/
def k6 : Class := { plain "com/example/waypost/waypost/ldap/Operation" (some 5) with
  accessFlags := 16432
  interfaces := #[]
  cf := some (fileOf pool6 1 #[] #[{ accessFlags := 8, nameIndex := 117, descriptorIndex := 118, attributes := #[] }] 16432 44 #[] #[{ accessFlags := 16409, nameIndex := 5, descriptorIndex := 6, attributes := #[] }, { accessFlags := 16409, nameIndex := 9, descriptorIndex := 6, attributes := #[] }, { accessFlags := 16409, nameIndex := 12, descriptorIndex := 6, attributes := #[] }, { accessFlags := 16409, nameIndex := 15, descriptorIndex := 6, attributes := #[] }, { accessFlags := 16409, nameIndex := 18, descriptorIndex := 6, attributes := #[] }, { accessFlags := 16409, nameIndex := 21, descriptorIndex := 6, attributes := #[] }, { accessFlags := 16409, nameIndex := 24, descriptorIndex := 6, attributes := #[] }, { accessFlags := 16409, nameIndex := 27, descriptorIndex := 6, attributes := #[] }, { accessFlags := 16409, nameIndex := 30, descriptorIndex := 6, attributes := #[] }, { accessFlags := 16409, nameIndex := 33, descriptorIndex := 6, attributes := #[] }, { accessFlags := 26, nameIndex := 66, descriptorIndex := 37, attributes := #[] }, { accessFlags := 18, nameIndex := 55, descriptorIndex := 56, attributes := #[] }, { accessFlags := 18, nameIndex := 59, descriptorIndex := 56, attributes := #[] }, { accessFlags := 18, nameIndex := 62, descriptorIndex := 63, attributes := #[] }, { accessFlags := 4122, nameIndex := 36, descriptorIndex := 37, attributes := #[] }])
  fields := #[{ name := "BIND", type := (.object "com/example/waypost/waypost/ldap/Operation"), accessFlags := 16409, slot := 0, constantValue := 0 }, { name := "UNBIND", type := (.object "com/example/waypost/waypost/ldap/Operation"), accessFlags := 16409, slot := 1, constantValue := 0 }, { name := "SEARCH", type := (.object "com/example/waypost/waypost/ldap/Operation"), accessFlags := 16409, slot := 2, constantValue := 0 }, { name := "MODIFY", type := (.object "com/example/waypost/waypost/ldap/Operation"), accessFlags := 16409, slot := 3, constantValue := 0 }, { name := "ADD", type := (.object "com/example/waypost/waypost/ldap/Operation"), accessFlags := 16409, slot := 4, constantValue := 0 }, { name := "DELETE", type := (.object "com/example/waypost/waypost/ldap/Operation"), accessFlags := 16409, slot := 5, constantValue := 0 }, { name := "MODIFY_DN", type := (.object "com/example/waypost/waypost/ldap/Operation"), accessFlags := 16409, slot := 6, constantValue := 0 }, { name := "COMPARE", type := (.object "com/example/waypost/waypost/ldap/Operation"), accessFlags := 16409, slot := 7, constantValue := 0 }, { name := "ABANDON", type := (.object "com/example/waypost/waypost/ldap/Operation"), accessFlags := 16409, slot := 8, constantValue := 0 }, { name := "EXTENDED", type := (.object "com/example/waypost/waypost/ldap/Operation"), accessFlags := 16409, slot := 9, constantValue := 0 }, { name := "ALL", type := (.array (.object "com/example/waypost/waypost/ldap/Operation")), accessFlags := 26, slot := 10, constantValue := 0 }, { name := "requestTag", type := .int, accessFlags := 18, slot := 3, constantValue := 0 }, { name := "responseTag", type := .int, accessFlags := 18, slot := 4, constantValue := 0 }, { name := "word", type := (.object "java/lang/String"), accessFlags := 18, slot := 5, constantValue := 0 }, { name := "$VALUES", type := (.array (.object "com/example/waypost/waypost/ldap/Operation")), accessFlags := 4122, slot := 11, constantValue := 0 }]
  methods := #[k6m0]
  instanceTypes := #[(.object "java/lang/String"), .int, .int, .int, .int, (.object "java/lang/String")]
  staticTypes := #[(.object "com/example/waypost/waypost/ldap/Operation"), (.object "com/example/waypost/waypost/ldap/Operation"), (.object "com/example/waypost/waypost/ldap/Operation"), (.object "com/example/waypost/waypost/ldap/Operation"), (.object "com/example/waypost/waypost/ldap/Operation"), (.object "com/example/waypost/waypost/ldap/Operation"), (.object "com/example/waypost/waypost/ldap/Operation"), (.object "com/example/waypost/waypost/ldap/Operation"), (.object "com/example/waypost/waypost/ldap/Operation"), (.object "com/example/waypost/waypost/ldap/Operation"), (.array (.object "com/example/waypost/waypost/ldap/Operation")), (.array (.object "com/example/waypost/waypost/ldap/Operation"))]
  resolved := Array.replicate 125 none
  statics := some 0 }

def pool7 : Array CpInfo := pool [(1, u "java/lang/Cloneable"), (0, .class_ 1), (0, u "java/lang/Object"), (0, .class_ 3)] 3

/-- java/lang/Cloneable -/
def k7 : Class := { plain "java/lang/Cloneable" (some 0) with
  accessFlags := 1537
  interfaces := #[]
  cf := some (fileOf pool7 2 #[] #[] 1537 4 #[] #[])
  fields := #[]
  methods := #[]
  instanceTypes := #[]
  staticTypes := #[]
  resolved := Array.replicate 8 none
  statics := none }

/-- the primitive byte -/
def k8 : Class := { plain "byte" none with kind := .primitive 'B', accessFlags := 0x411 }
/-- [B -/
def k9 : Class := { plain "[B" (some 0) with kind := .array 8 .byte, interfaces := #[7, 4], accessFlags := 1041 }

/-- the primitive int -/
def k10 : Class := { plain "int" none with kind := .primitive 'I', accessFlags := 0x411 }
/-- [I -/
def k11 : Class := { plain "[I" (some 0) with kind := .array 10 .int, interfaces := #[7, 4], accessFlags := 1041 }

/-- [Lcom/example/waypost/waypost/ldap/Operation; -/
def k12 : Class := { plain "[Lcom/example/waypost/waypost/ldap/Operation;" (some 0) with kind := .array 6 (.object "com/example/waypost/waypost/ldap/Operation"), interfaces := #[7, 4], accessFlags := 1041 }

def heap : Heap := #[{ cls := 6, slots := #[.ref 2, .ref 3, .ref 4, .ref 5, .ref 6, .ref 7, .ref 8, .ref 9, .ref 10, .ref 11, .ref 1, .null], vm := .statics 6 },
  { cls := 12, slots := #[.ref 2, .ref 3, .ref 4, .ref 5, .ref 6, .ref 7, .ref 8, .ref 9, .ref 10, .ref 11], vm := .none },
  { cls := 6, slots := #[.null, .int 0, .int 0, .int 96, .int 0, .null], vm := .none },
  { cls := 6, slots := #[.null, .int 0, .int 0, .int 66, .int 0, .null], vm := .none },
  { cls := 6, slots := #[.null, .int 0, .int 0, .int 99, .int 0, .null], vm := .none },
  { cls := 6, slots := #[.null, .int 0, .int 0, .int 102, .int 0, .null], vm := .none },
  { cls := 6, slots := #[.null, .int 0, .int 0, .int 104, .int 0, .null], vm := .none },
  { cls := 6, slots := #[.null, .int 0, .int 0, .int 74, .int 0, .null], vm := .none },
  { cls := 6, slots := #[.null, .int 0, .int 0, .int 108, .int 0, .null], vm := .none },
  { cls := 6, slots := #[.null, .int 0, .int 0, .int 110, .int 0, .null], vm := .none },
  { cls := 6, slots := #[.null, .int 0, .int 0, .int 80, .int 0, .null], vm := .none },
  { cls := 6, slots := #[.null, .int 0, .int 0, .int 119, .int 0, .null], vm := .none }]
def classes : Array Class := #[k0, k1, k2, k3, k4, k5, k6, k7, k8, k9, k10, k11, k12]
def interned : List (Array UInt16 × Addr) := []
def slotsUsed : Nat := 82
def theMethod : MethodId := ⟨1, 1⟩
def args0 : Array Value := #[.int 0, .int 0]
def aboutOver (below : List Frame) : State where
  vm := { classes := classes, interned := interned.toArray }
  heap := heap
  slotsUsed := slotsUsed
  threads := #[{ frames := .invoking theMethod args0 :: below }]
def below0 : List Frame := [.native { method := ⟨0, 0⟩, args := #[] }]
def about1 : State := aboutOver below0
def p0 : Program := .bare "" "" ""
def e0 : Env := launch0.env 0 0 0
theorem w_frames : about1.frames = Frame.invoking theMethod args0 :: below0 := rfl
set_option maxRecDepth 65536 in
theorem w_args : argsFit about1.vm theMethod args0 = true := by decide +kernel
set_option maxRecDepth 65536 in
theorem w_heap : heapFits about1 = true := by decide +kernel
set_option maxRecDepth 65536 in
theorem w_runnable : about1.curStatus? = some .runnable := by decide +kernel
set_option maxRecDepth 65536 in
theorem w_alone : about1.alone = true := by decide +kernel
set_option maxRecDepth 65536 in
theorem w_named : about1.methodNamed? x = some theMethod := by decide +kernel
set_option maxRecDepth 65536 in
theorem w_hears : about1.hears theMethod below0 = true := by decide +kernel
set_option maxRecDepth 65536 in
theorem w_ripe : about1.ripe theMethod args0 below0 = true := by decide +kernel
theorem w_running : about1.status = .running := rfl
set_option maxRecDepth 65536 in
theorem w_room : about1.hasRoom e0.platform room_1 = true :=
  launch0.hasRoom_least _ room_1 (by decide +kernel) (by decide +kernel) (by decide +kernel) (by decide +kernel) (by decide +kernel) (by decide +kernel)
theorem allAtoms_all (ts : List Jvm.Cond) (a : Array Jvm.Value) (st : Jvm.State) : (allAtoms ts).before a st = ts.all (fun c => c.before a st) := by
  induction ts with
  | nil => rfl
  | cons c t ih =>
    show (Jvm.Cond.and c (allAtoms t)).before a st = _
    rw [Jvm.Cond.before_and, ih, List.all_cons]
def words1 : List Jvm.Cond := Jvm.Cond.code x code maxLocals ret :: tables_1
/-- a 'code' word, met by the world's own term for the bytes: nothing is compared byte by byte -/
theorem code_word {y : MethodName} {bytes : ByteArray} {mx : Nat} {rt : Option FieldType} {a : Array Value} {s : State} {m : MethodId} {meth : Method} {c : Code} (h1 : s.methodNamed? y = some m) (h2 : s.vm.method? m = some meth) (h3 : meth.code = some c) (h4 : c.code = bytes)
    (h5 : (c.maxLocals == mx && c.exceptionTable.isEmpty && decide (c.maxStack ≤ mostOperands) && decide (meth.sig.returnType = rt) && !meth.locks && decide (parseMethodDescriptor y.desc = some meth.sig)) = true) : (Jvm.Cond.code y bytes mx rt).before a s = true := by
  simp only [Bool.and_eq_true, beq_iff_eq, Bool.not_eq_true', decide_eq_true_eq] at h5
  obtain ⟨⟨⟨⟨⟨g1, g2⟩, g3⟩, g4⟩, g5⟩, g6⟩ := h5
  simp [Cond.before, Cond.holds, Cond.value, h1, h2, h3, h4, g1, g2, g3, g4, g5, g6]
def isCode : Jvm.Cond → Bool
  | .code _ _ _ _ => true
  | _ => false
theorem all_split {L : List Jvm.Cond} {P : Jvm.Cond → Bool} (h1 : L.all (fun c => isCode c || P c) = true) (h2 : ∀ c ∈ L.filter isCode, P c = true) : L.all P = true := by
  refine List.all_eq_true.mpr fun c hc => ?_
  have h := List.all_eq_true.mp h1 c hc
  rcases Bool.eq_false_or_eq_true (isCode c) with hi | hi
  · exact h2 c (List.mem_filter.mpr ⟨hc, hi⟩)
  · simpa [hi] using h
set_option maxRecDepth 65536 in
theorem w_c0 : (Jvm.Cond.code x code maxLocals ret).before args0 about1 = true := code_word (m := ⟨1, 1⟩) (meth := k1m1) (c := k1c1) (by decide +kernel) rfl rfl rfl (by decide +kernel)
set_option maxRecDepth 65536 in
theorem w_c1 : (Jvm.Cond.code ({ cls := "com/example/waypost/waypost/ldap/Operation", name := "of", desc := "(I)Lcom/example/waypost/waypost/ldap/Operation;" } : Jvm.MethodName) prog_71_method_6_code (5 : Nat) (Option.some (Jvm.ClassFile.FieldType.object "com/example/waypost/waypost/ldap/Operation"))).before args0 about1 = true := code_word (m := ⟨6, 0⟩) (meth := k6m0) (c := k6c0) (by decide +kernel) rfl rfl rfl (by decide +kernel)
set_option maxRecDepth 65536 in
theorem w_c2 : (Jvm.Cond.code ({ cls := "com/example/waypost/waypost/ldap/OperationOfPinLaw", name := "expected", desc := "(I)Lcom/example/waypost/waypost/ldap/Operation;" } : Jvm.MethodName) method_3_code (1 : Nat) (Option.some (Jvm.ClassFile.FieldType.object "com/example/waypost/waypost/ldap/Operation"))).before args0 about1 = true := code_word (m := ⟨1, 2⟩) (meth := k1m2) (c := k1c2) (by decide +kernel) rfl rfl rfl (by decide +kernel)
def codes1 : List Jvm.Cond := [Jvm.Cond.code x code maxLocals ret, Jvm.Cond.code ({ cls := "com/example/waypost/waypost/ldap/Operation", name := "of", desc := "(I)Lcom/example/waypost/waypost/ldap/Operation;" } : Jvm.MethodName) prog_71_method_6_code (5 : Nat) (Option.some (Jvm.ClassFile.FieldType.object "com/example/waypost/waypost/ldap/Operation")), Jvm.Cond.code ({ cls := "com/example/waypost/waypost/ldap/OperationOfPinLaw", name := "expected", desc := "(I)Lcom/example/waypost/waypost/ldap/Operation;" } : Jvm.MethodName) method_3_code (1 : Nat) (Option.some (Jvm.ClassFile.FieldType.object "com/example/waypost/waypost/ldap/Operation"))]
set_option maxRecDepth 65536 in
theorem codes_eq : words1.filter isCode = codes1 := rfl
theorem w_codes : ∀ c ∈ words1.filter isCode, c.before args0 about1 = true := by
  rw [codes_eq]
  intro c hc
  simp only [codes1, List.mem_cons, List.not_mem_nil, or_false] at hc
  rcases hc with rfl | rfl | rfl
  · exact w_c0
  · exact w_c1
  · exact w_c2
set_option maxRecDepth 65536 in
theorem w_t1 : (words1.take 24).all (fun c => isCode c || c.before args0 about1) = true := by decide +kernel
set_option maxRecDepth 65536 in
theorem w_t2 : (words1.drop 24).all (fun c => isCode c || c.before args0 about1) = true := by decide +kernel
theorem w_tables : (allAtoms (Jvm.Cond.code x code maxLocals ret :: tables_1)).before args0 about1 = true := by
  rw [allAtoms_all]
  show words1.all (fun c => c.before args0 about1) = true
  refine all_split ?_ w_codes
  rw [← List.take_append_drop 24 words1, List.all_append, w_t1, w_t2]
  rfl
set_option maxRecDepth 65536 in
theorem w_case : (Jvm.Cond.and given_1 narrow_1).before args0 about1 = true := by decide +kernel
theorem w_applies : (headSpec (Jvm.Cond.code x code maxLocals ret :: tables_1) room_1).applies x e0.platform about1 = true :=
  (Spec.applies_iff w_frames).mpr ⟨w_running, w_runnable, w_alone, w_named, w_hears, w_ripe, w_room, w_tables⟩
theorem atStart : AtStart classFile x code maxLocals ret World_1 tables_1 room_1 Calls_1 rest_1 Pre_1 launch0 p0 e0 about1 theMethod args0 below0 :=
  ⟨lists_1, trivial, launch0.admits_env _ _ _, launch0.least_env, fairChoices_fair.cas, fairChoices_fair.clock, w_frames, w_args, w_heap, w_applies, trivial, trivial, w_case⟩
end start1
theorem witness_1 : WitnessClaimed_1 := ⟨start1.p0, start1.e0, start1.about1, start1.theMethod, start1.args0, start1.below0, start1.atStart⟩
end Jvm.Pilot.@@N@@
