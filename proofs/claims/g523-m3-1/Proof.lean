import JvmDerived
import JvmDerived.Pilot.@@N@@Statement
import JvmDerived.Pilot.@@N@@Code
set_option linter.unusedVariables false
set_option linter.unusedSimpArgs false
namespace Jvm.RoadKit
open Sem ClassFile Op Lib Jvm.Stand Jvm.Free Jvm.LawKit
section New
variable {p : Program} {l : Launch} {e : Env} {R : Room} {s : State} {m : MethodId} {args : Array Value} {below : List Frame} {meth : Method} {c : Code} {T : State} {locs : List Loc} {cells slots : Nat}
theorem retI (X : Stand p l e R s m args below meth c T locs cells slots) (hx : p.tables.exec = Jvm.exec) {pc : Nat} {Ls : Array Slot} {z : Int32} {rest : List Value} (hret : meth.sig.returnType = some .int) (hd : decode c.code pc = .ok (.ireturn, 1)) {fs : List Frame}
    (hl : ∀ (f : JFrame) (acts : List Action), f.method = m → f.locked = none → f.entered = [] → (doReturn e (T.setTop f) acts (some (.int z))).1 = T.setFrames fs) : Steps p.tables e below (T.setTop (mkF m pc Ls (.int z :: rest))) (T.setFrames fs) := by
  have hm' : T.vm.method? m = some meth := X.method'
  have hn : narrow .int (.int z) = .int z := rfl
  show Steps p.tables e below (T.setTop { method := m, pc := pc, locals := Ls, stack := _ :: rest, locked := none }) _
  jvm_step X.here [X.here.top, hx, hd, hm', hret, hn]
  first | (intro acts; rw [hl _ acts rfl rfl rfl]) | rw [hl _ _ rfl rfl rfl]
  exact Steps.refl _
end New
end Jvm.RoadKit
namespace Jvm.Pilot.@@N@@
open Jvm Jvm.ClassFile Sem Op Lib Jvm.Free Jvm.Stand Jvm.LawKit Jvm.RoadKit Bundle Jvm.Pilot.@@N@@.Jvm.D
def own_Goes (p : Program) (e : Env) (below : List Frame) (S : State) (K : State → Outcome → Prop) : Prop := ∃ s₂ o, Steps p.tables e below S s₂ ∧ s₂.status = .running ∧ Ended s₂ below o ∧ K s₂ o
theorem own_of {p : Program} {e : Env} {below : List Frame} {S S' : State} {K : State → Outcome → Prop} (k : ∀ t, Steps p.tables e below S' t → Steps p.tables e below S t) (h : own_Goes p e below S' K) : own_Goes p e below S K := by
  obtain ⟨t, o, h1, h2⟩ := h
  exact ⟨t, o, k t h1, h2⟩
theorem own_nameK {p : Program} {e : Env} {below : List Frame} {S : State} {K' : State → Outcome → Prop} (h : ∀ K, K = K' → own_Goes p e below S K) : own_Goes p e below S K' := h K' rfl
theorem own_nar {g : Int32} (h : g = (0 : Int32) ∨ g = (1 : Int32)) : nar .boolean g = g := by rcases h with rfl | rfl <;> rfl
theorem own_narV {g : Int32} (h : g = (0 : Int32) ∨ g = (1 : Int32)) : narrow .boolean (.int g) = .int g := by rcases h with rfl | rfl <;> rfl
theorem own_fitsZ {g : Int32} (h : g = (0 : Int32) ∨ g = (1 : Int32)) : fits .boolean (.int g) = true := by rcases h with rfl | rfl <;> rfl
theorem own_cat {v : Value} (h : v.isRef = true) : v.category = 1 := by
  rcases ref_cases h with rfl | ⟨a, rfl⟩ <;> rfl
theorem own_eqI {args : Array Value} {s : State} {t : Term} {k : Int32} (h : (Jvm.Cond.eq t (.int k)).value args s none s [] = some true) : t.eval args s none [] s = some (.int k) := by
  simp only [Cond.value, Term.eval] at h
  cases ht : t.eval args s none [] s with
  | none => simp [ht] at h
  | some x => cases x <;> simp [ht] at h ⊢; exact h
theorem own_eqL {args : Array Value} {s : State} {t : Term} {k : Int64} (h : (Jvm.Cond.eq t (.long k)).value args s none s [] = some true) : t.eval args s none [] s = some (.long k) := by
  simp only [Cond.value, Term.eval] at h
  cases ht : t.eval args s none [] s with
  | none => simp [ht] at h
  | some x => cases x <;> simp [ht] at h ⊢; exact h
def own_Ar (Z : State) (h : Heap) (a : Addr) (ty : FieldType) (n : Nat) (f : Nat → Value) : Prop := ∃ c : Cell, Arr Z h a c ty ∧ c.slots.size = n ∧ ∀ i, i < n → c.slots[i]? = some (f i)
section OwnArr
variable {Z : State} {h h' : Heap} {a b : Addr} {ty : FieldType} {n sl : Nat} {f : Nat → Value} {v : Value} {ws : List Addr}
theorem own_Ar.lt (F : own_Ar Z h a ty n f) : a < h.size := by obtain ⟨c, A, -⟩ := F; exact A.lt
theorem own_Ar.ext (F : own_Ar Z h a ty n f) (E : Ext h h') : own_Ar Z h' a ty n f := by obtain ⟨c, A, r⟩ := F; exact ⟨c, A.ext E, r⟩
theorem own_Ar.other (F : own_Ar Z h b ty n f) (W : Wr h h' a sl v) (q : b ≠ a) : own_Ar Z h' b ty n f := by obtain ⟨c, A, r⟩ := F; exact ⟨c, A.other W q, r⟩
theorem own_Ar.keep (F : own_Ar Z h a ty n f) (K : Keep h h' ws) (q : a ∉ ws) : own_Ar Z h' a ty n f := by obtain ⟨c, A, r⟩ := F; exact ⟨c, ⟨K.2.1 a c A.1 q, A.2⟩, r⟩
theorem own_Ar.new {k : ClassId} {z : Int32} (A : Arr Z h a (newA k ty z) ty) (q : ¬ z < 0) (e : z.toNatClampNeg = n) : own_Ar Z h a ty n (fun _ => defaultValue ty) := by
  obtain ⟨c, A', r1, r2, r3, H, G⟩ := Arv.new A q
  refine ⟨c, A', r2.trans e, fun i hi => ?_⟩
  rw [H i (by rw [r2, e]; exact hi)]
  simp
theorem own_Ar.upd {c : Cell} (A : Arr Z h a c ty) (S : c.slots.size = n) (H : ∀ i, i < n → c.slots[i]? = some (f i)) (hj : sl < n) (W : Wr h h' a sl v) : own_Ar Z h' a ty n (fun i => if i = sl then v else f i) := by
  refine ⟨_, A.same W, by simp [Cell.setSlot, S], fun i hi => ?_⟩
  by_cases q : i = sl
  · subst q
    simp [Cell.setSlot, S, hj]
  · simp only [q, if_false]
    rw [← H i hi]
    show (c.slots.setIfInBounds sl v)[i]? = _
    rw [Array.getElem?_setIfInBounds_ne (fun e => q e.symm)]
def own_nst (h : Heap) (x : Addr) : Prop := ∃ c : Cell, h[x]? = some c ∧ c.vm.isStatics = false
theorem own_nstE {C : String} (E : Exa Z h a C) : own_nst h a := by obtain ⟨c, _, h1, -, -, h4, -⟩ := E; exact ⟨c, h1, h4⟩
theorem own_nstA (F : own_Ar Z h a ty n f) : own_nst h a := by obtain ⟨c, A, -⟩ := F; exact ⟨c, A.1, A.plain⟩
theorem own_staK {C k d : String} (F : Sta Z h C k d v) (K : Keep h h' ws) (q : ∀ x ∈ ws, own_nst h x) : Sta Z h' C k d v := by
  obtain ⟨cf, i, k, fd, st, cell, h1, h2, h3, h4, h5, h6, h7⟩ := F
  refine ⟨cf, i, k, fd, st, cell, h1, h2, h3, h4, K.2.1 _ _ h5 fun hm => ?_, h6, h7⟩
  obtain ⟨c, e1, e2⟩ := q _ hm
  cases h5.symm.trans e1
  rw [h6] at e2; cases e2
theorem own_since0 {s : State} : s.Since s.vm 0 := (State.WarmedH.refl s).since 0
theorem own_inb {c : Cell} {j : Int32} (S : c.slots.size = n) (q : ¬ j < 0) (r : j.toNatClampNeg < n) : ¬ (j < 0 ∨ c.slots.size ≤ j.toNatClampNeg) := fun u => u.elim q (fun w => by omega)
end OwnArr
section OwnSteps
variable {p : Program} {l : Launch} {e : Env} {R : Room} {s : State} {m : MethodId} {args : Array Value} {below : List Frame} {meth : Method} {c : Code} {T : State} {locs : List Loc} {cells slots : Nat} {Z : State} {h : Heap}
theorem own_stI (X : Stand p l e R s m args below meth c T locs cells slots) (hx : p.tables.exec = Jvm.exec) (hZ : Z.Warmed39 s.vm) (eT : T.heap = h) {a : Addr} {n : Nat} {f : Nat → Value} (F : own_Ar Z h a .int n f) {j x : Int32} (q : ¬ j < 0) (r : j.toNatClampNeg < n) {g : JFrame} (hg : g.method = m) {rest : List Value} (hs : g.stack = .int x :: .int j :: .ref a :: rest) (hd : decode c.code g.pc = .ok (.iastore, 1)) :
    ∃ T' h', Stand p l e R s m args below meth c T' (locs ++ [⟨a, j.toNatClampNeg⟩]) cells slots ∧ T'.heap = h' ∧ Wr h h' a j.toNatClampNeg (.int x) ∧ own_Ar Z h' a .int n (fun i => if i = j.toNatClampNeg then .int x else f i) ∧ ∀ target, Steps p.tables e below (T'.setTop { g with pc := g.pc + 1, stack := rest }) target → Steps p.tables e below (T.setTop g) target := by
  obtain ⟨cl, A, S, H⟩ := F
  obtain ⟨T', h', X', e', W, st⟩ := stI X hx hZ eT A (j := j) (own_inb S q r) hg hs hd
  exact ⟨T', h', X', e', W, own_Ar.upd A S H r W, st⟩
theorem own_stB (X : Stand p l e R s m args below meth c T locs cells slots) (hx : p.tables.exec = Jvm.exec) (hZ : Z.Warmed39 s.vm) (eT : T.heap = h) {a : Addr} {n : Nat} {f : Nat → Value} (F : own_Ar Z h a .byte n f) {j x : Int32} (q : ¬ j < 0) (r : j.toNatClampNeg < n) {g : JFrame} (hg : g.method = m) {rest : List Value} (hs : g.stack = .int x :: .int j :: .ref a :: rest) (hd : decode c.code g.pc = .ok (.bastore, 1)) :
    ∃ T' h', Stand p l e R s m args below meth c T' (locs ++ [⟨a, j.toNatClampNeg⟩]) cells slots ∧ T'.heap = h' ∧ Wr h h' a j.toNatClampNeg (.int (nar .byte x)) ∧ own_Ar Z h' a .byte n (fun i => if i = j.toNatClampNeg then .int (nar .byte x) else f i) ∧ ∀ target, Steps p.tables e below (T'.setTop { g with pc := g.pc + 1, stack := rest }) target → Steps p.tables e below (T.setTop g) target := by
  obtain ⟨cl, A, S, H⟩ := F
  obtain ⟨T', h', X', e', W, st⟩ := stB X hx hZ eT A (j := j) (own_inb S q r) hg hs hd
  exact ⟨T', h', X', e', W, own_Ar.upd A S H r W, st⟩
theorem own_ldI (X : Stand p l e R s m args below meth c T locs cells slots) (hx : p.tables.exec = Jvm.exec) (hZ : Z.Warmed39 s.vm) (eT : T.heap = h) {a : Addr} {n : Nat} {f : Nat → Value} (F : own_Ar Z h a .int n f) {j y : Int32} (q : ¬ j < 0) (r : j.toNatClampNeg < n) (hy : f j.toNatClampNeg = .int y) {g : JFrame} (hg : g.method = m) {rest : List Value} (hs : g.stack = .int j :: .ref a :: rest) (hd : decode c.code g.pc = .ok (.iaload, 1)) (target : State) (k : Steps p.tables e below (T.setTop { g with pc := g.pc + 1, stack := .int y :: rest }) target) : Steps p.tables e below (T.setTop g) target := by
  obtain ⟨cl, A, S, H⟩ := F
  exact X.iaload hx (j := j) (v := .int y) (by rw [eT]; exact A.1) (State.isArrayOf_alike hZ.alike A.2.1) A.2.2 (own_inb S q r) (by rw [H _ r, hy]) hg hs hd _ k
theorem own_ldB (X : Stand p l e R s m args below meth c T locs cells slots) (hx : p.tables.exec = Jvm.exec) (hZ : Z.Warmed39 s.vm) (eT : T.heap = h) {a : Addr} {n : Nat} {f : Nat → Value} (F : own_Ar Z h a .byte n f) {j y : Int32} (q : ¬ j < 0) (r : j.toNatClampNeg < n) (hy : f j.toNatClampNeg = .int y) {g : JFrame} (hg : g.method = m) {rest : List Value} (hs : g.stack = .int j :: .ref a :: rest) (hd : decode c.code g.pc = .ok (.baload, 1)) (target : State) (k : Steps p.tables e below (T.setTop { g with pc := g.pc + 1, stack := .int y :: rest }) target) : Steps p.tables e below (T.setTop g) target := by
  obtain ⟨cl, A, S, H⟩ := F
  exact X.baloadBytes hx (j := j) (v := .int y) (by rw [eT]; exact A.1) (State.isArrayOf_alike hZ.alike A.2.1) A.2.2 (own_inb S q r) (by rw [H _ r, hy]) hg hs hd _ k
theorem own_ldA (X : Stand p l e R s m args below meth c T locs cells slots) (hx : p.tables.exec = Jvm.exec) (hZ : Z.Warmed39 s.vm) (eT : T.heap = h) {a : Addr} {n : Nat} {ty : FieldType} {f : Nat → Value} (F : own_Ar Z h a ty n f) (ht : ty.isReference = true) {j : Int32} {y : Value} (q : ¬ j < 0) (r : j.toNatClampNeg < n) (hy : f j.toNatClampNeg = y) {g : JFrame} (hg : g.method = m) {rest : List Value} (hs : g.stack = .int j :: .ref a :: rest) (hd : decode c.code g.pc = .ok (.aaload, 1)) (target : State) (k : Steps p.tables e below (T.setTop { g with pc := g.pc + 1, stack := y :: rest }) target) : Steps p.tables e below (T.setTop g) target := by
  obtain ⟨cl, A, S, H⟩ := F
  exact X.aaload hx (j := j) (v := y) (by rw [eT]; exact A.1) (State.isArrayOf_alike hZ.alike A.2.1) ht A.2.2 (own_inb S q r) (by rw [H _ r, hy]) hg hs hd _ k
theorem own_len (X : Stand p l e R s m args below meth c T locs cells slots) (hx : p.tables.exec = Jvm.exec) (hZ : Z.Warmed39 s.vm) (eT : T.heap = h) {a : Addr} {n : Nat} {ty : FieldType} {f : Nat → Value} (F : own_Ar Z h a ty n f) {z : Int32} (hz : n.toInt32 = z) {g : JFrame} (hg : g.method = m) {rest : List Value} (hs : g.stack = .ref a :: rest) (hd : decode c.code g.pc = .ok (.arraylength, 1)) (target : State) (k : Steps p.tables e below (T.setTop { g with pc := g.pc + 1, stack := .int z :: rest }) target) : Steps p.tables e below (T.setTop g) target := by
  obtain ⟨cl, A, S, H⟩ := F
  exact X.arraylength hx (by rw [eT]; exact A.1) (State.isArrayOf_alike hZ.alike A.2.1) hg hs hd _ (by rw [S, hz]; exact k)
end OwnSteps
def own_code (k : Int32) : Int32 := if k = (0 : Int32) then 0 else if k = (1 : Int32) then 2 else if k = (2 : Int32) then 4 else if k = (3 : Int32) then 5 else if k = (4 : Int32) then 6 else if k = (5 : Int32) then 7 else if k = (6 : Int32) then 12 else if k = (7 : Int32) then 16 else if k = (8 : Int32) then 17 else if k = (9 : Int32) then 18 else if k = (10 : Int32) then 21 else if k = (11 : Int32) then 32 else if k = (12 : Int32) then 34 else if k = (13 : Int32) then 49 else 53
def own_is (a b : Int32) : Int32 := if a = b then 1 else 0
theorem own_d1 {a b : Int32} (h1 : a = b) (h2 : ¬ own_is a b = (1 : Int32)) : False := h2 (if_pos h1)
theorem own_d0 {a b : Int32} (h1 : ¬ a = b) (h2 : ¬ own_is a b = (0 : Int32)) : False := h2 (if_neg h1)
theorem own_r15 (p : Int32) : ∃ i : Fin 15, ((p &&& (2147483647 : Int32)) % (15 : Int32)) = Int32.ofNat i.1 := by
  have h1 := c_and p (2147483647 : Int32) (by decide)
  have h2 := c_irem (p &&& (2147483647 : Int32)) (15 : Int32) 15 (by decide)
  generalize (p &&& (2147483647 : Int32)) = x at h1 h2 ⊢
  have h3 := h2.1 h1.1
  have r : (x % (15 : Int32)).toInt = 0 ∨ (x % (15 : Int32)).toInt = 1 ∨ (x % (15 : Int32)).toInt = 2 ∨ (x % (15 : Int32)).toInt = 3 ∨ (x % (15 : Int32)).toInt = 4 ∨ (x % (15 : Int32)).toInt = 5 ∨ (x % (15 : Int32)).toInt = 6 ∨ (x % (15 : Int32)).toInt = 7 ∨ (x % (15 : Int32)).toInt = 8 ∨ (x % (15 : Int32)).toInt = 9 ∨ (x % (15 : Int32)).toInt = 10 ∨ (x % (15 : Int32)).toInt = 11 ∨ (x % (15 : Int32)).toInt = 12 ∨ (x % (15 : Int32)).toInt = 13 ∨ (x % (15 : Int32)).toInt = 14 := by omega
  rcases r with r | r | r | r | r | r | r | r | r | r | r | r | r | r | r
  · exact ⟨0, Int32.toInt_inj.mp (r.trans (by decide))⟩
  · exact ⟨1, Int32.toInt_inj.mp (r.trans (by decide))⟩
  · exact ⟨2, Int32.toInt_inj.mp (r.trans (by decide))⟩
  · exact ⟨3, Int32.toInt_inj.mp (r.trans (by decide))⟩
  · exact ⟨4, Int32.toInt_inj.mp (r.trans (by decide))⟩
  · exact ⟨5, Int32.toInt_inj.mp (r.trans (by decide))⟩
  · exact ⟨6, Int32.toInt_inj.mp (r.trans (by decide))⟩
  · exact ⟨7, Int32.toInt_inj.mp (r.trans (by decide))⟩
  · exact ⟨8, Int32.toInt_inj.mp (r.trans (by decide))⟩
  · exact ⟨9, Int32.toInt_inj.mp (r.trans (by decide))⟩
  · exact ⟨10, Int32.toInt_inj.mp (r.trans (by decide))⟩
  · exact ⟨11, Int32.toInt_inj.mp (r.trans (by decide))⟩
  · exact ⟨12, Int32.toInt_inj.mp (r.trans (by decide))⟩
  · exact ⟨13, Int32.toInt_inj.mp (r.trans (by decide))⟩
  · exact ⟨14, Int32.toInt_inj.mp (r.trans (by decide))⟩
theorem own_inj : ∀ i j : Fin 15, own_code (Int32.ofNat i.1) = own_code (Int32.ofNat j.1) → Int32.ofNat i.1 = Int32.ofNat j.1 := by decide +kernel
theorem own_dx1 {p q : Int32} (h1 : ((p &&& (2147483647 : Int32)) % (15 : Int32)) = ((q &&& (2147483647 : Int32)) % (15 : Int32))) (h2 : ¬ own_is (own_code ((p &&& (2147483647 : Int32)) % (15 : Int32))) (own_code ((q &&& (2147483647 : Int32)) % (15 : Int32))) = (1 : Int32)) : False := own_d1 (congrArg own_code h1) h2
theorem own_dx0 {p q : Int32} (h1 : ¬ ((p &&& (2147483647 : Int32)) % (15 : Int32)) = ((q &&& (2147483647 : Int32)) % (15 : Int32))) (h2 : ¬ own_is (own_code ((p &&& (2147483647 : Int32)) % (15 : Int32))) (own_code ((q &&& (2147483647 : Int32)) % (15 : Int32))) = (0 : Int32)) : False := by
  refine own_d0 (fun e => h1 ?_) h2
  obtain ⟨i, hi⟩ := own_r15 p
  obtain ⟨j, hj⟩ := own_r15 q
  rw [hi, hj] at e ⊢
  exact own_inj i j e
theorem own_strW (a0 : Array Value) (Z : State) (hw : ∀ d ∈ tables_1, d.before a0 Z = true) : ∀ a ∈ Bundle.stringAtoms, a.before a0 Z = true := by
  intro a ha
  simp only [Bundle.stringAtoms, List.mem_cons, List.not_mem_nil, or_false] at ha
  rcases ha with rfl | rfl | rfl | rfl | rfl | rfl | rfl
  · exact hw _ (List.mem_of_getElem? (i := 5) rfl)
  · exact hw _ (List.mem_of_getElem? (i := 6) rfl)
  · exact hw _ (List.mem_of_getElem? (i := 7) rfl)
  · exact hw _ (List.mem_of_getElem? (i := 8) rfl)
  · exact hw _ (List.mem_of_getElem? (i := 9) rfl)
  · exact hw _ (List.mem_of_getElem? (i := 10) rfl)
  · exact hw _ (List.mem_of_getElem? (i := 11) rfl)
theorem d7_0 : decode method_4_code 0 = .ok (.iload_n 0, 1) := by decide +kernel
theorem d7_1 : decode method_4_code 1 = .ok (.ifCond .ne 5, 3) := by decide +kernel
theorem d7_4 : decode method_4_code 4 = .ok (.iconst 0, 1) := by decide +kernel
theorem d7_5 : decode method_4_code 5 = .ok (.ireturn, 1) := by decide +kernel
theorem d7_6 : decode method_4_code 6 = .ok (.iload_n 0, 1) := by decide +kernel
theorem d7_7 : decode method_4_code 7 = .ok (.iconst 1, 1) := by decide +kernel
theorem d7_8 : decode method_4_code 8 = .ok (.if_icmp .ne 5, 3) := by decide +kernel
theorem d7_11 : decode method_4_code 11 = .ok (.iconst 2, 1) := by decide +kernel
theorem d7_12 : decode method_4_code 12 = .ok (.ireturn, 1) := by decide +kernel
theorem d7_13 : decode method_4_code 13 = .ok (.iload_n 0, 1) := by decide +kernel
theorem d7_14 : decode method_4_code 14 = .ok (.iconst 2, 1) := by decide +kernel
theorem d7_15 : decode method_4_code 15 = .ok (.if_icmp .ne 5, 3) := by decide +kernel
theorem d7_18 : decode method_4_code 18 = .ok (.iconst 4, 1) := by decide +kernel
theorem d7_19 : decode method_4_code 19 = .ok (.ireturn, 1) := by decide +kernel
theorem d7_20 : decode method_4_code 20 = .ok (.iload_n 0, 1) := by decide +kernel
theorem d7_21 : decode method_4_code 21 = .ok (.iconst 3, 1) := by decide +kernel
theorem d7_22 : decode method_4_code 22 = .ok (.if_icmp .ne 5, 3) := by decide +kernel
theorem d7_25 : decode method_4_code 25 = .ok (.iconst 5, 1) := by decide +kernel
theorem d7_26 : decode method_4_code 26 = .ok (.ireturn, 1) := by decide +kernel
theorem d7_27 : decode method_4_code 27 = .ok (.iload_n 0, 1) := by decide +kernel
theorem d7_28 : decode method_4_code 28 = .ok (.iconst 4, 1) := by decide +kernel
theorem d7_29 : decode method_4_code 29 = .ok (.if_icmp .ne 6, 3) := by decide +kernel
theorem d7_32 : decode method_4_code 32 = .ok (.bipush 6, 2) := by decide +kernel
theorem d7_34 : decode method_4_code 34 = .ok (.ireturn, 1) := by decide +kernel
theorem d7_35 : decode method_4_code 35 = .ok (.iload_n 0, 1) := by decide +kernel
theorem d7_36 : decode method_4_code 36 = .ok (.iconst 5, 1) := by decide +kernel
theorem d7_37 : decode method_4_code 37 = .ok (.if_icmp .ne 6, 3) := by decide +kernel
theorem d7_40 : decode method_4_code 40 = .ok (.bipush 7, 2) := by decide +kernel
theorem d7_42 : decode method_4_code 42 = .ok (.ireturn, 1) := by decide +kernel
theorem d7_43 : decode method_4_code 43 = .ok (.iload_n 0, 1) := by decide +kernel
theorem d7_44 : decode method_4_code 44 = .ok (.bipush 6, 2) := by decide +kernel
theorem d7_46 : decode method_4_code 46 = .ok (.if_icmp .ne 6, 3) := by decide +kernel
theorem d7_49 : decode method_4_code 49 = .ok (.bipush 12, 2) := by decide +kernel
theorem d7_51 : decode method_4_code 51 = .ok (.ireturn, 1) := by decide +kernel
theorem d7_52 : decode method_4_code 52 = .ok (.iload_n 0, 1) := by decide +kernel
theorem d7_53 : decode method_4_code 53 = .ok (.bipush 7, 2) := by decide +kernel
theorem d7_55 : decode method_4_code 55 = .ok (.if_icmp .ne 6, 3) := by decide +kernel
theorem d7_58 : decode method_4_code 58 = .ok (.bipush 16, 2) := by decide +kernel
theorem d7_60 : decode method_4_code 60 = .ok (.ireturn, 1) := by decide +kernel
theorem d7_61 : decode method_4_code 61 = .ok (.iload_n 0, 1) := by decide +kernel
theorem d7_62 : decode method_4_code 62 = .ok (.bipush 8, 2) := by decide +kernel
theorem d7_64 : decode method_4_code 64 = .ok (.if_icmp .ne 6, 3) := by decide +kernel
theorem d7_67 : decode method_4_code 67 = .ok (.bipush 17, 2) := by decide +kernel
theorem d7_69 : decode method_4_code 69 = .ok (.ireturn, 1) := by decide +kernel
theorem d7_70 : decode method_4_code 70 = .ok (.iload_n 0, 1) := by decide +kernel
theorem d7_71 : decode method_4_code 71 = .ok (.bipush 9, 2) := by decide +kernel
theorem d7_73 : decode method_4_code 73 = .ok (.if_icmp .ne 6, 3) := by decide +kernel
theorem d7_76 : decode method_4_code 76 = .ok (.bipush 18, 2) := by decide +kernel
theorem d7_78 : decode method_4_code 78 = .ok (.ireturn, 1) := by decide +kernel
theorem d7_79 : decode method_4_code 79 = .ok (.iload_n 0, 1) := by decide +kernel
theorem d7_80 : decode method_4_code 80 = .ok (.bipush 10, 2) := by decide +kernel
theorem d7_82 : decode method_4_code 82 = .ok (.if_icmp .ne 6, 3) := by decide +kernel
theorem d7_85 : decode method_4_code 85 = .ok (.bipush 21, 2) := by decide +kernel
theorem d7_87 : decode method_4_code 87 = .ok (.ireturn, 1) := by decide +kernel
theorem d7_88 : decode method_4_code 88 = .ok (.iload_n 0, 1) := by decide +kernel
theorem d7_89 : decode method_4_code 89 = .ok (.bipush 11, 2) := by decide +kernel
theorem d7_91 : decode method_4_code 91 = .ok (.if_icmp .ne 6, 3) := by decide +kernel
theorem d7_94 : decode method_4_code 94 = .ok (.bipush 32, 2) := by decide +kernel
theorem d7_96 : decode method_4_code 96 = .ok (.ireturn, 1) := by decide +kernel
theorem d7_97 : decode method_4_code 97 = .ok (.iload_n 0, 1) := by decide +kernel
theorem d7_98 : decode method_4_code 98 = .ok (.bipush 12, 2) := by decide +kernel
theorem d7_100 : decode method_4_code 100 = .ok (.if_icmp .ne 6, 3) := by decide +kernel
theorem d7_103 : decode method_4_code 103 = .ok (.bipush 34, 2) := by decide +kernel
theorem d7_105 : decode method_4_code 105 = .ok (.ireturn, 1) := by decide +kernel
theorem d7_106 : decode method_4_code 106 = .ok (.iload_n 0, 1) := by decide +kernel
theorem d7_107 : decode method_4_code 107 = .ok (.bipush 13, 2) := by decide +kernel
theorem d7_109 : decode method_4_code 109 = .ok (.if_icmp .ne 6, 3) := by decide +kernel
theorem d7_112 : decode method_4_code 112 = .ok (.bipush 49, 2) := by decide +kernel
theorem d7_114 : decode method_4_code 114 = .ok (.ireturn, 1) := by decide +kernel
theorem d7_115 : decode method_4_code 115 = .ok (.bipush 53, 2) := by decide +kernel
theorem d7_117 : decode method_4_code 117 = .ok (.ireturn, 1) := by decide +kernel
theorem pn_7 : plainName "com/example/waypost/waypost/ldap/ResultIsPinLaw" = true := by first | (simp [plainName, overriddenIn]; done) | decide +kernel
theorem ef_7 (m : MethodId) (p1 : Int32) : entryFrame m #[(.int p1)] 1 = mkF m 0 #[.val (.int p1)] [] := by first | (simp [entryFrame, mkF, argsToLocals, Value.category]; done) | rfl
def Q7 (Z : State) (p1 : Int32) (h0 : Heap) (n0 : Nat) (v : Option Value) (h : Heap) (L : List Loc) : Prop := (v = some (.int (own_code p1))) ∧ (Fr n0 L) ∧ (h = h0)
set_option maxRecDepth 65536 in
set_option maxHeartbeats 40000000 in
theorem rm7 (l : Launch) (Z : State) (a0 : Array Value) (hw : ∀ d ∈ tables_1, d.before a0 Z = true) (ws : List Jvm.Cond) (p1 : Int32) (h0 : Heap) (n0 : Nat) (Z0 : n0 ≤ h0.size) :
    MetFree l (⟨"com/example/waypost/waypost/ldap/ResultIsPinLaw", "code", "(I)I"⟩ : MethodName) (head1 (Jvm.Cond.code (⟨"com/example/waypost/waypost/ldap/ResultIsPinLaw", "code", "(I)I"⟩ : MethodName) method_4_code 1 (some .int) :: ws) ({ frames := 0, cells := 0, slots := 0, locals := 0 } : Room)) (fun a U => a = #[(.int p1)] ∧ Z.Warmed39 U.vm ∧ U.heap = h0) (fun _ _ _ _ _ => True) (fun _ U o U' => ∃ v L, o = .returned v ∧ Q7 Z p1 h0 n0 v U'.heap L ∧ FrameEnd U o U' L ({ frames := 0, cells := 0, slots := 0, locals := 0 } : Room).cells ({ frames := 0, cells := 0, slots := 0, locals := 0 } : Room).slots) := by
  refine MetFree.of_bodySF (plainFor_of_name pn_7) hisR ?_
  intro p e s m args below meth c s₁ Bd hml0 hP hK
  obtain ⟨rfl, hZ, hh⟩ := hP
  have hx := Bd.exec
  have hby := Bd.bytes
  have hml : c.maxLocals = 1 := hml0
  have hown : s.vm.findClass "com/example/waypost/waypost/ldap/ResultIsPinLaw" = some m.cls := findClass_of_methodNamed Bd.named
  have hnm := (name_of_methodNamed Bd.named Bd.method).1
  have X0 : Stand p l e ({ frames := 0, cells := 0, slots := 0, locals := 0 } : Room) s m #[(.int p1)] below meth c s₁ [] 0 0 := Stand.of_body Bd
  have e0 : s₁.heap = h0 := by rw [← hh, Bd.state]; rfl
  have N0 := Fr.nil n0
  refine own_of (S := s₁.setTop (entryFrame m #[(.int p1)] 1)) (S' := s₁.setTop (mkF m 0 #[.val (.int p1)] [])) (K := fun s₂ o => ∃ v L, o = .returned v ∧ Q7 Z p1 h0 n0 v s₂.heap L ∧ FrameEnd s o s₂ L ({ frames := 0, cells := 0, slots := 0, locals := 0 } : Room).cells ({ frames := 0, cells := 0, slots := 0, locals := 0 } : Room).slots) (fun t k => castTop (ef_7 m p1) k) ?_
  refine own_nameK fun K hKd => ?_
  refine own_of (S' := s₁.setTop (mkF m 1 #[.val (.int p1)] [(.int p1)])) (fun t k => XS.iloadN X0.here hx rfl (hb hby d7_0) rfl k) ?_
  by_cases hc1_1 : p1 = (0 : Int32)
  · refine own_of (S' := s₁.setTop (mkF m 4 #[.val (.int p1)] [])) (fun t k => XS.ifNo X0.here hx rfl (hb hby d7_1) rfl ((if0 _ _).trans (teq hc1_1).2) k) ?_
    refine own_of (S' := s₁.setTop (mkF m 5 #[.val (.int p1)] [(.int (0 : Int32))])) (fun t k => XS.iconst X0.here hx rfl (hb hby d7_4) k) ?_
    obtain ⟨fs, hr, hrun, hended, hW, hsame⟩ := X0.leave (v := some (.int (0 : Int32))) (fun h => by rw [Bd.returns] at h; cases h)
    subst hKd
    exact ⟨_, _, retI X0 hx Bd.returns (hb hby d7_5) hr, hrun, hended, _, _, rfl, (by
      show Q7 Z p1 h0 n0 _ s₁.heap _
      rw [show s₁.heap = h0 from e0]
      exact ⟨(by rw [own_code, if_pos hc1_1]), N0, rfl⟩), ⟨_, rfl⟩, hW, hsame.mono (by decide) (by decide)⟩
  refine own_of (S' := s₁.setTop (mkF m 6 #[.val (.int p1)] [])) (fun t k => XS.ifYes X0.here hx rfl (pc0 := 1) (pc' := 6) rfl (hb hby d7_1) rfl ((if0 _ _).trans (feq hc1_1).2) (by decide) (by decide) k) ?_
  refine own_of (S' := s₁.setTop (mkF m 7 #[.val (.int p1)] [(.int p1)])) (fun t k => XS.iloadN X0.here hx rfl (hb hby d7_6) rfl k) ?_
  refine own_of (S' := s₁.setTop (mkF m 8 #[.val (.int p1)] [(.int (1 : Int32)), (.int p1)])) (fun t k => XS.iconst X0.here hx rfl (hb hby d7_7) k) ?_
  by_cases hc8_2 : p1 = (1 : Int32)
  · refine own_of (S' := s₁.setTop (mkF m 11 #[.val (.int p1)] [])) (fun t k => XS.icmpNo X0.here hx rfl (hb hby d7_8) rfl (teq hc8_2).2 k) ?_
    refine own_of (S' := s₁.setTop (mkF m 12 #[.val (.int p1)] [(.int (2 : Int32))])) (fun t k => XS.iconst X0.here hx rfl (hb hby d7_11) k) ?_
    obtain ⟨fs, hr, hrun, hended, hW, hsame⟩ := X0.leave (v := some (.int (2 : Int32))) (fun h => by rw [Bd.returns] at h; cases h)
    subst hKd
    exact ⟨_, _, retI X0 hx Bd.returns (hb hby d7_12) hr, hrun, hended, _, _, rfl, (by
      show Q7 Z p1 h0 n0 _ s₁.heap _
      rw [show s₁.heap = h0 from e0]
      exact ⟨(by rw [own_code, if_neg hc1_1, if_pos hc8_2]), N0, rfl⟩), ⟨_, rfl⟩, hW, hsame.mono (by decide) (by decide)⟩
  refine own_of (S' := s₁.setTop (mkF m 13 #[.val (.int p1)] [])) (fun t k => XS.icmpYes X0.here hx rfl (pc0 := 8) (pc' := 13) rfl (hb hby d7_8) rfl (feq hc8_2).2 (by decide) (by decide) k) ?_
  refine own_of (S' := s₁.setTop (mkF m 14 #[.val (.int p1)] [(.int p1)])) (fun t k => XS.iloadN X0.here hx rfl (hb hby d7_13) rfl k) ?_
  refine own_of (S' := s₁.setTop (mkF m 15 #[.val (.int p1)] [(.int (2 : Int32)), (.int p1)])) (fun t k => XS.iconst X0.here hx rfl (hb hby d7_14) k) ?_
  by_cases hc15_3 : p1 = (2 : Int32)
  · refine own_of (S' := s₁.setTop (mkF m 18 #[.val (.int p1)] [])) (fun t k => XS.icmpNo X0.here hx rfl (hb hby d7_15) rfl (teq hc15_3).2 k) ?_
    refine own_of (S' := s₁.setTop (mkF m 19 #[.val (.int p1)] [(.int (4 : Int32))])) (fun t k => XS.iconst X0.here hx rfl (hb hby d7_18) k) ?_
    obtain ⟨fs, hr, hrun, hended, hW, hsame⟩ := X0.leave (v := some (.int (4 : Int32))) (fun h => by rw [Bd.returns] at h; cases h)
    subst hKd
    exact ⟨_, _, retI X0 hx Bd.returns (hb hby d7_19) hr, hrun, hended, _, _, rfl, (by
      show Q7 Z p1 h0 n0 _ s₁.heap _
      rw [show s₁.heap = h0 from e0]
      exact ⟨(by rw [own_code, if_neg hc1_1, if_neg hc8_2, if_pos hc15_3]), N0, rfl⟩), ⟨_, rfl⟩, hW, hsame.mono (by decide) (by decide)⟩
  refine own_of (S' := s₁.setTop (mkF m 20 #[.val (.int p1)] [])) (fun t k => XS.icmpYes X0.here hx rfl (pc0 := 15) (pc' := 20) rfl (hb hby d7_15) rfl (feq hc15_3).2 (by decide) (by decide) k) ?_
  refine own_of (S' := s₁.setTop (mkF m 21 #[.val (.int p1)] [(.int p1)])) (fun t k => XS.iloadN X0.here hx rfl (hb hby d7_20) rfl k) ?_
  refine own_of (S' := s₁.setTop (mkF m 22 #[.val (.int p1)] [(.int (3 : Int32)), (.int p1)])) (fun t k => XS.iconst X0.here hx rfl (hb hby d7_21) k) ?_
  by_cases hc22_4 : p1 = (3 : Int32)
  · refine own_of (S' := s₁.setTop (mkF m 25 #[.val (.int p1)] [])) (fun t k => XS.icmpNo X0.here hx rfl (hb hby d7_22) rfl (teq hc22_4).2 k) ?_
    refine own_of (S' := s₁.setTop (mkF m 26 #[.val (.int p1)] [(.int (5 : Int32))])) (fun t k => XS.iconst X0.here hx rfl (hb hby d7_25) k) ?_
    obtain ⟨fs, hr, hrun, hended, hW, hsame⟩ := X0.leave (v := some (.int (5 : Int32))) (fun h => by rw [Bd.returns] at h; cases h)
    subst hKd
    exact ⟨_, _, retI X0 hx Bd.returns (hb hby d7_26) hr, hrun, hended, _, _, rfl, (by
      show Q7 Z p1 h0 n0 _ s₁.heap _
      rw [show s₁.heap = h0 from e0]
      exact ⟨(by rw [own_code, if_neg hc1_1, if_neg hc8_2, if_neg hc15_3, if_pos hc22_4]), N0, rfl⟩), ⟨_, rfl⟩, hW, hsame.mono (by decide) (by decide)⟩
  refine own_of (S' := s₁.setTop (mkF m 27 #[.val (.int p1)] [])) (fun t k => XS.icmpYes X0.here hx rfl (pc0 := 22) (pc' := 27) rfl (hb hby d7_22) rfl (feq hc22_4).2 (by decide) (by decide) k) ?_
  refine own_of (S' := s₁.setTop (mkF m 28 #[.val (.int p1)] [(.int p1)])) (fun t k => XS.iloadN X0.here hx rfl (hb hby d7_27) rfl k) ?_
  refine own_of (S' := s₁.setTop (mkF m 29 #[.val (.int p1)] [(.int (4 : Int32)), (.int p1)])) (fun t k => XS.iconst X0.here hx rfl (hb hby d7_28) k) ?_
  by_cases hc29_5 : p1 = (4 : Int32)
  · refine own_of (S' := s₁.setTop (mkF m 32 #[.val (.int p1)] [])) (fun t k => XS.icmpNo X0.here hx rfl (hb hby d7_29) rfl (teq hc29_5).2 k) ?_
    refine own_of (S' := s₁.setTop (mkF m 34 #[.val (.int p1)] [(.int (6 : Int32))])) (fun t k => XS.bipush X0.here hx rfl (hb hby d7_32) k) ?_
    obtain ⟨fs, hr, hrun, hended, hW, hsame⟩ := X0.leave (v := some (.int (6 : Int32))) (fun h => by rw [Bd.returns] at h; cases h)
    subst hKd
    exact ⟨_, _, retI X0 hx Bd.returns (hb hby d7_34) hr, hrun, hended, _, _, rfl, (by
      show Q7 Z p1 h0 n0 _ s₁.heap _
      rw [show s₁.heap = h0 from e0]
      exact ⟨(by rw [own_code, if_neg hc1_1, if_neg hc8_2, if_neg hc15_3, if_neg hc22_4, if_pos hc29_5]), N0, rfl⟩), ⟨_, rfl⟩, hW, hsame.mono (by decide) (by decide)⟩
  refine own_of (S' := s₁.setTop (mkF m 35 #[.val (.int p1)] [])) (fun t k => XS.icmpYes X0.here hx rfl (pc0 := 29) (pc' := 35) rfl (hb hby d7_29) rfl (feq hc29_5).2 (by decide) (by decide) k) ?_
  refine own_of (S' := s₁.setTop (mkF m 36 #[.val (.int p1)] [(.int p1)])) (fun t k => XS.iloadN X0.here hx rfl (hb hby d7_35) rfl k) ?_
  refine own_of (S' := s₁.setTop (mkF m 37 #[.val (.int p1)] [(.int (5 : Int32)), (.int p1)])) (fun t k => XS.iconst X0.here hx rfl (hb hby d7_36) k) ?_
  by_cases hc37_6 : p1 = (5 : Int32)
  · refine own_of (S' := s₁.setTop (mkF m 40 #[.val (.int p1)] [])) (fun t k => XS.icmpNo X0.here hx rfl (hb hby d7_37) rfl (teq hc37_6).2 k) ?_
    refine own_of (S' := s₁.setTop (mkF m 42 #[.val (.int p1)] [(.int (7 : Int32))])) (fun t k => XS.bipush X0.here hx rfl (hb hby d7_40) k) ?_
    obtain ⟨fs, hr, hrun, hended, hW, hsame⟩ := X0.leave (v := some (.int (7 : Int32))) (fun h => by rw [Bd.returns] at h; cases h)
    subst hKd
    exact ⟨_, _, retI X0 hx Bd.returns (hb hby d7_42) hr, hrun, hended, _, _, rfl, (by
      show Q7 Z p1 h0 n0 _ s₁.heap _
      rw [show s₁.heap = h0 from e0]
      exact ⟨(by rw [own_code, if_neg hc1_1, if_neg hc8_2, if_neg hc15_3, if_neg hc22_4, if_neg hc29_5, if_pos hc37_6]), N0, rfl⟩), ⟨_, rfl⟩, hW, hsame.mono (by decide) (by decide)⟩
  refine own_of (S' := s₁.setTop (mkF m 43 #[.val (.int p1)] [])) (fun t k => XS.icmpYes X0.here hx rfl (pc0 := 37) (pc' := 43) rfl (hb hby d7_37) rfl (feq hc37_6).2 (by decide) (by decide) k) ?_
  refine own_of (S' := s₁.setTop (mkF m 44 #[.val (.int p1)] [(.int p1)])) (fun t k => XS.iloadN X0.here hx rfl (hb hby d7_43) rfl k) ?_
  refine own_of (S' := s₁.setTop (mkF m 46 #[.val (.int p1)] [(.int (6 : Int32)), (.int p1)])) (fun t k => XS.bipush X0.here hx rfl (hb hby d7_44) k) ?_
  by_cases hc46_7 : p1 = (6 : Int32)
  · refine own_of (S' := s₁.setTop (mkF m 49 #[.val (.int p1)] [])) (fun t k => XS.icmpNo X0.here hx rfl (hb hby d7_46) rfl (teq hc46_7).2 k) ?_
    refine own_of (S' := s₁.setTop (mkF m 51 #[.val (.int p1)] [(.int (12 : Int32))])) (fun t k => XS.bipush X0.here hx rfl (hb hby d7_49) k) ?_
    obtain ⟨fs, hr, hrun, hended, hW, hsame⟩ := X0.leave (v := some (.int (12 : Int32))) (fun h => by rw [Bd.returns] at h; cases h)
    subst hKd
    exact ⟨_, _, retI X0 hx Bd.returns (hb hby d7_51) hr, hrun, hended, _, _, rfl, (by
      show Q7 Z p1 h0 n0 _ s₁.heap _
      rw [show s₁.heap = h0 from e0]
      exact ⟨(by rw [own_code, if_neg hc1_1, if_neg hc8_2, if_neg hc15_3, if_neg hc22_4, if_neg hc29_5, if_neg hc37_6, if_pos hc46_7]), N0, rfl⟩), ⟨_, rfl⟩, hW, hsame.mono (by decide) (by decide)⟩
  refine own_of (S' := s₁.setTop (mkF m 52 #[.val (.int p1)] [])) (fun t k => XS.icmpYes X0.here hx rfl (pc0 := 46) (pc' := 52) rfl (hb hby d7_46) rfl (feq hc46_7).2 (by decide) (by decide) k) ?_
  refine own_of (S' := s₁.setTop (mkF m 53 #[.val (.int p1)] [(.int p1)])) (fun t k => XS.iloadN X0.here hx rfl (hb hby d7_52) rfl k) ?_
  refine own_of (S' := s₁.setTop (mkF m 55 #[.val (.int p1)] [(.int (7 : Int32)), (.int p1)])) (fun t k => XS.bipush X0.here hx rfl (hb hby d7_53) k) ?_
  by_cases hc55_8 : p1 = (7 : Int32)
  · refine own_of (S' := s₁.setTop (mkF m 58 #[.val (.int p1)] [])) (fun t k => XS.icmpNo X0.here hx rfl (hb hby d7_55) rfl (teq hc55_8).2 k) ?_
    refine own_of (S' := s₁.setTop (mkF m 60 #[.val (.int p1)] [(.int (16 : Int32))])) (fun t k => XS.bipush X0.here hx rfl (hb hby d7_58) k) ?_
    obtain ⟨fs, hr, hrun, hended, hW, hsame⟩ := X0.leave (v := some (.int (16 : Int32))) (fun h => by rw [Bd.returns] at h; cases h)
    subst hKd
    exact ⟨_, _, retI X0 hx Bd.returns (hb hby d7_60) hr, hrun, hended, _, _, rfl, (by
      show Q7 Z p1 h0 n0 _ s₁.heap _
      rw [show s₁.heap = h0 from e0]
      exact ⟨(by rw [own_code, if_neg hc1_1, if_neg hc8_2, if_neg hc15_3, if_neg hc22_4, if_neg hc29_5, if_neg hc37_6, if_neg hc46_7, if_pos hc55_8]), N0, rfl⟩), ⟨_, rfl⟩, hW, hsame.mono (by decide) (by decide)⟩
  refine own_of (S' := s₁.setTop (mkF m 61 #[.val (.int p1)] [])) (fun t k => XS.icmpYes X0.here hx rfl (pc0 := 55) (pc' := 61) rfl (hb hby d7_55) rfl (feq hc55_8).2 (by decide) (by decide) k) ?_
  refine own_of (S' := s₁.setTop (mkF m 62 #[.val (.int p1)] [(.int p1)])) (fun t k => XS.iloadN X0.here hx rfl (hb hby d7_61) rfl k) ?_
  refine own_of (S' := s₁.setTop (mkF m 64 #[.val (.int p1)] [(.int (8 : Int32)), (.int p1)])) (fun t k => XS.bipush X0.here hx rfl (hb hby d7_62) k) ?_
  by_cases hc64_9 : p1 = (8 : Int32)
  · refine own_of (S' := s₁.setTop (mkF m 67 #[.val (.int p1)] [])) (fun t k => XS.icmpNo X0.here hx rfl (hb hby d7_64) rfl (teq hc64_9).2 k) ?_
    refine own_of (S' := s₁.setTop (mkF m 69 #[.val (.int p1)] [(.int (17 : Int32))])) (fun t k => XS.bipush X0.here hx rfl (hb hby d7_67) k) ?_
    obtain ⟨fs, hr, hrun, hended, hW, hsame⟩ := X0.leave (v := some (.int (17 : Int32))) (fun h => by rw [Bd.returns] at h; cases h)
    subst hKd
    exact ⟨_, _, retI X0 hx Bd.returns (hb hby d7_69) hr, hrun, hended, _, _, rfl, (by
      show Q7 Z p1 h0 n0 _ s₁.heap _
      rw [show s₁.heap = h0 from e0]
      exact ⟨(by rw [own_code, if_neg hc1_1, if_neg hc8_2, if_neg hc15_3, if_neg hc22_4, if_neg hc29_5, if_neg hc37_6, if_neg hc46_7, if_neg hc55_8, if_pos hc64_9]), N0, rfl⟩), ⟨_, rfl⟩, hW, hsame.mono (by decide) (by decide)⟩
  refine own_of (S' := s₁.setTop (mkF m 70 #[.val (.int p1)] [])) (fun t k => XS.icmpYes X0.here hx rfl (pc0 := 64) (pc' := 70) rfl (hb hby d7_64) rfl (feq hc64_9).2 (by decide) (by decide) k) ?_
  refine own_of (S' := s₁.setTop (mkF m 71 #[.val (.int p1)] [(.int p1)])) (fun t k => XS.iloadN X0.here hx rfl (hb hby d7_70) rfl k) ?_
  refine own_of (S' := s₁.setTop (mkF m 73 #[.val (.int p1)] [(.int (9 : Int32)), (.int p1)])) (fun t k => XS.bipush X0.here hx rfl (hb hby d7_71) k) ?_
  by_cases hc73_10 : p1 = (9 : Int32)
  · refine own_of (S' := s₁.setTop (mkF m 76 #[.val (.int p1)] [])) (fun t k => XS.icmpNo X0.here hx rfl (hb hby d7_73) rfl (teq hc73_10).2 k) ?_
    refine own_of (S' := s₁.setTop (mkF m 78 #[.val (.int p1)] [(.int (18 : Int32))])) (fun t k => XS.bipush X0.here hx rfl (hb hby d7_76) k) ?_
    obtain ⟨fs, hr, hrun, hended, hW, hsame⟩ := X0.leave (v := some (.int (18 : Int32))) (fun h => by rw [Bd.returns] at h; cases h)
    subst hKd
    exact ⟨_, _, retI X0 hx Bd.returns (hb hby d7_78) hr, hrun, hended, _, _, rfl, (by
      show Q7 Z p1 h0 n0 _ s₁.heap _
      rw [show s₁.heap = h0 from e0]
      exact ⟨(by rw [own_code, if_neg hc1_1, if_neg hc8_2, if_neg hc15_3, if_neg hc22_4, if_neg hc29_5, if_neg hc37_6, if_neg hc46_7, if_neg hc55_8, if_neg hc64_9, if_pos hc73_10]), N0, rfl⟩), ⟨_, rfl⟩, hW, hsame.mono (by decide) (by decide)⟩
  refine own_of (S' := s₁.setTop (mkF m 79 #[.val (.int p1)] [])) (fun t k => XS.icmpYes X0.here hx rfl (pc0 := 73) (pc' := 79) rfl (hb hby d7_73) rfl (feq hc73_10).2 (by decide) (by decide) k) ?_
  refine own_of (S' := s₁.setTop (mkF m 80 #[.val (.int p1)] [(.int p1)])) (fun t k => XS.iloadN X0.here hx rfl (hb hby d7_79) rfl k) ?_
  refine own_of (S' := s₁.setTop (mkF m 82 #[.val (.int p1)] [(.int (10 : Int32)), (.int p1)])) (fun t k => XS.bipush X0.here hx rfl (hb hby d7_80) k) ?_
  by_cases hc82_11 : p1 = (10 : Int32)
  · refine own_of (S' := s₁.setTop (mkF m 85 #[.val (.int p1)] [])) (fun t k => XS.icmpNo X0.here hx rfl (hb hby d7_82) rfl (teq hc82_11).2 k) ?_
    refine own_of (S' := s₁.setTop (mkF m 87 #[.val (.int p1)] [(.int (21 : Int32))])) (fun t k => XS.bipush X0.here hx rfl (hb hby d7_85) k) ?_
    obtain ⟨fs, hr, hrun, hended, hW, hsame⟩ := X0.leave (v := some (.int (21 : Int32))) (fun h => by rw [Bd.returns] at h; cases h)
    subst hKd
    exact ⟨_, _, retI X0 hx Bd.returns (hb hby d7_87) hr, hrun, hended, _, _, rfl, (by
      show Q7 Z p1 h0 n0 _ s₁.heap _
      rw [show s₁.heap = h0 from e0]
      exact ⟨(by rw [own_code, if_neg hc1_1, if_neg hc8_2, if_neg hc15_3, if_neg hc22_4, if_neg hc29_5, if_neg hc37_6, if_neg hc46_7, if_neg hc55_8, if_neg hc64_9, if_neg hc73_10, if_pos hc82_11]), N0, rfl⟩), ⟨_, rfl⟩, hW, hsame.mono (by decide) (by decide)⟩
  refine own_of (S' := s₁.setTop (mkF m 88 #[.val (.int p1)] [])) (fun t k => XS.icmpYes X0.here hx rfl (pc0 := 82) (pc' := 88) rfl (hb hby d7_82) rfl (feq hc82_11).2 (by decide) (by decide) k) ?_
  refine own_of (S' := s₁.setTop (mkF m 89 #[.val (.int p1)] [(.int p1)])) (fun t k => XS.iloadN X0.here hx rfl (hb hby d7_88) rfl k) ?_
  refine own_of (S' := s₁.setTop (mkF m 91 #[.val (.int p1)] [(.int (11 : Int32)), (.int p1)])) (fun t k => XS.bipush X0.here hx rfl (hb hby d7_89) k) ?_
  by_cases hc91_12 : p1 = (11 : Int32)
  · refine own_of (S' := s₁.setTop (mkF m 94 #[.val (.int p1)] [])) (fun t k => XS.icmpNo X0.here hx rfl (hb hby d7_91) rfl (teq hc91_12).2 k) ?_
    refine own_of (S' := s₁.setTop (mkF m 96 #[.val (.int p1)] [(.int (32 : Int32))])) (fun t k => XS.bipush X0.here hx rfl (hb hby d7_94) k) ?_
    obtain ⟨fs, hr, hrun, hended, hW, hsame⟩ := X0.leave (v := some (.int (32 : Int32))) (fun h => by rw [Bd.returns] at h; cases h)
    subst hKd
    exact ⟨_, _, retI X0 hx Bd.returns (hb hby d7_96) hr, hrun, hended, _, _, rfl, (by
      show Q7 Z p1 h0 n0 _ s₁.heap _
      rw [show s₁.heap = h0 from e0]
      exact ⟨(by rw [own_code, if_neg hc1_1, if_neg hc8_2, if_neg hc15_3, if_neg hc22_4, if_neg hc29_5, if_neg hc37_6, if_neg hc46_7, if_neg hc55_8, if_neg hc64_9, if_neg hc73_10, if_neg hc82_11, if_pos hc91_12]), N0, rfl⟩), ⟨_, rfl⟩, hW, hsame.mono (by decide) (by decide)⟩
  refine own_of (S' := s₁.setTop (mkF m 97 #[.val (.int p1)] [])) (fun t k => XS.icmpYes X0.here hx rfl (pc0 := 91) (pc' := 97) rfl (hb hby d7_91) rfl (feq hc91_12).2 (by decide) (by decide) k) ?_
  refine own_of (S' := s₁.setTop (mkF m 98 #[.val (.int p1)] [(.int p1)])) (fun t k => XS.iloadN X0.here hx rfl (hb hby d7_97) rfl k) ?_
  refine own_of (S' := s₁.setTop (mkF m 100 #[.val (.int p1)] [(.int (12 : Int32)), (.int p1)])) (fun t k => XS.bipush X0.here hx rfl (hb hby d7_98) k) ?_
  by_cases hc100_13 : p1 = (12 : Int32)
  · refine own_of (S' := s₁.setTop (mkF m 103 #[.val (.int p1)] [])) (fun t k => XS.icmpNo X0.here hx rfl (hb hby d7_100) rfl (teq hc100_13).2 k) ?_
    refine own_of (S' := s₁.setTop (mkF m 105 #[.val (.int p1)] [(.int (34 : Int32))])) (fun t k => XS.bipush X0.here hx rfl (hb hby d7_103) k) ?_
    obtain ⟨fs, hr, hrun, hended, hW, hsame⟩ := X0.leave (v := some (.int (34 : Int32))) (fun h => by rw [Bd.returns] at h; cases h)
    subst hKd
    exact ⟨_, _, retI X0 hx Bd.returns (hb hby d7_105) hr, hrun, hended, _, _, rfl, (by
      show Q7 Z p1 h0 n0 _ s₁.heap _
      rw [show s₁.heap = h0 from e0]
      exact ⟨(by rw [own_code, if_neg hc1_1, if_neg hc8_2, if_neg hc15_3, if_neg hc22_4, if_neg hc29_5, if_neg hc37_6, if_neg hc46_7, if_neg hc55_8, if_neg hc64_9, if_neg hc73_10, if_neg hc82_11, if_neg hc91_12, if_pos hc100_13]), N0, rfl⟩), ⟨_, rfl⟩, hW, hsame.mono (by decide) (by decide)⟩
  refine own_of (S' := s₁.setTop (mkF m 106 #[.val (.int p1)] [])) (fun t k => XS.icmpYes X0.here hx rfl (pc0 := 100) (pc' := 106) rfl (hb hby d7_100) rfl (feq hc100_13).2 (by decide) (by decide) k) ?_
  refine own_of (S' := s₁.setTop (mkF m 107 #[.val (.int p1)] [(.int p1)])) (fun t k => XS.iloadN X0.here hx rfl (hb hby d7_106) rfl k) ?_
  refine own_of (S' := s₁.setTop (mkF m 109 #[.val (.int p1)] [(.int (13 : Int32)), (.int p1)])) (fun t k => XS.bipush X0.here hx rfl (hb hby d7_107) k) ?_
  by_cases hc109_14 : p1 = (13 : Int32)
  · refine own_of (S' := s₁.setTop (mkF m 112 #[.val (.int p1)] [])) (fun t k => XS.icmpNo X0.here hx rfl (hb hby d7_109) rfl (teq hc109_14).2 k) ?_
    refine own_of (S' := s₁.setTop (mkF m 114 #[.val (.int p1)] [(.int (49 : Int32))])) (fun t k => XS.bipush X0.here hx rfl (hb hby d7_112) k) ?_
    obtain ⟨fs, hr, hrun, hended, hW, hsame⟩ := X0.leave (v := some (.int (49 : Int32))) (fun h => by rw [Bd.returns] at h; cases h)
    subst hKd
    exact ⟨_, _, retI X0 hx Bd.returns (hb hby d7_114) hr, hrun, hended, _, _, rfl, (by
      show Q7 Z p1 h0 n0 _ s₁.heap _
      rw [show s₁.heap = h0 from e0]
      exact ⟨(by rw [own_code, if_neg hc1_1, if_neg hc8_2, if_neg hc15_3, if_neg hc22_4, if_neg hc29_5, if_neg hc37_6, if_neg hc46_7, if_neg hc55_8, if_neg hc64_9, if_neg hc73_10, if_neg hc82_11, if_neg hc91_12, if_neg hc100_13, if_pos hc109_14]), N0, rfl⟩), ⟨_, rfl⟩, hW, hsame.mono (by decide) (by decide)⟩
  refine own_of (S' := s₁.setTop (mkF m 115 #[.val (.int p1)] [])) (fun t k => XS.icmpYes X0.here hx rfl (pc0 := 109) (pc' := 115) rfl (hb hby d7_109) rfl (feq hc109_14).2 (by decide) (by decide) k) ?_
  refine own_of (S' := s₁.setTop (mkF m 117 #[.val (.int p1)] [(.int (53 : Int32))])) (fun t k => XS.bipush X0.here hx rfl (hb hby d7_115) k) ?_
  obtain ⟨fs, hr, hrun, hended, hW, hsame⟩ := X0.leave (v := some (.int (53 : Int32))) (fun h => by rw [Bd.returns] at h; cases h)
  subst hKd
  exact ⟨_, _, retI X0 hx Bd.returns (hb hby d7_117) hr, hrun, hended, _, _, rfl, (by
    show Q7 Z p1 h0 n0 _ s₁.heap _
    rw [show s₁.heap = h0 from e0]
    exact ⟨(by rw [own_code, if_neg hc1_1, if_neg hc8_2, if_neg hc15_3, if_neg hc22_4, if_neg hc29_5, if_neg hc37_6, if_neg hc46_7, if_neg hc55_8, if_neg hc64_9, if_neg hc73_10, if_neg hc82_11, if_neg hc91_12, if_neg hc100_13, if_neg hc109_14]), N0, rfl⟩), ⟨_, rfl⟩, hW, hsame.mono (by decide) (by decide)⟩
theorem d4_0 : decode method_3_code 0 = .ok (.iload_n 0, 1) := by decide +kernel
theorem d4_1 : decode method_3_code 1 = .ok (.ifCond .ne 7, 3) := by decide +kernel
theorem d4_4 : decode method_3_code 4 = .ok (.getstatic 29, 3) := by decide +kernel
theorem d4_7 : decode method_3_code 7 = .ok (.areturn, 1) := by decide +kernel
theorem d4_8 : decode method_3_code 8 = .ok (.iload_n 0, 1) := by decide +kernel
theorem d4_9 : decode method_3_code 9 = .ok (.iconst 1, 1) := by decide +kernel
theorem d4_10 : decode method_3_code 10 = .ok (.if_icmp .ne 7, 3) := by decide +kernel
theorem d4_13 : decode method_3_code 13 = .ok (.getstatic 35, 3) := by decide +kernel
theorem d4_16 : decode method_3_code 16 = .ok (.areturn, 1) := by decide +kernel
theorem d4_17 : decode method_3_code 17 = .ok (.iload_n 0, 1) := by decide +kernel
theorem d4_18 : decode method_3_code 18 = .ok (.iconst 2, 1) := by decide +kernel
theorem d4_19 : decode method_3_code 19 = .ok (.if_icmp .ne 7, 3) := by decide +kernel
theorem d4_22 : decode method_3_code 22 = .ok (.getstatic 38, 3) := by decide +kernel
theorem d4_25 : decode method_3_code 25 = .ok (.areturn, 1) := by decide +kernel
theorem d4_26 : decode method_3_code 26 = .ok (.iload_n 0, 1) := by decide +kernel
theorem d4_27 : decode method_3_code 27 = .ok (.iconst 3, 1) := by decide +kernel
theorem d4_28 : decode method_3_code 28 = .ok (.if_icmp .ne 7, 3) := by decide +kernel
theorem d4_31 : decode method_3_code 31 = .ok (.getstatic 41, 3) := by decide +kernel
theorem d4_34 : decode method_3_code 34 = .ok (.areturn, 1) := by decide +kernel
theorem d4_35 : decode method_3_code 35 = .ok (.iload_n 0, 1) := by decide +kernel
theorem d4_36 : decode method_3_code 36 = .ok (.iconst 4, 1) := by decide +kernel
theorem d4_37 : decode method_3_code 37 = .ok (.if_icmp .ne 7, 3) := by decide +kernel
theorem d4_40 : decode method_3_code 40 = .ok (.getstatic 44, 3) := by decide +kernel
theorem d4_43 : decode method_3_code 43 = .ok (.areturn, 1) := by decide +kernel
theorem d4_44 : decode method_3_code 44 = .ok (.iload_n 0, 1) := by decide +kernel
theorem d4_45 : decode method_3_code 45 = .ok (.iconst 5, 1) := by decide +kernel
theorem d4_46 : decode method_3_code 46 = .ok (.if_icmp .ne 7, 3) := by decide +kernel
theorem d4_49 : decode method_3_code 49 = .ok (.getstatic 47, 3) := by decide +kernel
theorem d4_52 : decode method_3_code 52 = .ok (.areturn, 1) := by decide +kernel
theorem d4_53 : decode method_3_code 53 = .ok (.iload_n 0, 1) := by decide +kernel
theorem d4_54 : decode method_3_code 54 = .ok (.bipush 6, 2) := by decide +kernel
theorem d4_56 : decode method_3_code 56 = .ok (.if_icmp .ne 7, 3) := by decide +kernel
theorem d4_59 : decode method_3_code 59 = .ok (.getstatic 50, 3) := by decide +kernel
theorem d4_62 : decode method_3_code 62 = .ok (.areturn, 1) := by decide +kernel
theorem d4_63 : decode method_3_code 63 = .ok (.iload_n 0, 1) := by decide +kernel
theorem d4_64 : decode method_3_code 64 = .ok (.bipush 7, 2) := by decide +kernel
theorem d4_66 : decode method_3_code 66 = .ok (.if_icmp .ne 7, 3) := by decide +kernel
theorem d4_69 : decode method_3_code 69 = .ok (.getstatic 53, 3) := by decide +kernel
theorem d4_72 : decode method_3_code 72 = .ok (.areturn, 1) := by decide +kernel
theorem d4_73 : decode method_3_code 73 = .ok (.iload_n 0, 1) := by decide +kernel
theorem d4_74 : decode method_3_code 74 = .ok (.bipush 8, 2) := by decide +kernel
theorem d4_76 : decode method_3_code 76 = .ok (.if_icmp .ne 7, 3) := by decide +kernel
theorem d4_79 : decode method_3_code 79 = .ok (.getstatic 56, 3) := by decide +kernel
theorem d4_82 : decode method_3_code 82 = .ok (.areturn, 1) := by decide +kernel
theorem d4_83 : decode method_3_code 83 = .ok (.iload_n 0, 1) := by decide +kernel
theorem d4_84 : decode method_3_code 84 = .ok (.bipush 9, 2) := by decide +kernel
theorem d4_86 : decode method_3_code 86 = .ok (.if_icmp .ne 7, 3) := by decide +kernel
theorem d4_89 : decode method_3_code 89 = .ok (.getstatic 59, 3) := by decide +kernel
theorem d4_92 : decode method_3_code 92 = .ok (.areturn, 1) := by decide +kernel
theorem d4_93 : decode method_3_code 93 = .ok (.iload_n 0, 1) := by decide +kernel
theorem d4_94 : decode method_3_code 94 = .ok (.bipush 10, 2) := by decide +kernel
theorem d4_96 : decode method_3_code 96 = .ok (.if_icmp .ne 7, 3) := by decide +kernel
theorem d4_99 : decode method_3_code 99 = .ok (.getstatic 62, 3) := by decide +kernel
theorem d4_102 : decode method_3_code 102 = .ok (.areturn, 1) := by decide +kernel
theorem d4_103 : decode method_3_code 103 = .ok (.iload_n 0, 1) := by decide +kernel
theorem d4_104 : decode method_3_code 104 = .ok (.bipush 11, 2) := by decide +kernel
theorem d4_106 : decode method_3_code 106 = .ok (.if_icmp .ne 7, 3) := by decide +kernel
theorem d4_109 : decode method_3_code 109 = .ok (.getstatic 65, 3) := by decide +kernel
theorem d4_112 : decode method_3_code 112 = .ok (.areturn, 1) := by decide +kernel
theorem d4_113 : decode method_3_code 113 = .ok (.iload_n 0, 1) := by decide +kernel
theorem d4_114 : decode method_3_code 114 = .ok (.bipush 12, 2) := by decide +kernel
theorem d4_116 : decode method_3_code 116 = .ok (.if_icmp .ne 7, 3) := by decide +kernel
theorem d4_119 : decode method_3_code 119 = .ok (.getstatic 68, 3) := by decide +kernel
theorem d4_122 : decode method_3_code 122 = .ok (.areturn, 1) := by decide +kernel
theorem d4_123 : decode method_3_code 123 = .ok (.iload_n 0, 1) := by decide +kernel
theorem d4_124 : decode method_3_code 124 = .ok (.bipush 13, 2) := by decide +kernel
theorem d4_126 : decode method_3_code 126 = .ok (.if_icmp .ne 7, 3) := by decide +kernel
theorem d4_129 : decode method_3_code 129 = .ok (.getstatic 71, 3) := by decide +kernel
theorem d4_132 : decode method_3_code 132 = .ok (.areturn, 1) := by decide +kernel
theorem d4_133 : decode method_3_code 133 = .ok (.getstatic 74, 3) := by decide +kernel
theorem d4_136 : decode method_3_code 136 = .ok (.areturn, 1) := by decide +kernel
theorem pn_4 : plainName "com/example/waypost/waypost/ldap/ResultIsPinLaw" = true := by first | (simp [plainName, overriddenIn]; done) | decide +kernel
theorem ef_4 (m : MethodId) (p1 : Int32) : entryFrame m #[(.int p1)] 1 = mkF m 0 #[.val (.int p1)] [] := by first | (simp [entryFrame, mkF, argsToLocals, Value.category]; done) | rfl
def Q4 (Z : State) (p1 : Int32) (w_SUCCESS : Addr) (w_PROTOCOL_ERROR : Addr) (w_SIZE_LIMIT_EXCEEDED : Addr) (w_COMPARE_FALSE : Addr) (w_COMPARE_TRUE : Addr) (w_AUTH_METHOD_NOT_SUPPORTED : Addr) (w_UNAVAILABLE_CRITICAL_EXTENSION : Addr) (w_NO_SUCH_ATTRIBUTE : Addr) (w_UNDEFINED_ATTRIBUTE_TYPE : Addr) (w_INAPPROPRIATE_MATCHING : Addr) (w_INVALID_ATTRIBUTE_SYNTAX : Addr) (w_NO_SUCH_OBJECT : Addr) (w_INVALID_DN_SYNTAX : Addr) (w_INVALID_CREDENTIALS : Addr) (w_UNWILLING_TO_PERFORM : Addr) (h0 : Heap) (n0 : Nat) (v : Option Value) (h : Heap) (L : List Loc) : Prop := ∃ r : Addr, (v = some (.ref r)) ∧ (Fr n0 L) ∧ (h = h0) ∧ (Exa Z h r "com/example/waypost/waypost/ldap/ResultCode") ∧ (Fld Z h r "com/example/waypost/waypost/ldap/ResultCode" "code" "I" (.int (own_code p1)))
set_option maxRecDepth 65536 in
set_option maxHeartbeats 40000000 in
theorem rm4 (l : Launch) (Z : State) (a0 : Array Value) (hw : ∀ d ∈ tables_1, d.before a0 Z = true) (ws : List Jvm.Cond) (p1 : Int32) (w_SUCCESS : Addr) (w_PROTOCOL_ERROR : Addr) (w_SIZE_LIMIT_EXCEEDED : Addr) (w_COMPARE_FALSE : Addr) (w_COMPARE_TRUE : Addr) (w_AUTH_METHOD_NOT_SUPPORTED : Addr) (w_UNAVAILABLE_CRITICAL_EXTENSION : Addr) (w_NO_SUCH_ATTRIBUTE : Addr) (w_UNDEFINED_ATTRIBUTE_TYPE : Addr) (w_INAPPROPRIATE_MATCHING : Addr) (w_INVALID_ATTRIBUTE_SYNTAX : Addr) (w_NO_SUCH_OBJECT : Addr) (w_INVALID_DN_SYNTAX : Addr) (w_INVALID_CREDENTIALS : Addr) (w_UNWILLING_TO_PERFORM : Addr) (h0 : Heap) (n0 : Nat) (Z0 : n0 ≤ h0.size) (S_SUCCESS : Sta Z h0 "com/example/waypost/waypost/ldap/ResultCode" "SUCCESS" "Lcom/example/waypost/waypost/ldap/ResultCode;" (.ref w_SUCCESS)) (S_PROTOCOL_ERROR : Sta Z h0 "com/example/waypost/waypost/ldap/ResultCode" "PROTOCOL_ERROR" "Lcom/example/waypost/waypost/ldap/ResultCode;" (.ref w_PROTOCOL_ERROR)) (S_SIZE_LIMIT_EXCEEDED : Sta Z h0 "com/example/waypost/waypost/ldap/ResultCode" "SIZE_LIMIT_EXCEEDED" "Lcom/example/waypost/waypost/ldap/ResultCode;" (.ref w_SIZE_LIMIT_EXCEEDED)) (S_COMPARE_FALSE : Sta Z h0 "com/example/waypost/waypost/ldap/ResultCode" "COMPARE_FALSE" "Lcom/example/waypost/waypost/ldap/ResultCode;" (.ref w_COMPARE_FALSE)) (S_COMPARE_TRUE : Sta Z h0 "com/example/waypost/waypost/ldap/ResultCode" "COMPARE_TRUE" "Lcom/example/waypost/waypost/ldap/ResultCode;" (.ref w_COMPARE_TRUE)) (S_AUTH_METHOD_NOT_SUPPORTED : Sta Z h0 "com/example/waypost/waypost/ldap/ResultCode" "AUTH_METHOD_NOT_SUPPORTED" "Lcom/example/waypost/waypost/ldap/ResultCode;" (.ref w_AUTH_METHOD_NOT_SUPPORTED)) (S_UNAVAILABLE_CRITICAL_EXTENSION : Sta Z h0 "com/example/waypost/waypost/ldap/ResultCode" "UNAVAILABLE_CRITICAL_EXTENSION" "Lcom/example/waypost/waypost/ldap/ResultCode;" (.ref w_UNAVAILABLE_CRITICAL_EXTENSION)) (S_NO_SUCH_ATTRIBUTE : Sta Z h0 "com/example/waypost/waypost/ldap/ResultCode" "NO_SUCH_ATTRIBUTE" "Lcom/example/waypost/waypost/ldap/ResultCode;" (.ref w_NO_SUCH_ATTRIBUTE)) (S_UNDEFINED_ATTRIBUTE_TYPE : Sta Z h0 "com/example/waypost/waypost/ldap/ResultCode" "UNDEFINED_ATTRIBUTE_TYPE" "Lcom/example/waypost/waypost/ldap/ResultCode;" (.ref w_UNDEFINED_ATTRIBUTE_TYPE)) (S_INAPPROPRIATE_MATCHING : Sta Z h0 "com/example/waypost/waypost/ldap/ResultCode" "INAPPROPRIATE_MATCHING" "Lcom/example/waypost/waypost/ldap/ResultCode;" (.ref w_INAPPROPRIATE_MATCHING)) (S_INVALID_ATTRIBUTE_SYNTAX : Sta Z h0 "com/example/waypost/waypost/ldap/ResultCode" "INVALID_ATTRIBUTE_SYNTAX" "Lcom/example/waypost/waypost/ldap/ResultCode;" (.ref w_INVALID_ATTRIBUTE_SYNTAX)) (S_NO_SUCH_OBJECT : Sta Z h0 "com/example/waypost/waypost/ldap/ResultCode" "NO_SUCH_OBJECT" "Lcom/example/waypost/waypost/ldap/ResultCode;" (.ref w_NO_SUCH_OBJECT)) (S_INVALID_DN_SYNTAX : Sta Z h0 "com/example/waypost/waypost/ldap/ResultCode" "INVALID_DN_SYNTAX" "Lcom/example/waypost/waypost/ldap/ResultCode;" (.ref w_INVALID_DN_SYNTAX)) (S_INVALID_CREDENTIALS : Sta Z h0 "com/example/waypost/waypost/ldap/ResultCode" "INVALID_CREDENTIALS" "Lcom/example/waypost/waypost/ldap/ResultCode;" (.ref w_INVALID_CREDENTIALS)) (S_UNWILLING_TO_PERFORM : Sta Z h0 "com/example/waypost/waypost/ldap/ResultCode" "UNWILLING_TO_PERFORM" "Lcom/example/waypost/waypost/ldap/ResultCode;" (.ref w_UNWILLING_TO_PERFORM)) (E_w_SUCCESS : Exa Z h0 w_SUCCESS "com/example/waypost/waypost/ldap/ResultCode") (E_w_PROTOCOL_ERROR : Exa Z h0 w_PROTOCOL_ERROR "com/example/waypost/waypost/ldap/ResultCode") (E_w_SIZE_LIMIT_EXCEEDED : Exa Z h0 w_SIZE_LIMIT_EXCEEDED "com/example/waypost/waypost/ldap/ResultCode") (E_w_COMPARE_FALSE : Exa Z h0 w_COMPARE_FALSE "com/example/waypost/waypost/ldap/ResultCode") (E_w_COMPARE_TRUE : Exa Z h0 w_COMPARE_TRUE "com/example/waypost/waypost/ldap/ResultCode") (E_w_AUTH_METHOD_NOT_SUPPORTED : Exa Z h0 w_AUTH_METHOD_NOT_SUPPORTED "com/example/waypost/waypost/ldap/ResultCode") (E_w_UNAVAILABLE_CRITICAL_EXTENSION : Exa Z h0 w_UNAVAILABLE_CRITICAL_EXTENSION "com/example/waypost/waypost/ldap/ResultCode") (E_w_NO_SUCH_ATTRIBUTE : Exa Z h0 w_NO_SUCH_ATTRIBUTE "com/example/waypost/waypost/ldap/ResultCode") (E_w_UNDEFINED_ATTRIBUTE_TYPE : Exa Z h0 w_UNDEFINED_ATTRIBUTE_TYPE "com/example/waypost/waypost/ldap/ResultCode") (E_w_INAPPROPRIATE_MATCHING : Exa Z h0 w_INAPPROPRIATE_MATCHING "com/example/waypost/waypost/ldap/ResultCode") (E_w_INVALID_ATTRIBUTE_SYNTAX : Exa Z h0 w_INVALID_ATTRIBUTE_SYNTAX "com/example/waypost/waypost/ldap/ResultCode") (E_w_NO_SUCH_OBJECT : Exa Z h0 w_NO_SUCH_OBJECT "com/example/waypost/waypost/ldap/ResultCode") (E_w_INVALID_DN_SYNTAX : Exa Z h0 w_INVALID_DN_SYNTAX "com/example/waypost/waypost/ldap/ResultCode") (E_w_INVALID_CREDENTIALS : Exa Z h0 w_INVALID_CREDENTIALS "com/example/waypost/waypost/ldap/ResultCode") (E_w_UNWILLING_TO_PERFORM : Exa Z h0 w_UNWILLING_TO_PERFORM "com/example/waypost/waypost/ldap/ResultCode") (F_code_w_SUCCESS : Fld Z h0 w_SUCCESS "com/example/waypost/waypost/ldap/ResultCode" "code" "I" (.int (0 : Int32))) (F_code_w_PROTOCOL_ERROR : Fld Z h0 w_PROTOCOL_ERROR "com/example/waypost/waypost/ldap/ResultCode" "code" "I" (.int (2 : Int32))) (F_code_w_SIZE_LIMIT_EXCEEDED : Fld Z h0 w_SIZE_LIMIT_EXCEEDED "com/example/waypost/waypost/ldap/ResultCode" "code" "I" (.int (4 : Int32))) (F_code_w_COMPARE_FALSE : Fld Z h0 w_COMPARE_FALSE "com/example/waypost/waypost/ldap/ResultCode" "code" "I" (.int (5 : Int32))) (F_code_w_COMPARE_TRUE : Fld Z h0 w_COMPARE_TRUE "com/example/waypost/waypost/ldap/ResultCode" "code" "I" (.int (6 : Int32))) (F_code_w_AUTH_METHOD_NOT_SUPPORTED : Fld Z h0 w_AUTH_METHOD_NOT_SUPPORTED "com/example/waypost/waypost/ldap/ResultCode" "code" "I" (.int (7 : Int32))) (F_code_w_UNAVAILABLE_CRITICAL_EXTENSION : Fld Z h0 w_UNAVAILABLE_CRITICAL_EXTENSION "com/example/waypost/waypost/ldap/ResultCode" "code" "I" (.int (12 : Int32))) (F_code_w_NO_SUCH_ATTRIBUTE : Fld Z h0 w_NO_SUCH_ATTRIBUTE "com/example/waypost/waypost/ldap/ResultCode" "code" "I" (.int (16 : Int32))) (F_code_w_UNDEFINED_ATTRIBUTE_TYPE : Fld Z h0 w_UNDEFINED_ATTRIBUTE_TYPE "com/example/waypost/waypost/ldap/ResultCode" "code" "I" (.int (17 : Int32))) (F_code_w_INAPPROPRIATE_MATCHING : Fld Z h0 w_INAPPROPRIATE_MATCHING "com/example/waypost/waypost/ldap/ResultCode" "code" "I" (.int (18 : Int32))) (F_code_w_INVALID_ATTRIBUTE_SYNTAX : Fld Z h0 w_INVALID_ATTRIBUTE_SYNTAX "com/example/waypost/waypost/ldap/ResultCode" "code" "I" (.int (21 : Int32))) (F_code_w_NO_SUCH_OBJECT : Fld Z h0 w_NO_SUCH_OBJECT "com/example/waypost/waypost/ldap/ResultCode" "code" "I" (.int (32 : Int32))) (F_code_w_INVALID_DN_SYNTAX : Fld Z h0 w_INVALID_DN_SYNTAX "com/example/waypost/waypost/ldap/ResultCode" "code" "I" (.int (34 : Int32))) (F_code_w_INVALID_CREDENTIALS : Fld Z h0 w_INVALID_CREDENTIALS "com/example/waypost/waypost/ldap/ResultCode" "code" "I" (.int (49 : Int32))) (F_code_w_UNWILLING_TO_PERFORM : Fld Z h0 w_UNWILLING_TO_PERFORM "com/example/waypost/waypost/ldap/ResultCode" "code" "I" (.int (53 : Int32))) :
    MetFree l (⟨"com/example/waypost/waypost/ldap/ResultIsPinLaw", "constant", "(I)Lcom/example/waypost/waypost/ldap/ResultCode;"⟩ : MethodName) (head1 (Jvm.Cond.code (⟨"com/example/waypost/waypost/ldap/ResultIsPinLaw", "constant", "(I)Lcom/example/waypost/waypost/ldap/ResultCode;"⟩ : MethodName) method_3_code 1 (some (.object "com/example/waypost/waypost/ldap/ResultCode")) :: ws) ({ frames := 0, cells := 0, slots := 0, locals := 0 } : Room)) (fun a U => a = #[(.int p1)] ∧ Z.Warmed39 U.vm ∧ U.heap = h0) (fun _ _ _ _ _ => True) (fun _ U o U' => ∃ v L, o = .returned v ∧ Q4 Z p1 w_SUCCESS w_PROTOCOL_ERROR w_SIZE_LIMIT_EXCEEDED w_COMPARE_FALSE w_COMPARE_TRUE w_AUTH_METHOD_NOT_SUPPORTED w_UNAVAILABLE_CRITICAL_EXTENSION w_NO_SUCH_ATTRIBUTE w_UNDEFINED_ATTRIBUTE_TYPE w_INAPPROPRIATE_MATCHING w_INVALID_ATTRIBUTE_SYNTAX w_NO_SUCH_OBJECT w_INVALID_DN_SYNTAX w_INVALID_CREDENTIALS w_UNWILLING_TO_PERFORM h0 n0 v U'.heap L ∧ FrameEnd U o U' L ({ frames := 0, cells := 0, slots := 0, locals := 0 } : Room).cells ({ frames := 0, cells := 0, slots := 0, locals := 0 } : Room).slots) := by
  refine MetFree.of_bodySF (plainFor_of_name pn_4) hisR ?_
  intro p e s m args below meth c s₁ Bd hml0 hP hK
  obtain ⟨rfl, hZ, hh⟩ := hP
  have hx := Bd.exec
  have hby := Bd.bytes
  have hml : c.maxLocals = 1 := hml0
  have hown : s.vm.findClass "com/example/waypost/waypost/ldap/ResultIsPinLaw" = some m.cls := findClass_of_methodNamed Bd.named
  have hnm := (name_of_methodNamed Bd.named Bd.method).1
  have X0 : Stand p l e ({ frames := 0, cells := 0, slots := 0, locals := 0 } : Room) s m #[(.int p1)] below meth c s₁ [] 0 0 := Stand.of_body Bd
  have e0 : s₁.heap = h0 := by rw [← hh, Bd.state]; rfl
  have N0 := Fr.nil n0
  refine own_of (S := s₁.setTop (entryFrame m #[(.int p1)] 1)) (S' := s₁.setTop (mkF m 0 #[.val (.int p1)] [])) (K := fun s₂ o => ∃ v L, o = .returned v ∧ Q4 Z p1 w_SUCCESS w_PROTOCOL_ERROR w_SIZE_LIMIT_EXCEEDED w_COMPARE_FALSE w_COMPARE_TRUE w_AUTH_METHOD_NOT_SUPPORTED w_UNAVAILABLE_CRITICAL_EXTENSION w_NO_SUCH_ATTRIBUTE w_UNDEFINED_ATTRIBUTE_TYPE w_INAPPROPRIATE_MATCHING w_INVALID_ATTRIBUTE_SYNTAX w_NO_SUCH_OBJECT w_INVALID_DN_SYNTAX w_INVALID_CREDENTIALS w_UNWILLING_TO_PERFORM h0 n0 v s₂.heap L ∧ FrameEnd s o s₂ L ({ frames := 0, cells := 0, slots := 0, locals := 0 } : Room).cells ({ frames := 0, cells := 0, slots := 0, locals := 0 } : Room).slots) (fun t k => castTop (ef_4 m p1) k) ?_
  refine own_nameK fun K hKd => ?_
  refine own_of (S' := s₁.setTop (mkF m 1 #[.val (.int p1)] [(.int p1)])) (fun t k => XS.iloadN X0.here hx rfl (hb hby d4_0) rfl k) ?_
  by_cases hc1_1 : p1 = (0 : Int32)
  · refine own_of (S' := s₁.setTop (mkF m 4 #[.val (.int p1)] [])) (fun t k => XS.ifNo X0.here hx rfl (hb hby d4_1) rfl ((if0 _ _).trans (teq hc1_1).2) k) ?_
    obtain ⟨T2, X2, e2, st2⟩ := getS2 X0 hx hZ hown (host := "") (Or.inl (hw _ (List.mem_of_getElem? (i := 57) rfl))) Via.refl e0 S_SUCCESS (g := (mkF m 4 #[.val (.int p1)] [])) rfl (hb hby d4_4)
    refine own_of (S' := T2.setTop (mkF m 7 #[.val (.int p1)] [(.ref w_SUCCESS)])) st2 ?_
    obtain ⟨fs, hr, hrun, hended, hW, hsame⟩ := X2.leave (v := some (.ref w_SUCCESS)) (fun h => by rw [Bd.returns] at h; cases h)
    subst hKd
    exact ⟨_, _, (retOut X2 hx Bd.returns rfl (Or.inr (Or.inr (Or.inr (Or.inr ⟨rfl, rfl, rfl⟩)))) (hb hby d4_7) hr), hrun, hended, _, _, rfl, (by
      show Q4 Z p1 w_SUCCESS w_PROTOCOL_ERROR w_SIZE_LIMIT_EXCEEDED w_COMPARE_FALSE w_COMPARE_TRUE w_AUTH_METHOD_NOT_SUPPORTED w_UNAVAILABLE_CRITICAL_EXTENSION w_NO_SUCH_ATTRIBUTE w_UNDEFINED_ATTRIBUTE_TYPE w_INAPPROPRIATE_MATCHING w_INVALID_ATTRIBUTE_SYNTAX w_NO_SUCH_OBJECT w_INVALID_DN_SYNTAX w_INVALID_CREDENTIALS w_UNWILLING_TO_PERFORM h0 n0 _ T2.heap _
      rw [show T2.heap = h0 from e2]
      exact ⟨w_SUCCESS, rfl, N0, rfl, E_w_SUCCESS, (by rw [own_code, if_pos hc1_1]; exact F_code_w_SUCCESS)⟩), ⟨_, rfl⟩, hW, hsame.mono (by decide) (by decide)⟩
  refine own_of (S' := s₁.setTop (mkF m 8 #[.val (.int p1)] [])) (fun t k => XS.ifYes X0.here hx rfl (pc0 := 1) (pc' := 8) rfl (hb hby d4_1) rfl ((if0 _ _).trans (feq hc1_1).2) (by decide) (by decide) k) ?_
  refine own_of (S' := s₁.setTop (mkF m 9 #[.val (.int p1)] [(.int p1)])) (fun t k => XS.iloadN X0.here hx rfl (hb hby d4_8) rfl k) ?_
  refine own_of (S' := s₁.setTop (mkF m 10 #[.val (.int p1)] [(.int (1 : Int32)), (.int p1)])) (fun t k => XS.iconst X0.here hx rfl (hb hby d4_9) k) ?_
  by_cases hc10_3 : p1 = (1 : Int32)
  · refine own_of (S' := s₁.setTop (mkF m 13 #[.val (.int p1)] [])) (fun t k => XS.icmpNo X0.here hx rfl (hb hby d4_10) rfl (teq hc10_3).2 k) ?_
    obtain ⟨T4, X4, e4, st4⟩ := getS2 X0 hx hZ hown (host := "") (Or.inl (hw _ (List.mem_of_getElem? (i := 63) rfl))) Via.refl e0 S_PROTOCOL_ERROR (g := (mkF m 13 #[.val (.int p1)] [])) rfl (hb hby d4_13)
    refine own_of (S' := T4.setTop (mkF m 16 #[.val (.int p1)] [(.ref w_PROTOCOL_ERROR)])) st4 ?_
    obtain ⟨fs, hr, hrun, hended, hW, hsame⟩ := X4.leave (v := some (.ref w_PROTOCOL_ERROR)) (fun h => by rw [Bd.returns] at h; cases h)
    subst hKd
    exact ⟨_, _, (retOut X4 hx Bd.returns rfl (Or.inr (Or.inr (Or.inr (Or.inr ⟨rfl, rfl, rfl⟩)))) (hb hby d4_16) hr), hrun, hended, _, _, rfl, (by
      show Q4 Z p1 w_SUCCESS w_PROTOCOL_ERROR w_SIZE_LIMIT_EXCEEDED w_COMPARE_FALSE w_COMPARE_TRUE w_AUTH_METHOD_NOT_SUPPORTED w_UNAVAILABLE_CRITICAL_EXTENSION w_NO_SUCH_ATTRIBUTE w_UNDEFINED_ATTRIBUTE_TYPE w_INAPPROPRIATE_MATCHING w_INVALID_ATTRIBUTE_SYNTAX w_NO_SUCH_OBJECT w_INVALID_DN_SYNTAX w_INVALID_CREDENTIALS w_UNWILLING_TO_PERFORM h0 n0 _ T4.heap _
      rw [show T4.heap = h0 from e4]
      exact ⟨w_PROTOCOL_ERROR, rfl, N0, rfl, E_w_PROTOCOL_ERROR, (by rw [own_code, if_neg hc1_1, if_pos hc10_3]; exact F_code_w_PROTOCOL_ERROR)⟩), ⟨_, rfl⟩, hW, hsame.mono (by decide) (by decide)⟩
  refine own_of (S' := s₁.setTop (mkF m 17 #[.val (.int p1)] [])) (fun t k => XS.icmpYes X0.here hx rfl (pc0 := 10) (pc' := 17) rfl (hb hby d4_10) rfl (feq hc10_3).2 (by decide) (by decide) k) ?_
  refine own_of (S' := s₁.setTop (mkF m 18 #[.val (.int p1)] [(.int p1)])) (fun t k => XS.iloadN X0.here hx rfl (hb hby d4_17) rfl k) ?_
  refine own_of (S' := s₁.setTop (mkF m 19 #[.val (.int p1)] [(.int (2 : Int32)), (.int p1)])) (fun t k => XS.iconst X0.here hx rfl (hb hby d4_18) k) ?_
  by_cases hc19_5 : p1 = (2 : Int32)
  · refine own_of (S' := s₁.setTop (mkF m 22 #[.val (.int p1)] [])) (fun t k => XS.icmpNo X0.here hx rfl (hb hby d4_19) rfl (teq hc19_5).2 k) ?_
    obtain ⟨T6, X6, e6, st6⟩ := getS2 X0 hx hZ hown (host := "") (Or.inl (hw _ (List.mem_of_getElem? (i := 35) rfl))) Via.refl e0 S_SIZE_LIMIT_EXCEEDED (g := (mkF m 22 #[.val (.int p1)] [])) rfl (hb hby d4_22)
    refine own_of (S' := T6.setTop (mkF m 25 #[.val (.int p1)] [(.ref w_SIZE_LIMIT_EXCEEDED)])) st6 ?_
    obtain ⟨fs, hr, hrun, hended, hW, hsame⟩ := X6.leave (v := some (.ref w_SIZE_LIMIT_EXCEEDED)) (fun h => by rw [Bd.returns] at h; cases h)
    subst hKd
    exact ⟨_, _, (retOut X6 hx Bd.returns rfl (Or.inr (Or.inr (Or.inr (Or.inr ⟨rfl, rfl, rfl⟩)))) (hb hby d4_25) hr), hrun, hended, _, _, rfl, (by
      show Q4 Z p1 w_SUCCESS w_PROTOCOL_ERROR w_SIZE_LIMIT_EXCEEDED w_COMPARE_FALSE w_COMPARE_TRUE w_AUTH_METHOD_NOT_SUPPORTED w_UNAVAILABLE_CRITICAL_EXTENSION w_NO_SUCH_ATTRIBUTE w_UNDEFINED_ATTRIBUTE_TYPE w_INAPPROPRIATE_MATCHING w_INVALID_ATTRIBUTE_SYNTAX w_NO_SUCH_OBJECT w_INVALID_DN_SYNTAX w_INVALID_CREDENTIALS w_UNWILLING_TO_PERFORM h0 n0 _ T6.heap _
      rw [show T6.heap = h0 from e6]
      exact ⟨w_SIZE_LIMIT_EXCEEDED, rfl, N0, rfl, E_w_SIZE_LIMIT_EXCEEDED, (by rw [own_code, if_neg hc1_1, if_neg hc10_3, if_pos hc19_5]; exact F_code_w_SIZE_LIMIT_EXCEEDED)⟩), ⟨_, rfl⟩, hW, hsame.mono (by decide) (by decide)⟩
  refine own_of (S' := s₁.setTop (mkF m 26 #[.val (.int p1)] [])) (fun t k => XS.icmpYes X0.here hx rfl (pc0 := 19) (pc' := 26) rfl (hb hby d4_19) rfl (feq hc19_5).2 (by decide) (by decide) k) ?_
  refine own_of (S' := s₁.setTop (mkF m 27 #[.val (.int p1)] [(.int p1)])) (fun t k => XS.iloadN X0.here hx rfl (hb hby d4_26) rfl k) ?_
  refine own_of (S' := s₁.setTop (mkF m 28 #[.val (.int p1)] [(.int (3 : Int32)), (.int p1)])) (fun t k => XS.iconst X0.here hx rfl (hb hby d4_27) k) ?_
  by_cases hc28_7 : p1 = (3 : Int32)
  · refine own_of (S' := s₁.setTop (mkF m 31 #[.val (.int p1)] [])) (fun t k => XS.icmpNo X0.here hx rfl (hb hby d4_28) rfl (teq hc28_7).2 k) ?_
    obtain ⟨T8, X8, e8, st8⟩ := getS2 X0 hx hZ hown (host := "") (Or.inl (hw _ (List.mem_of_getElem? (i := 55) rfl))) Via.refl e0 S_COMPARE_FALSE (g := (mkF m 31 #[.val (.int p1)] [])) rfl (hb hby d4_31)
    refine own_of (S' := T8.setTop (mkF m 34 #[.val (.int p1)] [(.ref w_COMPARE_FALSE)])) st8 ?_
    obtain ⟨fs, hr, hrun, hended, hW, hsame⟩ := X8.leave (v := some (.ref w_COMPARE_FALSE)) (fun h => by rw [Bd.returns] at h; cases h)
    subst hKd
    exact ⟨_, _, (retOut X8 hx Bd.returns rfl (Or.inr (Or.inr (Or.inr (Or.inr ⟨rfl, rfl, rfl⟩)))) (hb hby d4_34) hr), hrun, hended, _, _, rfl, (by
      show Q4 Z p1 w_SUCCESS w_PROTOCOL_ERROR w_SIZE_LIMIT_EXCEEDED w_COMPARE_FALSE w_COMPARE_TRUE w_AUTH_METHOD_NOT_SUPPORTED w_UNAVAILABLE_CRITICAL_EXTENSION w_NO_SUCH_ATTRIBUTE w_UNDEFINED_ATTRIBUTE_TYPE w_INAPPROPRIATE_MATCHING w_INVALID_ATTRIBUTE_SYNTAX w_NO_SUCH_OBJECT w_INVALID_DN_SYNTAX w_INVALID_CREDENTIALS w_UNWILLING_TO_PERFORM h0 n0 _ T8.heap _
      rw [show T8.heap = h0 from e8]
      exact ⟨w_COMPARE_FALSE, rfl, N0, rfl, E_w_COMPARE_FALSE, (by rw [own_code, if_neg hc1_1, if_neg hc10_3, if_neg hc19_5, if_pos hc28_7]; exact F_code_w_COMPARE_FALSE)⟩), ⟨_, rfl⟩, hW, hsame.mono (by decide) (by decide)⟩
  refine own_of (S' := s₁.setTop (mkF m 35 #[.val (.int p1)] [])) (fun t k => XS.icmpYes X0.here hx rfl (pc0 := 28) (pc' := 35) rfl (hb hby d4_28) rfl (feq hc28_7).2 (by decide) (by decide) k) ?_
  refine own_of (S' := s₁.setTop (mkF m 36 #[.val (.int p1)] [(.int p1)])) (fun t k => XS.iloadN X0.here hx rfl (hb hby d4_35) rfl k) ?_
  refine own_of (S' := s₁.setTop (mkF m 37 #[.val (.int p1)] [(.int (4 : Int32)), (.int p1)])) (fun t k => XS.iconst X0.here hx rfl (hb hby d4_36) k) ?_
  by_cases hc37_9 : p1 = (4 : Int32)
  · refine own_of (S' := s₁.setTop (mkF m 40 #[.val (.int p1)] [])) (fun t k => XS.icmpNo X0.here hx rfl (hb hby d4_37) rfl (teq hc37_9).2 k) ?_
    obtain ⟨T10, X10, e10, st10⟩ := getS2 X0 hx hZ hown (host := "") (Or.inl (hw _ (List.mem_of_getElem? (i := 77) rfl))) Via.refl e0 S_COMPARE_TRUE (g := (mkF m 40 #[.val (.int p1)] [])) rfl (hb hby d4_40)
    refine own_of (S' := T10.setTop (mkF m 43 #[.val (.int p1)] [(.ref w_COMPARE_TRUE)])) st10 ?_
    obtain ⟨fs, hr, hrun, hended, hW, hsame⟩ := X10.leave (v := some (.ref w_COMPARE_TRUE)) (fun h => by rw [Bd.returns] at h; cases h)
    subst hKd
    exact ⟨_, _, (retOut X10 hx Bd.returns rfl (Or.inr (Or.inr (Or.inr (Or.inr ⟨rfl, rfl, rfl⟩)))) (hb hby d4_43) hr), hrun, hended, _, _, rfl, (by
      show Q4 Z p1 w_SUCCESS w_PROTOCOL_ERROR w_SIZE_LIMIT_EXCEEDED w_COMPARE_FALSE w_COMPARE_TRUE w_AUTH_METHOD_NOT_SUPPORTED w_UNAVAILABLE_CRITICAL_EXTENSION w_NO_SUCH_ATTRIBUTE w_UNDEFINED_ATTRIBUTE_TYPE w_INAPPROPRIATE_MATCHING w_INVALID_ATTRIBUTE_SYNTAX w_NO_SUCH_OBJECT w_INVALID_DN_SYNTAX w_INVALID_CREDENTIALS w_UNWILLING_TO_PERFORM h0 n0 _ T10.heap _
      rw [show T10.heap = h0 from e10]
      exact ⟨w_COMPARE_TRUE, rfl, N0, rfl, E_w_COMPARE_TRUE, (by rw [own_code, if_neg hc1_1, if_neg hc10_3, if_neg hc19_5, if_neg hc28_7, if_pos hc37_9]; exact F_code_w_COMPARE_TRUE)⟩), ⟨_, rfl⟩, hW, hsame.mono (by decide) (by decide)⟩
  refine own_of (S' := s₁.setTop (mkF m 44 #[.val (.int p1)] [])) (fun t k => XS.icmpYes X0.here hx rfl (pc0 := 37) (pc' := 44) rfl (hb hby d4_37) rfl (feq hc37_9).2 (by decide) (by decide) k) ?_
  refine own_of (S' := s₁.setTop (mkF m 45 #[.val (.int p1)] [(.int p1)])) (fun t k => XS.iloadN X0.here hx rfl (hb hby d4_44) rfl k) ?_
  refine own_of (S' := s₁.setTop (mkF m 46 #[.val (.int p1)] [(.int (5 : Int32)), (.int p1)])) (fun t k => XS.iconst X0.here hx rfl (hb hby d4_45) k) ?_
  by_cases hc46_11 : p1 = (5 : Int32)
  · refine own_of (S' := s₁.setTop (mkF m 49 #[.val (.int p1)] [])) (fun t k => XS.icmpNo X0.here hx rfl (hb hby d4_46) rfl (teq hc46_11).2 k) ?_
    obtain ⟨T12, X12, e12, st12⟩ := getS2 X0 hx hZ hown (host := "") (Or.inl (hw _ (List.mem_of_getElem? (i := 71) rfl))) Via.refl e0 S_AUTH_METHOD_NOT_SUPPORTED (g := (mkF m 49 #[.val (.int p1)] [])) rfl (hb hby d4_49)
    refine own_of (S' := T12.setTop (mkF m 52 #[.val (.int p1)] [(.ref w_AUTH_METHOD_NOT_SUPPORTED)])) st12 ?_
    obtain ⟨fs, hr, hrun, hended, hW, hsame⟩ := X12.leave (v := some (.ref w_AUTH_METHOD_NOT_SUPPORTED)) (fun h => by rw [Bd.returns] at h; cases h)
    subst hKd
    exact ⟨_, _, (retOut X12 hx Bd.returns rfl (Or.inr (Or.inr (Or.inr (Or.inr ⟨rfl, rfl, rfl⟩)))) (hb hby d4_52) hr), hrun, hended, _, _, rfl, (by
      show Q4 Z p1 w_SUCCESS w_PROTOCOL_ERROR w_SIZE_LIMIT_EXCEEDED w_COMPARE_FALSE w_COMPARE_TRUE w_AUTH_METHOD_NOT_SUPPORTED w_UNAVAILABLE_CRITICAL_EXTENSION w_NO_SUCH_ATTRIBUTE w_UNDEFINED_ATTRIBUTE_TYPE w_INAPPROPRIATE_MATCHING w_INVALID_ATTRIBUTE_SYNTAX w_NO_SUCH_OBJECT w_INVALID_DN_SYNTAX w_INVALID_CREDENTIALS w_UNWILLING_TO_PERFORM h0 n0 _ T12.heap _
      rw [show T12.heap = h0 from e12]
      exact ⟨w_AUTH_METHOD_NOT_SUPPORTED, rfl, N0, rfl, E_w_AUTH_METHOD_NOT_SUPPORTED, (by rw [own_code, if_neg hc1_1, if_neg hc10_3, if_neg hc19_5, if_neg hc28_7, if_neg hc37_9, if_pos hc46_11]; exact F_code_w_AUTH_METHOD_NOT_SUPPORTED)⟩), ⟨_, rfl⟩, hW, hsame.mono (by decide) (by decide)⟩
  refine own_of (S' := s₁.setTop (mkF m 53 #[.val (.int p1)] [])) (fun t k => XS.icmpYes X0.here hx rfl (pc0 := 46) (pc' := 53) rfl (hb hby d4_46) rfl (feq hc46_11).2 (by decide) (by decide) k) ?_
  refine own_of (S' := s₁.setTop (mkF m 54 #[.val (.int p1)] [(.int p1)])) (fun t k => XS.iloadN X0.here hx rfl (hb hby d4_53) rfl k) ?_
  refine own_of (S' := s₁.setTop (mkF m 56 #[.val (.int p1)] [(.int (6 : Int32)), (.int p1)])) (fun t k => XS.bipush X0.here hx rfl (hb hby d4_54) k) ?_
  by_cases hc56_13 : p1 = (6 : Int32)
  · refine own_of (S' := s₁.setTop (mkF m 59 #[.val (.int p1)] [])) (fun t k => XS.icmpNo X0.here hx rfl (hb hby d4_56) rfl (teq hc56_13).2 k) ?_
    obtain ⟨T14, X14, e14, st14⟩ := getS2 X0 hx hZ hown (host := "") (Or.inl (hw _ (List.mem_of_getElem? (i := 61) rfl))) Via.refl e0 S_UNAVAILABLE_CRITICAL_EXTENSION (g := (mkF m 59 #[.val (.int p1)] [])) rfl (hb hby d4_59)
    refine own_of (S' := T14.setTop (mkF m 62 #[.val (.int p1)] [(.ref w_UNAVAILABLE_CRITICAL_EXTENSION)])) st14 ?_
    obtain ⟨fs, hr, hrun, hended, hW, hsame⟩ := X14.leave (v := some (.ref w_UNAVAILABLE_CRITICAL_EXTENSION)) (fun h => by rw [Bd.returns] at h; cases h)
    subst hKd
    exact ⟨_, _, (retOut X14 hx Bd.returns rfl (Or.inr (Or.inr (Or.inr (Or.inr ⟨rfl, rfl, rfl⟩)))) (hb hby d4_62) hr), hrun, hended, _, _, rfl, (by
      show Q4 Z p1 w_SUCCESS w_PROTOCOL_ERROR w_SIZE_LIMIT_EXCEEDED w_COMPARE_FALSE w_COMPARE_TRUE w_AUTH_METHOD_NOT_SUPPORTED w_UNAVAILABLE_CRITICAL_EXTENSION w_NO_SUCH_ATTRIBUTE w_UNDEFINED_ATTRIBUTE_TYPE w_INAPPROPRIATE_MATCHING w_INVALID_ATTRIBUTE_SYNTAX w_NO_SUCH_OBJECT w_INVALID_DN_SYNTAX w_INVALID_CREDENTIALS w_UNWILLING_TO_PERFORM h0 n0 _ T14.heap _
      rw [show T14.heap = h0 from e14]
      exact ⟨w_UNAVAILABLE_CRITICAL_EXTENSION, rfl, N0, rfl, E_w_UNAVAILABLE_CRITICAL_EXTENSION, (by rw [own_code, if_neg hc1_1, if_neg hc10_3, if_neg hc19_5, if_neg hc28_7, if_neg hc37_9, if_neg hc46_11, if_pos hc56_13]; exact F_code_w_UNAVAILABLE_CRITICAL_EXTENSION)⟩), ⟨_, rfl⟩, hW, hsame.mono (by decide) (by decide)⟩
  refine own_of (S' := s₁.setTop (mkF m 63 #[.val (.int p1)] [])) (fun t k => XS.icmpYes X0.here hx rfl (pc0 := 56) (pc' := 63) rfl (hb hby d4_56) rfl (feq hc56_13).2 (by decide) (by decide) k) ?_
  refine own_of (S' := s₁.setTop (mkF m 64 #[.val (.int p1)] [(.int p1)])) (fun t k => XS.iloadN X0.here hx rfl (hb hby d4_63) rfl k) ?_
  refine own_of (S' := s₁.setTop (mkF m 66 #[.val (.int p1)] [(.int (7 : Int32)), (.int p1)])) (fun t k => XS.bipush X0.here hx rfl (hb hby d4_64) k) ?_
  by_cases hc66_15 : p1 = (7 : Int32)
  · refine own_of (S' := s₁.setTop (mkF m 69 #[.val (.int p1)] [])) (fun t k => XS.icmpNo X0.here hx rfl (hb hby d4_66) rfl (teq hc66_15).2 k) ?_
    obtain ⟨T16, X16, e16, st16⟩ := getS2 X0 hx hZ hown (host := "") (Or.inl (hw _ (List.mem_of_getElem? (i := 75) rfl))) Via.refl e0 S_NO_SUCH_ATTRIBUTE (g := (mkF m 69 #[.val (.int p1)] [])) rfl (hb hby d4_69)
    refine own_of (S' := T16.setTop (mkF m 72 #[.val (.int p1)] [(.ref w_NO_SUCH_ATTRIBUTE)])) st16 ?_
    obtain ⟨fs, hr, hrun, hended, hW, hsame⟩ := X16.leave (v := some (.ref w_NO_SUCH_ATTRIBUTE)) (fun h => by rw [Bd.returns] at h; cases h)
    subst hKd
    exact ⟨_, _, (retOut X16 hx Bd.returns rfl (Or.inr (Or.inr (Or.inr (Or.inr ⟨rfl, rfl, rfl⟩)))) (hb hby d4_72) hr), hrun, hended, _, _, rfl, (by
      show Q4 Z p1 w_SUCCESS w_PROTOCOL_ERROR w_SIZE_LIMIT_EXCEEDED w_COMPARE_FALSE w_COMPARE_TRUE w_AUTH_METHOD_NOT_SUPPORTED w_UNAVAILABLE_CRITICAL_EXTENSION w_NO_SUCH_ATTRIBUTE w_UNDEFINED_ATTRIBUTE_TYPE w_INAPPROPRIATE_MATCHING w_INVALID_ATTRIBUTE_SYNTAX w_NO_SUCH_OBJECT w_INVALID_DN_SYNTAX w_INVALID_CREDENTIALS w_UNWILLING_TO_PERFORM h0 n0 _ T16.heap _
      rw [show T16.heap = h0 from e16]
      exact ⟨w_NO_SUCH_ATTRIBUTE, rfl, N0, rfl, E_w_NO_SUCH_ATTRIBUTE, (by rw [own_code, if_neg hc1_1, if_neg hc10_3, if_neg hc19_5, if_neg hc28_7, if_neg hc37_9, if_neg hc46_11, if_neg hc56_13, if_pos hc66_15]; exact F_code_w_NO_SUCH_ATTRIBUTE)⟩), ⟨_, rfl⟩, hW, hsame.mono (by decide) (by decide)⟩
  refine own_of (S' := s₁.setTop (mkF m 73 #[.val (.int p1)] [])) (fun t k => XS.icmpYes X0.here hx rfl (pc0 := 66) (pc' := 73) rfl (hb hby d4_66) rfl (feq hc66_15).2 (by decide) (by decide) k) ?_
  refine own_of (S' := s₁.setTop (mkF m 74 #[.val (.int p1)] [(.int p1)])) (fun t k => XS.iloadN X0.here hx rfl (hb hby d4_73) rfl k) ?_
  refine own_of (S' := s₁.setTop (mkF m 76 #[.val (.int p1)] [(.int (8 : Int32)), (.int p1)])) (fun t k => XS.bipush X0.here hx rfl (hb hby d4_74) k) ?_
  by_cases hc76_17 : p1 = (8 : Int32)
  · refine own_of (S' := s₁.setTop (mkF m 79 #[.val (.int p1)] [])) (fun t k => XS.icmpNo X0.here hx rfl (hb hby d4_76) rfl (teq hc76_17).2 k) ?_
    obtain ⟨T18, X18, e18, st18⟩ := getS2 X0 hx hZ hown (host := "") (Or.inl (hw _ (List.mem_of_getElem? (i := 79) rfl))) Via.refl e0 S_UNDEFINED_ATTRIBUTE_TYPE (g := (mkF m 79 #[.val (.int p1)] [])) rfl (hb hby d4_79)
    refine own_of (S' := T18.setTop (mkF m 82 #[.val (.int p1)] [(.ref w_UNDEFINED_ATTRIBUTE_TYPE)])) st18 ?_
    obtain ⟨fs, hr, hrun, hended, hW, hsame⟩ := X18.leave (v := some (.ref w_UNDEFINED_ATTRIBUTE_TYPE)) (fun h => by rw [Bd.returns] at h; cases h)
    subst hKd
    exact ⟨_, _, (retOut X18 hx Bd.returns rfl (Or.inr (Or.inr (Or.inr (Or.inr ⟨rfl, rfl, rfl⟩)))) (hb hby d4_82) hr), hrun, hended, _, _, rfl, (by
      show Q4 Z p1 w_SUCCESS w_PROTOCOL_ERROR w_SIZE_LIMIT_EXCEEDED w_COMPARE_FALSE w_COMPARE_TRUE w_AUTH_METHOD_NOT_SUPPORTED w_UNAVAILABLE_CRITICAL_EXTENSION w_NO_SUCH_ATTRIBUTE w_UNDEFINED_ATTRIBUTE_TYPE w_INAPPROPRIATE_MATCHING w_INVALID_ATTRIBUTE_SYNTAX w_NO_SUCH_OBJECT w_INVALID_DN_SYNTAX w_INVALID_CREDENTIALS w_UNWILLING_TO_PERFORM h0 n0 _ T18.heap _
      rw [show T18.heap = h0 from e18]
      exact ⟨w_UNDEFINED_ATTRIBUTE_TYPE, rfl, N0, rfl, E_w_UNDEFINED_ATTRIBUTE_TYPE, (by rw [own_code, if_neg hc1_1, if_neg hc10_3, if_neg hc19_5, if_neg hc28_7, if_neg hc37_9, if_neg hc46_11, if_neg hc56_13, if_neg hc66_15, if_pos hc76_17]; exact F_code_w_UNDEFINED_ATTRIBUTE_TYPE)⟩), ⟨_, rfl⟩, hW, hsame.mono (by decide) (by decide)⟩
  refine own_of (S' := s₁.setTop (mkF m 83 #[.val (.int p1)] [])) (fun t k => XS.icmpYes X0.here hx rfl (pc0 := 76) (pc' := 83) rfl (hb hby d4_76) rfl (feq hc76_17).2 (by decide) (by decide) k) ?_
  refine own_of (S' := s₁.setTop (mkF m 84 #[.val (.int p1)] [(.int p1)])) (fun t k => XS.iloadN X0.here hx rfl (hb hby d4_83) rfl k) ?_
  refine own_of (S' := s₁.setTop (mkF m 86 #[.val (.int p1)] [(.int (9 : Int32)), (.int p1)])) (fun t k => XS.bipush X0.here hx rfl (hb hby d4_84) k) ?_
  by_cases hc86_19 : p1 = (9 : Int32)
  · refine own_of (S' := s₁.setTop (mkF m 89 #[.val (.int p1)] [])) (fun t k => XS.icmpNo X0.here hx rfl (hb hby d4_86) rfl (teq hc86_19).2 k) ?_
    obtain ⟨T20, X20, e20, st20⟩ := getS2 X0 hx hZ hown (host := "") (Or.inl (hw _ (List.mem_of_getElem? (i := 69) rfl))) Via.refl e0 S_INAPPROPRIATE_MATCHING (g := (mkF m 89 #[.val (.int p1)] [])) rfl (hb hby d4_89)
    refine own_of (S' := T20.setTop (mkF m 92 #[.val (.int p1)] [(.ref w_INAPPROPRIATE_MATCHING)])) st20 ?_
    obtain ⟨fs, hr, hrun, hended, hW, hsame⟩ := X20.leave (v := some (.ref w_INAPPROPRIATE_MATCHING)) (fun h => by rw [Bd.returns] at h; cases h)
    subst hKd
    exact ⟨_, _, (retOut X20 hx Bd.returns rfl (Or.inr (Or.inr (Or.inr (Or.inr ⟨rfl, rfl, rfl⟩)))) (hb hby d4_92) hr), hrun, hended, _, _, rfl, (by
      show Q4 Z p1 w_SUCCESS w_PROTOCOL_ERROR w_SIZE_LIMIT_EXCEEDED w_COMPARE_FALSE w_COMPARE_TRUE w_AUTH_METHOD_NOT_SUPPORTED w_UNAVAILABLE_CRITICAL_EXTENSION w_NO_SUCH_ATTRIBUTE w_UNDEFINED_ATTRIBUTE_TYPE w_INAPPROPRIATE_MATCHING w_INVALID_ATTRIBUTE_SYNTAX w_NO_SUCH_OBJECT w_INVALID_DN_SYNTAX w_INVALID_CREDENTIALS w_UNWILLING_TO_PERFORM h0 n0 _ T20.heap _
      rw [show T20.heap = h0 from e20]
      exact ⟨w_INAPPROPRIATE_MATCHING, rfl, N0, rfl, E_w_INAPPROPRIATE_MATCHING, (by rw [own_code, if_neg hc1_1, if_neg hc10_3, if_neg hc19_5, if_neg hc28_7, if_neg hc37_9, if_neg hc46_11, if_neg hc56_13, if_neg hc66_15, if_neg hc76_17, if_pos hc86_19]; exact F_code_w_INAPPROPRIATE_MATCHING)⟩), ⟨_, rfl⟩, hW, hsame.mono (by decide) (by decide)⟩
  refine own_of (S' := s₁.setTop (mkF m 93 #[.val (.int p1)] [])) (fun t k => XS.icmpYes X0.here hx rfl (pc0 := 86) (pc' := 93) rfl (hb hby d4_86) rfl (feq hc86_19).2 (by decide) (by decide) k) ?_
  refine own_of (S' := s₁.setTop (mkF m 94 #[.val (.int p1)] [(.int p1)])) (fun t k => XS.iloadN X0.here hx rfl (hb hby d4_93) rfl k) ?_
  refine own_of (S' := s₁.setTop (mkF m 96 #[.val (.int p1)] [(.int (10 : Int32)), (.int p1)])) (fun t k => XS.bipush X0.here hx rfl (hb hby d4_94) k) ?_
  by_cases hc96_21 : p1 = (10 : Int32)
  · refine own_of (S' := s₁.setTop (mkF m 99 #[.val (.int p1)] [])) (fun t k => XS.icmpNo X0.here hx rfl (hb hby d4_96) rfl (teq hc96_21).2 k) ?_
    obtain ⟨T22, X22, e22, st22⟩ := getS2 X0 hx hZ hown (host := "") (Or.inl (hw _ (List.mem_of_getElem? (i := 53) rfl))) Via.refl e0 S_INVALID_ATTRIBUTE_SYNTAX (g := (mkF m 99 #[.val (.int p1)] [])) rfl (hb hby d4_99)
    refine own_of (S' := T22.setTop (mkF m 102 #[.val (.int p1)] [(.ref w_INVALID_ATTRIBUTE_SYNTAX)])) st22 ?_
    obtain ⟨fs, hr, hrun, hended, hW, hsame⟩ := X22.leave (v := some (.ref w_INVALID_ATTRIBUTE_SYNTAX)) (fun h => by rw [Bd.returns] at h; cases h)
    subst hKd
    exact ⟨_, _, (retOut X22 hx Bd.returns rfl (Or.inr (Or.inr (Or.inr (Or.inr ⟨rfl, rfl, rfl⟩)))) (hb hby d4_102) hr), hrun, hended, _, _, rfl, (by
      show Q4 Z p1 w_SUCCESS w_PROTOCOL_ERROR w_SIZE_LIMIT_EXCEEDED w_COMPARE_FALSE w_COMPARE_TRUE w_AUTH_METHOD_NOT_SUPPORTED w_UNAVAILABLE_CRITICAL_EXTENSION w_NO_SUCH_ATTRIBUTE w_UNDEFINED_ATTRIBUTE_TYPE w_INAPPROPRIATE_MATCHING w_INVALID_ATTRIBUTE_SYNTAX w_NO_SUCH_OBJECT w_INVALID_DN_SYNTAX w_INVALID_CREDENTIALS w_UNWILLING_TO_PERFORM h0 n0 _ T22.heap _
      rw [show T22.heap = h0 from e22]
      exact ⟨w_INVALID_ATTRIBUTE_SYNTAX, rfl, N0, rfl, E_w_INVALID_ATTRIBUTE_SYNTAX, (by rw [own_code, if_neg hc1_1, if_neg hc10_3, if_neg hc19_5, if_neg hc28_7, if_neg hc37_9, if_neg hc46_11, if_neg hc56_13, if_neg hc66_15, if_neg hc76_17, if_neg hc86_19, if_pos hc96_21]; exact F_code_w_INVALID_ATTRIBUTE_SYNTAX)⟩), ⟨_, rfl⟩, hW, hsame.mono (by decide) (by decide)⟩
  refine own_of (S' := s₁.setTop (mkF m 103 #[.val (.int p1)] [])) (fun t k => XS.icmpYes X0.here hx rfl (pc0 := 96) (pc' := 103) rfl (hb hby d4_96) rfl (feq hc96_21).2 (by decide) (by decide) k) ?_
  refine own_of (S' := s₁.setTop (mkF m 104 #[.val (.int p1)] [(.int p1)])) (fun t k => XS.iloadN X0.here hx rfl (hb hby d4_103) rfl k) ?_
  refine own_of (S' := s₁.setTop (mkF m 106 #[.val (.int p1)] [(.int (11 : Int32)), (.int p1)])) (fun t k => XS.bipush X0.here hx rfl (hb hby d4_104) k) ?_
  by_cases hc106_23 : p1 = (11 : Int32)
  · refine own_of (S' := s₁.setTop (mkF m 109 #[.val (.int p1)] [])) (fun t k => XS.icmpNo X0.here hx rfl (hb hby d4_106) rfl (teq hc106_23).2 k) ?_
    obtain ⟨T24, X24, e24, st24⟩ := getS2 X0 hx hZ hown (host := "") (Or.inl (hw _ (List.mem_of_getElem? (i := 59) rfl))) Via.refl e0 S_NO_SUCH_OBJECT (g := (mkF m 109 #[.val (.int p1)] [])) rfl (hb hby d4_109)
    refine own_of (S' := T24.setTop (mkF m 112 #[.val (.int p1)] [(.ref w_NO_SUCH_OBJECT)])) st24 ?_
    obtain ⟨fs, hr, hrun, hended, hW, hsame⟩ := X24.leave (v := some (.ref w_NO_SUCH_OBJECT)) (fun h => by rw [Bd.returns] at h; cases h)
    subst hKd
    exact ⟨_, _, (retOut X24 hx Bd.returns rfl (Or.inr (Or.inr (Or.inr (Or.inr ⟨rfl, rfl, rfl⟩)))) (hb hby d4_112) hr), hrun, hended, _, _, rfl, (by
      show Q4 Z p1 w_SUCCESS w_PROTOCOL_ERROR w_SIZE_LIMIT_EXCEEDED w_COMPARE_FALSE w_COMPARE_TRUE w_AUTH_METHOD_NOT_SUPPORTED w_UNAVAILABLE_CRITICAL_EXTENSION w_NO_SUCH_ATTRIBUTE w_UNDEFINED_ATTRIBUTE_TYPE w_INAPPROPRIATE_MATCHING w_INVALID_ATTRIBUTE_SYNTAX w_NO_SUCH_OBJECT w_INVALID_DN_SYNTAX w_INVALID_CREDENTIALS w_UNWILLING_TO_PERFORM h0 n0 _ T24.heap _
      rw [show T24.heap = h0 from e24]
      exact ⟨w_NO_SUCH_OBJECT, rfl, N0, rfl, E_w_NO_SUCH_OBJECT, (by rw [own_code, if_neg hc1_1, if_neg hc10_3, if_neg hc19_5, if_neg hc28_7, if_neg hc37_9, if_neg hc46_11, if_neg hc56_13, if_neg hc66_15, if_neg hc76_17, if_neg hc86_19, if_neg hc96_21, if_pos hc106_23]; exact F_code_w_NO_SUCH_OBJECT)⟩), ⟨_, rfl⟩, hW, hsame.mono (by decide) (by decide)⟩
  refine own_of (S' := s₁.setTop (mkF m 113 #[.val (.int p1)] [])) (fun t k => XS.icmpYes X0.here hx rfl (pc0 := 106) (pc' := 113) rfl (hb hby d4_106) rfl (feq hc106_23).2 (by decide) (by decide) k) ?_
  refine own_of (S' := s₁.setTop (mkF m 114 #[.val (.int p1)] [(.int p1)])) (fun t k => XS.iloadN X0.here hx rfl (hb hby d4_113) rfl k) ?_
  refine own_of (S' := s₁.setTop (mkF m 116 #[.val (.int p1)] [(.int (12 : Int32)), (.int p1)])) (fun t k => XS.bipush X0.here hx rfl (hb hby d4_114) k) ?_
  by_cases hc116_25 : p1 = (12 : Int32)
  · refine own_of (S' := s₁.setTop (mkF m 119 #[.val (.int p1)] [])) (fun t k => XS.icmpNo X0.here hx rfl (hb hby d4_116) rfl (teq hc116_25).2 k) ?_
    obtain ⟨T26, X26, e26, st26⟩ := getS2 X0 hx hZ hown (host := "") (Or.inl (hw _ (List.mem_of_getElem? (i := 65) rfl))) Via.refl e0 S_INVALID_DN_SYNTAX (g := (mkF m 119 #[.val (.int p1)] [])) rfl (hb hby d4_119)
    refine own_of (S' := T26.setTop (mkF m 122 #[.val (.int p1)] [(.ref w_INVALID_DN_SYNTAX)])) st26 ?_
    obtain ⟨fs, hr, hrun, hended, hW, hsame⟩ := X26.leave (v := some (.ref w_INVALID_DN_SYNTAX)) (fun h => by rw [Bd.returns] at h; cases h)
    subst hKd
    exact ⟨_, _, (retOut X26 hx Bd.returns rfl (Or.inr (Or.inr (Or.inr (Or.inr ⟨rfl, rfl, rfl⟩)))) (hb hby d4_122) hr), hrun, hended, _, _, rfl, (by
      show Q4 Z p1 w_SUCCESS w_PROTOCOL_ERROR w_SIZE_LIMIT_EXCEEDED w_COMPARE_FALSE w_COMPARE_TRUE w_AUTH_METHOD_NOT_SUPPORTED w_UNAVAILABLE_CRITICAL_EXTENSION w_NO_SUCH_ATTRIBUTE w_UNDEFINED_ATTRIBUTE_TYPE w_INAPPROPRIATE_MATCHING w_INVALID_ATTRIBUTE_SYNTAX w_NO_SUCH_OBJECT w_INVALID_DN_SYNTAX w_INVALID_CREDENTIALS w_UNWILLING_TO_PERFORM h0 n0 _ T26.heap _
      rw [show T26.heap = h0 from e26]
      exact ⟨w_INVALID_DN_SYNTAX, rfl, N0, rfl, E_w_INVALID_DN_SYNTAX, (by rw [own_code, if_neg hc1_1, if_neg hc10_3, if_neg hc19_5, if_neg hc28_7, if_neg hc37_9, if_neg hc46_11, if_neg hc56_13, if_neg hc66_15, if_neg hc76_17, if_neg hc86_19, if_neg hc96_21, if_neg hc106_23, if_pos hc116_25]; exact F_code_w_INVALID_DN_SYNTAX)⟩), ⟨_, rfl⟩, hW, hsame.mono (by decide) (by decide)⟩
  refine own_of (S' := s₁.setTop (mkF m 123 #[.val (.int p1)] [])) (fun t k => XS.icmpYes X0.here hx rfl (pc0 := 116) (pc' := 123) rfl (hb hby d4_116) rfl (feq hc116_25).2 (by decide) (by decide) k) ?_
  refine own_of (S' := s₁.setTop (mkF m 124 #[.val (.int p1)] [(.int p1)])) (fun t k => XS.iloadN X0.here hx rfl (hb hby d4_123) rfl k) ?_
  refine own_of (S' := s₁.setTop (mkF m 126 #[.val (.int p1)] [(.int (13 : Int32)), (.int p1)])) (fun t k => XS.bipush X0.here hx rfl (hb hby d4_124) k) ?_
  by_cases hc126_27 : p1 = (13 : Int32)
  · refine own_of (S' := s₁.setTop (mkF m 129 #[.val (.int p1)] [])) (fun t k => XS.icmpNo X0.here hx rfl (hb hby d4_126) rfl (teq hc126_27).2 k) ?_
    obtain ⟨T28, X28, e28, st28⟩ := getS2 X0 hx hZ hown (host := "") (Or.inl (hw _ (List.mem_of_getElem? (i := 73) rfl))) Via.refl e0 S_INVALID_CREDENTIALS (g := (mkF m 129 #[.val (.int p1)] [])) rfl (hb hby d4_129)
    refine own_of (S' := T28.setTop (mkF m 132 #[.val (.int p1)] [(.ref w_INVALID_CREDENTIALS)])) st28 ?_
    obtain ⟨fs, hr, hrun, hended, hW, hsame⟩ := X28.leave (v := some (.ref w_INVALID_CREDENTIALS)) (fun h => by rw [Bd.returns] at h; cases h)
    subst hKd
    exact ⟨_, _, (retOut X28 hx Bd.returns rfl (Or.inr (Or.inr (Or.inr (Or.inr ⟨rfl, rfl, rfl⟩)))) (hb hby d4_132) hr), hrun, hended, _, _, rfl, (by
      show Q4 Z p1 w_SUCCESS w_PROTOCOL_ERROR w_SIZE_LIMIT_EXCEEDED w_COMPARE_FALSE w_COMPARE_TRUE w_AUTH_METHOD_NOT_SUPPORTED w_UNAVAILABLE_CRITICAL_EXTENSION w_NO_SUCH_ATTRIBUTE w_UNDEFINED_ATTRIBUTE_TYPE w_INAPPROPRIATE_MATCHING w_INVALID_ATTRIBUTE_SYNTAX w_NO_SUCH_OBJECT w_INVALID_DN_SYNTAX w_INVALID_CREDENTIALS w_UNWILLING_TO_PERFORM h0 n0 _ T28.heap _
      rw [show T28.heap = h0 from e28]
      exact ⟨w_INVALID_CREDENTIALS, rfl, N0, rfl, E_w_INVALID_CREDENTIALS, (by rw [own_code, if_neg hc1_1, if_neg hc10_3, if_neg hc19_5, if_neg hc28_7, if_neg hc37_9, if_neg hc46_11, if_neg hc56_13, if_neg hc66_15, if_neg hc76_17, if_neg hc86_19, if_neg hc96_21, if_neg hc106_23, if_neg hc116_25, if_pos hc126_27]; exact F_code_w_INVALID_CREDENTIALS)⟩), ⟨_, rfl⟩, hW, hsame.mono (by decide) (by decide)⟩
  refine own_of (S' := s₁.setTop (mkF m 133 #[.val (.int p1)] [])) (fun t k => XS.icmpYes X0.here hx rfl (pc0 := 126) (pc' := 133) rfl (hb hby d4_126) rfl (feq hc126_27).2 (by decide) (by decide) k) ?_
  obtain ⟨T29, X29, e29, st29⟩ := getS2 X0 hx hZ hown (host := "") (Or.inl (hw _ (List.mem_of_getElem? (i := 67) rfl))) Via.refl e0 S_UNWILLING_TO_PERFORM (g := (mkF m 133 #[.val (.int p1)] [])) rfl (hb hby d4_133)
  refine own_of (S' := T29.setTop (mkF m 136 #[.val (.int p1)] [(.ref w_UNWILLING_TO_PERFORM)])) st29 ?_
  obtain ⟨fs, hr, hrun, hended, hW, hsame⟩ := X29.leave (v := some (.ref w_UNWILLING_TO_PERFORM)) (fun h => by rw [Bd.returns] at h; cases h)
  subst hKd
  exact ⟨_, _, (retOut X29 hx Bd.returns rfl (Or.inr (Or.inr (Or.inr (Or.inr ⟨rfl, rfl, rfl⟩)))) (hb hby d4_136) hr), hrun, hended, _, _, rfl, (by
    show Q4 Z p1 w_SUCCESS w_PROTOCOL_ERROR w_SIZE_LIMIT_EXCEEDED w_COMPARE_FALSE w_COMPARE_TRUE w_AUTH_METHOD_NOT_SUPPORTED w_UNAVAILABLE_CRITICAL_EXTENSION w_NO_SUCH_ATTRIBUTE w_UNDEFINED_ATTRIBUTE_TYPE w_INAPPROPRIATE_MATCHING w_INVALID_ATTRIBUTE_SYNTAX w_NO_SUCH_OBJECT w_INVALID_DN_SYNTAX w_INVALID_CREDENTIALS w_UNWILLING_TO_PERFORM h0 n0 _ T29.heap _
    rw [show T29.heap = h0 from e29]
    exact ⟨w_UNWILLING_TO_PERFORM, rfl, N0, rfl, E_w_UNWILLING_TO_PERFORM, (by rw [own_code, if_neg hc1_1, if_neg hc10_3, if_neg hc19_5, if_neg hc28_7, if_neg hc37_9, if_neg hc46_11, if_neg hc56_13, if_neg hc66_15, if_neg hc76_17, if_neg hc86_19, if_neg hc96_21, if_neg hc106_23, if_neg hc116_25, if_neg hc126_27]; exact F_code_w_UNWILLING_TO_PERFORM)⟩), ⟨_, rfl⟩, hW, hsame.mono (by decide) (by decide)⟩
theorem d2_0 : decode jdk_30_method_1_code 0 = .ok (.aload_n 0, 1) := by decide +kernel
theorem d2_1 : decode jdk_30_method_1_code 1 = .ok (.invokespecial 1, 3) := by decide +kernel
theorem d2_4 : decode jdk_30_method_1_code 4 = .ok (.return_, 1) := by decide +kernel
theorem pn_2 : plainName "java/lang/Record" = true := by first | (simp [plainName, overriddenIn]; done) | decide +kernel
theorem ef_2 (m : MethodId) (a1 : Addr) : entryFrame m #[(.ref a1)] 1 = mkF m 0 #[.val (.ref a1)] [] := by first | (simp [entryFrame, mkF, argsToLocals, Value.category]; done) | rfl
def Q2 (Z : State) (a1 : Addr) (h0 : Heap) (n0 : Nat) (v : Option Value) (h : Heap) (L : List Loc) : Prop := (v = none) ∧ (Fr n0 L) ∧ (h = h0)
set_option maxRecDepth 65536 in
set_option maxHeartbeats 40000000 in
theorem rm2 (l : Launch) (Z : State) (a0 : Array Value) (hw : ∀ d ∈ tables_1, d.before a0 Z = true) (ws : List Jvm.Cond) (a1 : Addr) (h0 : Heap) (n0 : Nat) (Z0 : n0 ≤ h0.size) :
    MetFree l (⟨"java/lang/Record", "<init>", "()V"⟩ : MethodName) (head1 (Jvm.Cond.code (⟨"java/lang/Record", "<init>", "()V"⟩ : MethodName) jdk_30_method_1_code 1 none :: ws) ({ frames := 1, cells := 0, slots := 0, locals := 12 } : Room)) (fun a U => a = #[(.ref a1)] ∧ Z.Warmed39 U.vm ∧ U.heap = h0) (fun _ _ _ _ _ => True) (fun _ U o U' => ∃ v L, o = .returned v ∧ Q2 Z a1 h0 n0 v U'.heap L ∧ FrameEnd U o U' L ({ frames := 1, cells := 0, slots := 0, locals := 12 } : Room).cells ({ frames := 1, cells := 0, slots := 0, locals := 12 } : Room).slots) := by
  refine MetFree.of_bodySF (plainFor_of_name pn_2) hisR ?_
  intro p e s m args below meth c s₁ Bd hml0 hP hK
  obtain ⟨rfl, hZ, hh⟩ := hP
  have hx := Bd.exec
  have hby := Bd.bytes
  have hml : c.maxLocals = 1 := hml0
  have hown : s.vm.findClass "java/lang/Record" = some m.cls := findClass_of_methodNamed Bd.named
  have hnm := (name_of_methodNamed Bd.named Bd.method).1
  have X0 : Stand p l e ({ frames := 1, cells := 0, slots := 0, locals := 12 } : Room) s m #[(.ref a1)] below meth c s₁ [] 0 0 := Stand.of_body Bd
  have e0 : s₁.heap = h0 := by rw [← hh, Bd.state]; rfl
  have N0 := Fr.nil n0
  refine own_of (S := s₁.setTop (entryFrame m #[(.ref a1)] 1)) (S' := s₁.setTop (mkF m 0 #[.val (.ref a1)] [])) (K := fun s₂ o => ∃ v L, o = .returned v ∧ Q2 Z a1 h0 n0 v s₂.heap L ∧ FrameEnd s o s₂ L ({ frames := 1, cells := 0, slots := 0, locals := 12 } : Room).cells ({ frames := 1, cells := 0, slots := 0, locals := 12 } : Room).slots) (fun t k => castTop (ef_2 m a1) k) ?_
  refine own_nameK fun K hKd => ?_
  refine own_of (S' := s₁.setTop (mkF m 1 #[.val (.ref a1)] [(.ref a1)])) (fun t k => XS.aloadN X0.here hx rfl (hb hby d2_0) rfl rfl k) ?_
  obtain ⟨T1, X1, e1, st1⟩ := initO X0 hx hZ hown (hw _ (List.mem_of_getElem? (i := 20) rfl)) (hw _ (List.mem_of_getElem? (i := 21) rfl)) (hw _ (List.mem_of_getElem? (i := 22) rfl)) e0 (g := (mkF m 1 #[.val (.ref a1)] [(.ref a1)])) rfl (by rw [hml]; rfl) rfl (hb hby d2_1) (by decide) (W := 0) (by show 2 * 0 + _ ≤ _; exact Nat.le_of_eq rfl) (by decide)
  refine own_of (S' := T1.setTop (mkF m 4 #[.val (.ref a1)] [])) st1 ?_
  obtain ⟨fs, hr, hrun, hended, hW, hsame⟩ := X1.leave (v := none) (fun _ => rfl)
  subst hKd
  exact ⟨_, _, X1.returnOut hx Bd.returns (hb hby d2_4) hr, hrun, hended, _, _, rfl, (by
    show Q2 Z a1 h0 n0 _ T1.heap _
    rw [show T1.heap = h0 from e1]
    exact ⟨rfl, N0, rfl⟩), ⟨_, rfl⟩, hW, hsame.mono (by decide) (by decide)⟩
theorem d1_0 : decode prog_64_method_1_code 0 = .ok (.aload_n 0, 1) := by decide +kernel
theorem d1_1 : decode prog_64_method_1_code 1 = .ok (.invokespecial 1, 3) := by decide +kernel
theorem d1_4 : decode prog_64_method_1_code 4 = .ok (.aload_n 0, 1) := by decide +kernel
theorem d1_5 : decode prog_64_method_1_code 5 = .ok (.iload_n 1, 1) := by decide +kernel
theorem d1_6 : decode prog_64_method_1_code 6 = .ok (.putfield 7, 3) := by decide +kernel
theorem d1_9 : decode prog_64_method_1_code 9 = .ok (.aload_n 0, 1) := by decide +kernel
theorem d1_10 : decode prog_64_method_1_code 10 = .ok (.iload_n 2, 1) := by decide +kernel
theorem d1_11 : decode prog_64_method_1_code 11 = .ok (.putfield 13, 3) := by decide +kernel
theorem d1_14 : decode prog_64_method_1_code 14 = .ok (.aload_n 0, 1) := by decide +kernel
theorem d1_15 : decode prog_64_method_1_code 15 = .ok (.aload_n 3, 1) := by decide +kernel
theorem d1_16 : decode prog_64_method_1_code 16 = .ok (.putfield 16, 3) := by decide +kernel
theorem d1_19 : decode prog_64_method_1_code 19 = .ok (.aload_n 0, 1) := by decide +kernel
theorem d1_20 : decode prog_64_method_1_code 20 = .ok (.aload 4, 2) := by decide +kernel
theorem d1_22 : decode prog_64_method_1_code 22 = .ok (.putfield 20, 3) := by decide +kernel
theorem d1_25 : decode prog_64_method_1_code 25 = .ok (.return_, 1) := by decide +kernel
theorem pn_1 : plainName "com/example/waypost/waypost/ldap/LdapResponse$Result" = true := by first | (simp [plainName, overriddenIn]; done) | decide +kernel
theorem pd1_0 : parseMethodDescriptor "()V" = some ⟨[], none⟩ := by decide +kernel
theorem ef_1 (m : MethodId) (a1 : Addr) (p2 : Int32) (p3 : Int32) (a4 : Addr) (a5 : Addr) : entryFrame m #[(.ref a1), (.int p2), (.int p3), (.ref a4), (.ref a5)] 5 = mkF m 0 #[.val (.ref a1), .val (.int p2), .val (.int p3), .val (.ref a4), .val (.ref a5)] [] := by first | (simp [entryFrame, mkF, argsToLocals, Value.category]; done) | rfl
def Q1 (Z : State) (a1 : Addr) (p2 : Int32) (p3 : Int32) (a4 : Addr) (a5 : Addr) (h0 : Heap) (n0 : Nat) (v : Option Value) (h : Heap) (L : List Loc) : Prop := (v = none) ∧ (Fr n0 L) ∧ (Keep h0 h [a1]) ∧ (Fld Z h a1 "com/example/waypost/waypost/ldap/LdapResponse$Result" "resultCode" "I" (.int p3))
set_option maxRecDepth 65536 in
set_option maxHeartbeats 40000000 in
theorem rm1 (l : Launch) (Z : State) (a0 : Array Value) (hw : ∀ d ∈ tables_1, d.before a0 Z = true) (ws : List Jvm.Cond) (a1 : Addr) (p2 : Int32) (p3 : Int32) (a4 : Addr) (a5 : Addr) (h0 : Heap) (n0 : Nat) (Z0 : n0 ≤ h0.size) (E_a1 : Exa Z h0 a1 "com/example/waypost/waypost/ldap/LdapResponse$Result") (F_responseTag_a1 : Fld Z h0 a1 "com/example/waypost/waypost/ldap/LdapResponse$Result" "responseTag" "I" (.int (0 : Int32))) (F_resultCode_a1 : Fld Z h0 a1 "com/example/waypost/waypost/ldap/LdapResponse$Result" "resultCode" "I" (.int (0 : Int32))) (F_matchedDn_a1 : Fld Z h0 a1 "com/example/waypost/waypost/ldap/LdapResponse$Result" "matchedDn" "Ljava/lang/String;" .null) (F_diagnosticMessage_a1 : Fld Z h0 a1 "com/example/waypost/waypost/ldap/LdapResponse$Result" "diagnosticMessage" "Ljava/lang/String;" .null) (g_a1 : n0 ≤ a1) :
    MetFree l (⟨"com/example/waypost/waypost/ldap/LdapResponse$Result", "<init>", "(IILjava/lang/String;Ljava/lang/String;)V"⟩ : MethodName) (head1 (Jvm.Cond.code (⟨"com/example/waypost/waypost/ldap/LdapResponse$Result", "<init>", "(IILjava/lang/String;Ljava/lang/String;)V"⟩ : MethodName) prog_64_method_1_code 5 none :: ws) ({ frames := 2, cells := 0, slots := 0, locals := 24 } : Room)) (fun a U => a = #[(.ref a1), (.int p2), (.int p3), (.ref a4), (.ref a5)] ∧ Z.Warmed39 U.vm ∧ U.heap = h0) (fun _ _ _ _ _ => True) (fun _ U o U' => ∃ v L, o = .returned v ∧ Q1 Z a1 p2 p3 a4 a5 h0 n0 v U'.heap L ∧ FrameEnd U o U' L ({ frames := 2, cells := 0, slots := 0, locals := 24 } : Room).cells ({ frames := 2, cells := 0, slots := 0, locals := 24 } : Room).slots) := by
  refine MetFree.of_bodySF (plainFor_of_name pn_1) hisR ?_
  intro p e s m args below meth c s₁ Bd hml0 hP hK
  obtain ⟨rfl, hZ, hh⟩ := hP
  have hx := Bd.exec
  have hby := Bd.bytes
  have hml : c.maxLocals = 5 := hml0
  have hown : s.vm.findClass "com/example/waypost/waypost/ldap/LdapResponse$Result" = some m.cls := findClass_of_methodNamed Bd.named
  have hnm := (name_of_methodNamed Bd.named Bd.method).1
  have X0 : Stand p l e ({ frames := 2, cells := 0, slots := 0, locals := 24 } : Room) s m #[(.ref a1), (.int p2), (.int p3), (.ref a4), (.ref a5)] below meth c s₁ [] 0 0 := Stand.of_body Bd
  have e0 : s₁.heap = h0 := by rw [← hh, Bd.state]; rfl
  have N0 := Fr.nil n0
  refine own_of (S := s₁.setTop (entryFrame m #[(.ref a1), (.int p2), (.int p3), (.ref a4), (.ref a5)] 5)) (S' := s₁.setTop (mkF m 0 #[.val (.ref a1), .val (.int p2), .val (.int p3), .val (.ref a4), .val (.ref a5)] [])) (K := fun s₂ o => ∃ v L, o = .returned v ∧ Q1 Z a1 p2 p3 a4 a5 h0 n0 v s₂.heap L ∧ FrameEnd s o s₂ L ({ frames := 2, cells := 0, slots := 0, locals := 24 } : Room).cells ({ frames := 2, cells := 0, slots := 0, locals := 24 } : Room).slots) (fun t k => castTop (ef_1 m a1 p2 p3 a4 a5) k) ?_
  refine own_nameK fun K hKd => ?_
  refine own_of (S' := s₁.setTop (mkF m 1 #[.val (.ref a1), .val (.int p2), .val (.int p3), .val (.ref a4), .val (.ref a5)] [(.ref a1)])) (fun t k => XS.aloadN X0.here hx rfl (hb hby d1_0) rfl rfl k) ?_
  obtain ⟨_, _, ⟨T1, L1, k1, n1⟩, -, X1, ⟨Lc1, hQ1, l1, y1, z1⟩, st1⟩ := X0.specialBack hx (y := (⟨"java/lang/Record", "<init>", "()V"⟩ : MethodName)) rfl hown (mvT hZ (hw _ (List.mem_of_getElem? (i := 15) rfl))) (mvT hZ (hw _ (List.mem_of_getElem? (i := 16) rfl))) (mvT hZ (hw _ (List.mem_of_getElem? (i := 19) rfl))) (by decide) (backOf (W := 0) (rm2 l Z a0 hw [] a1 h0 n0 Z0 ) hZ (hw _ (List.mem_of_getElem? (i := 19) rfl)) (hw _ (List.mem_of_getElem? (i := 18) rfl)) (by decide) (by decide)) (g := (mkF m 1 #[.val (.ref a1), .val (.int p2), .val (.int p3), .val (.ref a4), .val (.ref a5)] [(.ref a1)])) rfl (by rw [hml]; rfl) (Steps.refl _) (a := a1) (argsL := []) (rest := []) (lenOf pd1_0 rfl) rfl (by show 2 * 0 + _ ≤ _; exact Nat.le_of_eq rfl) (hb hby d1_1) (fun _ _ => ⟨rfl, e0, (by decide : 0 + _ ≤ _), (by decide : 0 + _ ≤ _)⟩)
  dsimp only [Pt.U, Pt.locs, Pt.cells, Pt.slots] at X1 l1 y1 z1 st1 hQ1
  subst l1 y1 z1
  obtain ⟨rfl, N1q, hh1⟩ := hQ1
  have N1 := Fr.app N0 N1q
  refine own_of (S' := T1.setTop (mkF m 4 #[.val (.ref a1), .val (.int p2), .val (.int p3), .val (.ref a4), .val (.ref a5)] [])) (fun t k => st1.trans k) ?_
  refine own_of (S' := T1.setTop (mkF m 5 #[.val (.ref a1), .val (.int p2), .val (.int p3), .val (.ref a4), .val (.ref a5)] [(.ref a1)])) (fun t k => XS.aloadN X1.here hx rfl (hb hby d1_4) rfl rfl k) ?_
  refine own_of (S' := T1.setTop (mkF m 6 #[.val (.ref a1), .val (.int p2), .val (.int p3), .val (.ref a4), .val (.ref a5)] [(.int p2), (.ref a1)])) (fun t k => XS.iloadN X1.here hx rfl (hb hby d1_5) rfl k) ?_
  obtain ⟨T2, h2, X2, e2, W2, st2⟩ := putF X1 hx hZ hown (host := "") (Or.inl (hw _ (List.mem_of_getElem? (i := 23) rfl))) Via.refl (hh1) F_responseTag_a1 E_a1 (Or.inr ⟨(hw _ (List.mem_of_getElem? (i := 24) rfl)), rfl, hnm⟩) (hw _ (List.mem_of_getElem? (i := 2) rfl)) (ty := .int) (by decide) rfl rfl (g := (mkF m 6 #[.val (.ref a1), .val (.int p2), .val (.int p3), .val (.ref a4), .val (.ref a5)] [(.int p2), (.ref a1)])) rfl rfl (hb hby d1_6)
  have N2 := Fr.snoc X2 N1 g_a1
  have Fw_responseTag_2 : Fld Z h2 a1 "com/example/waypost/waypost/ldap/LdapResponse$Result" "responseTag" "I" (.int p2) := F_responseTag_a1.same W2
  refine own_of (S' := T2.setTop (mkF m 9 #[.val (.ref a1), .val (.int p2), .val (.int p3), .val (.ref a4), .val (.ref a5)] [])) st2 ?_
  refine own_of (S' := T2.setTop (mkF m 10 #[.val (.ref a1), .val (.int p2), .val (.int p3), .val (.ref a4), .val (.ref a5)] [(.ref a1)])) (fun t k => XS.aloadN X2.here hx rfl (hb hby d1_9) rfl rfl k) ?_
  refine own_of (S' := T2.setTop (mkF m 11 #[.val (.ref a1), .val (.int p2), .val (.int p3), .val (.ref a4), .val (.ref a5)] [(.int p3), (.ref a1)])) (fun t k => XS.iloadN X2.here hx rfl (hb hby d1_10) rfl k) ?_
  have E_a1_t3 : Exa Z h2 a1 "com/example/waypost/waypost/ldap/LdapResponse$Result" := (E_a1.wr W2)
  have F_resultCode_a1_t4 : Fld Z h2 a1 "com/example/waypost/waypost/ldap/LdapResponse$Result" "resultCode" "I" (.int (0 : Int32)) := (F_resultCode_a1.other W2 (Or.inr (slot_ne (Or.inr (hw _ (List.mem_of_getElem? (i := 26) rfl))) (Or.inr (hw _ (List.mem_of_getElem? (i := 24) rfl))) (by decide) (t := .int) (t' := .int) (by decide) (by decide))))
  obtain ⟨T5, h5, X5, e5, W5, st5⟩ := putF X2 hx hZ hown (host := "") (Or.inl (hw _ (List.mem_of_getElem? (i := 25) rfl))) Via.refl e2 F_resultCode_a1_t4 E_a1_t3 (Or.inr ⟨(hw _ (List.mem_of_getElem? (i := 26) rfl)), rfl, hnm⟩) (hw _ (List.mem_of_getElem? (i := 2) rfl)) (ty := .int) (by decide) rfl rfl (g := (mkF m 11 #[.val (.ref a1), .val (.int p2), .val (.int p3), .val (.ref a4), .val (.ref a5)] [(.int p3), (.ref a1)])) rfl rfl (hb hby d1_11)
  have N5 := Fr.snoc X5 N2 g_a1
  have Fw_resultCode_5 : Fld Z h5 a1 "com/example/waypost/waypost/ldap/LdapResponse$Result" "resultCode" "I" (.int p3) := F_resultCode_a1_t4.same W5
  refine own_of (S' := T5.setTop (mkF m 14 #[.val (.ref a1), .val (.int p2), .val (.int p3), .val (.ref a4), .val (.ref a5)] [])) st5 ?_
  refine own_of (S' := T5.setTop (mkF m 15 #[.val (.ref a1), .val (.int p2), .val (.int p3), .val (.ref a4), .val (.ref a5)] [(.ref a1)])) (fun t k => XS.aloadN X5.here hx rfl (hb hby d1_14) rfl rfl k) ?_
  refine own_of (S' := T5.setTop (mkF m 16 #[.val (.ref a1), .val (.int p2), .val (.int p3), .val (.ref a4), .val (.ref a5)] [(.ref a4), (.ref a1)])) (fun t k => XS.aloadN X5.here hx rfl (hb hby d1_15) rfl rfl k) ?_
  have E_a1_t6 : Exa Z h5 a1 "com/example/waypost/waypost/ldap/LdapResponse$Result" := (E_a1_t3.wr W5)
  have F_matchedDn_a1_t7 : Fld Z h5 a1 "com/example/waypost/waypost/ldap/LdapResponse$Result" "matchedDn" "Ljava/lang/String;" .null := ((F_matchedDn_a1.other W2 (Or.inr (slot_ne (Or.inr (hw _ (List.mem_of_getElem? (i := 28) rfl))) (Or.inr (hw _ (List.mem_of_getElem? (i := 24) rfl))) (by decide) (t := (.object "java/lang/String")) (t' := .int) (by decide) (by decide)))).other W5 (Or.inr (slot_ne (Or.inr (hw _ (List.mem_of_getElem? (i := 28) rfl))) (Or.inr (hw _ (List.mem_of_getElem? (i := 26) rfl))) (by decide) (t := (.object "java/lang/String")) (t' := .int) (by decide) (by decide))))
  obtain ⟨T8, h8, X8, e8, W8, st8⟩ := putF X5 hx hZ hown (host := "") (Or.inl (hw _ (List.mem_of_getElem? (i := 27) rfl))) Via.refl e5 F_matchedDn_a1_t7 E_a1_t6 (Or.inr ⟨(hw _ (List.mem_of_getElem? (i := 28) rfl)), rfl, hnm⟩) (hw _ (List.mem_of_getElem? (i := 2) rfl)) (ty := (.object "java/lang/String")) (by decide) rfl rfl (g := (mkF m 16 #[.val (.ref a1), .val (.int p2), .val (.int p3), .val (.ref a4), .val (.ref a5)] [(.ref a4), (.ref a1)])) rfl rfl (hb hby d1_16)
  have N8 := Fr.snoc X8 N5 g_a1
  have Fw_matchedDn_8 : Fld Z h8 a1 "com/example/waypost/waypost/ldap/LdapResponse$Result" "matchedDn" "Ljava/lang/String;" (.ref a4) := F_matchedDn_a1_t7.same W8
  refine own_of (S' := T8.setTop (mkF m 19 #[.val (.ref a1), .val (.int p2), .val (.int p3), .val (.ref a4), .val (.ref a5)] [])) st8 ?_
  refine own_of (S' := T8.setTop (mkF m 20 #[.val (.ref a1), .val (.int p2), .val (.int p3), .val (.ref a4), .val (.ref a5)] [(.ref a1)])) (fun t k => XS.aloadN X8.here hx rfl (hb hby d1_19) rfl rfl k) ?_
  refine own_of (S' := T8.setTop (mkF m 22 #[.val (.ref a1), .val (.int p2), .val (.int p3), .val (.ref a4), .val (.ref a5)] [(.ref a5), (.ref a1)])) (fun t k => XS.aload X8.here hx rfl (hb hby d1_20) rfl rfl k) ?_
  have E_a1_t9 : Exa Z h8 a1 "com/example/waypost/waypost/ldap/LdapResponse$Result" := (E_a1_t6.wr W8)
  have F_diagnosticMessage_a1_t10 : Fld Z h8 a1 "com/example/waypost/waypost/ldap/LdapResponse$Result" "diagnosticMessage" "Ljava/lang/String;" .null := (((F_diagnosticMessage_a1.other W2 (Or.inr (slot_ne (Or.inr (hw _ (List.mem_of_getElem? (i := 30) rfl))) (Or.inr (hw _ (List.mem_of_getElem? (i := 24) rfl))) (by decide) (t := (.object "java/lang/String")) (t' := .int) (by decide) (by decide)))).other W5 (Or.inr (slot_ne (Or.inr (hw _ (List.mem_of_getElem? (i := 30) rfl))) (Or.inr (hw _ (List.mem_of_getElem? (i := 26) rfl))) (by decide) (t := (.object "java/lang/String")) (t' := .int) (by decide) (by decide)))).other W8 (Or.inr (slot_ne (Or.inr (hw _ (List.mem_of_getElem? (i := 30) rfl))) (Or.inr (hw _ (List.mem_of_getElem? (i := 28) rfl))) (by decide) (t := (.object "java/lang/String")) (t' := (.object "java/lang/String")) (by decide) (by decide))))
  obtain ⟨T11, h11, X11, e11, W11, st11⟩ := putF X8 hx hZ hown (host := "") (Or.inl (hw _ (List.mem_of_getElem? (i := 29) rfl))) Via.refl e8 F_diagnosticMessage_a1_t10 E_a1_t9 (Or.inr ⟨(hw _ (List.mem_of_getElem? (i := 30) rfl)), rfl, hnm⟩) (hw _ (List.mem_of_getElem? (i := 2) rfl)) (ty := (.object "java/lang/String")) (by decide) rfl rfl (g := (mkF m 22 #[.val (.ref a1), .val (.int p2), .val (.int p3), .val (.ref a4), .val (.ref a5)] [(.ref a5), (.ref a1)])) rfl rfl (hb hby d1_22)
  have N11 := Fr.snoc X11 N8 g_a1
  have Fw_diagnosticMessage_11 : Fld Z h11 a1 "com/example/waypost/waypost/ldap/LdapResponse$Result" "diagnosticMessage" "Ljava/lang/String;" (.ref a5) := F_diagnosticMessage_a1_t10.same W11
  refine own_of (S' := T11.setTop (mkF m 25 #[.val (.ref a1), .val (.int p2), .val (.int p3), .val (.ref a4), .val (.ref a5)] [])) st11 ?_
  obtain ⟨fs, hr, hrun, hended, hW, hsame⟩ := X11.leave (v := none) (fun _ => rfl)
  have Fw_resultCode_5_t12 : Fld Z h11 a1 "com/example/waypost/waypost/ldap/LdapResponse$Result" "resultCode" "I" (.int p3) := ((Fw_resultCode_5.other W8 (Or.inr (slot_ne (Or.inr (hw _ (List.mem_of_getElem? (i := 26) rfl))) (Or.inr (hw _ (List.mem_of_getElem? (i := 28) rfl))) (by decide) (t := .int) (t' := (.object "java/lang/String")) (by decide) (by decide)))).other W11 (Or.inr (slot_ne (Or.inr (hw _ (List.mem_of_getElem? (i := 26) rfl))) (Or.inr (hw _ (List.mem_of_getElem? (i := 30) rfl))) (by decide) (t := .int) (t' := (.object "java/lang/String")) (by decide) (by decide))))
  subst hKd
  exact ⟨_, _, X11.returnOut hx Bd.returns (hb hby d1_25) hr, hrun, hended, _, _, rfl, (by
    show Q1 Z a1 p2 p3 a4 a5 h0 n0 _ T11.heap _
    rw [show T11.heap = h11 from e11]
    exact ⟨rfl, N11, (((((Keep.refl h0 [a1]).wr W2 (Or.inl (List.mem_of_getElem? (i := 0) rfl))).wr W5 (Or.inl (List.mem_of_getElem? (i := 0) rfl))).wr W8 (Or.inl (List.mem_of_getElem? (i := 0) rfl))).wr W11 (Or.inl (List.mem_of_getElem? (i := 0) rfl))), Fw_resultCode_5_t12⟩), ⟨_, rfl⟩, hW, hsame.mono (by decide) (by decide)⟩
theorem d6_0 : decode prog_72_method_4_code 0 = .ok (.aload_n 0, 1) := by decide +kernel
theorem d6_1 : decode prog_72_method_4_code 1 = .ok (.getfield 68, 3) := by decide +kernel
theorem d6_4 : decode prog_72_method_4_code 4 = .ok (.ireturn, 1) := by decide +kernel
theorem pn_6 : plainName "com/example/waypost/waypost/ldap/ResultCode" = true := by first | (simp [plainName, overriddenIn]; done) | decide +kernel
theorem ef_6 (m : MethodId) (a1 : Addr) : entryFrame m #[(.ref a1)] 1 = mkF m 0 #[.val (.ref a1)] [] := by first | (simp [entryFrame, mkF, argsToLocals, Value.category]; done) | rfl
def Q6 (Z : State) (a1 : Addr) (k : Int32) (h0 : Heap) (n0 : Nat) (v : Option Value) (h : Heap) (L : List Loc) : Prop := (v = some (.int k)) ∧ (Fr n0 L) ∧ (h = h0)
set_option maxRecDepth 65536 in
set_option maxHeartbeats 40000000 in
theorem rm6 (l : Launch) (Z : State) (a0 : Array Value) (hw : ∀ d ∈ tables_1, d.before a0 Z = true) (ws : List Jvm.Cond) (a1 : Addr) (k : Int32) (h0 : Heap) (n0 : Nat) (Z0 : n0 ≤ h0.size) (F_code_a1 : Fld Z h0 a1 "com/example/waypost/waypost/ldap/ResultCode" "code" "I" (.int k)) :
    MetFree l (⟨"com/example/waypost/waypost/ldap/ResultCode", "code", "()I"⟩ : MethodName) (head1 (Jvm.Cond.code (⟨"com/example/waypost/waypost/ldap/ResultCode", "code", "()I"⟩ : MethodName) prog_72_method_4_code 1 (some .int) :: ws) ({ frames := 0, cells := 0, slots := 0, locals := 0 } : Room)) (fun a U => a = #[(.ref a1)] ∧ Z.Warmed39 U.vm ∧ U.heap = h0) (fun _ _ _ _ _ => True) (fun _ U o U' => ∃ v L, o = .returned v ∧ Q6 Z a1 k h0 n0 v U'.heap L ∧ FrameEnd U o U' L ({ frames := 0, cells := 0, slots := 0, locals := 0 } : Room).cells ({ frames := 0, cells := 0, slots := 0, locals := 0 } : Room).slots) := by
  refine MetFree.of_bodySF (plainFor_of_name pn_6) hisR ?_
  intro p e s m args below meth c s₁ Bd hml0 hP hK
  obtain ⟨rfl, hZ, hh⟩ := hP
  have hx := Bd.exec
  have hby := Bd.bytes
  have hml : c.maxLocals = 1 := hml0
  have hown : s.vm.findClass "com/example/waypost/waypost/ldap/ResultCode" = some m.cls := findClass_of_methodNamed Bd.named
  have hnm := (name_of_methodNamed Bd.named Bd.method).1
  have X0 : Stand p l e ({ frames := 0, cells := 0, slots := 0, locals := 0 } : Room) s m #[(.ref a1)] below meth c s₁ [] 0 0 := Stand.of_body Bd
  have e0 : s₁.heap = h0 := by rw [← hh, Bd.state]; rfl
  have N0 := Fr.nil n0
  refine own_of (S := s₁.setTop (entryFrame m #[(.ref a1)] 1)) (S' := s₁.setTop (mkF m 0 #[.val (.ref a1)] [])) (K := fun s₂ o => ∃ v L, o = .returned v ∧ Q6 Z a1 k h0 n0 v s₂.heap L ∧ FrameEnd s o s₂ L ({ frames := 0, cells := 0, slots := 0, locals := 0 } : Room).cells ({ frames := 0, cells := 0, slots := 0, locals := 0 } : Room).slots) (fun t k => castTop (ef_6 m a1) k) ?_
  refine own_nameK fun K hKd => ?_
  refine own_of (S' := s₁.setTop (mkF m 1 #[.val (.ref a1)] [(.ref a1)])) (fun t k => XS.aloadN X0.here hx rfl (hb hby d6_0) rfl rfl k) ?_
  obtain ⟨T1, X1, e1, st1⟩ := getF X0 hx hZ hown (host := "") (Or.inl (hw _ (List.mem_of_getElem? (i := 48) rfl))) Via.refl e0 F_code_a1 (g := (mkF m 1 #[.val (.ref a1)] [(.ref a1)])) rfl rfl (hb hby d6_1)
  refine own_of (S' := T1.setTop (mkF m 4 #[.val (.ref a1)] [(.int k)])) st1 ?_
  obtain ⟨fs, hr, hrun, hended, hW, hsame⟩ := X1.leave (v := some (.int k)) (fun h => by rw [Bd.returns] at h; cases h)
  subst hKd
  exact ⟨_, _, retI X1 hx Bd.returns (hb hby d6_4) hr, hrun, hended, _, _, rfl, (by
    show Q6 Z a1 k h0 n0 _ T1.heap _
    rw [show T1.heap = h0 from e1]
    exact ⟨rfl, N0, rfl⟩), ⟨_, rfl⟩, hW, hsame.mono (by decide) (by decide)⟩
theorem d5_0 : decode prog_64_method_2_code 0 = .ok (.aload_n 0, 1) := by decide +kernel
theorem d5_1 : decode prog_64_method_2_code 1 = .ok (.getfield 13, 3) := by decide +kernel
theorem d5_4 : decode prog_64_method_2_code 4 = .ok (.aload_n 1, 1) := by decide +kernel
theorem d5_5 : decode prog_64_method_2_code 5 = .ok (.invokevirtual 23, 3) := by decide +kernel
theorem d5_8 : decode prog_64_method_2_code 8 = .ok (.if_icmp .ne 7, 3) := by decide +kernel
theorem d5_11 : decode prog_64_method_2_code 11 = .ok (.iconst 1, 1) := by decide +kernel
theorem d5_12 : decode prog_64_method_2_code 12 = .ok (.goto 4, 3) := by decide +kernel
theorem d5_15 : decode prog_64_method_2_code 15 = .ok (.iconst 0, 1) := by decide +kernel
theorem d5_16 : decode prog_64_method_2_code 16 = .ok (.ireturn, 1) := by decide +kernel
theorem pn_5 : plainName "com/example/waypost/waypost/ldap/LdapResponse$Result" = true := by first | (simp [plainName, overriddenIn]; done) | decide +kernel
theorem pd5_0 : parseMethodDescriptor "()I" = some ⟨[], some .int⟩ := by decide +kernel
theorem ef_5 (m : MethodId) (a1 : Addr) (a2 : Addr) : entryFrame m #[(.ref a1), (.ref a2)] 2 = mkF m 0 #[.val (.ref a1), .val (.ref a2)] [] := by first | (simp [entryFrame, mkF, argsToLocals, Value.category]; done) | rfl
def Q5 (Z : State) (a1 : Addr) (a2 : Addr) (rc : Int32) (k : Int32) (h0 : Heap) (n0 : Nat) (v : Option Value) (h : Heap) (L : List Loc) : Prop := (v = some (.int (own_is rc k))) ∧ (Fr n0 L) ∧ (h = h0)
set_option maxRecDepth 65536 in
set_option maxHeartbeats 40000000 in
theorem rm5 (l : Launch) (Z : State) (a0 : Array Value) (hw : ∀ d ∈ tables_1, d.before a0 Z = true) (ws : List Jvm.Cond) (a1 : Addr) (a2 : Addr) (rc : Int32) (k : Int32) (h0 : Heap) (n0 : Nat) (Z0 : n0 ≤ h0.size) (F_resultCode_a1 : Fld Z h0 a1 "com/example/waypost/waypost/ldap/LdapResponse$Result" "resultCode" "I" (.int rc)) (E_a2 : Exa Z h0 a2 "com/example/waypost/waypost/ldap/ResultCode") (F_code_a2 : Fld Z h0 a2 "com/example/waypost/waypost/ldap/ResultCode" "code" "I" (.int k)) :
    MetFree l (⟨"com/example/waypost/waypost/ldap/LdapResponse$Result", "is", "(Lcom/example/waypost/waypost/ldap/ResultCode;)Z"⟩ : MethodName) (head1 (Jvm.Cond.code (⟨"com/example/waypost/waypost/ldap/LdapResponse$Result", "is", "(Lcom/example/waypost/waypost/ldap/ResultCode;)Z"⟩ : MethodName) prog_64_method_2_code 2 (some .boolean) :: ws) ({ frames := 1, cells := 0, slots := 0, locals := 13 } : Room)) (fun a U => a = #[(.ref a1), (.ref a2)] ∧ Z.Warmed39 U.vm ∧ U.heap = h0) (fun _ _ _ _ _ => True) (fun _ U o U' => ∃ v L, o = .returned v ∧ Q5 Z a1 a2 rc k h0 n0 v U'.heap L ∧ FrameEnd U o U' L ({ frames := 1, cells := 0, slots := 0, locals := 13 } : Room).cells ({ frames := 1, cells := 0, slots := 0, locals := 13 } : Room).slots) := by
  refine MetFree.of_bodySF (plainFor_of_name pn_5) hisR ?_
  intro p e s m args below meth c s₁ Bd hml0 hP hK
  obtain ⟨rfl, hZ, hh⟩ := hP
  have hx := Bd.exec
  have hby := Bd.bytes
  have hml : c.maxLocals = 2 := hml0
  have hown : s.vm.findClass "com/example/waypost/waypost/ldap/LdapResponse$Result" = some m.cls := findClass_of_methodNamed Bd.named
  have hnm := (name_of_methodNamed Bd.named Bd.method).1
  have X0 : Stand p l e ({ frames := 1, cells := 0, slots := 0, locals := 13 } : Room) s m #[(.ref a1), (.ref a2)] below meth c s₁ [] 0 0 := Stand.of_body Bd
  have e0 : s₁.heap = h0 := by rw [← hh, Bd.state]; rfl
  have N0 := Fr.nil n0
  refine own_of (S := s₁.setTop (entryFrame m #[(.ref a1), (.ref a2)] 2)) (S' := s₁.setTop (mkF m 0 #[.val (.ref a1), .val (.ref a2)] [])) (K := fun s₂ o => ∃ v L, o = .returned v ∧ Q5 Z a1 a2 rc k h0 n0 v s₂.heap L ∧ FrameEnd s o s₂ L ({ frames := 1, cells := 0, slots := 0, locals := 13 } : Room).cells ({ frames := 1, cells := 0, slots := 0, locals := 13 } : Room).slots) (fun t k => castTop (ef_5 m a1 a2) k) ?_
  refine own_nameK fun K hKd => ?_
  refine own_of (S' := s₁.setTop (mkF m 1 #[.val (.ref a1), .val (.ref a2)] [(.ref a1)])) (fun t k => XS.aloadN X0.here hx rfl (hb hby d5_0) rfl rfl k) ?_
  obtain ⟨T1, X1, e1, st1⟩ := getF X0 hx hZ hown (host := "") (Or.inl (hw _ (List.mem_of_getElem? (i := 25) rfl))) Via.refl e0 F_resultCode_a1 (g := (mkF m 1 #[.val (.ref a1), .val (.ref a2)] [(.ref a1)])) rfl rfl (hb hby d5_1)
  refine own_of (S' := T1.setTop (mkF m 4 #[.val (.ref a1), .val (.ref a2)] [(.int rc)])) st1 ?_
  refine own_of (S' := T1.setTop (mkF m 5 #[.val (.ref a1), .val (.ref a2)] [(.ref a2), (.int rc)])) (fun t k => XS.aloadN X1.here hx rfl (hb hby d5_4) rfl rfl k) ?_
  obtain ⟨cq2, kq2, q2a, q2b, q2c⟩ := isOf hZ e1 E_a2
  obtain ⟨_, _, ⟨T2, L2, k2, n2⟩, -, X2, ⟨Lc2, hQ2, l2, y2, z2⟩, st2⟩ := X1.virtualBack hx (y := (⟨"com/example/waypost/waypost/ldap/ResultCode", "code", "()I"⟩ : MethodName)) (z := (⟨"com/example/waypost/waypost/ldap/ResultCode", "code", "()I"⟩ : MethodName)) hown (mvT hZ (hw _ (List.mem_of_getElem? (i := 43) rfl))) (mvT hZ (hw _ (List.mem_of_getElem? (i := 44) rfl))) (notFace_of_selects (args := #[]) (mvT hZ (hw _ (List.mem_of_getElem? (i := 46) rfl)))) (mvT hZ (hw _ (List.mem_of_getElem? (i := 46) rfl))) (mvT hZ (hw _ (List.mem_of_getElem? (i := 45) rfl))) (by decide) (backOf (W := 1) (rm6 l Z a0 hw [] a2 k h0 n0 Z0 F_code_a2) hZ (hw _ (List.mem_of_getElem? (i := 47) rfl)) (hw _ (List.mem_of_getElem? (i := 36) rfl)) (by decide) (by decide)) q2a q2c (g := (mkF m 5 #[.val (.ref a1), .val (.ref a2)] [(.ref a2), (.int rc)])) rfl (by rw [hml]; rfl) (Steps.refl _) (argsL := []) (rest := [(.int rc)]) (lenOf pd5_0 rfl) rfl (by show 2 * 0 + _ ≤ _; exact Nat.le_of_eq rfl) (hb hby d5_5) (fun _ _ => ⟨rfl, e1, (by decide : 0 + _ ≤ _), (by decide : 0 + _ ≤ _)⟩)
  dsimp only [Pt.U, Pt.locs, Pt.cells, Pt.slots] at X2 l2 y2 z2 st2 hQ2
  subst l2 y2 z2
  obtain ⟨rfl, N2q, hh2⟩ := hQ2
  have N2 := Fr.app N0 N2q
  refine own_of (S' := T2.setTop (mkF m 8 #[.val (.ref a1), .val (.ref a2)] [(.int k), (.int rc)])) (fun t k => st2.trans k) ?_
  by_cases hc8_3 : rc = k
  · refine own_of (S' := T2.setTop (mkF m 11 #[.val (.ref a1), .val (.ref a2)] [])) (fun t k => XS.icmpNo X2.here hx rfl (hb hby d5_8) rfl (teq hc8_3).2 k) ?_
    refine own_of (S' := T2.setTop (mkF m 12 #[.val (.ref a1), .val (.ref a2)] [(.int (1 : Int32))])) (fun t k => XS.iconst X2.here hx rfl (hb hby d5_11) k) ?_
    refine own_of (S' := T2.setTop (mkF m 16 #[.val (.ref a1), .val (.ref a2)] [(.int (1 : Int32))])) (fun t k => XS.goto X2.here hx rfl (pc0 := 12) (pc' := 16) rfl (hb hby d5_12) (by decide) (by decide) k) ?_
    obtain ⟨fs, hr, hrun, hended, hW, hsame⟩ := X2.leave (v := some (.int (1 : Int32))) (fun h => by rw [Bd.returns] at h; cases h)
    subst hKd
    exact ⟨_, _, retN X2 hx (t := .boolean) Bd.returns (by simp) (hb hby d5_16) hr, hrun, hended, _, _, rfl, (by
      show Q5 Z a1 a2 rc k h0 n0 _ T2.heap _
      rw [show T2.heap = h0 from (hh2)]
      exact ⟨(by rw [own_is, if_pos hc8_3]), N2, rfl⟩), ⟨_, rfl⟩, hW, hsame.mono (by decide) (by decide)⟩
  refine own_of (S' := T2.setTop (mkF m 15 #[.val (.ref a1), .val (.ref a2)] [])) (fun t k => XS.icmpYes X2.here hx rfl (pc0 := 8) (pc' := 15) rfl (hb hby d5_8) rfl (feq hc8_3).2 (by decide) (by decide) k) ?_
  refine own_of (S' := T2.setTop (mkF m 16 #[.val (.ref a1), .val (.ref a2)] [(.int (0 : Int32))])) (fun t k => XS.iconst X2.here hx rfl (hb hby d5_15) k) ?_
  obtain ⟨fs, hr, hrun, hended, hW, hsame⟩ := X2.leave (v := some (.int (0 : Int32))) (fun h => by rw [Bd.returns] at h; cases h)
  subst hKd
  exact ⟨_, _, retN X2 hx (t := .boolean) Bd.returns (by simp) (hb hby d5_16) hr, hrun, hended, _, _, rfl, (by
    show Q5 Z a1 a2 rc k h0 n0 _ T2.heap _
    rw [show T2.heap = h0 from (hh2)]
    exact ⟨(by rw [own_is, if_neg hc8_3]), N2, rfl⟩), ⟨_, rfl⟩, hW, hsame.mono (by decide) (by decide)⟩
theorem pn_0 : plainName "com/example/waypost/waypost/ldap/ResultIsPinLaw" = true := by first | (simp [plainName, overriddenIn]; done) | decide +kernel
theorem pd0_0 : parseMethodDescriptor "(IILjava/lang/String;Ljava/lang/String;)V" = some ⟨[.int, .int, (.object "java/lang/String"), (.object "java/lang/String")], none⟩ := by decide +kernel
theorem pd0_1 : parseMethodDescriptor "(I)Lcom/example/waypost/waypost/ldap/ResultCode;" = some ⟨[.int], some (.object "com/example/waypost/waypost/ldap/ResultCode")⟩ := by decide +kernel
theorem pd0_2 : parseMethodDescriptor "(Lcom/example/waypost/waypost/ldap/ResultCode;)Z" = some ⟨[(.object "com/example/waypost/waypost/ldap/ResultCode")], some .boolean⟩ := by decide +kernel
theorem pd0_3 : parseMethodDescriptor "(I)I" = some ⟨[.int], some .int⟩ := by decide +kernel
theorem ef_0 (m : MethodId) (p1 : Int32) (p2 : Int32) (p3 : Int32) (p4 : Int32) (p5 : Int32) : entryFrame m #[(.int p1), (.int p2), (.int p3), (.int p4), (.int p5)] maxLocals = mkF m 0 #[.val (.int p1), .val (.int p2), .val (.int p3), .val (.int p4), .val (.int p5), .unset, .unset, .unset, .unset, .unset, .unset, .unset] [] := by first | (simp [entryFrame, mkF, argsToLocals, Value.category, maxLocals]; done) | rfl
def Q0 (Z : State) (p1 : Int32) (p2 : Int32) (p3 : Int32) (p4 : Int32) (p5 : Int32) (w_SUCCESS : Addr) (w_PROTOCOL_ERROR : Addr) (w_SIZE_LIMIT_EXCEEDED : Addr) (w_COMPARE_FALSE : Addr) (w_COMPARE_TRUE : Addr) (w_AUTH_METHOD_NOT_SUPPORTED : Addr) (w_UNAVAILABLE_CRITICAL_EXTENSION : Addr) (w_NO_SUCH_ATTRIBUTE : Addr) (w_UNDEFINED_ATTRIBUTE_TYPE : Addr) (w_INAPPROPRIATE_MATCHING : Addr) (w_INVALID_ATTRIBUTE_SYNTAX : Addr) (w_NO_SUCH_OBJECT : Addr) (w_INVALID_DN_SYNTAX : Addr) (w_INVALID_CREDENTIALS : Addr) (w_UNWILLING_TO_PERFORM : Addr) (h0 : Heap) (n0 : Nat) (v : Option Value) (h : Heap) (L : List Loc) : Prop := (v = some (.int (1 : Int32))) ∧ (Fr n0 L)
set_option maxRecDepth 65536 in
set_option maxHeartbeats 40000000 in
theorem rm0 (l : Launch) (Z : State) (a0 : Array Value) (hw : ∀ d ∈ tables_1, d.before a0 Z = true) (ws : List Jvm.Cond) (p1 : Int32) (p2 : Int32) (p3 : Int32) (p4 : Int32) (p5 : Int32) (w_SUCCESS : Addr) (w_PROTOCOL_ERROR : Addr) (w_SIZE_LIMIT_EXCEEDED : Addr) (w_COMPARE_FALSE : Addr) (w_COMPARE_TRUE : Addr) (w_AUTH_METHOD_NOT_SUPPORTED : Addr) (w_UNAVAILABLE_CRITICAL_EXTENSION : Addr) (w_NO_SUCH_ATTRIBUTE : Addr) (w_UNDEFINED_ATTRIBUTE_TYPE : Addr) (w_INAPPROPRIATE_MATCHING : Addr) (w_INVALID_ATTRIBUTE_SYNTAX : Addr) (w_NO_SUCH_OBJECT : Addr) (w_INVALID_DN_SYNTAX : Addr) (w_INVALID_CREDENTIALS : Addr) (w_UNWILLING_TO_PERFORM : Addr) (h0 : Heap) (n0 : Nat) (Z0 : n0 ≤ h0.size) (S_SUCCESS : Sta Z h0 "com/example/waypost/waypost/ldap/ResultCode" "SUCCESS" "Lcom/example/waypost/waypost/ldap/ResultCode;" (.ref w_SUCCESS)) (S_PROTOCOL_ERROR : Sta Z h0 "com/example/waypost/waypost/ldap/ResultCode" "PROTOCOL_ERROR" "Lcom/example/waypost/waypost/ldap/ResultCode;" (.ref w_PROTOCOL_ERROR)) (S_SIZE_LIMIT_EXCEEDED : Sta Z h0 "com/example/waypost/waypost/ldap/ResultCode" "SIZE_LIMIT_EXCEEDED" "Lcom/example/waypost/waypost/ldap/ResultCode;" (.ref w_SIZE_LIMIT_EXCEEDED)) (S_COMPARE_FALSE : Sta Z h0 "com/example/waypost/waypost/ldap/ResultCode" "COMPARE_FALSE" "Lcom/example/waypost/waypost/ldap/ResultCode;" (.ref w_COMPARE_FALSE)) (S_COMPARE_TRUE : Sta Z h0 "com/example/waypost/waypost/ldap/ResultCode" "COMPARE_TRUE" "Lcom/example/waypost/waypost/ldap/ResultCode;" (.ref w_COMPARE_TRUE)) (S_AUTH_METHOD_NOT_SUPPORTED : Sta Z h0 "com/example/waypost/waypost/ldap/ResultCode" "AUTH_METHOD_NOT_SUPPORTED" "Lcom/example/waypost/waypost/ldap/ResultCode;" (.ref w_AUTH_METHOD_NOT_SUPPORTED)) (S_UNAVAILABLE_CRITICAL_EXTENSION : Sta Z h0 "com/example/waypost/waypost/ldap/ResultCode" "UNAVAILABLE_CRITICAL_EXTENSION" "Lcom/example/waypost/waypost/ldap/ResultCode;" (.ref w_UNAVAILABLE_CRITICAL_EXTENSION)) (S_NO_SUCH_ATTRIBUTE : Sta Z h0 "com/example/waypost/waypost/ldap/ResultCode" "NO_SUCH_ATTRIBUTE" "Lcom/example/waypost/waypost/ldap/ResultCode;" (.ref w_NO_SUCH_ATTRIBUTE)) (S_UNDEFINED_ATTRIBUTE_TYPE : Sta Z h0 "com/example/waypost/waypost/ldap/ResultCode" "UNDEFINED_ATTRIBUTE_TYPE" "Lcom/example/waypost/waypost/ldap/ResultCode;" (.ref w_UNDEFINED_ATTRIBUTE_TYPE)) (S_INAPPROPRIATE_MATCHING : Sta Z h0 "com/example/waypost/waypost/ldap/ResultCode" "INAPPROPRIATE_MATCHING" "Lcom/example/waypost/waypost/ldap/ResultCode;" (.ref w_INAPPROPRIATE_MATCHING)) (S_INVALID_ATTRIBUTE_SYNTAX : Sta Z h0 "com/example/waypost/waypost/ldap/ResultCode" "INVALID_ATTRIBUTE_SYNTAX" "Lcom/example/waypost/waypost/ldap/ResultCode;" (.ref w_INVALID_ATTRIBUTE_SYNTAX)) (S_NO_SUCH_OBJECT : Sta Z h0 "com/example/waypost/waypost/ldap/ResultCode" "NO_SUCH_OBJECT" "Lcom/example/waypost/waypost/ldap/ResultCode;" (.ref w_NO_SUCH_OBJECT)) (S_INVALID_DN_SYNTAX : Sta Z h0 "com/example/waypost/waypost/ldap/ResultCode" "INVALID_DN_SYNTAX" "Lcom/example/waypost/waypost/ldap/ResultCode;" (.ref w_INVALID_DN_SYNTAX)) (S_INVALID_CREDENTIALS : Sta Z h0 "com/example/waypost/waypost/ldap/ResultCode" "INVALID_CREDENTIALS" "Lcom/example/waypost/waypost/ldap/ResultCode;" (.ref w_INVALID_CREDENTIALS)) (S_UNWILLING_TO_PERFORM : Sta Z h0 "com/example/waypost/waypost/ldap/ResultCode" "UNWILLING_TO_PERFORM" "Lcom/example/waypost/waypost/ldap/ResultCode;" (.ref w_UNWILLING_TO_PERFORM)) (E_w_SUCCESS : Exa Z h0 w_SUCCESS "com/example/waypost/waypost/ldap/ResultCode") (E_w_PROTOCOL_ERROR : Exa Z h0 w_PROTOCOL_ERROR "com/example/waypost/waypost/ldap/ResultCode") (E_w_SIZE_LIMIT_EXCEEDED : Exa Z h0 w_SIZE_LIMIT_EXCEEDED "com/example/waypost/waypost/ldap/ResultCode") (E_w_COMPARE_FALSE : Exa Z h0 w_COMPARE_FALSE "com/example/waypost/waypost/ldap/ResultCode") (E_w_COMPARE_TRUE : Exa Z h0 w_COMPARE_TRUE "com/example/waypost/waypost/ldap/ResultCode") (E_w_AUTH_METHOD_NOT_SUPPORTED : Exa Z h0 w_AUTH_METHOD_NOT_SUPPORTED "com/example/waypost/waypost/ldap/ResultCode") (E_w_UNAVAILABLE_CRITICAL_EXTENSION : Exa Z h0 w_UNAVAILABLE_CRITICAL_EXTENSION "com/example/waypost/waypost/ldap/ResultCode") (E_w_NO_SUCH_ATTRIBUTE : Exa Z h0 w_NO_SUCH_ATTRIBUTE "com/example/waypost/waypost/ldap/ResultCode") (E_w_UNDEFINED_ATTRIBUTE_TYPE : Exa Z h0 w_UNDEFINED_ATTRIBUTE_TYPE "com/example/waypost/waypost/ldap/ResultCode") (E_w_INAPPROPRIATE_MATCHING : Exa Z h0 w_INAPPROPRIATE_MATCHING "com/example/waypost/waypost/ldap/ResultCode") (E_w_INVALID_ATTRIBUTE_SYNTAX : Exa Z h0 w_INVALID_ATTRIBUTE_SYNTAX "com/example/waypost/waypost/ldap/ResultCode") (E_w_NO_SUCH_OBJECT : Exa Z h0 w_NO_SUCH_OBJECT "com/example/waypost/waypost/ldap/ResultCode") (E_w_INVALID_DN_SYNTAX : Exa Z h0 w_INVALID_DN_SYNTAX "com/example/waypost/waypost/ldap/ResultCode") (E_w_INVALID_CREDENTIALS : Exa Z h0 w_INVALID_CREDENTIALS "com/example/waypost/waypost/ldap/ResultCode") (E_w_UNWILLING_TO_PERFORM : Exa Z h0 w_UNWILLING_TO_PERFORM "com/example/waypost/waypost/ldap/ResultCode") (F_code_w_SUCCESS : Fld Z h0 w_SUCCESS "com/example/waypost/waypost/ldap/ResultCode" "code" "I" (.int (0 : Int32))) (F_code_w_PROTOCOL_ERROR : Fld Z h0 w_PROTOCOL_ERROR "com/example/waypost/waypost/ldap/ResultCode" "code" "I" (.int (2 : Int32))) (F_code_w_SIZE_LIMIT_EXCEEDED : Fld Z h0 w_SIZE_LIMIT_EXCEEDED "com/example/waypost/waypost/ldap/ResultCode" "code" "I" (.int (4 : Int32))) (F_code_w_COMPARE_FALSE : Fld Z h0 w_COMPARE_FALSE "com/example/waypost/waypost/ldap/ResultCode" "code" "I" (.int (5 : Int32))) (F_code_w_COMPARE_TRUE : Fld Z h0 w_COMPARE_TRUE "com/example/waypost/waypost/ldap/ResultCode" "code" "I" (.int (6 : Int32))) (F_code_w_AUTH_METHOD_NOT_SUPPORTED : Fld Z h0 w_AUTH_METHOD_NOT_SUPPORTED "com/example/waypost/waypost/ldap/ResultCode" "code" "I" (.int (7 : Int32))) (F_code_w_UNAVAILABLE_CRITICAL_EXTENSION : Fld Z h0 w_UNAVAILABLE_CRITICAL_EXTENSION "com/example/waypost/waypost/ldap/ResultCode" "code" "I" (.int (12 : Int32))) (F_code_w_NO_SUCH_ATTRIBUTE : Fld Z h0 w_NO_SUCH_ATTRIBUTE "com/example/waypost/waypost/ldap/ResultCode" "code" "I" (.int (16 : Int32))) (F_code_w_UNDEFINED_ATTRIBUTE_TYPE : Fld Z h0 w_UNDEFINED_ATTRIBUTE_TYPE "com/example/waypost/waypost/ldap/ResultCode" "code" "I" (.int (17 : Int32))) (F_code_w_INAPPROPRIATE_MATCHING : Fld Z h0 w_INAPPROPRIATE_MATCHING "com/example/waypost/waypost/ldap/ResultCode" "code" "I" (.int (18 : Int32))) (F_code_w_INVALID_ATTRIBUTE_SYNTAX : Fld Z h0 w_INVALID_ATTRIBUTE_SYNTAX "com/example/waypost/waypost/ldap/ResultCode" "code" "I" (.int (21 : Int32))) (F_code_w_NO_SUCH_OBJECT : Fld Z h0 w_NO_SUCH_OBJECT "com/example/waypost/waypost/ldap/ResultCode" "code" "I" (.int (32 : Int32))) (F_code_w_INVALID_DN_SYNTAX : Fld Z h0 w_INVALID_DN_SYNTAX "com/example/waypost/waypost/ldap/ResultCode" "code" "I" (.int (34 : Int32))) (F_code_w_INVALID_CREDENTIALS : Fld Z h0 w_INVALID_CREDENTIALS "com/example/waypost/waypost/ldap/ResultCode" "code" "I" (.int (49 : Int32))) (F_code_w_UNWILLING_TO_PERFORM : Fld Z h0 w_UNWILLING_TO_PERFORM "com/example/waypost/waypost/ldap/ResultCode" "code" "I" (.int (53 : Int32))) :
    MetFree l x (head1 (Jvm.Cond.code x code maxLocals ret :: ws) room_1) (fun a U => a = #[(.int p1), (.int p2), (.int p3), (.int p4), (.int p5)] ∧ Z.Warmed39 U.vm ∧ U.heap = h0) (fun _ _ _ _ _ => True) (fun _ U o U' => ∃ v L, o = .returned v ∧ Q0 Z p1 p2 p3 p4 p5 w_SUCCESS w_PROTOCOL_ERROR w_SIZE_LIMIT_EXCEEDED w_COMPARE_FALSE w_COMPARE_TRUE w_AUTH_METHOD_NOT_SUPPORTED w_UNAVAILABLE_CRITICAL_EXTENSION w_NO_SUCH_ATTRIBUTE w_UNDEFINED_ATTRIBUTE_TYPE w_INAPPROPRIATE_MATCHING w_INVALID_ATTRIBUTE_SYNTAX w_NO_SUCH_OBJECT w_INVALID_DN_SYNTAX w_INVALID_CREDENTIALS w_UNWILLING_TO_PERFORM h0 n0 v U'.heap L ∧ ReturnedEndW U o U' L room_1.cells room_1.slots) := by
  refine MetFree.of_bodySF (plainFor_of_name pn_0) hisR ?_
  intro p e s m args below meth c s₁ Bd hml0 hP hK
  obtain ⟨rfl, hZ, hh⟩ := hP
  have hx := Bd.exec
  have hby := Bd.bytes
  have hml : c.maxLocals = 12 := hml0
  have hown : s.vm.findClass "com/example/waypost/waypost/ldap/ResultIsPinLaw" = some m.cls := findClass_of_methodNamed Bd.named
  have hnm := (name_of_methodNamed Bd.named Bd.method).1
  have X0 : Stand p l e room_1 s m #[(.int p1), (.int p2), (.int p3), (.int p4), (.int p5)] below meth c s₁ [] 0 0 := Stand.of_body Bd
  have e0 : s₁.heap = h0 := by rw [← hh, Bd.state]; rfl
  have N0 := Fr.nil n0
  refine own_of (S := s₁.setTop (entryFrame m #[(.int p1), (.int p2), (.int p3), (.int p4), (.int p5)] maxLocals)) (S' := s₁.setTop (mkF m 0 #[.val (.int p1), .val (.int p2), .val (.int p3), .val (.int p4), .val (.int p5), .unset, .unset, .unset, .unset, .unset, .unset, .unset] [])) (K := fun s₂ o => ∃ v L, o = .returned v ∧ Q0 Z p1 p2 p3 p4 p5 w_SUCCESS w_PROTOCOL_ERROR w_SIZE_LIMIT_EXCEEDED w_COMPARE_FALSE w_COMPARE_TRUE w_AUTH_METHOD_NOT_SUPPORTED w_UNAVAILABLE_CRITICAL_EXTENSION w_NO_SUCH_ATTRIBUTE w_UNDEFINED_ATTRIBUTE_TYPE w_INAPPROPRIATE_MATCHING w_INVALID_ATTRIBUTE_SYNTAX w_NO_SUCH_OBJECT w_INVALID_DN_SYNTAX w_INVALID_CREDENTIALS w_UNWILLING_TO_PERFORM h0 n0 v s₂.heap L ∧ ReturnedEndW s o s₂ L room_1.cells room_1.slots) (fun t k => castTop (ef_0 m p1 p2 p3 p4 p5) k) ?_
  refine own_nameK fun K hKd => ?_
  refine own_of (S' := s₁.setTop (mkF m 1 #[.val (.int p1), .val (.int p2), .val (.int p3), .val (.int p4), .val (.int p5), .unset, .unset, .unset, .unset, .unset, .unset, .unset] [(.int p3)])) (fun t k => XS.iloadN X0.here hx rfl (hb hby at_0) rfl k) ?_
  refine own_of (S' := s₁.setTop (mkF m 3 #[.val (.int p1), .val (.int p2), .val (.int p3), .val (.int p4), .val (.int p5), .unset, .unset, .unset, .unset, .unset, .unset, .unset] [(.int (2147483647 : Int32)), (.int p3)])) (X0.ldcInt hx hown (mvT hZ (hw _ (List.mem_of_getElem? (i := 0) rfl))) (g := (mkF m 1 #[.val (.int p1), .val (.int p2), .val (.int p3), .val (.int p4), .val (.int p5), .unset, .unset, .unset, .unset, .unset, .unset, .unset] [(.int p3)])) rfl (hb hby at_1)) ?_
  refine own_of (S' := s₁.setTop (mkF m 4 #[.val (.int p1), .val (.int p2), .val (.int p3), .val (.int p4), .val (.int p5), .unset, .unset, .unset, .unset, .unset, .unset, .unset] [(.int (p3 &&& (2147483647 : Int32)))])) (fun t k => XS.iand X0.here hx rfl (hb hby at_3) rfl k) ?_
  refine own_of (S' := s₁.setTop (mkF m 6 #[.val (.int p1), .val (.int p2), .val (.int p3), .val (.int p4), .val (.int p5), .unset, .unset, .unset, .unset, .unset, .unset, .unset] [(.int (15 : Int32)), (.int (p3 &&& (2147483647 : Int32)))])) (fun t k => XS.bipush X0.here hx rfl (hb hby at_4) k) ?_
  refine own_of (S' := s₁.setTop (mkF m 7 #[.val (.int p1), .val (.int p2), .val (.int p3), .val (.int p4), .val (.int p5), .unset, .unset, .unset, .unset, .unset, .unset, .unset] [(.int ((p3 &&& (2147483647 : Int32)) % (15 : Int32)))])) (fun t k => iremM X0 hx rfl (hb hby at_6) rfl (by decide) k) ?_
  refine own_of (S' := s₁.setTop (mkF m 9 #[.val (.int p1), .val (.int p2), .val (.int p3), .val (.int p4), .val (.int p5), .val (.int ((p3 &&& (2147483647 : Int32)) % (15 : Int32))), .unset, .unset, .unset, .unset, .unset, .unset] [])) (fun t k => XS.istore X0.here hx rfl (hb hby at_7) rfl (l' := #[.val (.int p1), .val (.int p2), .val (.int p3), .val (.int p4), .val (.int p5), .val (.int ((p3 &&& (2147483647 : Int32)) % (15 : Int32))), .unset, .unset, .unset, .unset, .unset, .unset]) rfl k) ?_
  refine own_of (S' := s₁.setTop (mkF m 10 #[.val (.int p1), .val (.int p2), .val (.int p3), .val (.int p4), .val (.int p5), .val (.int ((p3 &&& (2147483647 : Int32)) % (15 : Int32))), .unset, .unset, .unset, .unset, .unset, .unset] [(.int p4)])) (fun t k => XS.iloadN X0.here hx rfl (hb hby at_9) rfl k) ?_
  refine own_of (S' := s₁.setTop (mkF m 12 #[.val (.int p1), .val (.int p2), .val (.int p3), .val (.int p4), .val (.int p5), .val (.int ((p3 &&& (2147483647 : Int32)) % (15 : Int32))), .unset, .unset, .unset, .unset, .unset, .unset] [(.int (2147483647 : Int32)), (.int p4)])) (X0.ldcInt hx hown (mvT hZ (hw _ (List.mem_of_getElem? (i := 0) rfl))) (g := (mkF m 10 #[.val (.int p1), .val (.int p2), .val (.int p3), .val (.int p4), .val (.int p5), .val (.int ((p3 &&& (2147483647 : Int32)) % (15 : Int32))), .unset, .unset, .unset, .unset, .unset, .unset] [(.int p4)])) rfl (hb hby at_10)) ?_
  refine own_of (S' := s₁.setTop (mkF m 13 #[.val (.int p1), .val (.int p2), .val (.int p3), .val (.int p4), .val (.int p5), .val (.int ((p3 &&& (2147483647 : Int32)) % (15 : Int32))), .unset, .unset, .unset, .unset, .unset, .unset] [(.int (p4 &&& (2147483647 : Int32)))])) (fun t k => XS.iand X0.here hx rfl (hb hby at_12) rfl k) ?_
  refine own_of (S' := s₁.setTop (mkF m 15 #[.val (.int p1), .val (.int p2), .val (.int p3), .val (.int p4), .val (.int p5), .val (.int ((p3 &&& (2147483647 : Int32)) % (15 : Int32))), .unset, .unset, .unset, .unset, .unset, .unset] [(.int (15 : Int32)), (.int (p4 &&& (2147483647 : Int32)))])) (fun t k => XS.bipush X0.here hx rfl (hb hby at_13) k) ?_
  refine own_of (S' := s₁.setTop (mkF m 16 #[.val (.int p1), .val (.int p2), .val (.int p3), .val (.int p4), .val (.int p5), .val (.int ((p3 &&& (2147483647 : Int32)) % (15 : Int32))), .unset, .unset, .unset, .unset, .unset, .unset] [(.int ((p4 &&& (2147483647 : Int32)) % (15 : Int32)))])) (fun t k => iremM X0 hx rfl (hb hby at_15) rfl (by decide) k) ?_
  refine own_of (S' := s₁.setTop (mkF m 18 #[.val (.int p1), .val (.int p2), .val (.int p3), .val (.int p4), .val (.int p5), .val (.int ((p3 &&& (2147483647 : Int32)) % (15 : Int32))), .val (.int ((p4 &&& (2147483647 : Int32)) % (15 : Int32))), .unset, .unset, .unset, .unset, .unset] [])) (fun t k => XS.istore X0.here hx rfl (hb hby at_16) rfl (l' := #[.val (.int p1), .val (.int p2), .val (.int p3), .val (.int p4), .val (.int p5), .val (.int ((p3 &&& (2147483647 : Int32)) % (15 : Int32))), .val (.int ((p4 &&& (2147483647 : Int32)) % (15 : Int32))), .unset, .unset, .unset, .unset, .unset]) rfl k) ?_
  refine own_of (S' := s₁.setTop (mkF m 20 #[.val (.int p1), .val (.int p2), .val (.int p3), .val (.int p4), .val (.int p5), .val (.int ((p3 &&& (2147483647 : Int32)) % (15 : Int32))), .val (.int ((p4 &&& (2147483647 : Int32)) % (15 : Int32))), .unset, .unset, .unset, .unset, .unset] [(.int p5)])) (fun t k => XS.iload X0.here hx rfl (hb hby at_18) rfl k) ?_
  refine own_of (S' := s₁.setTop (mkF m 21 #[.val (.int p1), .val (.int p2), .val (.int p3), .val (.int p4), .val (.int p5), .val (.int ((p3 &&& (2147483647 : Int32)) % (15 : Int32))), .val (.int ((p4 &&& (2147483647 : Int32)) % (15 : Int32))), .unset, .unset, .unset, .unset, .unset] [(.int (1 : Int32)), (.int p5)])) (fun t k => XS.iconst X0.here hx rfl (hb hby at_20) k) ?_
  refine own_of (S' := s₁.setTop (mkF m 22 #[.val (.int p1), .val (.int p2), .val (.int p3), .val (.int p4), .val (.int p5), .val (.int ((p3 &&& (2147483647 : Int32)) % (15 : Int32))), .val (.int ((p4 &&& (2147483647 : Int32)) % (15 : Int32))), .unset, .unset, .unset, .unset, .unset] [(.int (p5 &&& (1 : Int32)))])) (fun t k => XS.iand X0.here hx rfl (hb hby at_21) rfl k) ?_
  by_cases hc22_1 : (p5 &&& (1 : Int32)) = (0 : Int32)
  · refine own_of (S' := s₁.setTop (mkF m 29 #[.val (.int p1), .val (.int p2), .val (.int p3), .val (.int p4), .val (.int p5), .val (.int ((p3 &&& (2147483647 : Int32)) % (15 : Int32))), .val (.int ((p4 &&& (2147483647 : Int32)) % (15 : Int32))), .unset, .unset, .unset, .unset, .unset] [])) (fun t k => XS.ifYes X0.here hx rfl (pc0 := 22) (pc' := 29) rfl (hb hby at_22) rfl ((if0 _ _).trans (teq hc22_1).1) (by decide) (by decide) k) ?_
    refine own_of (S' := s₁.setTop (mkF m 30 #[.val (.int p1), .val (.int p2), .val (.int p3), .val (.int p4), .val (.int p5), .val (.int ((p3 &&& (2147483647 : Int32)) % (15 : Int32))), .val (.int ((p4 &&& (2147483647 : Int32)) % (15 : Int32))), .unset, .unset, .unset, .unset, .unset] [(.int (0 : Int32))])) (fun t k => XS.iconst X0.here hx rfl (hb hby at_29) k) ?_
    refine own_of (S' := s₁.setTop (mkF m 32 #[.val (.int p1), .val (.int p2), .val (.int p3), .val (.int p4), .val (.int p5), .val (.int ((p3 &&& (2147483647 : Int32)) % (15 : Int32))), .val (.int ((p4 &&& (2147483647 : Int32)) % (15 : Int32))), .val (.int (0 : Int32)), .unset, .unset, .unset, .unset] [])) (fun t k => XS.istore X0.here hx rfl (hb hby at_30) rfl (l' := #[.val (.int p1), .val (.int p2), .val (.int p3), .val (.int p4), .val (.int p5), .val (.int ((p3 &&& (2147483647 : Int32)) % (15 : Int32))), .val (.int ((p4 &&& (2147483647 : Int32)) % (15 : Int32))), .val (.int (0 : Int32)), .unset, .unset, .unset, .unset]) rfl k) ?_
    refine own_of (S' := s₁.setTop (mkF m 34 #[.val (.int p1), .val (.int p2), .val (.int p3), .val (.int p4), .val (.int p5), .val (.int ((p3 &&& (2147483647 : Int32)) % (15 : Int32))), .val (.int ((p4 &&& (2147483647 : Int32)) % (15 : Int32))), .val (.int (0 : Int32)), .unset, .unset, .unset, .unset] [(.int (0 : Int32))])) (fun t k => XS.iload X0.here hx rfl (hb hby at_32) rfl k) ?_
    refine own_of (S' := s₁.setTop (mkF m 45 #[.val (.int p1), .val (.int p2), .val (.int p3), .val (.int p4), .val (.int p5), .val (.int ((p3 &&& (2147483647 : Int32)) % (15 : Int32))), .val (.int ((p4 &&& (2147483647 : Int32)) % (15 : Int32))), .val (.int (0 : Int32)), .unset, .unset, .unset, .unset] [])) (fun t k => XS.ifYes X0.here hx rfl (pc0 := 34) (pc' := 45) rfl (hb hby at_34) rfl ((if0 _ _).trans (teq (by decide : (0 : Int32) = (0 : Int32))).1) (by decide) (by decide) k) ?_
    refine own_of (S' := s₁.setTop (mkF m 46 #[.val (.int p1), .val (.int p2), .val (.int p3), .val (.int p4), .val (.int p5), .val (.int ((p3 &&& (2147483647 : Int32)) % (15 : Int32))), .val (.int ((p4 &&& (2147483647 : Int32)) % (15 : Int32))), .val (.int (0 : Int32)), .unset, .unset, .unset, .unset] [(.int p2)])) (fun t k => XS.iloadN X0.here hx rfl (hb hby at_45) rfl k) ?_
    refine own_of (S' := s₁.setTop (mkF m 48 #[.val (.int p1), .val (.int p2), .val (.int p3), .val (.int p4), .val (.int p5), .val (.int ((p3 &&& (2147483647 : Int32)) % (15 : Int32))), .val (.int ((p4 &&& (2147483647 : Int32)) % (15 : Int32))), .val (.int (0 : Int32)), .val (.int p2), .unset, .unset, .unset] [])) (fun t k => XS.istore X0.here hx rfl (hb hby at_46) rfl (l' := #[.val (.int p1), .val (.int p2), .val (.int p3), .val (.int p4), .val (.int p5), .val (.int ((p3 &&& (2147483647 : Int32)) % (15 : Int32))), .val (.int ((p4 &&& (2147483647 : Int32)) % (15 : Int32))), .val (.int (0 : Int32)), .val (.int p2), .unset, .unset, .unset]) rfl k) ?_
    obtain ⟨T2, h2, X2, e2, E2, A2, D2, -, st2⟩ := newO X0 hx hZ hown (hw _ (List.mem_of_getElem? (i := 1) rfl)) (hw _ (List.mem_of_getElem? (i := 2) rfl)) (hw _ (List.mem_of_getElem? (i := 3) rfl)) e0 (g := (mkF m 48 #[.val (.int p1), .val (.int p2), .val (.int p3), .val (.int p4), .val (.int p5), .val (.int ((p3 &&& (2147483647 : Int32)) % (15 : Int32))), .val (.int ((p4 &&& (2147483647 : Int32)) % (15 : Int32))), .val (.int (0 : Int32)), .val (.int p2), .unset, .unset, .unset] [])) rfl (hb hby at_48) (by decide) (by decide)
    obtain ⟨b2, g2⟩ : ∃ z, z = h0.size := ⟨_, rfl⟩
    rw [← g2] at A2 D2 st2
    have g_b2 : n0 ≤ b2 := Nat.le_trans Z0 (Nat.le_trans (Nat.le_refl _) (Nat.le_of_eq g2.symm))
    have F_responseTag_b2 : Fld Z h2 b2 "com/example/waypost/waypost/ldap/LdapResponse$Result" "responseTag" "I" (.int (0 : Int32)) := D2 (Or.inr (hw _ (List.mem_of_getElem? (i := 24) rfl))) (ty := .int) (by decide)
    have F_resultCode_b2 : Fld Z h2 b2 "com/example/waypost/waypost/ldap/LdapResponse$Result" "resultCode" "I" (.int (0 : Int32)) := D2 (Or.inr (hw _ (List.mem_of_getElem? (i := 26) rfl))) (ty := .int) (by decide)
    have F_matchedDn_b2 : Fld Z h2 b2 "com/example/waypost/waypost/ldap/LdapResponse$Result" "matchedDn" "Ljava/lang/String;" .null := D2 (Or.inr (hw _ (List.mem_of_getElem? (i := 28) rfl))) (ty := (.object "java/lang/String")) (by decide)
    have F_diagnosticMessage_b2 : Fld Z h2 b2 "com/example/waypost/waypost/ldap/LdapResponse$Result" "diagnosticMessage" "Ljava/lang/String;" .null := D2 (Or.inr (hw _ (List.mem_of_getElem? (i := 30) rfl))) (ty := (.object "java/lang/String")) (by decide)
    refine own_of (S' := T2.setTop (mkF m 51 #[.val (.int p1), .val (.int p2), .val (.int p3), .val (.int p4), .val (.int p5), .val (.int ((p3 &&& (2147483647 : Int32)) % (15 : Int32))), .val (.int ((p4 &&& (2147483647 : Int32)) % (15 : Int32))), .val (.int (0 : Int32)), .val (.int p2), .unset, .unset, .unset] [(.ref b2)])) st2 ?_
    refine own_of (S' := T2.setTop (mkF m 52 #[.val (.int p1), .val (.int p2), .val (.int p3), .val (.int p4), .val (.int p5), .val (.int ((p3 &&& (2147483647 : Int32)) % (15 : Int32))), .val (.int ((p4 &&& (2147483647 : Int32)) % (15 : Int32))), .val (.int (0 : Int32)), .val (.int p2), .unset, .unset, .unset] [(.ref b2), (.ref b2)])) (fun t k => XS.dup X2.here hx rfl (hb hby at_51) rfl rfl k) ?_
    refine own_of (S' := T2.setTop (mkF m 53 #[.val (.int p1), .val (.int p2), .val (.int p3), .val (.int p4), .val (.int p5), .val (.int ((p3 &&& (2147483647 : Int32)) % (15 : Int32))), .val (.int ((p4 &&& (2147483647 : Int32)) % (15 : Int32))), .val (.int (0 : Int32)), .val (.int p2), .unset, .unset, .unset] [(.int p1), (.ref b2), (.ref b2)])) (fun t k => XS.iloadN X2.here hx rfl (hb hby at_52) rfl k) ?_
    refine own_of (S' := T2.setTop (mkF m 55 #[.val (.int p1), .val (.int p2), .val (.int p3), .val (.int p4), .val (.int p5), .val (.int ((p3 &&& (2147483647 : Int32)) % (15 : Int32))), .val (.int ((p4 &&& (2147483647 : Int32)) % (15 : Int32))), .val (.int (0 : Int32)), .val (.int p2), .unset, .unset, .unset] [(.int p2), (.int p1), (.ref b2), (.ref b2)])) (fun t k => XS.iload X2.here hx rfl (hb hby at_53) rfl k) ?_
    obtain ⟨b3, T3, h3, k3, X3, e3, E3, hS3, hk3, hZ, hown, st3⟩ := ldcS (s := s) (vm0 := s.vm) X2 hx hZ hown (hw _ (List.mem_of_getElem? (i := 4) rfl)) (own_strW a0 Z hw) e2 own_since0 (Nat.zero_le _) (g := (mkF m 55 #[.val (.int p1), .val (.int p2), .val (.int p3), .val (.int p4), .val (.int p5), .val (.int ((p3 &&& (2147483647 : Int32)) % (15 : Int32))), .val (.int ((p4 &&& (2147483647 : Int32)) % (15 : Int32))), .val (.int (0 : Int32)), .val (.int p2), .unset, .unset, .unset] [(.int p2), (.int p1), (.ref b2), (.ref b2)])) rfl (hb hby at_55) (n := 0) (by decide) (by decide) (by decide) (by decide)
    refine own_of (S' := T3.setTop (mkF m 57 #[.val (.int p1), .val (.int p2), .val (.int p3), .val (.int p4), .val (.int p5), .val (.int ((p3 &&& (2147483647 : Int32)) % (15 : Int32))), .val (.int ((p4 &&& (2147483647 : Int32)) % (15 : Int32))), .val (.int (0 : Int32)), .val (.int p2), .unset, .unset, .unset] [(.ref b3), (.int p2), (.int p1), (.ref b2), (.ref b2)])) st3 ?_
    obtain ⟨b4, T4, h4, k4, X4, e4, E4, hS4, hk4, hZ, hown, st4⟩ := ldcS (s := s) X3 hx hZ hown (hw _ (List.mem_of_getElem? (i := 4) rfl)) (own_strW a0 Z hw) e3 hS3 hk3 (g := (mkF m 57 #[.val (.int p1), .val (.int p2), .val (.int p3), .val (.int p4), .val (.int p5), .val (.int ((p3 &&& (2147483647 : Int32)) % (15 : Int32))), .val (.int ((p4 &&& (2147483647 : Int32)) % (15 : Int32))), .val (.int (0 : Int32)), .val (.int p2), .unset, .unset, .unset] [(.ref b3), (.int p2), (.int p1), (.ref b2), (.ref b2)])) rfl (hb hby at_57) (n := 0) (by decide) (by decide) (by decide) (by decide)
    refine own_of (S' := T4.setTop (mkF m 59 #[.val (.int p1), .val (.int p2), .val (.int p3), .val (.int p4), .val (.int p5), .val (.int ((p3 &&& (2147483647 : Int32)) % (15 : Int32))), .val (.int ((p4 &&& (2147483647 : Int32)) % (15 : Int32))), .val (.int (0 : Int32)), .val (.int p2), .unset, .unset, .unset] [(.ref b4), (.ref b3), (.int p2), (.int p1), (.ref b2), (.ref b2)])) st4 ?_
    have A2_t5 : Exa Z h4 b2 "com/example/waypost/waypost/ldap/LdapResponse$Result" := ((A2.ext E3).ext E4)
    have F_responseTag_b2_t6 : Fld Z h4 b2 "com/example/waypost/waypost/ldap/LdapResponse$Result" "responseTag" "I" (.int (0 : Int32)) := ((F_responseTag_b2.ext E3).ext E4)
    have F_resultCode_b2_t7 : Fld Z h4 b2 "com/example/waypost/waypost/ldap/LdapResponse$Result" "resultCode" "I" (.int (0 : Int32)) := ((F_resultCode_b2.ext E3).ext E4)
    have F_matchedDn_b2_t8 : Fld Z h4 b2 "com/example/waypost/waypost/ldap/LdapResponse$Result" "matchedDn" "Ljava/lang/String;" .null := ((F_matchedDn_b2.ext E3).ext E4)
    have F_diagnosticMessage_b2_t9 : Fld Z h4 b2 "com/example/waypost/waypost/ldap/LdapResponse$Result" "diagnosticMessage" "Ljava/lang/String;" .null := ((F_diagnosticMessage_b2.ext E3).ext E4)
    obtain ⟨_, _, ⟨T10, L10, k10, n10⟩, -, X10, ⟨Lc10, hQ10, l10, y10, z10⟩, st10⟩ := X4.specialBack hx (y := (⟨"com/example/waypost/waypost/ldap/LdapResponse$Result", "<init>", "(IILjava/lang/String;Ljava/lang/String;)V"⟩ : MethodName)) rfl hown (mvT hZ (hw _ (List.mem_of_getElem? (i := 12) rfl))) (mvT hZ (hw _ (List.mem_of_getElem? (i := 13) rfl))) (mvT hZ (hw _ (List.mem_of_getElem? (i := 14) rfl))) (by decide) (backOf (W := 1) (rm1 l Z a0 hw [] b2 p1 p2 b3 b4 h4 n0 (Nat.le_trans (Nat.le_trans (Nat.le_trans Z0 E2.1) E3.1) E4.1) A2_t5 F_responseTag_b2_t6 F_resultCode_b2_t7 F_matchedDn_b2_t8 F_diagnosticMessage_b2_t9 g_b2) hZ (hw _ (List.mem_of_getElem? (i := 14) rfl)) (hw _ (List.mem_of_getElem? (i := 3) rfl)) (by decide) (by decide)) (g := (mkF m 59 #[.val (.int p1), .val (.int p2), .val (.int p3), .val (.int p4), .val (.int p5), .val (.int ((p3 &&& (2147483647 : Int32)) % (15 : Int32))), .val (.int ((p4 &&& (2147483647 : Int32)) % (15 : Int32))), .val (.int (0 : Int32)), .val (.int p2), .unset, .unset, .unset] [(.ref b4), (.ref b3), (.int p2), (.int p1), (.ref b2), (.ref b2)])) rfl (by rw [hml]; rfl) (Steps.refl _) (a := b2) (argsL := [(.int p1), (.int p2), (.ref b3), (.ref b4)]) (rest := [(.ref b2)]) (lenOf pd0_0 rfl) rfl (by show 2 * 0 + _ ≤ _; exact Nat.le_of_eq rfl) (hb hby at_59) (fun _ _ => ⟨rfl, e4, (by decide : (((0 + 1) + 2) + 2) + _ ≤ _), (by decide : (((0 + 4) + 4) + 4) + _ ≤ _)⟩)
    dsimp only [Pt.U, Pt.locs, Pt.cells, Pt.slots] at X10 l10 y10 z10 st10 hQ10
    subst l10 y10 z10
    obtain ⟨rfl, N10q, K10, F_resultCode_q10_0⟩ := hQ10
    have N10 := Fr.app N0 N10q
    refine own_of (S' := T10.setTop (mkF m 62 #[.val (.int p1), .val (.int p2), .val (.int p3), .val (.int p4), .val (.int p5), .val (.int ((p3 &&& (2147483647 : Int32)) % (15 : Int32))), .val (.int ((p4 &&& (2147483647 : Int32)) % (15 : Int32))), .val (.int (0 : Int32)), .val (.int p2), .unset, .unset, .unset] [(.ref b2)])) (fun t k => st10.trans k) ?_
    refine own_of (S' := T10.setTop (mkF m 64 #[.val (.int p1), .val (.int p2), .val (.int p3), .val (.int p4), .val (.int p5), .val (.int ((p3 &&& (2147483647 : Int32)) % (15 : Int32))), .val (.int ((p4 &&& (2147483647 : Int32)) % (15 : Int32))), .val (.int (0 : Int32)), .val (.int p2), .val (.ref b2), .unset, .unset] [])) (fun t k => XS.astore X10.here hx rfl (hb hby at_62) rfl rfl (l' := #[.val (.int p1), .val (.int p2), .val (.int p3), .val (.int p4), .val (.int p5), .val (.int ((p3 &&& (2147483647 : Int32)) % (15 : Int32))), .val (.int ((p4 &&& (2147483647 : Int32)) % (15 : Int32))), .val (.int (0 : Int32)), .val (.int p2), .val (.ref b2), .unset, .unset]) rfl k) ?_
    refine own_of (S' := T10.setTop (mkF m 66 #[.val (.int p1), .val (.int p2), .val (.int p3), .val (.int p4), .val (.int p5), .val (.int ((p3 &&& (2147483647 : Int32)) % (15 : Int32))), .val (.int ((p4 &&& (2147483647 : Int32)) % (15 : Int32))), .val (.int (0 : Int32)), .val (.int p2), .val (.ref b2), .unset, .unset] [(.ref b2)])) (fun t k => XS.aload X10.here hx rfl (hb hby at_64) rfl rfl k) ?_
    refine own_of (S' := T10.setTop (mkF m 68 #[.val (.int p1), .val (.int p2), .val (.int p3), .val (.int p4), .val (.int p5), .val (.int ((p3 &&& (2147483647 : Int32)) % (15 : Int32))), .val (.int ((p4 &&& (2147483647 : Int32)) % (15 : Int32))), .val (.int (0 : Int32)), .val (.int p2), .val (.ref b2), .unset, .unset] [(.int ((p3 &&& (2147483647 : Int32)) % (15 : Int32))), (.ref b2)])) (fun t k => XS.iload X10.here hx rfl (hb hby at_66) rfl k) ?_
    have S_SUCCESS_t11 : Sta Z T10.heap "com/example/waypost/waypost/ldap/ResultCode" "SUCCESS" "Lcom/example/waypost/waypost/ldap/ResultCode;" (.ref w_SUCCESS) := (own_staK (((S_SUCCESS.ext E2).ext E3).ext E4) K10 (allS (own_nstE A2_t5) all0))
    have S_PROTOCOL_ERROR_t12 : Sta Z T10.heap "com/example/waypost/waypost/ldap/ResultCode" "PROTOCOL_ERROR" "Lcom/example/waypost/waypost/ldap/ResultCode;" (.ref w_PROTOCOL_ERROR) := (own_staK (((S_PROTOCOL_ERROR.ext E2).ext E3).ext E4) K10 (allS (own_nstE A2_t5) all0))
    have S_SIZE_LIMIT_EXCEEDED_t13 : Sta Z T10.heap "com/example/waypost/waypost/ldap/ResultCode" "SIZE_LIMIT_EXCEEDED" "Lcom/example/waypost/waypost/ldap/ResultCode;" (.ref w_SIZE_LIMIT_EXCEEDED) := (own_staK (((S_SIZE_LIMIT_EXCEEDED.ext E2).ext E3).ext E4) K10 (allS (own_nstE A2_t5) all0))
    have S_COMPARE_FALSE_t14 : Sta Z T10.heap "com/example/waypost/waypost/ldap/ResultCode" "COMPARE_FALSE" "Lcom/example/waypost/waypost/ldap/ResultCode;" (.ref w_COMPARE_FALSE) := (own_staK (((S_COMPARE_FALSE.ext E2).ext E3).ext E4) K10 (allS (own_nstE A2_t5) all0))
    have S_COMPARE_TRUE_t15 : Sta Z T10.heap "com/example/waypost/waypost/ldap/ResultCode" "COMPARE_TRUE" "Lcom/example/waypost/waypost/ldap/ResultCode;" (.ref w_COMPARE_TRUE) := (own_staK (((S_COMPARE_TRUE.ext E2).ext E3).ext E4) K10 (allS (own_nstE A2_t5) all0))
    have S_AUTH_METHOD_NOT_SUPPORTED_t16 : Sta Z T10.heap "com/example/waypost/waypost/ldap/ResultCode" "AUTH_METHOD_NOT_SUPPORTED" "Lcom/example/waypost/waypost/ldap/ResultCode;" (.ref w_AUTH_METHOD_NOT_SUPPORTED) := (own_staK (((S_AUTH_METHOD_NOT_SUPPORTED.ext E2).ext E3).ext E4) K10 (allS (own_nstE A2_t5) all0))
    have S_UNAVAILABLE_CRITICAL_EXTENSION_t17 : Sta Z T10.heap "com/example/waypost/waypost/ldap/ResultCode" "UNAVAILABLE_CRITICAL_EXTENSION" "Lcom/example/waypost/waypost/ldap/ResultCode;" (.ref w_UNAVAILABLE_CRITICAL_EXTENSION) := (own_staK (((S_UNAVAILABLE_CRITICAL_EXTENSION.ext E2).ext E3).ext E4) K10 (allS (own_nstE A2_t5) all0))
    have S_NO_SUCH_ATTRIBUTE_t18 : Sta Z T10.heap "com/example/waypost/waypost/ldap/ResultCode" "NO_SUCH_ATTRIBUTE" "Lcom/example/waypost/waypost/ldap/ResultCode;" (.ref w_NO_SUCH_ATTRIBUTE) := (own_staK (((S_NO_SUCH_ATTRIBUTE.ext E2).ext E3).ext E4) K10 (allS (own_nstE A2_t5) all0))
    have S_UNDEFINED_ATTRIBUTE_TYPE_t19 : Sta Z T10.heap "com/example/waypost/waypost/ldap/ResultCode" "UNDEFINED_ATTRIBUTE_TYPE" "Lcom/example/waypost/waypost/ldap/ResultCode;" (.ref w_UNDEFINED_ATTRIBUTE_TYPE) := (own_staK (((S_UNDEFINED_ATTRIBUTE_TYPE.ext E2).ext E3).ext E4) K10 (allS (own_nstE A2_t5) all0))
    have S_INAPPROPRIATE_MATCHING_t20 : Sta Z T10.heap "com/example/waypost/waypost/ldap/ResultCode" "INAPPROPRIATE_MATCHING" "Lcom/example/waypost/waypost/ldap/ResultCode;" (.ref w_INAPPROPRIATE_MATCHING) := (own_staK (((S_INAPPROPRIATE_MATCHING.ext E2).ext E3).ext E4) K10 (allS (own_nstE A2_t5) all0))
    have S_INVALID_ATTRIBUTE_SYNTAX_t21 : Sta Z T10.heap "com/example/waypost/waypost/ldap/ResultCode" "INVALID_ATTRIBUTE_SYNTAX" "Lcom/example/waypost/waypost/ldap/ResultCode;" (.ref w_INVALID_ATTRIBUTE_SYNTAX) := (own_staK (((S_INVALID_ATTRIBUTE_SYNTAX.ext E2).ext E3).ext E4) K10 (allS (own_nstE A2_t5) all0))
    have S_NO_SUCH_OBJECT_t22 : Sta Z T10.heap "com/example/waypost/waypost/ldap/ResultCode" "NO_SUCH_OBJECT" "Lcom/example/waypost/waypost/ldap/ResultCode;" (.ref w_NO_SUCH_OBJECT) := (own_staK (((S_NO_SUCH_OBJECT.ext E2).ext E3).ext E4) K10 (allS (own_nstE A2_t5) all0))
    have S_INVALID_DN_SYNTAX_t23 : Sta Z T10.heap "com/example/waypost/waypost/ldap/ResultCode" "INVALID_DN_SYNTAX" "Lcom/example/waypost/waypost/ldap/ResultCode;" (.ref w_INVALID_DN_SYNTAX) := (own_staK (((S_INVALID_DN_SYNTAX.ext E2).ext E3).ext E4) K10 (allS (own_nstE A2_t5) all0))
    have S_INVALID_CREDENTIALS_t24 : Sta Z T10.heap "com/example/waypost/waypost/ldap/ResultCode" "INVALID_CREDENTIALS" "Lcom/example/waypost/waypost/ldap/ResultCode;" (.ref w_INVALID_CREDENTIALS) := (own_staK (((S_INVALID_CREDENTIALS.ext E2).ext E3).ext E4) K10 (allS (own_nstE A2_t5) all0))
    have S_UNWILLING_TO_PERFORM_t25 : Sta Z T10.heap "com/example/waypost/waypost/ldap/ResultCode" "UNWILLING_TO_PERFORM" "Lcom/example/waypost/waypost/ldap/ResultCode;" (.ref w_UNWILLING_TO_PERFORM) := (own_staK (((S_UNWILLING_TO_PERFORM.ext E2).ext E3).ext E4) K10 (allS (own_nstE A2_t5) all0))
    have E_w_SUCCESS_t26 : Exa Z T10.heap w_SUCCESS "com/example/waypost/waypost/ldap/ResultCode" := ((((E_w_SUCCESS.ext E2).ext E3).ext E4).keep K10)
    have E_w_PROTOCOL_ERROR_t27 : Exa Z T10.heap w_PROTOCOL_ERROR "com/example/waypost/waypost/ldap/ResultCode" := ((((E_w_PROTOCOL_ERROR.ext E2).ext E3).ext E4).keep K10)
    have E_w_SIZE_LIMIT_EXCEEDED_t28 : Exa Z T10.heap w_SIZE_LIMIT_EXCEEDED "com/example/waypost/waypost/ldap/ResultCode" := ((((E_w_SIZE_LIMIT_EXCEEDED.ext E2).ext E3).ext E4).keep K10)
    have E_w_COMPARE_FALSE_t29 : Exa Z T10.heap w_COMPARE_FALSE "com/example/waypost/waypost/ldap/ResultCode" := ((((E_w_COMPARE_FALSE.ext E2).ext E3).ext E4).keep K10)
    have E_w_COMPARE_TRUE_t30 : Exa Z T10.heap w_COMPARE_TRUE "com/example/waypost/waypost/ldap/ResultCode" := ((((E_w_COMPARE_TRUE.ext E2).ext E3).ext E4).keep K10)
    have E_w_AUTH_METHOD_NOT_SUPPORTED_t31 : Exa Z T10.heap w_AUTH_METHOD_NOT_SUPPORTED "com/example/waypost/waypost/ldap/ResultCode" := ((((E_w_AUTH_METHOD_NOT_SUPPORTED.ext E2).ext E3).ext E4).keep K10)
    have E_w_UNAVAILABLE_CRITICAL_EXTENSION_t32 : Exa Z T10.heap w_UNAVAILABLE_CRITICAL_EXTENSION "com/example/waypost/waypost/ldap/ResultCode" := ((((E_w_UNAVAILABLE_CRITICAL_EXTENSION.ext E2).ext E3).ext E4).keep K10)
    have E_w_NO_SUCH_ATTRIBUTE_t33 : Exa Z T10.heap w_NO_SUCH_ATTRIBUTE "com/example/waypost/waypost/ldap/ResultCode" := ((((E_w_NO_SUCH_ATTRIBUTE.ext E2).ext E3).ext E4).keep K10)
    have E_w_UNDEFINED_ATTRIBUTE_TYPE_t34 : Exa Z T10.heap w_UNDEFINED_ATTRIBUTE_TYPE "com/example/waypost/waypost/ldap/ResultCode" := ((((E_w_UNDEFINED_ATTRIBUTE_TYPE.ext E2).ext E3).ext E4).keep K10)
    have E_w_INAPPROPRIATE_MATCHING_t35 : Exa Z T10.heap w_INAPPROPRIATE_MATCHING "com/example/waypost/waypost/ldap/ResultCode" := ((((E_w_INAPPROPRIATE_MATCHING.ext E2).ext E3).ext E4).keep K10)
    have E_w_INVALID_ATTRIBUTE_SYNTAX_t36 : Exa Z T10.heap w_INVALID_ATTRIBUTE_SYNTAX "com/example/waypost/waypost/ldap/ResultCode" := ((((E_w_INVALID_ATTRIBUTE_SYNTAX.ext E2).ext E3).ext E4).keep K10)
    have E_w_NO_SUCH_OBJECT_t37 : Exa Z T10.heap w_NO_SUCH_OBJECT "com/example/waypost/waypost/ldap/ResultCode" := ((((E_w_NO_SUCH_OBJECT.ext E2).ext E3).ext E4).keep K10)
    have E_w_INVALID_DN_SYNTAX_t38 : Exa Z T10.heap w_INVALID_DN_SYNTAX "com/example/waypost/waypost/ldap/ResultCode" := ((((E_w_INVALID_DN_SYNTAX.ext E2).ext E3).ext E4).keep K10)
    have E_w_INVALID_CREDENTIALS_t39 : Exa Z T10.heap w_INVALID_CREDENTIALS "com/example/waypost/waypost/ldap/ResultCode" := ((((E_w_INVALID_CREDENTIALS.ext E2).ext E3).ext E4).keep K10)
    have E_w_UNWILLING_TO_PERFORM_t40 : Exa Z T10.heap w_UNWILLING_TO_PERFORM "com/example/waypost/waypost/ldap/ResultCode" := ((((E_w_UNWILLING_TO_PERFORM.ext E2).ext E3).ext E4).keep K10)
    have F_code_w_SUCCESS_t41 : Fld Z T10.heap w_SUCCESS "com/example/waypost/waypost/ldap/ResultCode" "code" "I" (.int (0 : Int32)) := ((((F_code_w_SUCCESS.ext E2).ext E3).ext E4).keep K10 (ninS (Nat.ne_of_lt (Nat.lt_of_lt_of_le E_w_SUCCESS.lt (Nat.le_of_eq g2.symm))) nin0))
    have F_code_w_PROTOCOL_ERROR_t42 : Fld Z T10.heap w_PROTOCOL_ERROR "com/example/waypost/waypost/ldap/ResultCode" "code" "I" (.int (2 : Int32)) := ((((F_code_w_PROTOCOL_ERROR.ext E2).ext E3).ext E4).keep K10 (ninS (Nat.ne_of_lt (Nat.lt_of_lt_of_le E_w_PROTOCOL_ERROR.lt (Nat.le_of_eq g2.symm))) nin0))
    have F_code_w_SIZE_LIMIT_EXCEEDED_t43 : Fld Z T10.heap w_SIZE_LIMIT_EXCEEDED "com/example/waypost/waypost/ldap/ResultCode" "code" "I" (.int (4 : Int32)) := ((((F_code_w_SIZE_LIMIT_EXCEEDED.ext E2).ext E3).ext E4).keep K10 (ninS (Nat.ne_of_lt (Nat.lt_of_lt_of_le E_w_SIZE_LIMIT_EXCEEDED.lt (Nat.le_of_eq g2.symm))) nin0))
    have F_code_w_COMPARE_FALSE_t44 : Fld Z T10.heap w_COMPARE_FALSE "com/example/waypost/waypost/ldap/ResultCode" "code" "I" (.int (5 : Int32)) := ((((F_code_w_COMPARE_FALSE.ext E2).ext E3).ext E4).keep K10 (ninS (Nat.ne_of_lt (Nat.lt_of_lt_of_le E_w_COMPARE_FALSE.lt (Nat.le_of_eq g2.symm))) nin0))
    have F_code_w_COMPARE_TRUE_t45 : Fld Z T10.heap w_COMPARE_TRUE "com/example/waypost/waypost/ldap/ResultCode" "code" "I" (.int (6 : Int32)) := ((((F_code_w_COMPARE_TRUE.ext E2).ext E3).ext E4).keep K10 (ninS (Nat.ne_of_lt (Nat.lt_of_lt_of_le E_w_COMPARE_TRUE.lt (Nat.le_of_eq g2.symm))) nin0))
    have F_code_w_AUTH_METHOD_NOT_SUPPORTED_t46 : Fld Z T10.heap w_AUTH_METHOD_NOT_SUPPORTED "com/example/waypost/waypost/ldap/ResultCode" "code" "I" (.int (7 : Int32)) := ((((F_code_w_AUTH_METHOD_NOT_SUPPORTED.ext E2).ext E3).ext E4).keep K10 (ninS (Nat.ne_of_lt (Nat.lt_of_lt_of_le E_w_AUTH_METHOD_NOT_SUPPORTED.lt (Nat.le_of_eq g2.symm))) nin0))
    have F_code_w_UNAVAILABLE_CRITICAL_EXTENSION_t47 : Fld Z T10.heap w_UNAVAILABLE_CRITICAL_EXTENSION "com/example/waypost/waypost/ldap/ResultCode" "code" "I" (.int (12 : Int32)) := ((((F_code_w_UNAVAILABLE_CRITICAL_EXTENSION.ext E2).ext E3).ext E4).keep K10 (ninS (Nat.ne_of_lt (Nat.lt_of_lt_of_le E_w_UNAVAILABLE_CRITICAL_EXTENSION.lt (Nat.le_of_eq g2.symm))) nin0))
    have F_code_w_NO_SUCH_ATTRIBUTE_t48 : Fld Z T10.heap w_NO_SUCH_ATTRIBUTE "com/example/waypost/waypost/ldap/ResultCode" "code" "I" (.int (16 : Int32)) := ((((F_code_w_NO_SUCH_ATTRIBUTE.ext E2).ext E3).ext E4).keep K10 (ninS (Nat.ne_of_lt (Nat.lt_of_lt_of_le E_w_NO_SUCH_ATTRIBUTE.lt (Nat.le_of_eq g2.symm))) nin0))
    have F_code_w_UNDEFINED_ATTRIBUTE_TYPE_t49 : Fld Z T10.heap w_UNDEFINED_ATTRIBUTE_TYPE "com/example/waypost/waypost/ldap/ResultCode" "code" "I" (.int (17 : Int32)) := ((((F_code_w_UNDEFINED_ATTRIBUTE_TYPE.ext E2).ext E3).ext E4).keep K10 (ninS (Nat.ne_of_lt (Nat.lt_of_lt_of_le E_w_UNDEFINED_ATTRIBUTE_TYPE.lt (Nat.le_of_eq g2.symm))) nin0))
    have F_code_w_INAPPROPRIATE_MATCHING_t50 : Fld Z T10.heap w_INAPPROPRIATE_MATCHING "com/example/waypost/waypost/ldap/ResultCode" "code" "I" (.int (18 : Int32)) := ((((F_code_w_INAPPROPRIATE_MATCHING.ext E2).ext E3).ext E4).keep K10 (ninS (Nat.ne_of_lt (Nat.lt_of_lt_of_le E_w_INAPPROPRIATE_MATCHING.lt (Nat.le_of_eq g2.symm))) nin0))
    have F_code_w_INVALID_ATTRIBUTE_SYNTAX_t51 : Fld Z T10.heap w_INVALID_ATTRIBUTE_SYNTAX "com/example/waypost/waypost/ldap/ResultCode" "code" "I" (.int (21 : Int32)) := ((((F_code_w_INVALID_ATTRIBUTE_SYNTAX.ext E2).ext E3).ext E4).keep K10 (ninS (Nat.ne_of_lt (Nat.lt_of_lt_of_le E_w_INVALID_ATTRIBUTE_SYNTAX.lt (Nat.le_of_eq g2.symm))) nin0))
    have F_code_w_NO_SUCH_OBJECT_t52 : Fld Z T10.heap w_NO_SUCH_OBJECT "com/example/waypost/waypost/ldap/ResultCode" "code" "I" (.int (32 : Int32)) := ((((F_code_w_NO_SUCH_OBJECT.ext E2).ext E3).ext E4).keep K10 (ninS (Nat.ne_of_lt (Nat.lt_of_lt_of_le E_w_NO_SUCH_OBJECT.lt (Nat.le_of_eq g2.symm))) nin0))
    have F_code_w_INVALID_DN_SYNTAX_t53 : Fld Z T10.heap w_INVALID_DN_SYNTAX "com/example/waypost/waypost/ldap/ResultCode" "code" "I" (.int (34 : Int32)) := ((((F_code_w_INVALID_DN_SYNTAX.ext E2).ext E3).ext E4).keep K10 (ninS (Nat.ne_of_lt (Nat.lt_of_lt_of_le E_w_INVALID_DN_SYNTAX.lt (Nat.le_of_eq g2.symm))) nin0))
    have F_code_w_INVALID_CREDENTIALS_t54 : Fld Z T10.heap w_INVALID_CREDENTIALS "com/example/waypost/waypost/ldap/ResultCode" "code" "I" (.int (49 : Int32)) := ((((F_code_w_INVALID_CREDENTIALS.ext E2).ext E3).ext E4).keep K10 (ninS (Nat.ne_of_lt (Nat.lt_of_lt_of_le E_w_INVALID_CREDENTIALS.lt (Nat.le_of_eq g2.symm))) nin0))
    have F_code_w_UNWILLING_TO_PERFORM_t55 : Fld Z T10.heap w_UNWILLING_TO_PERFORM "com/example/waypost/waypost/ldap/ResultCode" "code" "I" (.int (53 : Int32)) := ((((F_code_w_UNWILLING_TO_PERFORM.ext E2).ext E3).ext E4).keep K10 (ninS (Nat.ne_of_lt (Nat.lt_of_lt_of_le E_w_UNWILLING_TO_PERFORM.lt (Nat.le_of_eq g2.symm))) nin0))
    obtain ⟨_, _, ⟨T56, L56, k56, n56⟩, -, X56, ⟨Lc56, hQ56, l56, y56, z56⟩, st56⟩ := Jvm.LawKit.callS X10 hx (y := (⟨"com/example/waypost/waypost/ldap/ResultIsPinLaw", "constant", "(I)Lcom/example/waypost/waypost/ldap/ResultCode;"⟩ : MethodName)) hown (mvT hZ (hw _ (List.mem_of_getElem? (i := 31) rfl))) (mvT hZ (hw _ (List.mem_of_getElem? (i := 32) rfl))) (mvT hZ (hw _ (List.mem_of_getElem? (i := 33) rfl))) (mvT hZ (hw _ (List.mem_of_getElem? (i := 34) rfl))) (by decide) (backOf (W := 1) (rm4 l Z a0 hw [] ((p3 &&& (2147483647 : Int32)) % (15 : Int32)) w_SUCCESS w_PROTOCOL_ERROR w_SIZE_LIMIT_EXCEEDED w_COMPARE_FALSE w_COMPARE_TRUE w_AUTH_METHOD_NOT_SUPPORTED w_UNAVAILABLE_CRITICAL_EXTENSION w_NO_SUCH_ATTRIBUTE w_UNDEFINED_ATTRIBUTE_TYPE w_INAPPROPRIATE_MATCHING w_INVALID_ATTRIBUTE_SYNTAX w_NO_SUCH_OBJECT w_INVALID_DN_SYNTAX w_INVALID_CREDENTIALS w_UNWILLING_TO_PERFORM T10.heap n0 (Nat.le_trans (Nat.le_trans (Nat.le_trans (Nat.le_trans Z0 E2.1) E3.1) E4.1) K10.1) S_SUCCESS_t11 S_PROTOCOL_ERROR_t12 S_SIZE_LIMIT_EXCEEDED_t13 S_COMPARE_FALSE_t14 S_COMPARE_TRUE_t15 S_AUTH_METHOD_NOT_SUPPORTED_t16 S_UNAVAILABLE_CRITICAL_EXTENSION_t17 S_NO_SUCH_ATTRIBUTE_t18 S_UNDEFINED_ATTRIBUTE_TYPE_t19 S_INAPPROPRIATE_MATCHING_t20 S_INVALID_ATTRIBUTE_SYNTAX_t21 S_NO_SUCH_OBJECT_t22 S_INVALID_DN_SYNTAX_t23 S_INVALID_CREDENTIALS_t24 S_UNWILLING_TO_PERFORM_t25 E_w_SUCCESS_t26 E_w_PROTOCOL_ERROR_t27 E_w_SIZE_LIMIT_EXCEEDED_t28 E_w_COMPARE_FALSE_t29 E_w_COMPARE_TRUE_t30 E_w_AUTH_METHOD_NOT_SUPPORTED_t31 E_w_UNAVAILABLE_CRITICAL_EXTENSION_t32 E_w_NO_SUCH_ATTRIBUTE_t33 E_w_UNDEFINED_ATTRIBUTE_TYPE_t34 E_w_INAPPROPRIATE_MATCHING_t35 E_w_INVALID_ATTRIBUTE_SYNTAX_t36 E_w_NO_SUCH_OBJECT_t37 E_w_INVALID_DN_SYNTAX_t38 E_w_INVALID_CREDENTIALS_t39 E_w_UNWILLING_TO_PERFORM_t40 F_code_w_SUCCESS_t41 F_code_w_PROTOCOL_ERROR_t42 F_code_w_SIZE_LIMIT_EXCEEDED_t43 F_code_w_COMPARE_FALSE_t44 F_code_w_COMPARE_TRUE_t45 F_code_w_AUTH_METHOD_NOT_SUPPORTED_t46 F_code_w_UNAVAILABLE_CRITICAL_EXTENSION_t47 F_code_w_NO_SUCH_ATTRIBUTE_t48 F_code_w_UNDEFINED_ATTRIBUTE_TYPE_t49 F_code_w_INAPPROPRIATE_MATCHING_t50 F_code_w_INVALID_ATTRIBUTE_SYNTAX_t51 F_code_w_NO_SUCH_OBJECT_t52 F_code_w_INVALID_DN_SYNTAX_t53 F_code_w_INVALID_CREDENTIALS_t54 F_code_w_UNWILLING_TO_PERFORM_t55) hZ (hw _ (List.mem_of_getElem? (i := 34) rfl)) (hw _ (List.mem_of_getElem? (i := 33) rfl)) (by decide) (by decide)) (g := (mkF m 68 #[.val (.int p1), .val (.int p2), .val (.int p3), .val (.int p4), .val (.int p5), .val (.int ((p3 &&& (2147483647 : Int32)) % (15 : Int32))), .val (.int ((p4 &&& (2147483647 : Int32)) % (15 : Int32))), .val (.int (0 : Int32)), .val (.int p2), .val (.ref b2), .unset, .unset] [(.int ((p3 &&& (2147483647 : Int32)) % (15 : Int32))), (.ref b2)])) rfl (by rw [hml]; rfl) (argsL := [(.int ((p3 &&& (2147483647 : Int32)) % (15 : Int32)))]) (rest := [(.ref b2)]) (lenOf pd0_1 rfl) rfl (by show 2 * 0 + _ ≤ _; exact Nat.le_of_eq rfl) (hb hby at_68) (fun _ _ => ⟨rfl, rfl, (by decide : ((((0 + 1) + 2) + 2) + 0) + _ ≤ _), (by decide : ((((0 + 4) + 4) + 4) + 0) + _ ≤ _)⟩)
    dsimp only [Pt.U, Pt.locs, Pt.cells, Pt.slots] at X56 l56 y56 z56 st56 hQ56
    subst l56 y56 z56
    obtain ⟨r_56, rfl, N56q, hh56, E_q56_0, F_code_q56_1⟩ := hQ56
    have N56 := Fr.app N10 N56q
    rw [hh56] at E_q56_0 F_code_q56_1
    refine own_of (S' := T56.setTop (mkF m 71 #[.val (.int p1), .val (.int p2), .val (.int p3), .val (.int p4), .val (.int p5), .val (.int ((p3 &&& (2147483647 : Int32)) % (15 : Int32))), .val (.int ((p4 &&& (2147483647 : Int32)) % (15 : Int32))), .val (.int (0 : Int32)), .val (.int p2), .val (.ref b2), .unset, .unset] [(.ref r_56), (.ref b2)])) st56 ?_
    have A2_t58 : Exa Z T10.heap b2 "com/example/waypost/waypost/ldap/LdapResponse$Result" := (A2_t5.keep K10)
    obtain ⟨cq57, kq57, q57a, q57b, q57c⟩ := isOf hZ (hh56) A2_t58
    obtain ⟨_, _, ⟨T57, L57, k57, n57⟩, -, X57, ⟨Lc57, hQ57, l57, y57, z57⟩, st57⟩ := X56.virtualBack hx (y := (⟨"com/example/waypost/waypost/ldap/LdapResponse$Result", "is", "(Lcom/example/waypost/waypost/ldap/ResultCode;)Z"⟩ : MethodName)) (z := (⟨"com/example/waypost/waypost/ldap/LdapResponse$Result", "is", "(Lcom/example/waypost/waypost/ldap/ResultCode;)Z"⟩ : MethodName)) hown (mvT hZ (hw _ (List.mem_of_getElem? (i := 38) rfl))) (mvT hZ (hw _ (List.mem_of_getElem? (i := 39) rfl))) (notFace_of_selects (args := #[]) (mvT hZ (hw _ (List.mem_of_getElem? (i := 41) rfl)))) (mvT hZ (hw _ (List.mem_of_getElem? (i := 41) rfl))) (mvT hZ (hw _ (List.mem_of_getElem? (i := 40) rfl))) (by decide) (backOf (W := 0) (rm5 l Z a0 hw [] b2 r_56 p2 (own_code ((p3 &&& (2147483647 : Int32)) % (15 : Int32))) T10.heap n0 (Nat.le_trans (Nat.le_trans (Nat.le_trans (Nat.le_trans Z0 E2.1) E3.1) E4.1) K10.1) F_resultCode_q10_0 E_q56_0 F_code_q56_1) hZ (hw _ (List.mem_of_getElem? (i := 42) rfl)) (hw _ (List.mem_of_getElem? (i := 3) rfl)) (by decide) (by decide)) q57a q57c (g := (mkF m 71 #[.val (.int p1), .val (.int p2), .val (.int p3), .val (.int p4), .val (.int p5), .val (.int ((p3 &&& (2147483647 : Int32)) % (15 : Int32))), .val (.int ((p4 &&& (2147483647 : Int32)) % (15 : Int32))), .val (.int (0 : Int32)), .val (.int p2), .val (.ref b2), .unset, .unset] [(.ref r_56), (.ref b2)])) rfl (by rw [hml]; rfl) (Steps.refl _) (argsL := [(.ref r_56)]) (rest := []) (lenOf pd0_2 rfl) rfl (by show 2 * 0 + _ ≤ _; exact Nat.le_of_eq rfl) (hb hby at_71) (fun _ _ => ⟨rfl, (hh56), (by decide : (((((0 + 1) + 2) + 2) + 0) + 0) + _ ≤ _), (by decide : (((((0 + 4) + 4) + 4) + 0) + 0) + _ ≤ _)⟩)
    dsimp only [Pt.U, Pt.locs, Pt.cells, Pt.slots] at X57 l57 y57 z57 st57 hQ57
    subst l57 y57 z57
    obtain ⟨rfl, N57q, hh57⟩ := hQ57
    have N57 := Fr.app N56 N57q
    refine own_of (S' := T57.setTop (mkF m 74 #[.val (.int p1), .val (.int p2), .val (.int p3), .val (.int p4), .val (.int p5), .val (.int ((p3 &&& (2147483647 : Int32)) % (15 : Int32))), .val (.int ((p4 &&& (2147483647 : Int32)) % (15 : Int32))), .val (.int (0 : Int32)), .val (.int p2), .val (.ref b2), .unset, .unset] [(.int (own_is p2 (own_code ((p3 &&& (2147483647 : Int32)) % (15 : Int32)))))])) (fun t k => st57.trans k) ?_
    refine own_of (S' := T57.setTop (mkF m 76 #[.val (.int p1), .val (.int p2), .val (.int p3), .val (.int p4), .val (.int p5), .val (.int ((p3 &&& (2147483647 : Int32)) % (15 : Int32))), .val (.int ((p4 &&& (2147483647 : Int32)) % (15 : Int32))), .val (.int (0 : Int32)), .val (.int p2), .val (.ref b2), .val (.int (own_is p2 (own_code ((p3 &&& (2147483647 : Int32)) % (15 : Int32))))), .unset] [])) (fun t k => XS.istore X57.here hx rfl (hb hby at_74) rfl (l' := #[.val (.int p1), .val (.int p2), .val (.int p3), .val (.int p4), .val (.int p5), .val (.int ((p3 &&& (2147483647 : Int32)) % (15 : Int32))), .val (.int ((p4 &&& (2147483647 : Int32)) % (15 : Int32))), .val (.int (0 : Int32)), .val (.int p2), .val (.ref b2), .val (.int (own_is p2 (own_code ((p3 &&& (2147483647 : Int32)) % (15 : Int32))))), .unset]) rfl k) ?_
    refine own_of (S' := T57.setTop (mkF m 78 #[.val (.int p1), .val (.int p2), .val (.int p3), .val (.int p4), .val (.int p5), .val (.int ((p3 &&& (2147483647 : Int32)) % (15 : Int32))), .val (.int ((p4 &&& (2147483647 : Int32)) % (15 : Int32))), .val (.int (0 : Int32)), .val (.int p2), .val (.ref b2), .val (.int (own_is p2 (own_code ((p3 &&& (2147483647 : Int32)) % (15 : Int32))))), .unset] [(.int (0 : Int32))])) (fun t k => XS.iload X57.here hx rfl (hb hby at_76) rfl k) ?_
    refine own_of (S' := T57.setTop (mkF m 96 #[.val (.int p1), .val (.int p2), .val (.int p3), .val (.int p4), .val (.int p5), .val (.int ((p3 &&& (2147483647 : Int32)) % (15 : Int32))), .val (.int ((p4 &&& (2147483647 : Int32)) % (15 : Int32))), .val (.int (0 : Int32)), .val (.int p2), .val (.ref b2), .val (.int (own_is p2 (own_code ((p3 &&& (2147483647 : Int32)) % (15 : Int32))))), .unset] [])) (fun t k => XS.ifYes X57.here hx rfl (pc0 := 78) (pc' := 96) rfl (hb hby at_78) rfl ((if0 _ _).trans (teq (by decide : (0 : Int32) = (0 : Int32))).1) (by decide) (by decide) k) ?_
    refine own_of (S' := T57.setTop (mkF m 98 #[.val (.int p1), .val (.int p2), .val (.int p3), .val (.int p4), .val (.int p5), .val (.int ((p3 &&& (2147483647 : Int32)) % (15 : Int32))), .val (.int ((p4 &&& (2147483647 : Int32)) % (15 : Int32))), .val (.int (0 : Int32)), .val (.int p2), .val (.ref b2), .val (.int (own_is p2 (own_code ((p3 &&& (2147483647 : Int32)) % (15 : Int32))))), .unset] [(.int p2)])) (fun t k => XS.iload X57.here hx rfl (hb hby at_96) rfl k) ?_
    refine own_of (S' := T57.setTop (mkF m 100 #[.val (.int p1), .val (.int p2), .val (.int p3), .val (.int p4), .val (.int p5), .val (.int ((p3 &&& (2147483647 : Int32)) % (15 : Int32))), .val (.int ((p4 &&& (2147483647 : Int32)) % (15 : Int32))), .val (.int (0 : Int32)), .val (.int p2), .val (.ref b2), .val (.int (own_is p2 (own_code ((p3 &&& (2147483647 : Int32)) % (15 : Int32))))), .unset] [(.int ((p3 &&& (2147483647 : Int32)) % (15 : Int32))), (.int p2)])) (fun t k => XS.iload X57.here hx rfl (hb hby at_98) rfl k) ?_
    obtain ⟨_, _, ⟨T59, L59, k59, n59⟩, -, X59, ⟨Lc59, hQ59, l59, y59, z59⟩, st59⟩ := Jvm.LawKit.callS X57 hx (y := (⟨"com/example/waypost/waypost/ldap/ResultIsPinLaw", "code", "(I)I"⟩ : MethodName)) hown (mvT hZ (hw _ (List.mem_of_getElem? (i := 50) rfl))) (mvT hZ (hw _ (List.mem_of_getElem? (i := 51) rfl))) (mvT hZ (hw _ (List.mem_of_getElem? (i := 33) rfl))) (mvT hZ (hw _ (List.mem_of_getElem? (i := 52) rfl))) (by decide) (backOf (W := 1) (rm7 l Z a0 hw [] ((p3 &&& (2147483647 : Int32)) % (15 : Int32)) T10.heap n0 (Nat.le_trans (Nat.le_trans (Nat.le_trans (Nat.le_trans Z0 E2.1) E3.1) E4.1) K10.1) ) hZ (hw _ (List.mem_of_getElem? (i := 52) rfl)) (hw _ (List.mem_of_getElem? (i := 33) rfl)) (by decide) (by decide)) (g := (mkF m 100 #[.val (.int p1), .val (.int p2), .val (.int p3), .val (.int p4), .val (.int p5), .val (.int ((p3 &&& (2147483647 : Int32)) % (15 : Int32))), .val (.int ((p4 &&& (2147483647 : Int32)) % (15 : Int32))), .val (.int (0 : Int32)), .val (.int p2), .val (.ref b2), .val (.int (own_is p2 (own_code ((p3 &&& (2147483647 : Int32)) % (15 : Int32))))), .unset] [(.int ((p3 &&& (2147483647 : Int32)) % (15 : Int32))), (.int p2)])) rfl (by rw [hml]; rfl) (argsL := [(.int ((p3 &&& (2147483647 : Int32)) % (15 : Int32)))]) (rest := [(.int p2)]) (lenOf pd0_3 rfl) rfl (by show 2 * 0 + _ ≤ _; exact Nat.le_of_eq rfl) (hb hby at_100) (fun _ _ => ⟨rfl, (hh57), (by decide : ((((((0 + 1) + 2) + 2) + 0) + 0) + 0) + _ ≤ _), (by decide : ((((((0 + 4) + 4) + 4) + 0) + 0) + 0) + _ ≤ _)⟩)
    dsimp only [Pt.U, Pt.locs, Pt.cells, Pt.slots] at X59 l59 y59 z59 st59 hQ59
    subst l59 y59 z59
    obtain ⟨rfl, N59q, hh59⟩ := hQ59
    have N59 := Fr.app N57 N59q
    refine own_of (S' := T59.setTop (mkF m 103 #[.val (.int p1), .val (.int p2), .val (.int p3), .val (.int p4), .val (.int p5), .val (.int ((p3 &&& (2147483647 : Int32)) % (15 : Int32))), .val (.int ((p4 &&& (2147483647 : Int32)) % (15 : Int32))), .val (.int (0 : Int32)), .val (.int p2), .val (.ref b2), .val (.int (own_is p2 (own_code ((p3 &&& (2147483647 : Int32)) % (15 : Int32))))), .unset] [(.int (own_code ((p3 &&& (2147483647 : Int32)) % (15 : Int32)))), (.int p2)])) st59 ?_
    by_cases hc103_60 : p2 = (own_code ((p3 &&& (2147483647 : Int32)) % (15 : Int32)))
    · refine own_of (S' := T59.setTop (mkF m 106 #[.val (.int p1), .val (.int p2), .val (.int p3), .val (.int p4), .val (.int p5), .val (.int ((p3 &&& (2147483647 : Int32)) % (15 : Int32))), .val (.int ((p4 &&& (2147483647 : Int32)) % (15 : Int32))), .val (.int (0 : Int32)), .val (.int p2), .val (.ref b2), .val (.int (own_is p2 (own_code ((p3 &&& (2147483647 : Int32)) % (15 : Int32))))), .unset] [])) (fun t k => XS.icmpNo X59.here hx rfl (hb hby at_103) rfl (teq hc103_60).2 k) ?_
      refine own_of (S' := T59.setTop (mkF m 107 #[.val (.int p1), .val (.int p2), .val (.int p3), .val (.int p4), .val (.int p5), .val (.int ((p3 &&& (2147483647 : Int32)) % (15 : Int32))), .val (.int ((p4 &&& (2147483647 : Int32)) % (15 : Int32))), .val (.int (0 : Int32)), .val (.int p2), .val (.ref b2), .val (.int (own_is p2 (own_code ((p3 &&& (2147483647 : Int32)) % (15 : Int32))))), .unset] [(.int (1 : Int32))])) (fun t k => XS.iconst X59.here hx rfl (hb hby at_106) k) ?_
      refine own_of (S' := T59.setTop (mkF m 111 #[.val (.int p1), .val (.int p2), .val (.int p3), .val (.int p4), .val (.int p5), .val (.int ((p3 &&& (2147483647 : Int32)) % (15 : Int32))), .val (.int ((p4 &&& (2147483647 : Int32)) % (15 : Int32))), .val (.int (0 : Int32)), .val (.int p2), .val (.ref b2), .val (.int (own_is p2 (own_code ((p3 &&& (2147483647 : Int32)) % (15 : Int32))))), .unset] [(.int (1 : Int32))])) (fun t k => XS.goto X59.here hx rfl (pc0 := 107) (pc' := 111) rfl (hb hby at_107) (by decide) (by decide) k) ?_
      refine own_of (S' := T59.setTop (mkF m 113 #[.val (.int p1), .val (.int p2), .val (.int p3), .val (.int p4), .val (.int p5), .val (.int ((p3 &&& (2147483647 : Int32)) % (15 : Int32))), .val (.int ((p4 &&& (2147483647 : Int32)) % (15 : Int32))), .val (.int (0 : Int32)), .val (.int p2), .val (.ref b2), .val (.int (own_is p2 (own_code ((p3 &&& (2147483647 : Int32)) % (15 : Int32))))), .val (.int (1 : Int32))] [])) (fun t k => XS.istore X59.here hx rfl (hb hby at_111) rfl (l' := #[.val (.int p1), .val (.int p2), .val (.int p3), .val (.int p4), .val (.int p5), .val (.int ((p3 &&& (2147483647 : Int32)) % (15 : Int32))), .val (.int ((p4 &&& (2147483647 : Int32)) % (15 : Int32))), .val (.int (0 : Int32)), .val (.int p2), .val (.ref b2), .val (.int (own_is p2 (own_code ((p3 &&& (2147483647 : Int32)) % (15 : Int32))))), .val (.int (1 : Int32))]) rfl k) ?_
      refine own_of (S' := T59.setTop (mkF m 115 #[.val (.int p1), .val (.int p2), .val (.int p3), .val (.int p4), .val (.int p5), .val (.int ((p3 &&& (2147483647 : Int32)) % (15 : Int32))), .val (.int ((p4 &&& (2147483647 : Int32)) % (15 : Int32))), .val (.int (0 : Int32)), .val (.int p2), .val (.ref b2), .val (.int (own_is p2 (own_code ((p3 &&& (2147483647 : Int32)) % (15 : Int32))))), .val (.int (1 : Int32))] [(.int (own_is p2 (own_code ((p3 &&& (2147483647 : Int32)) % (15 : Int32)))))])) (fun t k => XS.iload X59.here hx rfl (hb hby at_113) rfl k) ?_
      refine own_of (S' := T59.setTop (mkF m 117 #[.val (.int p1), .val (.int p2), .val (.int p3), .val (.int p4), .val (.int p5), .val (.int ((p3 &&& (2147483647 : Int32)) % (15 : Int32))), .val (.int ((p4 &&& (2147483647 : Int32)) % (15 : Int32))), .val (.int (0 : Int32)), .val (.int p2), .val (.ref b2), .val (.int (own_is p2 (own_code ((p3 &&& (2147483647 : Int32)) % (15 : Int32))))), .val (.int (1 : Int32))] [(.int (1 : Int32)), (.int (own_is p2 (own_code ((p3 &&& (2147483647 : Int32)) % (15 : Int32)))))])) (fun t k => XS.iload X59.here hx rfl (hb hby at_115) rfl k) ?_
      by_cases hc117_61 : (own_is p2 (own_code ((p3 &&& (2147483647 : Int32)) % (15 : Int32)))) = (1 : Int32)
      · refine own_of (S' := T59.setTop (mkF m 120 #[.val (.int p1), .val (.int p2), .val (.int p3), .val (.int p4), .val (.int p5), .val (.int ((p3 &&& (2147483647 : Int32)) % (15 : Int32))), .val (.int ((p4 &&& (2147483647 : Int32)) % (15 : Int32))), .val (.int (0 : Int32)), .val (.int p2), .val (.ref b2), .val (.int (own_is p2 (own_code ((p3 &&& (2147483647 : Int32)) % (15 : Int32))))), .val (.int (1 : Int32))] [])) (fun t k => XS.icmpNo X59.here hx rfl (hb hby at_117) rfl (teq hc117_61).2 k) ?_
        refine own_of (S' := T59.setTop (mkF m 121 #[.val (.int p1), .val (.int p2), .val (.int p3), .val (.int p4), .val (.int p5), .val (.int ((p3 &&& (2147483647 : Int32)) % (15 : Int32))), .val (.int ((p4 &&& (2147483647 : Int32)) % (15 : Int32))), .val (.int (0 : Int32)), .val (.int p2), .val (.ref b2), .val (.int (own_is p2 (own_code ((p3 &&& (2147483647 : Int32)) % (15 : Int32))))), .val (.int (1 : Int32))] [(.int (1 : Int32))])) (fun t k => XS.iconst X59.here hx rfl (hb hby at_120) k) ?_
        refine own_of (S' := T59.setTop (mkF m 125 #[.val (.int p1), .val (.int p2), .val (.int p3), .val (.int p4), .val (.int p5), .val (.int ((p3 &&& (2147483647 : Int32)) % (15 : Int32))), .val (.int ((p4 &&& (2147483647 : Int32)) % (15 : Int32))), .val (.int (0 : Int32)), .val (.int p2), .val (.ref b2), .val (.int (own_is p2 (own_code ((p3 &&& (2147483647 : Int32)) % (15 : Int32))))), .val (.int (1 : Int32))] [(.int (1 : Int32))])) (fun t k => XS.goto X59.here hx rfl (pc0 := 121) (pc' := 125) rfl (hb hby at_121) (by decide) (by decide) k) ?_
        obtain ⟨fs, hr, hrun, hended, hWW⟩ := X59.leaveW (s := s) hS4 (by rw [show T59.heap = T10.heap from (hh59)]; exact (Nat.le_trans hk4 K10.1)) (v := some (.int (1 : Int32))) (fun h => by rw [Bd.returns] at h; cases h)
        subst hKd
        exact ⟨_, _, retN X59 hx (t := .boolean) Bd.returns (by simp) (hb hby at_125) hr, hrun, hended, _, _, rfl, (by
          show Q0 Z p1 p2 p3 p4 p5 w_SUCCESS w_PROTOCOL_ERROR w_SIZE_LIMIT_EXCEEDED w_COMPARE_FALSE w_COMPARE_TRUE w_AUTH_METHOD_NOT_SUPPORTED w_UNAVAILABLE_CRITICAL_EXTENSION w_NO_SUCH_ATTRIBUTE w_UNDEFINED_ATTRIBUTE_TYPE w_INAPPROPRIATE_MATCHING w_INVALID_ATTRIBUTE_SYNTAX w_NO_SUCH_OBJECT w_INVALID_DN_SYNTAX w_INVALID_CREDENTIALS w_UNWILLING_TO_PERFORM h0 n0 _ T59.heap _
          rw [show T59.heap = T10.heap from (hh59)]
          exact ⟨rfl, N59⟩), hWW.1, hWW.2.1, hWW.2.2.1, hWW.2.2.2.mono (by decide) (by decide)⟩
      refine own_of (S' := T59.setTop (mkF m 124 #[.val (.int p1), .val (.int p2), .val (.int p3), .val (.int p4), .val (.int p5), .val (.int ((p3 &&& (2147483647 : Int32)) % (15 : Int32))), .val (.int ((p4 &&& (2147483647 : Int32)) % (15 : Int32))), .val (.int (0 : Int32)), .val (.int p2), .val (.ref b2), .val (.int (own_is p2 (own_code ((p3 &&& (2147483647 : Int32)) % (15 : Int32))))), .val (.int (1 : Int32))] [])) (fun t k => XS.icmpYes X59.here hx rfl (pc0 := 117) (pc' := 124) rfl (hb hby at_117) rfl (feq hc117_61).2 (by decide) (by decide) k) ?_
      exact (own_d1 hc103_60 hc117_61).elim
    refine own_of (S' := T59.setTop (mkF m 110 #[.val (.int p1), .val (.int p2), .val (.int p3), .val (.int p4), .val (.int p5), .val (.int ((p3 &&& (2147483647 : Int32)) % (15 : Int32))), .val (.int ((p4 &&& (2147483647 : Int32)) % (15 : Int32))), .val (.int (0 : Int32)), .val (.int p2), .val (.ref b2), .val (.int (own_is p2 (own_code ((p3 &&& (2147483647 : Int32)) % (15 : Int32))))), .unset] [])) (fun t k => XS.icmpYes X59.here hx rfl (pc0 := 103) (pc' := 110) rfl (hb hby at_103) rfl (feq hc103_60).2 (by decide) (by decide) k) ?_
    refine own_of (S' := T59.setTop (mkF m 111 #[.val (.int p1), .val (.int p2), .val (.int p3), .val (.int p4), .val (.int p5), .val (.int ((p3 &&& (2147483647 : Int32)) % (15 : Int32))), .val (.int ((p4 &&& (2147483647 : Int32)) % (15 : Int32))), .val (.int (0 : Int32)), .val (.int p2), .val (.ref b2), .val (.int (own_is p2 (own_code ((p3 &&& (2147483647 : Int32)) % (15 : Int32))))), .unset] [(.int (0 : Int32))])) (fun t k => XS.iconst X59.here hx rfl (hb hby at_110) k) ?_
    refine own_of (S' := T59.setTop (mkF m 113 #[.val (.int p1), .val (.int p2), .val (.int p3), .val (.int p4), .val (.int p5), .val (.int ((p3 &&& (2147483647 : Int32)) % (15 : Int32))), .val (.int ((p4 &&& (2147483647 : Int32)) % (15 : Int32))), .val (.int (0 : Int32)), .val (.int p2), .val (.ref b2), .val (.int (own_is p2 (own_code ((p3 &&& (2147483647 : Int32)) % (15 : Int32))))), .val (.int (0 : Int32))] [])) (fun t k => XS.istore X59.here hx rfl (hb hby at_111) rfl (l' := #[.val (.int p1), .val (.int p2), .val (.int p3), .val (.int p4), .val (.int p5), .val (.int ((p3 &&& (2147483647 : Int32)) % (15 : Int32))), .val (.int ((p4 &&& (2147483647 : Int32)) % (15 : Int32))), .val (.int (0 : Int32)), .val (.int p2), .val (.ref b2), .val (.int (own_is p2 (own_code ((p3 &&& (2147483647 : Int32)) % (15 : Int32))))), .val (.int (0 : Int32))]) rfl k) ?_
    refine own_of (S' := T59.setTop (mkF m 115 #[.val (.int p1), .val (.int p2), .val (.int p3), .val (.int p4), .val (.int p5), .val (.int ((p3 &&& (2147483647 : Int32)) % (15 : Int32))), .val (.int ((p4 &&& (2147483647 : Int32)) % (15 : Int32))), .val (.int (0 : Int32)), .val (.int p2), .val (.ref b2), .val (.int (own_is p2 (own_code ((p3 &&& (2147483647 : Int32)) % (15 : Int32))))), .val (.int (0 : Int32))] [(.int (own_is p2 (own_code ((p3 &&& (2147483647 : Int32)) % (15 : Int32)))))])) (fun t k => XS.iload X59.here hx rfl (hb hby at_113) rfl k) ?_
    refine own_of (S' := T59.setTop (mkF m 117 #[.val (.int p1), .val (.int p2), .val (.int p3), .val (.int p4), .val (.int p5), .val (.int ((p3 &&& (2147483647 : Int32)) % (15 : Int32))), .val (.int ((p4 &&& (2147483647 : Int32)) % (15 : Int32))), .val (.int (0 : Int32)), .val (.int p2), .val (.ref b2), .val (.int (own_is p2 (own_code ((p3 &&& (2147483647 : Int32)) % (15 : Int32))))), .val (.int (0 : Int32))] [(.int (0 : Int32)), (.int (own_is p2 (own_code ((p3 &&& (2147483647 : Int32)) % (15 : Int32)))))])) (fun t k => XS.iload X59.here hx rfl (hb hby at_115) rfl k) ?_
    by_cases hc117_62 : (own_is p2 (own_code ((p3 &&& (2147483647 : Int32)) % (15 : Int32)))) = (0 : Int32)
    · refine own_of (S' := T59.setTop (mkF m 120 #[.val (.int p1), .val (.int p2), .val (.int p3), .val (.int p4), .val (.int p5), .val (.int ((p3 &&& (2147483647 : Int32)) % (15 : Int32))), .val (.int ((p4 &&& (2147483647 : Int32)) % (15 : Int32))), .val (.int (0 : Int32)), .val (.int p2), .val (.ref b2), .val (.int (own_is p2 (own_code ((p3 &&& (2147483647 : Int32)) % (15 : Int32))))), .val (.int (0 : Int32))] [])) (fun t k => XS.icmpNo X59.here hx rfl (hb hby at_117) rfl (teq hc117_62).2 k) ?_
      refine own_of (S' := T59.setTop (mkF m 121 #[.val (.int p1), .val (.int p2), .val (.int p3), .val (.int p4), .val (.int p5), .val (.int ((p3 &&& (2147483647 : Int32)) % (15 : Int32))), .val (.int ((p4 &&& (2147483647 : Int32)) % (15 : Int32))), .val (.int (0 : Int32)), .val (.int p2), .val (.ref b2), .val (.int (own_is p2 (own_code ((p3 &&& (2147483647 : Int32)) % (15 : Int32))))), .val (.int (0 : Int32))] [(.int (1 : Int32))])) (fun t k => XS.iconst X59.here hx rfl (hb hby at_120) k) ?_
      refine own_of (S' := T59.setTop (mkF m 125 #[.val (.int p1), .val (.int p2), .val (.int p3), .val (.int p4), .val (.int p5), .val (.int ((p3 &&& (2147483647 : Int32)) % (15 : Int32))), .val (.int ((p4 &&& (2147483647 : Int32)) % (15 : Int32))), .val (.int (0 : Int32)), .val (.int p2), .val (.ref b2), .val (.int (own_is p2 (own_code ((p3 &&& (2147483647 : Int32)) % (15 : Int32))))), .val (.int (0 : Int32))] [(.int (1 : Int32))])) (fun t k => XS.goto X59.here hx rfl (pc0 := 121) (pc' := 125) rfl (hb hby at_121) (by decide) (by decide) k) ?_
      obtain ⟨fs, hr, hrun, hended, hWW⟩ := X59.leaveW (s := s) hS4 (by rw [show T59.heap = T10.heap from (hh59)]; exact (Nat.le_trans hk4 K10.1)) (v := some (.int (1 : Int32))) (fun h => by rw [Bd.returns] at h; cases h)
      subst hKd
      exact ⟨_, _, retN X59 hx (t := .boolean) Bd.returns (by simp) (hb hby at_125) hr, hrun, hended, _, _, rfl, (by
        show Q0 Z p1 p2 p3 p4 p5 w_SUCCESS w_PROTOCOL_ERROR w_SIZE_LIMIT_EXCEEDED w_COMPARE_FALSE w_COMPARE_TRUE w_AUTH_METHOD_NOT_SUPPORTED w_UNAVAILABLE_CRITICAL_EXTENSION w_NO_SUCH_ATTRIBUTE w_UNDEFINED_ATTRIBUTE_TYPE w_INAPPROPRIATE_MATCHING w_INVALID_ATTRIBUTE_SYNTAX w_NO_SUCH_OBJECT w_INVALID_DN_SYNTAX w_INVALID_CREDENTIALS w_UNWILLING_TO_PERFORM h0 n0 _ T59.heap _
        rw [show T59.heap = T10.heap from (hh59)]
        exact ⟨rfl, N59⟩), hWW.1, hWW.2.1, hWW.2.2.1, hWW.2.2.2.mono (by decide) (by decide)⟩
    refine own_of (S' := T59.setTop (mkF m 124 #[.val (.int p1), .val (.int p2), .val (.int p3), .val (.int p4), .val (.int p5), .val (.int ((p3 &&& (2147483647 : Int32)) % (15 : Int32))), .val (.int ((p4 &&& (2147483647 : Int32)) % (15 : Int32))), .val (.int (0 : Int32)), .val (.int p2), .val (.ref b2), .val (.int (own_is p2 (own_code ((p3 &&& (2147483647 : Int32)) % (15 : Int32))))), .val (.int (0 : Int32))] [])) (fun t k => XS.icmpYes X59.here hx rfl (pc0 := 117) (pc' := 124) rfl (hb hby at_117) rfl (feq hc117_62).2 (by decide) (by decide) k) ?_
    exact (own_d0 hc103_60 hc117_62).elim
  refine own_of (S' := s₁.setTop (mkF m 25 #[.val (.int p1), .val (.int p2), .val (.int p3), .val (.int p4), .val (.int p5), .val (.int ((p3 &&& (2147483647 : Int32)) % (15 : Int32))), .val (.int ((p4 &&& (2147483647 : Int32)) % (15 : Int32))), .unset, .unset, .unset, .unset, .unset] [])) (fun t k => XS.ifNo X0.here hx rfl (hb hby at_22) rfl ((if0 _ _).trans (feq hc22_1).1) k) ?_
  refine own_of (S' := s₁.setTop (mkF m 26 #[.val (.int p1), .val (.int p2), .val (.int p3), .val (.int p4), .val (.int p5), .val (.int ((p3 &&& (2147483647 : Int32)) % (15 : Int32))), .val (.int ((p4 &&& (2147483647 : Int32)) % (15 : Int32))), .unset, .unset, .unset, .unset, .unset] [(.int (1 : Int32))])) (fun t k => XS.iconst X0.here hx rfl (hb hby at_25) k) ?_
  refine own_of (S' := s₁.setTop (mkF m 30 #[.val (.int p1), .val (.int p2), .val (.int p3), .val (.int p4), .val (.int p5), .val (.int ((p3 &&& (2147483647 : Int32)) % (15 : Int32))), .val (.int ((p4 &&& (2147483647 : Int32)) % (15 : Int32))), .unset, .unset, .unset, .unset, .unset] [(.int (1 : Int32))])) (fun t k => XS.goto X0.here hx rfl (pc0 := 26) (pc' := 30) rfl (hb hby at_26) (by decide) (by decide) k) ?_
  refine own_of (S' := s₁.setTop (mkF m 32 #[.val (.int p1), .val (.int p2), .val (.int p3), .val (.int p4), .val (.int p5), .val (.int ((p3 &&& (2147483647 : Int32)) % (15 : Int32))), .val (.int ((p4 &&& (2147483647 : Int32)) % (15 : Int32))), .val (.int (1 : Int32)), .unset, .unset, .unset, .unset] [])) (fun t k => XS.istore X0.here hx rfl (hb hby at_30) rfl (l' := #[.val (.int p1), .val (.int p2), .val (.int p3), .val (.int p4), .val (.int p5), .val (.int ((p3 &&& (2147483647 : Int32)) % (15 : Int32))), .val (.int ((p4 &&& (2147483647 : Int32)) % (15 : Int32))), .val (.int (1 : Int32)), .unset, .unset, .unset, .unset]) rfl k) ?_
  refine own_of (S' := s₁.setTop (mkF m 34 #[.val (.int p1), .val (.int p2), .val (.int p3), .val (.int p4), .val (.int p5), .val (.int ((p3 &&& (2147483647 : Int32)) % (15 : Int32))), .val (.int ((p4 &&& (2147483647 : Int32)) % (15 : Int32))), .val (.int (1 : Int32)), .unset, .unset, .unset, .unset] [(.int (1 : Int32))])) (fun t k => XS.iload X0.here hx rfl (hb hby at_32) rfl k) ?_
  refine own_of (S' := s₁.setTop (mkF m 37 #[.val (.int p1), .val (.int p2), .val (.int p3), .val (.int p4), .val (.int p5), .val (.int ((p3 &&& (2147483647 : Int32)) % (15 : Int32))), .val (.int ((p4 &&& (2147483647 : Int32)) % (15 : Int32))), .val (.int (1 : Int32)), .unset, .unset, .unset, .unset] [])) (fun t k => XS.ifNo X0.here hx rfl (hb hby at_34) rfl ((if0 _ _).trans (feq (by decide : ¬ ((1 : Int32) = (0 : Int32)))).1) k) ?_
  refine own_of (S' := s₁.setTop (mkF m 39 #[.val (.int p1), .val (.int p2), .val (.int p3), .val (.int p4), .val (.int p5), .val (.int ((p3 &&& (2147483647 : Int32)) % (15 : Int32))), .val (.int ((p4 &&& (2147483647 : Int32)) % (15 : Int32))), .val (.int (1 : Int32)), .unset, .unset, .unset, .unset] [(.int ((p4 &&& (2147483647 : Int32)) % (15 : Int32)))])) (fun t k => XS.iload X0.here hx rfl (hb hby at_37) rfl k) ?_
  obtain ⟨_, _, ⟨T63, L63, k63, n63⟩, -, X63, ⟨Lc63, hQ63, l63, y63, z63⟩, st63⟩ := Jvm.LawKit.callS X0 hx (y := (⟨"com/example/waypost/waypost/ldap/ResultIsPinLaw", "code", "(I)I"⟩ : MethodName)) hown (mvT hZ (hw _ (List.mem_of_getElem? (i := 50) rfl))) (mvT hZ (hw _ (List.mem_of_getElem? (i := 51) rfl))) (mvT hZ (hw _ (List.mem_of_getElem? (i := 33) rfl))) (mvT hZ (hw _ (List.mem_of_getElem? (i := 52) rfl))) (by decide) (backOf (W := 0) (rm7 l Z a0 hw [] ((p4 &&& (2147483647 : Int32)) % (15 : Int32)) h0 n0 Z0 ) hZ (hw _ (List.mem_of_getElem? (i := 52) rfl)) (hw _ (List.mem_of_getElem? (i := 33) rfl)) (by decide) (by decide)) (g := (mkF m 39 #[.val (.int p1), .val (.int p2), .val (.int p3), .val (.int p4), .val (.int p5), .val (.int ((p3 &&& (2147483647 : Int32)) % (15 : Int32))), .val (.int ((p4 &&& (2147483647 : Int32)) % (15 : Int32))), .val (.int (1 : Int32)), .unset, .unset, .unset, .unset] [(.int ((p4 &&& (2147483647 : Int32)) % (15 : Int32)))])) rfl (by rw [hml]; rfl) (argsL := [(.int ((p4 &&& (2147483647 : Int32)) % (15 : Int32)))]) (rest := []) (lenOf pd0_3 rfl) rfl (by show 2 * 0 + _ ≤ _; exact Nat.le_of_eq rfl) (hb hby at_39) (fun _ _ => ⟨rfl, e0, (by decide : 0 + _ ≤ _), (by decide : 0 + _ ≤ _)⟩)
  dsimp only [Pt.U, Pt.locs, Pt.cells, Pt.slots] at X63 l63 y63 z63 st63 hQ63
  subst l63 y63 z63
  obtain ⟨rfl, N63q, hh63⟩ := hQ63
  have N63 := Fr.app N0 N63q
  refine own_of (S' := T63.setTop (mkF m 42 #[.val (.int p1), .val (.int p2), .val (.int p3), .val (.int p4), .val (.int p5), .val (.int ((p3 &&& (2147483647 : Int32)) % (15 : Int32))), .val (.int ((p4 &&& (2147483647 : Int32)) % (15 : Int32))), .val (.int (1 : Int32)), .unset, .unset, .unset, .unset] [(.int (own_code ((p4 &&& (2147483647 : Int32)) % (15 : Int32))))])) st63 ?_
  refine own_of (S' := T63.setTop (mkF m 46 #[.val (.int p1), .val (.int p2), .val (.int p3), .val (.int p4), .val (.int p5), .val (.int ((p3 &&& (2147483647 : Int32)) % (15 : Int32))), .val (.int ((p4 &&& (2147483647 : Int32)) % (15 : Int32))), .val (.int (1 : Int32)), .unset, .unset, .unset, .unset] [(.int (own_code ((p4 &&& (2147483647 : Int32)) % (15 : Int32))))])) (fun t k => XS.goto X63.here hx rfl (pc0 := 42) (pc' := 46) rfl (hb hby at_42) (by decide) (by decide) k) ?_
  refine own_of (S' := T63.setTop (mkF m 48 #[.val (.int p1), .val (.int p2), .val (.int p3), .val (.int p4), .val (.int p5), .val (.int ((p3 &&& (2147483647 : Int32)) % (15 : Int32))), .val (.int ((p4 &&& (2147483647 : Int32)) % (15 : Int32))), .val (.int (1 : Int32)), .val (.int (own_code ((p4 &&& (2147483647 : Int32)) % (15 : Int32)))), .unset, .unset, .unset] [])) (fun t k => XS.istore X63.here hx rfl (hb hby at_46) rfl (l' := #[.val (.int p1), .val (.int p2), .val (.int p3), .val (.int p4), .val (.int p5), .val (.int ((p3 &&& (2147483647 : Int32)) % (15 : Int32))), .val (.int ((p4 &&& (2147483647 : Int32)) % (15 : Int32))), .val (.int (1 : Int32)), .val (.int (own_code ((p4 &&& (2147483647 : Int32)) % (15 : Int32)))), .unset, .unset, .unset]) rfl k) ?_
  obtain ⟨T64, h64, X64, e64, E64, A64, D64, -, st64⟩ := newO X63 hx hZ hown (hw _ (List.mem_of_getElem? (i := 1) rfl)) (hw _ (List.mem_of_getElem? (i := 2) rfl)) (hw _ (List.mem_of_getElem? (i := 3) rfl)) (hh63) (g := (mkF m 48 #[.val (.int p1), .val (.int p2), .val (.int p3), .val (.int p4), .val (.int p5), .val (.int ((p3 &&& (2147483647 : Int32)) % (15 : Int32))), .val (.int ((p4 &&& (2147483647 : Int32)) % (15 : Int32))), .val (.int (1 : Int32)), .val (.int (own_code ((p4 &&& (2147483647 : Int32)) % (15 : Int32)))), .unset, .unset, .unset] [])) rfl (hb hby at_48) (by decide) (by decide)
  obtain ⟨b64, g64⟩ : ∃ z, z = h0.size := ⟨_, rfl⟩
  rw [← g64] at A64 D64 st64
  have g_b64 : n0 ≤ b64 := Nat.le_trans Z0 (Nat.le_trans (Nat.le_refl _) (Nat.le_of_eq g64.symm))
  have F_responseTag_b64 : Fld Z h64 b64 "com/example/waypost/waypost/ldap/LdapResponse$Result" "responseTag" "I" (.int (0 : Int32)) := D64 (Or.inr (hw _ (List.mem_of_getElem? (i := 24) rfl))) (ty := .int) (by decide)
  have F_resultCode_b64 : Fld Z h64 b64 "com/example/waypost/waypost/ldap/LdapResponse$Result" "resultCode" "I" (.int (0 : Int32)) := D64 (Or.inr (hw _ (List.mem_of_getElem? (i := 26) rfl))) (ty := .int) (by decide)
  have F_matchedDn_b64 : Fld Z h64 b64 "com/example/waypost/waypost/ldap/LdapResponse$Result" "matchedDn" "Ljava/lang/String;" .null := D64 (Or.inr (hw _ (List.mem_of_getElem? (i := 28) rfl))) (ty := (.object "java/lang/String")) (by decide)
  have F_diagnosticMessage_b64 : Fld Z h64 b64 "com/example/waypost/waypost/ldap/LdapResponse$Result" "diagnosticMessage" "Ljava/lang/String;" .null := D64 (Or.inr (hw _ (List.mem_of_getElem? (i := 30) rfl))) (ty := (.object "java/lang/String")) (by decide)
  refine own_of (S' := T64.setTop (mkF m 51 #[.val (.int p1), .val (.int p2), .val (.int p3), .val (.int p4), .val (.int p5), .val (.int ((p3 &&& (2147483647 : Int32)) % (15 : Int32))), .val (.int ((p4 &&& (2147483647 : Int32)) % (15 : Int32))), .val (.int (1 : Int32)), .val (.int (own_code ((p4 &&& (2147483647 : Int32)) % (15 : Int32)))), .unset, .unset, .unset] [(.ref b64)])) st64 ?_
  refine own_of (S' := T64.setTop (mkF m 52 #[.val (.int p1), .val (.int p2), .val (.int p3), .val (.int p4), .val (.int p5), .val (.int ((p3 &&& (2147483647 : Int32)) % (15 : Int32))), .val (.int ((p4 &&& (2147483647 : Int32)) % (15 : Int32))), .val (.int (1 : Int32)), .val (.int (own_code ((p4 &&& (2147483647 : Int32)) % (15 : Int32)))), .unset, .unset, .unset] [(.ref b64), (.ref b64)])) (fun t k => XS.dup X64.here hx rfl (hb hby at_51) rfl rfl k) ?_
  refine own_of (S' := T64.setTop (mkF m 53 #[.val (.int p1), .val (.int p2), .val (.int p3), .val (.int p4), .val (.int p5), .val (.int ((p3 &&& (2147483647 : Int32)) % (15 : Int32))), .val (.int ((p4 &&& (2147483647 : Int32)) % (15 : Int32))), .val (.int (1 : Int32)), .val (.int (own_code ((p4 &&& (2147483647 : Int32)) % (15 : Int32)))), .unset, .unset, .unset] [(.int p1), (.ref b64), (.ref b64)])) (fun t k => XS.iloadN X64.here hx rfl (hb hby at_52) rfl k) ?_
  refine own_of (S' := T64.setTop (mkF m 55 #[.val (.int p1), .val (.int p2), .val (.int p3), .val (.int p4), .val (.int p5), .val (.int ((p3 &&& (2147483647 : Int32)) % (15 : Int32))), .val (.int ((p4 &&& (2147483647 : Int32)) % (15 : Int32))), .val (.int (1 : Int32)), .val (.int (own_code ((p4 &&& (2147483647 : Int32)) % (15 : Int32)))), .unset, .unset, .unset] [(.int (own_code ((p4 &&& (2147483647 : Int32)) % (15 : Int32)))), (.int p1), (.ref b64), (.ref b64)])) (fun t k => XS.iload X64.here hx rfl (hb hby at_53) rfl k) ?_
  obtain ⟨b65, T65, h65, k65, X65, e65, E65, hS65, hk65, hZ, hown, st65⟩ := ldcS (s := s) (vm0 := s.vm) X64 hx hZ hown (hw _ (List.mem_of_getElem? (i := 4) rfl)) (own_strW a0 Z hw) e64 own_since0 (Nat.zero_le _) (g := (mkF m 55 #[.val (.int p1), .val (.int p2), .val (.int p3), .val (.int p4), .val (.int p5), .val (.int ((p3 &&& (2147483647 : Int32)) % (15 : Int32))), .val (.int ((p4 &&& (2147483647 : Int32)) % (15 : Int32))), .val (.int (1 : Int32)), .val (.int (own_code ((p4 &&& (2147483647 : Int32)) % (15 : Int32)))), .unset, .unset, .unset] [(.int (own_code ((p4 &&& (2147483647 : Int32)) % (15 : Int32)))), (.int p1), (.ref b64), (.ref b64)])) rfl (hb hby at_55) (n := 0) (by decide) (by decide) (by decide) (by decide)
  refine own_of (S' := T65.setTop (mkF m 57 #[.val (.int p1), .val (.int p2), .val (.int p3), .val (.int p4), .val (.int p5), .val (.int ((p3 &&& (2147483647 : Int32)) % (15 : Int32))), .val (.int ((p4 &&& (2147483647 : Int32)) % (15 : Int32))), .val (.int (1 : Int32)), .val (.int (own_code ((p4 &&& (2147483647 : Int32)) % (15 : Int32)))), .unset, .unset, .unset] [(.ref b65), (.int (own_code ((p4 &&& (2147483647 : Int32)) % (15 : Int32)))), (.int p1), (.ref b64), (.ref b64)])) st65 ?_
  obtain ⟨b66, T66, h66, k66, X66, e66, E66, hS66, hk66, hZ, hown, st66⟩ := ldcS (s := s) X65 hx hZ hown (hw _ (List.mem_of_getElem? (i := 4) rfl)) (own_strW a0 Z hw) e65 hS65 hk65 (g := (mkF m 57 #[.val (.int p1), .val (.int p2), .val (.int p3), .val (.int p4), .val (.int p5), .val (.int ((p3 &&& (2147483647 : Int32)) % (15 : Int32))), .val (.int ((p4 &&& (2147483647 : Int32)) % (15 : Int32))), .val (.int (1 : Int32)), .val (.int (own_code ((p4 &&& (2147483647 : Int32)) % (15 : Int32)))), .unset, .unset, .unset] [(.ref b65), (.int (own_code ((p4 &&& (2147483647 : Int32)) % (15 : Int32)))), (.int p1), (.ref b64), (.ref b64)])) rfl (hb hby at_57) (n := 0) (by decide) (by decide) (by decide) (by decide)
  refine own_of (S' := T66.setTop (mkF m 59 #[.val (.int p1), .val (.int p2), .val (.int p3), .val (.int p4), .val (.int p5), .val (.int ((p3 &&& (2147483647 : Int32)) % (15 : Int32))), .val (.int ((p4 &&& (2147483647 : Int32)) % (15 : Int32))), .val (.int (1 : Int32)), .val (.int (own_code ((p4 &&& (2147483647 : Int32)) % (15 : Int32)))), .unset, .unset, .unset] [(.ref b66), (.ref b65), (.int (own_code ((p4 &&& (2147483647 : Int32)) % (15 : Int32)))), (.int p1), (.ref b64), (.ref b64)])) st66 ?_
  have A64_t67 : Exa Z h66 b64 "com/example/waypost/waypost/ldap/LdapResponse$Result" := ((A64.ext E65).ext E66)
  have F_responseTag_b64_t68 : Fld Z h66 b64 "com/example/waypost/waypost/ldap/LdapResponse$Result" "responseTag" "I" (.int (0 : Int32)) := ((F_responseTag_b64.ext E65).ext E66)
  have F_resultCode_b64_t69 : Fld Z h66 b64 "com/example/waypost/waypost/ldap/LdapResponse$Result" "resultCode" "I" (.int (0 : Int32)) := ((F_resultCode_b64.ext E65).ext E66)
  have F_matchedDn_b64_t70 : Fld Z h66 b64 "com/example/waypost/waypost/ldap/LdapResponse$Result" "matchedDn" "Ljava/lang/String;" .null := ((F_matchedDn_b64.ext E65).ext E66)
  have F_diagnosticMessage_b64_t71 : Fld Z h66 b64 "com/example/waypost/waypost/ldap/LdapResponse$Result" "diagnosticMessage" "Ljava/lang/String;" .null := ((F_diagnosticMessage_b64.ext E65).ext E66)
  obtain ⟨_, _, ⟨T72, L72, k72, n72⟩, -, X72, ⟨Lc72, hQ72, l72, y72, z72⟩, st72⟩ := X66.specialBack hx (y := (⟨"com/example/waypost/waypost/ldap/LdapResponse$Result", "<init>", "(IILjava/lang/String;Ljava/lang/String;)V"⟩ : MethodName)) rfl hown (mvT hZ (hw _ (List.mem_of_getElem? (i := 12) rfl))) (mvT hZ (hw _ (List.mem_of_getElem? (i := 13) rfl))) (mvT hZ (hw _ (List.mem_of_getElem? (i := 14) rfl))) (by decide) (backOf (W := 1) (rm1 l Z a0 hw [] b64 p1 (own_code ((p4 &&& (2147483647 : Int32)) % (15 : Int32))) b65 b66 h66 n0 (Nat.le_trans (Nat.le_trans (Nat.le_trans Z0 E64.1) E65.1) E66.1) A64_t67 F_responseTag_b64_t68 F_resultCode_b64_t69 F_matchedDn_b64_t70 F_diagnosticMessage_b64_t71 g_b64) hZ (hw _ (List.mem_of_getElem? (i := 14) rfl)) (hw _ (List.mem_of_getElem? (i := 3) rfl)) (by decide) (by decide)) (g := (mkF m 59 #[.val (.int p1), .val (.int p2), .val (.int p3), .val (.int p4), .val (.int p5), .val (.int ((p3 &&& (2147483647 : Int32)) % (15 : Int32))), .val (.int ((p4 &&& (2147483647 : Int32)) % (15 : Int32))), .val (.int (1 : Int32)), .val (.int (own_code ((p4 &&& (2147483647 : Int32)) % (15 : Int32)))), .unset, .unset, .unset] [(.ref b66), (.ref b65), (.int (own_code ((p4 &&& (2147483647 : Int32)) % (15 : Int32)))), (.int p1), (.ref b64), (.ref b64)])) rfl (by rw [hml]; rfl) (Steps.refl _) (a := b64) (argsL := [(.int p1), (.int (own_code ((p4 &&& (2147483647 : Int32)) % (15 : Int32)))), (.ref b65), (.ref b66)]) (rest := [(.ref b64)]) (lenOf pd0_0 rfl) rfl (by show 2 * 0 + _ ≤ _; exact Nat.le_of_eq rfl) (hb hby at_59) (fun _ _ => ⟨rfl, e66, (by decide : ((((0 + 0) + 1) + 2) + 2) + _ ≤ _), (by decide : ((((0 + 0) + 4) + 4) + 4) + _ ≤ _)⟩)
  dsimp only [Pt.U, Pt.locs, Pt.cells, Pt.slots] at X72 l72 y72 z72 st72 hQ72
  subst l72 y72 z72
  obtain ⟨rfl, N72q, K72, F_resultCode_q72_0⟩ := hQ72
  have N72 := Fr.app N63 N72q
  refine own_of (S' := T72.setTop (mkF m 62 #[.val (.int p1), .val (.int p2), .val (.int p3), .val (.int p4), .val (.int p5), .val (.int ((p3 &&& (2147483647 : Int32)) % (15 : Int32))), .val (.int ((p4 &&& (2147483647 : Int32)) % (15 : Int32))), .val (.int (1 : Int32)), .val (.int (own_code ((p4 &&& (2147483647 : Int32)) % (15 : Int32)))), .unset, .unset, .unset] [(.ref b64)])) (fun t k => st72.trans k) ?_
  refine own_of (S' := T72.setTop (mkF m 64 #[.val (.int p1), .val (.int p2), .val (.int p3), .val (.int p4), .val (.int p5), .val (.int ((p3 &&& (2147483647 : Int32)) % (15 : Int32))), .val (.int ((p4 &&& (2147483647 : Int32)) % (15 : Int32))), .val (.int (1 : Int32)), .val (.int (own_code ((p4 &&& (2147483647 : Int32)) % (15 : Int32)))), .val (.ref b64), .unset, .unset] [])) (fun t k => XS.astore X72.here hx rfl (hb hby at_62) rfl rfl (l' := #[.val (.int p1), .val (.int p2), .val (.int p3), .val (.int p4), .val (.int p5), .val (.int ((p3 &&& (2147483647 : Int32)) % (15 : Int32))), .val (.int ((p4 &&& (2147483647 : Int32)) % (15 : Int32))), .val (.int (1 : Int32)), .val (.int (own_code ((p4 &&& (2147483647 : Int32)) % (15 : Int32)))), .val (.ref b64), .unset, .unset]) rfl k) ?_
  refine own_of (S' := T72.setTop (mkF m 66 #[.val (.int p1), .val (.int p2), .val (.int p3), .val (.int p4), .val (.int p5), .val (.int ((p3 &&& (2147483647 : Int32)) % (15 : Int32))), .val (.int ((p4 &&& (2147483647 : Int32)) % (15 : Int32))), .val (.int (1 : Int32)), .val (.int (own_code ((p4 &&& (2147483647 : Int32)) % (15 : Int32)))), .val (.ref b64), .unset, .unset] [(.ref b64)])) (fun t k => XS.aload X72.here hx rfl (hb hby at_64) rfl rfl k) ?_
  refine own_of (S' := T72.setTop (mkF m 68 #[.val (.int p1), .val (.int p2), .val (.int p3), .val (.int p4), .val (.int p5), .val (.int ((p3 &&& (2147483647 : Int32)) % (15 : Int32))), .val (.int ((p4 &&& (2147483647 : Int32)) % (15 : Int32))), .val (.int (1 : Int32)), .val (.int (own_code ((p4 &&& (2147483647 : Int32)) % (15 : Int32)))), .val (.ref b64), .unset, .unset] [(.int ((p3 &&& (2147483647 : Int32)) % (15 : Int32))), (.ref b64)])) (fun t k => XS.iload X72.here hx rfl (hb hby at_66) rfl k) ?_
  have S_SUCCESS_t73 : Sta Z T72.heap "com/example/waypost/waypost/ldap/ResultCode" "SUCCESS" "Lcom/example/waypost/waypost/ldap/ResultCode;" (.ref w_SUCCESS) := (own_staK (((S_SUCCESS.ext E64).ext E65).ext E66) K72 (allS (own_nstE A64_t67) all0))
  have S_PROTOCOL_ERROR_t74 : Sta Z T72.heap "com/example/waypost/waypost/ldap/ResultCode" "PROTOCOL_ERROR" "Lcom/example/waypost/waypost/ldap/ResultCode;" (.ref w_PROTOCOL_ERROR) := (own_staK (((S_PROTOCOL_ERROR.ext E64).ext E65).ext E66) K72 (allS (own_nstE A64_t67) all0))
  have S_SIZE_LIMIT_EXCEEDED_t75 : Sta Z T72.heap "com/example/waypost/waypost/ldap/ResultCode" "SIZE_LIMIT_EXCEEDED" "Lcom/example/waypost/waypost/ldap/ResultCode;" (.ref w_SIZE_LIMIT_EXCEEDED) := (own_staK (((S_SIZE_LIMIT_EXCEEDED.ext E64).ext E65).ext E66) K72 (allS (own_nstE A64_t67) all0))
  have S_COMPARE_FALSE_t76 : Sta Z T72.heap "com/example/waypost/waypost/ldap/ResultCode" "COMPARE_FALSE" "Lcom/example/waypost/waypost/ldap/ResultCode;" (.ref w_COMPARE_FALSE) := (own_staK (((S_COMPARE_FALSE.ext E64).ext E65).ext E66) K72 (allS (own_nstE A64_t67) all0))
  have S_COMPARE_TRUE_t77 : Sta Z T72.heap "com/example/waypost/waypost/ldap/ResultCode" "COMPARE_TRUE" "Lcom/example/waypost/waypost/ldap/ResultCode;" (.ref w_COMPARE_TRUE) := (own_staK (((S_COMPARE_TRUE.ext E64).ext E65).ext E66) K72 (allS (own_nstE A64_t67) all0))
  have S_AUTH_METHOD_NOT_SUPPORTED_t78 : Sta Z T72.heap "com/example/waypost/waypost/ldap/ResultCode" "AUTH_METHOD_NOT_SUPPORTED" "Lcom/example/waypost/waypost/ldap/ResultCode;" (.ref w_AUTH_METHOD_NOT_SUPPORTED) := (own_staK (((S_AUTH_METHOD_NOT_SUPPORTED.ext E64).ext E65).ext E66) K72 (allS (own_nstE A64_t67) all0))
  have S_UNAVAILABLE_CRITICAL_EXTENSION_t79 : Sta Z T72.heap "com/example/waypost/waypost/ldap/ResultCode" "UNAVAILABLE_CRITICAL_EXTENSION" "Lcom/example/waypost/waypost/ldap/ResultCode;" (.ref w_UNAVAILABLE_CRITICAL_EXTENSION) := (own_staK (((S_UNAVAILABLE_CRITICAL_EXTENSION.ext E64).ext E65).ext E66) K72 (allS (own_nstE A64_t67) all0))
  have S_NO_SUCH_ATTRIBUTE_t80 : Sta Z T72.heap "com/example/waypost/waypost/ldap/ResultCode" "NO_SUCH_ATTRIBUTE" "Lcom/example/waypost/waypost/ldap/ResultCode;" (.ref w_NO_SUCH_ATTRIBUTE) := (own_staK (((S_NO_SUCH_ATTRIBUTE.ext E64).ext E65).ext E66) K72 (allS (own_nstE A64_t67) all0))
  have S_UNDEFINED_ATTRIBUTE_TYPE_t81 : Sta Z T72.heap "com/example/waypost/waypost/ldap/ResultCode" "UNDEFINED_ATTRIBUTE_TYPE" "Lcom/example/waypost/waypost/ldap/ResultCode;" (.ref w_UNDEFINED_ATTRIBUTE_TYPE) := (own_staK (((S_UNDEFINED_ATTRIBUTE_TYPE.ext E64).ext E65).ext E66) K72 (allS (own_nstE A64_t67) all0))
  have S_INAPPROPRIATE_MATCHING_t82 : Sta Z T72.heap "com/example/waypost/waypost/ldap/ResultCode" "INAPPROPRIATE_MATCHING" "Lcom/example/waypost/waypost/ldap/ResultCode;" (.ref w_INAPPROPRIATE_MATCHING) := (own_staK (((S_INAPPROPRIATE_MATCHING.ext E64).ext E65).ext E66) K72 (allS (own_nstE A64_t67) all0))
  have S_INVALID_ATTRIBUTE_SYNTAX_t83 : Sta Z T72.heap "com/example/waypost/waypost/ldap/ResultCode" "INVALID_ATTRIBUTE_SYNTAX" "Lcom/example/waypost/waypost/ldap/ResultCode;" (.ref w_INVALID_ATTRIBUTE_SYNTAX) := (own_staK (((S_INVALID_ATTRIBUTE_SYNTAX.ext E64).ext E65).ext E66) K72 (allS (own_nstE A64_t67) all0))
  have S_NO_SUCH_OBJECT_t84 : Sta Z T72.heap "com/example/waypost/waypost/ldap/ResultCode" "NO_SUCH_OBJECT" "Lcom/example/waypost/waypost/ldap/ResultCode;" (.ref w_NO_SUCH_OBJECT) := (own_staK (((S_NO_SUCH_OBJECT.ext E64).ext E65).ext E66) K72 (allS (own_nstE A64_t67) all0))
  have S_INVALID_DN_SYNTAX_t85 : Sta Z T72.heap "com/example/waypost/waypost/ldap/ResultCode" "INVALID_DN_SYNTAX" "Lcom/example/waypost/waypost/ldap/ResultCode;" (.ref w_INVALID_DN_SYNTAX) := (own_staK (((S_INVALID_DN_SYNTAX.ext E64).ext E65).ext E66) K72 (allS (own_nstE A64_t67) all0))
  have S_INVALID_CREDENTIALS_t86 : Sta Z T72.heap "com/example/waypost/waypost/ldap/ResultCode" "INVALID_CREDENTIALS" "Lcom/example/waypost/waypost/ldap/ResultCode;" (.ref w_INVALID_CREDENTIALS) := (own_staK (((S_INVALID_CREDENTIALS.ext E64).ext E65).ext E66) K72 (allS (own_nstE A64_t67) all0))
  have S_UNWILLING_TO_PERFORM_t87 : Sta Z T72.heap "com/example/waypost/waypost/ldap/ResultCode" "UNWILLING_TO_PERFORM" "Lcom/example/waypost/waypost/ldap/ResultCode;" (.ref w_UNWILLING_TO_PERFORM) := (own_staK (((S_UNWILLING_TO_PERFORM.ext E64).ext E65).ext E66) K72 (allS (own_nstE A64_t67) all0))
  have E_w_SUCCESS_t88 : Exa Z T72.heap w_SUCCESS "com/example/waypost/waypost/ldap/ResultCode" := ((((E_w_SUCCESS.ext E64).ext E65).ext E66).keep K72)
  have E_w_PROTOCOL_ERROR_t89 : Exa Z T72.heap w_PROTOCOL_ERROR "com/example/waypost/waypost/ldap/ResultCode" := ((((E_w_PROTOCOL_ERROR.ext E64).ext E65).ext E66).keep K72)
  have E_w_SIZE_LIMIT_EXCEEDED_t90 : Exa Z T72.heap w_SIZE_LIMIT_EXCEEDED "com/example/waypost/waypost/ldap/ResultCode" := ((((E_w_SIZE_LIMIT_EXCEEDED.ext E64).ext E65).ext E66).keep K72)
  have E_w_COMPARE_FALSE_t91 : Exa Z T72.heap w_COMPARE_FALSE "com/example/waypost/waypost/ldap/ResultCode" := ((((E_w_COMPARE_FALSE.ext E64).ext E65).ext E66).keep K72)
  have E_w_COMPARE_TRUE_t92 : Exa Z T72.heap w_COMPARE_TRUE "com/example/waypost/waypost/ldap/ResultCode" := ((((E_w_COMPARE_TRUE.ext E64).ext E65).ext E66).keep K72)
  have E_w_AUTH_METHOD_NOT_SUPPORTED_t93 : Exa Z T72.heap w_AUTH_METHOD_NOT_SUPPORTED "com/example/waypost/waypost/ldap/ResultCode" := ((((E_w_AUTH_METHOD_NOT_SUPPORTED.ext E64).ext E65).ext E66).keep K72)
  have E_w_UNAVAILABLE_CRITICAL_EXTENSION_t94 : Exa Z T72.heap w_UNAVAILABLE_CRITICAL_EXTENSION "com/example/waypost/waypost/ldap/ResultCode" := ((((E_w_UNAVAILABLE_CRITICAL_EXTENSION.ext E64).ext E65).ext E66).keep K72)
  have E_w_NO_SUCH_ATTRIBUTE_t95 : Exa Z T72.heap w_NO_SUCH_ATTRIBUTE "com/example/waypost/waypost/ldap/ResultCode" := ((((E_w_NO_SUCH_ATTRIBUTE.ext E64).ext E65).ext E66).keep K72)
  have E_w_UNDEFINED_ATTRIBUTE_TYPE_t96 : Exa Z T72.heap w_UNDEFINED_ATTRIBUTE_TYPE "com/example/waypost/waypost/ldap/ResultCode" := ((((E_w_UNDEFINED_ATTRIBUTE_TYPE.ext E64).ext E65).ext E66).keep K72)
  have E_w_INAPPROPRIATE_MATCHING_t97 : Exa Z T72.heap w_INAPPROPRIATE_MATCHING "com/example/waypost/waypost/ldap/ResultCode" := ((((E_w_INAPPROPRIATE_MATCHING.ext E64).ext E65).ext E66).keep K72)
  have E_w_INVALID_ATTRIBUTE_SYNTAX_t98 : Exa Z T72.heap w_INVALID_ATTRIBUTE_SYNTAX "com/example/waypost/waypost/ldap/ResultCode" := ((((E_w_INVALID_ATTRIBUTE_SYNTAX.ext E64).ext E65).ext E66).keep K72)
  have E_w_NO_SUCH_OBJECT_t99 : Exa Z T72.heap w_NO_SUCH_OBJECT "com/example/waypost/waypost/ldap/ResultCode" := ((((E_w_NO_SUCH_OBJECT.ext E64).ext E65).ext E66).keep K72)
  have E_w_INVALID_DN_SYNTAX_t100 : Exa Z T72.heap w_INVALID_DN_SYNTAX "com/example/waypost/waypost/ldap/ResultCode" := ((((E_w_INVALID_DN_SYNTAX.ext E64).ext E65).ext E66).keep K72)
  have E_w_INVALID_CREDENTIALS_t101 : Exa Z T72.heap w_INVALID_CREDENTIALS "com/example/waypost/waypost/ldap/ResultCode" := ((((E_w_INVALID_CREDENTIALS.ext E64).ext E65).ext E66).keep K72)
  have E_w_UNWILLING_TO_PERFORM_t102 : Exa Z T72.heap w_UNWILLING_TO_PERFORM "com/example/waypost/waypost/ldap/ResultCode" := ((((E_w_UNWILLING_TO_PERFORM.ext E64).ext E65).ext E66).keep K72)
  have F_code_w_SUCCESS_t103 : Fld Z T72.heap w_SUCCESS "com/example/waypost/waypost/ldap/ResultCode" "code" "I" (.int (0 : Int32)) := ((((F_code_w_SUCCESS.ext E64).ext E65).ext E66).keep K72 (ninS (Nat.ne_of_lt (Nat.lt_of_lt_of_le E_w_SUCCESS.lt (Nat.le_of_eq g64.symm))) nin0))
  have F_code_w_PROTOCOL_ERROR_t104 : Fld Z T72.heap w_PROTOCOL_ERROR "com/example/waypost/waypost/ldap/ResultCode" "code" "I" (.int (2 : Int32)) := ((((F_code_w_PROTOCOL_ERROR.ext E64).ext E65).ext E66).keep K72 (ninS (Nat.ne_of_lt (Nat.lt_of_lt_of_le E_w_PROTOCOL_ERROR.lt (Nat.le_of_eq g64.symm))) nin0))
  have F_code_w_SIZE_LIMIT_EXCEEDED_t105 : Fld Z T72.heap w_SIZE_LIMIT_EXCEEDED "com/example/waypost/waypost/ldap/ResultCode" "code" "I" (.int (4 : Int32)) := ((((F_code_w_SIZE_LIMIT_EXCEEDED.ext E64).ext E65).ext E66).keep K72 (ninS (Nat.ne_of_lt (Nat.lt_of_lt_of_le E_w_SIZE_LIMIT_EXCEEDED.lt (Nat.le_of_eq g64.symm))) nin0))
  have F_code_w_COMPARE_FALSE_t106 : Fld Z T72.heap w_COMPARE_FALSE "com/example/waypost/waypost/ldap/ResultCode" "code" "I" (.int (5 : Int32)) := ((((F_code_w_COMPARE_FALSE.ext E64).ext E65).ext E66).keep K72 (ninS (Nat.ne_of_lt (Nat.lt_of_lt_of_le E_w_COMPARE_FALSE.lt (Nat.le_of_eq g64.symm))) nin0))
  have F_code_w_COMPARE_TRUE_t107 : Fld Z T72.heap w_COMPARE_TRUE "com/example/waypost/waypost/ldap/ResultCode" "code" "I" (.int (6 : Int32)) := ((((F_code_w_COMPARE_TRUE.ext E64).ext E65).ext E66).keep K72 (ninS (Nat.ne_of_lt (Nat.lt_of_lt_of_le E_w_COMPARE_TRUE.lt (Nat.le_of_eq g64.symm))) nin0))
  have F_code_w_AUTH_METHOD_NOT_SUPPORTED_t108 : Fld Z T72.heap w_AUTH_METHOD_NOT_SUPPORTED "com/example/waypost/waypost/ldap/ResultCode" "code" "I" (.int (7 : Int32)) := ((((F_code_w_AUTH_METHOD_NOT_SUPPORTED.ext E64).ext E65).ext E66).keep K72 (ninS (Nat.ne_of_lt (Nat.lt_of_lt_of_le E_w_AUTH_METHOD_NOT_SUPPORTED.lt (Nat.le_of_eq g64.symm))) nin0))
  have F_code_w_UNAVAILABLE_CRITICAL_EXTENSION_t109 : Fld Z T72.heap w_UNAVAILABLE_CRITICAL_EXTENSION "com/example/waypost/waypost/ldap/ResultCode" "code" "I" (.int (12 : Int32)) := ((((F_code_w_UNAVAILABLE_CRITICAL_EXTENSION.ext E64).ext E65).ext E66).keep K72 (ninS (Nat.ne_of_lt (Nat.lt_of_lt_of_le E_w_UNAVAILABLE_CRITICAL_EXTENSION.lt (Nat.le_of_eq g64.symm))) nin0))
  have F_code_w_NO_SUCH_ATTRIBUTE_t110 : Fld Z T72.heap w_NO_SUCH_ATTRIBUTE "com/example/waypost/waypost/ldap/ResultCode" "code" "I" (.int (16 : Int32)) := ((((F_code_w_NO_SUCH_ATTRIBUTE.ext E64).ext E65).ext E66).keep K72 (ninS (Nat.ne_of_lt (Nat.lt_of_lt_of_le E_w_NO_SUCH_ATTRIBUTE.lt (Nat.le_of_eq g64.symm))) nin0))
  have F_code_w_UNDEFINED_ATTRIBUTE_TYPE_t111 : Fld Z T72.heap w_UNDEFINED_ATTRIBUTE_TYPE "com/example/waypost/waypost/ldap/ResultCode" "code" "I" (.int (17 : Int32)) := ((((F_code_w_UNDEFINED_ATTRIBUTE_TYPE.ext E64).ext E65).ext E66).keep K72 (ninS (Nat.ne_of_lt (Nat.lt_of_lt_of_le E_w_UNDEFINED_ATTRIBUTE_TYPE.lt (Nat.le_of_eq g64.symm))) nin0))
  have F_code_w_INAPPROPRIATE_MATCHING_t112 : Fld Z T72.heap w_INAPPROPRIATE_MATCHING "com/example/waypost/waypost/ldap/ResultCode" "code" "I" (.int (18 : Int32)) := ((((F_code_w_INAPPROPRIATE_MATCHING.ext E64).ext E65).ext E66).keep K72 (ninS (Nat.ne_of_lt (Nat.lt_of_lt_of_le E_w_INAPPROPRIATE_MATCHING.lt (Nat.le_of_eq g64.symm))) nin0))
  have F_code_w_INVALID_ATTRIBUTE_SYNTAX_t113 : Fld Z T72.heap w_INVALID_ATTRIBUTE_SYNTAX "com/example/waypost/waypost/ldap/ResultCode" "code" "I" (.int (21 : Int32)) := ((((F_code_w_INVALID_ATTRIBUTE_SYNTAX.ext E64).ext E65).ext E66).keep K72 (ninS (Nat.ne_of_lt (Nat.lt_of_lt_of_le E_w_INVALID_ATTRIBUTE_SYNTAX.lt (Nat.le_of_eq g64.symm))) nin0))
  have F_code_w_NO_SUCH_OBJECT_t114 : Fld Z T72.heap w_NO_SUCH_OBJECT "com/example/waypost/waypost/ldap/ResultCode" "code" "I" (.int (32 : Int32)) := ((((F_code_w_NO_SUCH_OBJECT.ext E64).ext E65).ext E66).keep K72 (ninS (Nat.ne_of_lt (Nat.lt_of_lt_of_le E_w_NO_SUCH_OBJECT.lt (Nat.le_of_eq g64.symm))) nin0))
  have F_code_w_INVALID_DN_SYNTAX_t115 : Fld Z T72.heap w_INVALID_DN_SYNTAX "com/example/waypost/waypost/ldap/ResultCode" "code" "I" (.int (34 : Int32)) := ((((F_code_w_INVALID_DN_SYNTAX.ext E64).ext E65).ext E66).keep K72 (ninS (Nat.ne_of_lt (Nat.lt_of_lt_of_le E_w_INVALID_DN_SYNTAX.lt (Nat.le_of_eq g64.symm))) nin0))
  have F_code_w_INVALID_CREDENTIALS_t116 : Fld Z T72.heap w_INVALID_CREDENTIALS "com/example/waypost/waypost/ldap/ResultCode" "code" "I" (.int (49 : Int32)) := ((((F_code_w_INVALID_CREDENTIALS.ext E64).ext E65).ext E66).keep K72 (ninS (Nat.ne_of_lt (Nat.lt_of_lt_of_le E_w_INVALID_CREDENTIALS.lt (Nat.le_of_eq g64.symm))) nin0))
  have F_code_w_UNWILLING_TO_PERFORM_t117 : Fld Z T72.heap w_UNWILLING_TO_PERFORM "com/example/waypost/waypost/ldap/ResultCode" "code" "I" (.int (53 : Int32)) := ((((F_code_w_UNWILLING_TO_PERFORM.ext E64).ext E65).ext E66).keep K72 (ninS (Nat.ne_of_lt (Nat.lt_of_lt_of_le E_w_UNWILLING_TO_PERFORM.lt (Nat.le_of_eq g64.symm))) nin0))
  obtain ⟨_, _, ⟨T118, L118, k118, n118⟩, -, X118, ⟨Lc118, hQ118, l118, y118, z118⟩, st118⟩ := Jvm.LawKit.callS X72 hx (y := (⟨"com/example/waypost/waypost/ldap/ResultIsPinLaw", "constant", "(I)Lcom/example/waypost/waypost/ldap/ResultCode;"⟩ : MethodName)) hown (mvT hZ (hw _ (List.mem_of_getElem? (i := 31) rfl))) (mvT hZ (hw _ (List.mem_of_getElem? (i := 32) rfl))) (mvT hZ (hw _ (List.mem_of_getElem? (i := 33) rfl))) (mvT hZ (hw _ (List.mem_of_getElem? (i := 34) rfl))) (by decide) (backOf (W := 1) (rm4 l Z a0 hw [] ((p3 &&& (2147483647 : Int32)) % (15 : Int32)) w_SUCCESS w_PROTOCOL_ERROR w_SIZE_LIMIT_EXCEEDED w_COMPARE_FALSE w_COMPARE_TRUE w_AUTH_METHOD_NOT_SUPPORTED w_UNAVAILABLE_CRITICAL_EXTENSION w_NO_SUCH_ATTRIBUTE w_UNDEFINED_ATTRIBUTE_TYPE w_INAPPROPRIATE_MATCHING w_INVALID_ATTRIBUTE_SYNTAX w_NO_SUCH_OBJECT w_INVALID_DN_SYNTAX w_INVALID_CREDENTIALS w_UNWILLING_TO_PERFORM T72.heap n0 (Nat.le_trans (Nat.le_trans (Nat.le_trans (Nat.le_trans Z0 E64.1) E65.1) E66.1) K72.1) S_SUCCESS_t73 S_PROTOCOL_ERROR_t74 S_SIZE_LIMIT_EXCEEDED_t75 S_COMPARE_FALSE_t76 S_COMPARE_TRUE_t77 S_AUTH_METHOD_NOT_SUPPORTED_t78 S_UNAVAILABLE_CRITICAL_EXTENSION_t79 S_NO_SUCH_ATTRIBUTE_t80 S_UNDEFINED_ATTRIBUTE_TYPE_t81 S_INAPPROPRIATE_MATCHING_t82 S_INVALID_ATTRIBUTE_SYNTAX_t83 S_NO_SUCH_OBJECT_t84 S_INVALID_DN_SYNTAX_t85 S_INVALID_CREDENTIALS_t86 S_UNWILLING_TO_PERFORM_t87 E_w_SUCCESS_t88 E_w_PROTOCOL_ERROR_t89 E_w_SIZE_LIMIT_EXCEEDED_t90 E_w_COMPARE_FALSE_t91 E_w_COMPARE_TRUE_t92 E_w_AUTH_METHOD_NOT_SUPPORTED_t93 E_w_UNAVAILABLE_CRITICAL_EXTENSION_t94 E_w_NO_SUCH_ATTRIBUTE_t95 E_w_UNDEFINED_ATTRIBUTE_TYPE_t96 E_w_INAPPROPRIATE_MATCHING_t97 E_w_INVALID_ATTRIBUTE_SYNTAX_t98 E_w_NO_SUCH_OBJECT_t99 E_w_INVALID_DN_SYNTAX_t100 E_w_INVALID_CREDENTIALS_t101 E_w_UNWILLING_TO_PERFORM_t102 F_code_w_SUCCESS_t103 F_code_w_PROTOCOL_ERROR_t104 F_code_w_SIZE_LIMIT_EXCEEDED_t105 F_code_w_COMPARE_FALSE_t106 F_code_w_COMPARE_TRUE_t107 F_code_w_AUTH_METHOD_NOT_SUPPORTED_t108 F_code_w_UNAVAILABLE_CRITICAL_EXTENSION_t109 F_code_w_NO_SUCH_ATTRIBUTE_t110 F_code_w_UNDEFINED_ATTRIBUTE_TYPE_t111 F_code_w_INAPPROPRIATE_MATCHING_t112 F_code_w_INVALID_ATTRIBUTE_SYNTAX_t113 F_code_w_NO_SUCH_OBJECT_t114 F_code_w_INVALID_DN_SYNTAX_t115 F_code_w_INVALID_CREDENTIALS_t116 F_code_w_UNWILLING_TO_PERFORM_t117) hZ (hw _ (List.mem_of_getElem? (i := 34) rfl)) (hw _ (List.mem_of_getElem? (i := 33) rfl)) (by decide) (by decide)) (g := (mkF m 68 #[.val (.int p1), .val (.int p2), .val (.int p3), .val (.int p4), .val (.int p5), .val (.int ((p3 &&& (2147483647 : Int32)) % (15 : Int32))), .val (.int ((p4 &&& (2147483647 : Int32)) % (15 : Int32))), .val (.int (1 : Int32)), .val (.int (own_code ((p4 &&& (2147483647 : Int32)) % (15 : Int32)))), .val (.ref b64), .unset, .unset] [(.int ((p3 &&& (2147483647 : Int32)) % (15 : Int32))), (.ref b64)])) rfl (by rw [hml]; rfl) (argsL := [(.int ((p3 &&& (2147483647 : Int32)) % (15 : Int32)))]) (rest := [(.ref b64)]) (lenOf pd0_1 rfl) rfl (by show 2 * 0 + _ ≤ _; exact Nat.le_of_eq rfl) (hb hby at_68) (fun _ _ => ⟨rfl, rfl, (by decide : (((((0 + 0) + 1) + 2) + 2) + 0) + _ ≤ _), (by decide : (((((0 + 0) + 4) + 4) + 4) + 0) + _ ≤ _)⟩)
  dsimp only [Pt.U, Pt.locs, Pt.cells, Pt.slots] at X118 l118 y118 z118 st118 hQ118
  subst l118 y118 z118
  obtain ⟨r_118, rfl, N118q, hh118, E_q118_0, F_code_q118_1⟩ := hQ118
  have N118 := Fr.app N72 N118q
  rw [hh118] at E_q118_0 F_code_q118_1
  refine own_of (S' := T118.setTop (mkF m 71 #[.val (.int p1), .val (.int p2), .val (.int p3), .val (.int p4), .val (.int p5), .val (.int ((p3 &&& (2147483647 : Int32)) % (15 : Int32))), .val (.int ((p4 &&& (2147483647 : Int32)) % (15 : Int32))), .val (.int (1 : Int32)), .val (.int (own_code ((p4 &&& (2147483647 : Int32)) % (15 : Int32)))), .val (.ref b64), .unset, .unset] [(.ref r_118), (.ref b64)])) st118 ?_
  have A64_t120 : Exa Z T72.heap b64 "com/example/waypost/waypost/ldap/LdapResponse$Result" := (A64_t67.keep K72)
  obtain ⟨cq119, kq119, q119a, q119b, q119c⟩ := isOf hZ (hh118) A64_t120
  obtain ⟨_, _, ⟨T119, L119, k119, n119⟩, -, X119, ⟨Lc119, hQ119, l119, y119, z119⟩, st119⟩ := X118.virtualBack hx (y := (⟨"com/example/waypost/waypost/ldap/LdapResponse$Result", "is", "(Lcom/example/waypost/waypost/ldap/ResultCode;)Z"⟩ : MethodName)) (z := (⟨"com/example/waypost/waypost/ldap/LdapResponse$Result", "is", "(Lcom/example/waypost/waypost/ldap/ResultCode;)Z"⟩ : MethodName)) hown (mvT hZ (hw _ (List.mem_of_getElem? (i := 38) rfl))) (mvT hZ (hw _ (List.mem_of_getElem? (i := 39) rfl))) (notFace_of_selects (args := #[]) (mvT hZ (hw _ (List.mem_of_getElem? (i := 41) rfl)))) (mvT hZ (hw _ (List.mem_of_getElem? (i := 41) rfl))) (mvT hZ (hw _ (List.mem_of_getElem? (i := 40) rfl))) (by decide) (backOf (W := 0) (rm5 l Z a0 hw [] b64 r_118 (own_code ((p4 &&& (2147483647 : Int32)) % (15 : Int32))) (own_code ((p3 &&& (2147483647 : Int32)) % (15 : Int32))) T72.heap n0 (Nat.le_trans (Nat.le_trans (Nat.le_trans (Nat.le_trans Z0 E64.1) E65.1) E66.1) K72.1) F_resultCode_q72_0 E_q118_0 F_code_q118_1) hZ (hw _ (List.mem_of_getElem? (i := 42) rfl)) (hw _ (List.mem_of_getElem? (i := 3) rfl)) (by decide) (by decide)) q119a q119c (g := (mkF m 71 #[.val (.int p1), .val (.int p2), .val (.int p3), .val (.int p4), .val (.int p5), .val (.int ((p3 &&& (2147483647 : Int32)) % (15 : Int32))), .val (.int ((p4 &&& (2147483647 : Int32)) % (15 : Int32))), .val (.int (1 : Int32)), .val (.int (own_code ((p4 &&& (2147483647 : Int32)) % (15 : Int32)))), .val (.ref b64), .unset, .unset] [(.ref r_118), (.ref b64)])) rfl (by rw [hml]; rfl) (Steps.refl _) (argsL := [(.ref r_118)]) (rest := []) (lenOf pd0_2 rfl) rfl (by show 2 * 0 + _ ≤ _; exact Nat.le_of_eq rfl) (hb hby at_71) (fun _ _ => ⟨rfl, (hh118), (by decide : ((((((0 + 0) + 1) + 2) + 2) + 0) + 0) + _ ≤ _), (by decide : ((((((0 + 0) + 4) + 4) + 4) + 0) + 0) + _ ≤ _)⟩)
  dsimp only [Pt.U, Pt.locs, Pt.cells, Pt.slots] at X119 l119 y119 z119 st119 hQ119
  subst l119 y119 z119
  obtain ⟨rfl, N119q, hh119⟩ := hQ119
  have N119 := Fr.app N118 N119q
  refine own_of (S' := T119.setTop (mkF m 74 #[.val (.int p1), .val (.int p2), .val (.int p3), .val (.int p4), .val (.int p5), .val (.int ((p3 &&& (2147483647 : Int32)) % (15 : Int32))), .val (.int ((p4 &&& (2147483647 : Int32)) % (15 : Int32))), .val (.int (1 : Int32)), .val (.int (own_code ((p4 &&& (2147483647 : Int32)) % (15 : Int32)))), .val (.ref b64), .unset, .unset] [(.int (own_is (own_code ((p4 &&& (2147483647 : Int32)) % (15 : Int32))) (own_code ((p3 &&& (2147483647 : Int32)) % (15 : Int32)))))])) (fun t k => st119.trans k) ?_
  refine own_of (S' := T119.setTop (mkF m 76 #[.val (.int p1), .val (.int p2), .val (.int p3), .val (.int p4), .val (.int p5), .val (.int ((p3 &&& (2147483647 : Int32)) % (15 : Int32))), .val (.int ((p4 &&& (2147483647 : Int32)) % (15 : Int32))), .val (.int (1 : Int32)), .val (.int (own_code ((p4 &&& (2147483647 : Int32)) % (15 : Int32)))), .val (.ref b64), .val (.int (own_is (own_code ((p4 &&& (2147483647 : Int32)) % (15 : Int32))) (own_code ((p3 &&& (2147483647 : Int32)) % (15 : Int32))))), .unset] [])) (fun t k => XS.istore X119.here hx rfl (hb hby at_74) rfl (l' := #[.val (.int p1), .val (.int p2), .val (.int p3), .val (.int p4), .val (.int p5), .val (.int ((p3 &&& (2147483647 : Int32)) % (15 : Int32))), .val (.int ((p4 &&& (2147483647 : Int32)) % (15 : Int32))), .val (.int (1 : Int32)), .val (.int (own_code ((p4 &&& (2147483647 : Int32)) % (15 : Int32)))), .val (.ref b64), .val (.int (own_is (own_code ((p4 &&& (2147483647 : Int32)) % (15 : Int32))) (own_code ((p3 &&& (2147483647 : Int32)) % (15 : Int32))))), .unset]) rfl k) ?_
  refine own_of (S' := T119.setTop (mkF m 78 #[.val (.int p1), .val (.int p2), .val (.int p3), .val (.int p4), .val (.int p5), .val (.int ((p3 &&& (2147483647 : Int32)) % (15 : Int32))), .val (.int ((p4 &&& (2147483647 : Int32)) % (15 : Int32))), .val (.int (1 : Int32)), .val (.int (own_code ((p4 &&& (2147483647 : Int32)) % (15 : Int32)))), .val (.ref b64), .val (.int (own_is (own_code ((p4 &&& (2147483647 : Int32)) % (15 : Int32))) (own_code ((p3 &&& (2147483647 : Int32)) % (15 : Int32))))), .unset] [(.int (1 : Int32))])) (fun t k => XS.iload X119.here hx rfl (hb hby at_76) rfl k) ?_
  refine own_of (S' := T119.setTop (mkF m 81 #[.val (.int p1), .val (.int p2), .val (.int p3), .val (.int p4), .val (.int p5), .val (.int ((p3 &&& (2147483647 : Int32)) % (15 : Int32))), .val (.int ((p4 &&& (2147483647 : Int32)) % (15 : Int32))), .val (.int (1 : Int32)), .val (.int (own_code ((p4 &&& (2147483647 : Int32)) % (15 : Int32)))), .val (.ref b64), .val (.int (own_is (own_code ((p4 &&& (2147483647 : Int32)) % (15 : Int32))) (own_code ((p3 &&& (2147483647 : Int32)) % (15 : Int32))))), .unset] [])) (fun t k => XS.ifNo X119.here hx rfl (hb hby at_78) rfl ((if0 _ _).trans (feq (by decide : ¬ ((1 : Int32) = (0 : Int32)))).1) k) ?_
  refine own_of (S' := T119.setTop (mkF m 83 #[.val (.int p1), .val (.int p2), .val (.int p3), .val (.int p4), .val (.int p5), .val (.int ((p3 &&& (2147483647 : Int32)) % (15 : Int32))), .val (.int ((p4 &&& (2147483647 : Int32)) % (15 : Int32))), .val (.int (1 : Int32)), .val (.int (own_code ((p4 &&& (2147483647 : Int32)) % (15 : Int32)))), .val (.ref b64), .val (.int (own_is (own_code ((p4 &&& (2147483647 : Int32)) % (15 : Int32))) (own_code ((p3 &&& (2147483647 : Int32)) % (15 : Int32))))), .unset] [(.int ((p4 &&& (2147483647 : Int32)) % (15 : Int32)))])) (fun t k => XS.iload X119.here hx rfl (hb hby at_81) rfl k) ?_
  refine own_of (S' := T119.setTop (mkF m 85 #[.val (.int p1), .val (.int p2), .val (.int p3), .val (.int p4), .val (.int p5), .val (.int ((p3 &&& (2147483647 : Int32)) % (15 : Int32))), .val (.int ((p4 &&& (2147483647 : Int32)) % (15 : Int32))), .val (.int (1 : Int32)), .val (.int (own_code ((p4 &&& (2147483647 : Int32)) % (15 : Int32)))), .val (.ref b64), .val (.int (own_is (own_code ((p4 &&& (2147483647 : Int32)) % (15 : Int32))) (own_code ((p3 &&& (2147483647 : Int32)) % (15 : Int32))))), .unset] [(.int ((p3 &&& (2147483647 : Int32)) % (15 : Int32))), (.int ((p4 &&& (2147483647 : Int32)) % (15 : Int32)))])) (fun t k => XS.iload X119.here hx rfl (hb hby at_83) rfl k) ?_
  by_cases hc85_121 : ((p4 &&& (2147483647 : Int32)) % (15 : Int32)) = ((p3 &&& (2147483647 : Int32)) % (15 : Int32))
  · refine own_of (S' := T119.setTop (mkF m 88 #[.val (.int p1), .val (.int p2), .val (.int p3), .val (.int p4), .val (.int p5), .val (.int ((p3 &&& (2147483647 : Int32)) % (15 : Int32))), .val (.int ((p4 &&& (2147483647 : Int32)) % (15 : Int32))), .val (.int (1 : Int32)), .val (.int (own_code ((p4 &&& (2147483647 : Int32)) % (15 : Int32)))), .val (.ref b64), .val (.int (own_is (own_code ((p4 &&& (2147483647 : Int32)) % (15 : Int32))) (own_code ((p3 &&& (2147483647 : Int32)) % (15 : Int32))))), .unset] [])) (fun t k => XS.icmpNo X119.here hx rfl (hb hby at_85) rfl (teq hc85_121).2 k) ?_
    refine own_of (S' := T119.setTop (mkF m 89 #[.val (.int p1), .val (.int p2), .val (.int p3), .val (.int p4), .val (.int p5), .val (.int ((p3 &&& (2147483647 : Int32)) % (15 : Int32))), .val (.int ((p4 &&& (2147483647 : Int32)) % (15 : Int32))), .val (.int (1 : Int32)), .val (.int (own_code ((p4 &&& (2147483647 : Int32)) % (15 : Int32)))), .val (.ref b64), .val (.int (own_is (own_code ((p4 &&& (2147483647 : Int32)) % (15 : Int32))) (own_code ((p3 &&& (2147483647 : Int32)) % (15 : Int32))))), .unset] [(.int (1 : Int32))])) (fun t k => XS.iconst X119.here hx rfl (hb hby at_88) k) ?_
    refine own_of (S' := T119.setTop (mkF m 111 #[.val (.int p1), .val (.int p2), .val (.int p3), .val (.int p4), .val (.int p5), .val (.int ((p3 &&& (2147483647 : Int32)) % (15 : Int32))), .val (.int ((p4 &&& (2147483647 : Int32)) % (15 : Int32))), .val (.int (1 : Int32)), .val (.int (own_code ((p4 &&& (2147483647 : Int32)) % (15 : Int32)))), .val (.ref b64), .val (.int (own_is (own_code ((p4 &&& (2147483647 : Int32)) % (15 : Int32))) (own_code ((p3 &&& (2147483647 : Int32)) % (15 : Int32))))), .unset] [(.int (1 : Int32))])) (fun t k => XS.goto X119.here hx rfl (pc0 := 89) (pc' := 111) rfl (hb hby at_89) (by decide) (by decide) k) ?_
    refine own_of (S' := T119.setTop (mkF m 113 #[.val (.int p1), .val (.int p2), .val (.int p3), .val (.int p4), .val (.int p5), .val (.int ((p3 &&& (2147483647 : Int32)) % (15 : Int32))), .val (.int ((p4 &&& (2147483647 : Int32)) % (15 : Int32))), .val (.int (1 : Int32)), .val (.int (own_code ((p4 &&& (2147483647 : Int32)) % (15 : Int32)))), .val (.ref b64), .val (.int (own_is (own_code ((p4 &&& (2147483647 : Int32)) % (15 : Int32))) (own_code ((p3 &&& (2147483647 : Int32)) % (15 : Int32))))), .val (.int (1 : Int32))] [])) (fun t k => XS.istore X119.here hx rfl (hb hby at_111) rfl (l' := #[.val (.int p1), .val (.int p2), .val (.int p3), .val (.int p4), .val (.int p5), .val (.int ((p3 &&& (2147483647 : Int32)) % (15 : Int32))), .val (.int ((p4 &&& (2147483647 : Int32)) % (15 : Int32))), .val (.int (1 : Int32)), .val (.int (own_code ((p4 &&& (2147483647 : Int32)) % (15 : Int32)))), .val (.ref b64), .val (.int (own_is (own_code ((p4 &&& (2147483647 : Int32)) % (15 : Int32))) (own_code ((p3 &&& (2147483647 : Int32)) % (15 : Int32))))), .val (.int (1 : Int32))]) rfl k) ?_
    refine own_of (S' := T119.setTop (mkF m 115 #[.val (.int p1), .val (.int p2), .val (.int p3), .val (.int p4), .val (.int p5), .val (.int ((p3 &&& (2147483647 : Int32)) % (15 : Int32))), .val (.int ((p4 &&& (2147483647 : Int32)) % (15 : Int32))), .val (.int (1 : Int32)), .val (.int (own_code ((p4 &&& (2147483647 : Int32)) % (15 : Int32)))), .val (.ref b64), .val (.int (own_is (own_code ((p4 &&& (2147483647 : Int32)) % (15 : Int32))) (own_code ((p3 &&& (2147483647 : Int32)) % (15 : Int32))))), .val (.int (1 : Int32))] [(.int (own_is (own_code ((p4 &&& (2147483647 : Int32)) % (15 : Int32))) (own_code ((p3 &&& (2147483647 : Int32)) % (15 : Int32)))))])) (fun t k => XS.iload X119.here hx rfl (hb hby at_113) rfl k) ?_
    refine own_of (S' := T119.setTop (mkF m 117 #[.val (.int p1), .val (.int p2), .val (.int p3), .val (.int p4), .val (.int p5), .val (.int ((p3 &&& (2147483647 : Int32)) % (15 : Int32))), .val (.int ((p4 &&& (2147483647 : Int32)) % (15 : Int32))), .val (.int (1 : Int32)), .val (.int (own_code ((p4 &&& (2147483647 : Int32)) % (15 : Int32)))), .val (.ref b64), .val (.int (own_is (own_code ((p4 &&& (2147483647 : Int32)) % (15 : Int32))) (own_code ((p3 &&& (2147483647 : Int32)) % (15 : Int32))))), .val (.int (1 : Int32))] [(.int (1 : Int32)), (.int (own_is (own_code ((p4 &&& (2147483647 : Int32)) % (15 : Int32))) (own_code ((p3 &&& (2147483647 : Int32)) % (15 : Int32)))))])) (fun t k => XS.iload X119.here hx rfl (hb hby at_115) rfl k) ?_
    by_cases hc117_122 : (own_is (own_code ((p4 &&& (2147483647 : Int32)) % (15 : Int32))) (own_code ((p3 &&& (2147483647 : Int32)) % (15 : Int32)))) = (1 : Int32)
    · refine own_of (S' := T119.setTop (mkF m 120 #[.val (.int p1), .val (.int p2), .val (.int p3), .val (.int p4), .val (.int p5), .val (.int ((p3 &&& (2147483647 : Int32)) % (15 : Int32))), .val (.int ((p4 &&& (2147483647 : Int32)) % (15 : Int32))), .val (.int (1 : Int32)), .val (.int (own_code ((p4 &&& (2147483647 : Int32)) % (15 : Int32)))), .val (.ref b64), .val (.int (own_is (own_code ((p4 &&& (2147483647 : Int32)) % (15 : Int32))) (own_code ((p3 &&& (2147483647 : Int32)) % (15 : Int32))))), .val (.int (1 : Int32))] [])) (fun t k => XS.icmpNo X119.here hx rfl (hb hby at_117) rfl (teq hc117_122).2 k) ?_
      refine own_of (S' := T119.setTop (mkF m 121 #[.val (.int p1), .val (.int p2), .val (.int p3), .val (.int p4), .val (.int p5), .val (.int ((p3 &&& (2147483647 : Int32)) % (15 : Int32))), .val (.int ((p4 &&& (2147483647 : Int32)) % (15 : Int32))), .val (.int (1 : Int32)), .val (.int (own_code ((p4 &&& (2147483647 : Int32)) % (15 : Int32)))), .val (.ref b64), .val (.int (own_is (own_code ((p4 &&& (2147483647 : Int32)) % (15 : Int32))) (own_code ((p3 &&& (2147483647 : Int32)) % (15 : Int32))))), .val (.int (1 : Int32))] [(.int (1 : Int32))])) (fun t k => XS.iconst X119.here hx rfl (hb hby at_120) k) ?_
      refine own_of (S' := T119.setTop (mkF m 125 #[.val (.int p1), .val (.int p2), .val (.int p3), .val (.int p4), .val (.int p5), .val (.int ((p3 &&& (2147483647 : Int32)) % (15 : Int32))), .val (.int ((p4 &&& (2147483647 : Int32)) % (15 : Int32))), .val (.int (1 : Int32)), .val (.int (own_code ((p4 &&& (2147483647 : Int32)) % (15 : Int32)))), .val (.ref b64), .val (.int (own_is (own_code ((p4 &&& (2147483647 : Int32)) % (15 : Int32))) (own_code ((p3 &&& (2147483647 : Int32)) % (15 : Int32))))), .val (.int (1 : Int32))] [(.int (1 : Int32))])) (fun t k => XS.goto X119.here hx rfl (pc0 := 121) (pc' := 125) rfl (hb hby at_121) (by decide) (by decide) k) ?_
      obtain ⟨fs, hr, hrun, hended, hWW⟩ := X119.leaveW (s := s) hS66 (by rw [show T119.heap = T72.heap from (hh119)]; exact (Nat.le_trans hk66 K72.1)) (v := some (.int (1 : Int32))) (fun h => by rw [Bd.returns] at h; cases h)
      subst hKd
      exact ⟨_, _, retN X119 hx (t := .boolean) Bd.returns (by simp) (hb hby at_125) hr, hrun, hended, _, _, rfl, (by
        show Q0 Z p1 p2 p3 p4 p5 w_SUCCESS w_PROTOCOL_ERROR w_SIZE_LIMIT_EXCEEDED w_COMPARE_FALSE w_COMPARE_TRUE w_AUTH_METHOD_NOT_SUPPORTED w_UNAVAILABLE_CRITICAL_EXTENSION w_NO_SUCH_ATTRIBUTE w_UNDEFINED_ATTRIBUTE_TYPE w_INAPPROPRIATE_MATCHING w_INVALID_ATTRIBUTE_SYNTAX w_NO_SUCH_OBJECT w_INVALID_DN_SYNTAX w_INVALID_CREDENTIALS w_UNWILLING_TO_PERFORM h0 n0 _ T119.heap _
        rw [show T119.heap = T72.heap from (hh119)]
        exact ⟨rfl, N119⟩), hWW.1, hWW.2.1, hWW.2.2.1, hWW.2.2.2.mono (by decide) (by decide)⟩
    refine own_of (S' := T119.setTop (mkF m 124 #[.val (.int p1), .val (.int p2), .val (.int p3), .val (.int p4), .val (.int p5), .val (.int ((p3 &&& (2147483647 : Int32)) % (15 : Int32))), .val (.int ((p4 &&& (2147483647 : Int32)) % (15 : Int32))), .val (.int (1 : Int32)), .val (.int (own_code ((p4 &&& (2147483647 : Int32)) % (15 : Int32)))), .val (.ref b64), .val (.int (own_is (own_code ((p4 &&& (2147483647 : Int32)) % (15 : Int32))) (own_code ((p3 &&& (2147483647 : Int32)) % (15 : Int32))))), .val (.int (1 : Int32))] [])) (fun t k => XS.icmpYes X119.here hx rfl (pc0 := 117) (pc' := 124) rfl (hb hby at_117) rfl (feq hc117_122).2 (by decide) (by decide) k) ?_
    exact (own_dx1 hc85_121 hc117_122).elim
  refine own_of (S' := T119.setTop (mkF m 92 #[.val (.int p1), .val (.int p2), .val (.int p3), .val (.int p4), .val (.int p5), .val (.int ((p3 &&& (2147483647 : Int32)) % (15 : Int32))), .val (.int ((p4 &&& (2147483647 : Int32)) % (15 : Int32))), .val (.int (1 : Int32)), .val (.int (own_code ((p4 &&& (2147483647 : Int32)) % (15 : Int32)))), .val (.ref b64), .val (.int (own_is (own_code ((p4 &&& (2147483647 : Int32)) % (15 : Int32))) (own_code ((p3 &&& (2147483647 : Int32)) % (15 : Int32))))), .unset] [])) (fun t k => XS.icmpYes X119.here hx rfl (pc0 := 85) (pc' := 92) rfl (hb hby at_85) rfl (feq hc85_121).2 (by decide) (by decide) k) ?_
  refine own_of (S' := T119.setTop (mkF m 93 #[.val (.int p1), .val (.int p2), .val (.int p3), .val (.int p4), .val (.int p5), .val (.int ((p3 &&& (2147483647 : Int32)) % (15 : Int32))), .val (.int ((p4 &&& (2147483647 : Int32)) % (15 : Int32))), .val (.int (1 : Int32)), .val (.int (own_code ((p4 &&& (2147483647 : Int32)) % (15 : Int32)))), .val (.ref b64), .val (.int (own_is (own_code ((p4 &&& (2147483647 : Int32)) % (15 : Int32))) (own_code ((p3 &&& (2147483647 : Int32)) % (15 : Int32))))), .unset] [(.int (0 : Int32))])) (fun t k => XS.iconst X119.here hx rfl (hb hby at_92) k) ?_
  refine own_of (S' := T119.setTop (mkF m 111 #[.val (.int p1), .val (.int p2), .val (.int p3), .val (.int p4), .val (.int p5), .val (.int ((p3 &&& (2147483647 : Int32)) % (15 : Int32))), .val (.int ((p4 &&& (2147483647 : Int32)) % (15 : Int32))), .val (.int (1 : Int32)), .val (.int (own_code ((p4 &&& (2147483647 : Int32)) % (15 : Int32)))), .val (.ref b64), .val (.int (own_is (own_code ((p4 &&& (2147483647 : Int32)) % (15 : Int32))) (own_code ((p3 &&& (2147483647 : Int32)) % (15 : Int32))))), .unset] [(.int (0 : Int32))])) (fun t k => XS.goto X119.here hx rfl (pc0 := 93) (pc' := 111) rfl (hb hby at_93) (by decide) (by decide) k) ?_
  refine own_of (S' := T119.setTop (mkF m 113 #[.val (.int p1), .val (.int p2), .val (.int p3), .val (.int p4), .val (.int p5), .val (.int ((p3 &&& (2147483647 : Int32)) % (15 : Int32))), .val (.int ((p4 &&& (2147483647 : Int32)) % (15 : Int32))), .val (.int (1 : Int32)), .val (.int (own_code ((p4 &&& (2147483647 : Int32)) % (15 : Int32)))), .val (.ref b64), .val (.int (own_is (own_code ((p4 &&& (2147483647 : Int32)) % (15 : Int32))) (own_code ((p3 &&& (2147483647 : Int32)) % (15 : Int32))))), .val (.int (0 : Int32))] [])) (fun t k => XS.istore X119.here hx rfl (hb hby at_111) rfl (l' := #[.val (.int p1), .val (.int p2), .val (.int p3), .val (.int p4), .val (.int p5), .val (.int ((p3 &&& (2147483647 : Int32)) % (15 : Int32))), .val (.int ((p4 &&& (2147483647 : Int32)) % (15 : Int32))), .val (.int (1 : Int32)), .val (.int (own_code ((p4 &&& (2147483647 : Int32)) % (15 : Int32)))), .val (.ref b64), .val (.int (own_is (own_code ((p4 &&& (2147483647 : Int32)) % (15 : Int32))) (own_code ((p3 &&& (2147483647 : Int32)) % (15 : Int32))))), .val (.int (0 : Int32))]) rfl k) ?_
  refine own_of (S' := T119.setTop (mkF m 115 #[.val (.int p1), .val (.int p2), .val (.int p3), .val (.int p4), .val (.int p5), .val (.int ((p3 &&& (2147483647 : Int32)) % (15 : Int32))), .val (.int ((p4 &&& (2147483647 : Int32)) % (15 : Int32))), .val (.int (1 : Int32)), .val (.int (own_code ((p4 &&& (2147483647 : Int32)) % (15 : Int32)))), .val (.ref b64), .val (.int (own_is (own_code ((p4 &&& (2147483647 : Int32)) % (15 : Int32))) (own_code ((p3 &&& (2147483647 : Int32)) % (15 : Int32))))), .val (.int (0 : Int32))] [(.int (own_is (own_code ((p4 &&& (2147483647 : Int32)) % (15 : Int32))) (own_code ((p3 &&& (2147483647 : Int32)) % (15 : Int32)))))])) (fun t k => XS.iload X119.here hx rfl (hb hby at_113) rfl k) ?_
  refine own_of (S' := T119.setTop (mkF m 117 #[.val (.int p1), .val (.int p2), .val (.int p3), .val (.int p4), .val (.int p5), .val (.int ((p3 &&& (2147483647 : Int32)) % (15 : Int32))), .val (.int ((p4 &&& (2147483647 : Int32)) % (15 : Int32))), .val (.int (1 : Int32)), .val (.int (own_code ((p4 &&& (2147483647 : Int32)) % (15 : Int32)))), .val (.ref b64), .val (.int (own_is (own_code ((p4 &&& (2147483647 : Int32)) % (15 : Int32))) (own_code ((p3 &&& (2147483647 : Int32)) % (15 : Int32))))), .val (.int (0 : Int32))] [(.int (0 : Int32)), (.int (own_is (own_code ((p4 &&& (2147483647 : Int32)) % (15 : Int32))) (own_code ((p3 &&& (2147483647 : Int32)) % (15 : Int32)))))])) (fun t k => XS.iload X119.here hx rfl (hb hby at_115) rfl k) ?_
  by_cases hc117_123 : (own_is (own_code ((p4 &&& (2147483647 : Int32)) % (15 : Int32))) (own_code ((p3 &&& (2147483647 : Int32)) % (15 : Int32)))) = (0 : Int32)
  · refine own_of (S' := T119.setTop (mkF m 120 #[.val (.int p1), .val (.int p2), .val (.int p3), .val (.int p4), .val (.int p5), .val (.int ((p3 &&& (2147483647 : Int32)) % (15 : Int32))), .val (.int ((p4 &&& (2147483647 : Int32)) % (15 : Int32))), .val (.int (1 : Int32)), .val (.int (own_code ((p4 &&& (2147483647 : Int32)) % (15 : Int32)))), .val (.ref b64), .val (.int (own_is (own_code ((p4 &&& (2147483647 : Int32)) % (15 : Int32))) (own_code ((p3 &&& (2147483647 : Int32)) % (15 : Int32))))), .val (.int (0 : Int32))] [])) (fun t k => XS.icmpNo X119.here hx rfl (hb hby at_117) rfl (teq hc117_123).2 k) ?_
    refine own_of (S' := T119.setTop (mkF m 121 #[.val (.int p1), .val (.int p2), .val (.int p3), .val (.int p4), .val (.int p5), .val (.int ((p3 &&& (2147483647 : Int32)) % (15 : Int32))), .val (.int ((p4 &&& (2147483647 : Int32)) % (15 : Int32))), .val (.int (1 : Int32)), .val (.int (own_code ((p4 &&& (2147483647 : Int32)) % (15 : Int32)))), .val (.ref b64), .val (.int (own_is (own_code ((p4 &&& (2147483647 : Int32)) % (15 : Int32))) (own_code ((p3 &&& (2147483647 : Int32)) % (15 : Int32))))), .val (.int (0 : Int32))] [(.int (1 : Int32))])) (fun t k => XS.iconst X119.here hx rfl (hb hby at_120) k) ?_
    refine own_of (S' := T119.setTop (mkF m 125 #[.val (.int p1), .val (.int p2), .val (.int p3), .val (.int p4), .val (.int p5), .val (.int ((p3 &&& (2147483647 : Int32)) % (15 : Int32))), .val (.int ((p4 &&& (2147483647 : Int32)) % (15 : Int32))), .val (.int (1 : Int32)), .val (.int (own_code ((p4 &&& (2147483647 : Int32)) % (15 : Int32)))), .val (.ref b64), .val (.int (own_is (own_code ((p4 &&& (2147483647 : Int32)) % (15 : Int32))) (own_code ((p3 &&& (2147483647 : Int32)) % (15 : Int32))))), .val (.int (0 : Int32))] [(.int (1 : Int32))])) (fun t k => XS.goto X119.here hx rfl (pc0 := 121) (pc' := 125) rfl (hb hby at_121) (by decide) (by decide) k) ?_
    obtain ⟨fs, hr, hrun, hended, hWW⟩ := X119.leaveW (s := s) hS66 (by rw [show T119.heap = T72.heap from (hh119)]; exact (Nat.le_trans hk66 K72.1)) (v := some (.int (1 : Int32))) (fun h => by rw [Bd.returns] at h; cases h)
    subst hKd
    exact ⟨_, _, retN X119 hx (t := .boolean) Bd.returns (by simp) (hb hby at_125) hr, hrun, hended, _, _, rfl, (by
      show Q0 Z p1 p2 p3 p4 p5 w_SUCCESS w_PROTOCOL_ERROR w_SIZE_LIMIT_EXCEEDED w_COMPARE_FALSE w_COMPARE_TRUE w_AUTH_METHOD_NOT_SUPPORTED w_UNAVAILABLE_CRITICAL_EXTENSION w_NO_SUCH_ATTRIBUTE w_UNDEFINED_ATTRIBUTE_TYPE w_INAPPROPRIATE_MATCHING w_INVALID_ATTRIBUTE_SYNTAX w_NO_SUCH_OBJECT w_INVALID_DN_SYNTAX w_INVALID_CREDENTIALS w_UNWILLING_TO_PERFORM h0 n0 _ T119.heap _
      rw [show T119.heap = T72.heap from (hh119)]
      exact ⟨rfl, N119⟩), hWW.1, hWW.2.1, hWW.2.2.1, hWW.2.2.2.mono (by decide) (by decide)⟩
  refine own_of (S' := T119.setTop (mkF m 124 #[.val (.int p1), .val (.int p2), .val (.int p3), .val (.int p4), .val (.int p5), .val (.int ((p3 &&& (2147483647 : Int32)) % (15 : Int32))), .val (.int ((p4 &&& (2147483647 : Int32)) % (15 : Int32))), .val (.int (1 : Int32)), .val (.int (own_code ((p4 &&& (2147483647 : Int32)) % (15 : Int32)))), .val (.ref b64), .val (.int (own_is (own_code ((p4 &&& (2147483647 : Int32)) % (15 : Int32))) (own_code ((p3 &&& (2147483647 : Int32)) % (15 : Int32))))), .val (.int (0 : Int32))] [])) (fun t k => XS.icmpYes X119.here hx rfl (pc0 := 117) (pc' := 124) rfl (hb hby at_117) rfl (feq hc117_123).2 (by decide) (by decide) k) ?_
  exact (own_dx0 hc85_121 hc117_123).elim
set_option maxRecDepth 65536 in
set_option maxHeartbeats 40000000 in
theorem comes_1 {Post : Tables → Env → Array Value → State → Outcome → State → Prop} (hpost : ∀ tb e args s v u, (limb_1_1.after args s (.returned v) u = true ∧ limb_1_2.after args s (.returned v) u = true ∧ True) → ReturnedEndW s (.returned v) u (Jvm.fieldLocs frame_1_writes args s ++ Jvm.arrayLocs frame_1_arrays args s ++ Jvm.staticLocs frame_1_statics s) 16 1152 → Post tb e args s (.returned v) u) :
    ArmFor flags0 classFile x code maxLocals ret World_1 tables_1 room_1 Calls_1 rest_1 Pre_1 Post := by
  intro l hfl _ _ p e ha hc hk s m args below hf hA hF happ hP
  obtain ⟨hcalls, hrest, hpre⟩ := hP
  obtain ⟨-, -, -, hnamed, -, -, -, hat⟩ := (Spec.applies_iff hf).mp happ
  obtain ⟨hg, hn⟩ := and_e (Cond.before_iff.mp (show (Jvm.Cond.and given_1 narrow_1).before args s = true from hpre))
  obtain ⟨g1a, g1b⟩ := and_e hg
  obtain ⟨g2a, g2b⟩ := and_e g1b
  obtain ⟨g3a, g3b⟩ := and_e g2b
  obtain ⟨g4a, g4b⟩ := and_e g3b
  obtain ⟨g5a, g5b⟩ := and_e g4b
  obtain ⟨g6a, g6b⟩ := and_e hn
  obtain ⟨g7a, g7b⟩ := and_e g6b
  obtain ⟨g8a, g8b⟩ := and_e g7b
  obtain ⟨g9a, g9b⟩ := and_e g8b
  obtain ⟨g10a, g10b⟩ := and_e g9b
  obtain ⟨g11a, g11b⟩ := and_e g10b
  obtain ⟨g12a, g12b⟩ := and_e g11b
  obtain ⟨g13a, g13b⟩ := and_e g12b
  obtain ⟨g14a, g14b⟩ := and_e g13b
  obtain ⟨g15a, g15b⟩ := and_e g14b
  obtain ⟨g16a, g16b⟩ := and_e g15b
  obtain ⟨g17a, g17b⟩ := and_e g16b
  obtain ⟨g18a, g18b⟩ := and_e g17b
  obtain ⟨g19a, g19b⟩ := and_e g18b
  obtain ⟨g20a, g20b⟩ := and_e g19b
  obtain ⟨g21a, g21b⟩ := and_e g20b
  obtain ⟨g22a, g22b⟩ := and_e g21b
  obtain ⟨g23a, g23b⟩ := and_e g22b
  obtain ⟨g24a, g24b⟩ := and_e g23b
  obtain ⟨g25a, g25b⟩ := and_e g24b
  obtain ⟨g26a, g26b⟩ := and_e g25b
  obtain ⟨g27a, g27b⟩ := and_e g26b
  obtain ⟨g28a, g28b⟩ := and_e g27b
  obtain ⟨g29a, g29b⟩ := and_e g28b
  obtain ⟨g30a, g30b⟩ := and_e g29b
  obtain ⟨g31a, g31b⟩ := and_e g30b
  obtain ⟨g32a, g32b⟩ := and_e g31b
  obtain ⟨g33a, g33b⟩ := and_e g32b
  obtain ⟨g34a, g34b⟩ := and_e g33b
  obtain ⟨w0_, w1_, w2_, w3_, w4_, rfl⟩ : ∃ w0_ w1_ w2_ w3_ w4_ : Value, args = #[w0_, w1_, w2_, w3_, w4_] := by
    have hs : args.size = 5 := by simpa [Cond.value, given_1] using g1a
    obtain ⟨L⟩ := args
    match L, hs with
    | [w0_, w1_, w2_, w3_, w4_], _ => exact ⟨w0_, w1_, w2_, w3_, w4_, rfl⟩
  have hw := fun d (hd : d ∈ tables_1) => atoms_spec (ws := Jvm.Cond.code x code maxLocals ret :: tables_1) hat d (List.mem_cons_of_mem _ hd)
  have hfit : Fit s := fun {y c} hc i hi => by
    obtain ⟨ha, rfl⟩ := Array.getElem?_eq_some_iff.mp hc
    have q := List.all_eq_true.mp ((Array.all_eq_true_iff_forall_mem.mp hF) _ (Array.getElem_mem ha)) i (List.mem_range.mpr hi)
    simpa [Array.getElem?_eq_getElem hi] using q
  obtain ⟨p1, ei0⟩ := is_v g2a
  obtain rfl : w0_ = (.int p1) := Option.some.inj ei0
  obtain ⟨p2, ei1⟩ := is_v g3a
  obtain rfl : w1_ = (.int p2) := Option.some.inj ei1
  obtain ⟨p3, ei2⟩ := is_v g4a
  obtain rfl : w2_ = (.int p3) := Option.some.inj ei2
  obtain ⟨p4, ei3⟩ := is_v g5a
  obtain rfl : w3_ = (.int p4) := Option.some.inj ei3
  obtain ⟨p5, ei4⟩ := is_v g5b
  obtain rfl : w4_ = (.int p5) := Option.some.inj ei4
  obtain ⟨w_SIZE_LIMIT_EXCEEDED, ev_w_SIZE_LIMIT_EXCEEDED⟩ := exa_v g6a
  have S_SIZE_LIMIT_EXCEEDED : Sta s s.heap "com/example/waypost/waypost/ldap/ResultCode" "SIZE_LIMIT_EXCEEDED" "Lcom/example/waypost/waypost/ldap/ResultCode;" (.ref w_SIZE_LIMIT_EXCEEDED) := Sta.start ev_w_SIZE_LIMIT_EXCEEDED (Or.inr ⟨(hw _ (List.mem_of_getElem? (i := 36) rfl)), (hw _ (List.mem_of_getElem? (i := 37) rfl))⟩)
  have E_w_SIZE_LIMIT_EXCEEDED : Exa s s.heap w_SIZE_LIMIT_EXCEEDED "com/example/waypost/waypost/ldap/ResultCode" := Exa.start ev_w_SIZE_LIMIT_EXCEEDED g6a
  obtain ⟨w_INVALID_ATTRIBUTE_SYNTAX, ev_w_INVALID_ATTRIBUTE_SYNTAX⟩ := exa_v g8a
  have S_INVALID_ATTRIBUTE_SYNTAX : Sta s s.heap "com/example/waypost/waypost/ldap/ResultCode" "INVALID_ATTRIBUTE_SYNTAX" "Lcom/example/waypost/waypost/ldap/ResultCode;" (.ref w_INVALID_ATTRIBUTE_SYNTAX) := Sta.start ev_w_INVALID_ATTRIBUTE_SYNTAX (Or.inr ⟨(hw _ (List.mem_of_getElem? (i := 36) rfl)), (hw _ (List.mem_of_getElem? (i := 54) rfl))⟩)
  have E_w_INVALID_ATTRIBUTE_SYNTAX : Exa s s.heap w_INVALID_ATTRIBUTE_SYNTAX "com/example/waypost/waypost/ldap/ResultCode" := Exa.start ev_w_INVALID_ATTRIBUTE_SYNTAX g8a
  obtain ⟨w_COMPARE_FALSE, ev_w_COMPARE_FALSE⟩ := exa_v g10a
  have S_COMPARE_FALSE : Sta s s.heap "com/example/waypost/waypost/ldap/ResultCode" "COMPARE_FALSE" "Lcom/example/waypost/waypost/ldap/ResultCode;" (.ref w_COMPARE_FALSE) := Sta.start ev_w_COMPARE_FALSE (Or.inr ⟨(hw _ (List.mem_of_getElem? (i := 36) rfl)), (hw _ (List.mem_of_getElem? (i := 56) rfl))⟩)
  have E_w_COMPARE_FALSE : Exa s s.heap w_COMPARE_FALSE "com/example/waypost/waypost/ldap/ResultCode" := Exa.start ev_w_COMPARE_FALSE g10a
  obtain ⟨w_SUCCESS, ev_w_SUCCESS⟩ := exa_v g12a
  have S_SUCCESS : Sta s s.heap "com/example/waypost/waypost/ldap/ResultCode" "SUCCESS" "Lcom/example/waypost/waypost/ldap/ResultCode;" (.ref w_SUCCESS) := Sta.start ev_w_SUCCESS (Or.inr ⟨(hw _ (List.mem_of_getElem? (i := 36) rfl)), (hw _ (List.mem_of_getElem? (i := 58) rfl))⟩)
  have E_w_SUCCESS : Exa s s.heap w_SUCCESS "com/example/waypost/waypost/ldap/ResultCode" := Exa.start ev_w_SUCCESS g12a
  obtain ⟨w_NO_SUCH_OBJECT, ev_w_NO_SUCH_OBJECT⟩ := exa_v g14a
  have S_NO_SUCH_OBJECT : Sta s s.heap "com/example/waypost/waypost/ldap/ResultCode" "NO_SUCH_OBJECT" "Lcom/example/waypost/waypost/ldap/ResultCode;" (.ref w_NO_SUCH_OBJECT) := Sta.start ev_w_NO_SUCH_OBJECT (Or.inr ⟨(hw _ (List.mem_of_getElem? (i := 36) rfl)), (hw _ (List.mem_of_getElem? (i := 60) rfl))⟩)
  have E_w_NO_SUCH_OBJECT : Exa s s.heap w_NO_SUCH_OBJECT "com/example/waypost/waypost/ldap/ResultCode" := Exa.start ev_w_NO_SUCH_OBJECT g14a
  obtain ⟨w_UNAVAILABLE_CRITICAL_EXTENSION, ev_w_UNAVAILABLE_CRITICAL_EXTENSION⟩ := exa_v g16a
  have S_UNAVAILABLE_CRITICAL_EXTENSION : Sta s s.heap "com/example/waypost/waypost/ldap/ResultCode" "UNAVAILABLE_CRITICAL_EXTENSION" "Lcom/example/waypost/waypost/ldap/ResultCode;" (.ref w_UNAVAILABLE_CRITICAL_EXTENSION) := Sta.start ev_w_UNAVAILABLE_CRITICAL_EXTENSION (Or.inr ⟨(hw _ (List.mem_of_getElem? (i := 36) rfl)), (hw _ (List.mem_of_getElem? (i := 62) rfl))⟩)
  have E_w_UNAVAILABLE_CRITICAL_EXTENSION : Exa s s.heap w_UNAVAILABLE_CRITICAL_EXTENSION "com/example/waypost/waypost/ldap/ResultCode" := Exa.start ev_w_UNAVAILABLE_CRITICAL_EXTENSION g16a
  obtain ⟨w_PROTOCOL_ERROR, ev_w_PROTOCOL_ERROR⟩ := exa_v g18a
  have S_PROTOCOL_ERROR : Sta s s.heap "com/example/waypost/waypost/ldap/ResultCode" "PROTOCOL_ERROR" "Lcom/example/waypost/waypost/ldap/ResultCode;" (.ref w_PROTOCOL_ERROR) := Sta.start ev_w_PROTOCOL_ERROR (Or.inr ⟨(hw _ (List.mem_of_getElem? (i := 36) rfl)), (hw _ (List.mem_of_getElem? (i := 64) rfl))⟩)
  have E_w_PROTOCOL_ERROR : Exa s s.heap w_PROTOCOL_ERROR "com/example/waypost/waypost/ldap/ResultCode" := Exa.start ev_w_PROTOCOL_ERROR g18a
  obtain ⟨w_INVALID_DN_SYNTAX, ev_w_INVALID_DN_SYNTAX⟩ := exa_v g20a
  have S_INVALID_DN_SYNTAX : Sta s s.heap "com/example/waypost/waypost/ldap/ResultCode" "INVALID_DN_SYNTAX" "Lcom/example/waypost/waypost/ldap/ResultCode;" (.ref w_INVALID_DN_SYNTAX) := Sta.start ev_w_INVALID_DN_SYNTAX (Or.inr ⟨(hw _ (List.mem_of_getElem? (i := 36) rfl)), (hw _ (List.mem_of_getElem? (i := 66) rfl))⟩)
  have E_w_INVALID_DN_SYNTAX : Exa s s.heap w_INVALID_DN_SYNTAX "com/example/waypost/waypost/ldap/ResultCode" := Exa.start ev_w_INVALID_DN_SYNTAX g20a
  obtain ⟨w_UNWILLING_TO_PERFORM, ev_w_UNWILLING_TO_PERFORM⟩ := exa_v g22a
  have S_UNWILLING_TO_PERFORM : Sta s s.heap "com/example/waypost/waypost/ldap/ResultCode" "UNWILLING_TO_PERFORM" "Lcom/example/waypost/waypost/ldap/ResultCode;" (.ref w_UNWILLING_TO_PERFORM) := Sta.start ev_w_UNWILLING_TO_PERFORM (Or.inr ⟨(hw _ (List.mem_of_getElem? (i := 36) rfl)), (hw _ (List.mem_of_getElem? (i := 68) rfl))⟩)
  have E_w_UNWILLING_TO_PERFORM : Exa s s.heap w_UNWILLING_TO_PERFORM "com/example/waypost/waypost/ldap/ResultCode" := Exa.start ev_w_UNWILLING_TO_PERFORM g22a
  obtain ⟨w_INAPPROPRIATE_MATCHING, ev_w_INAPPROPRIATE_MATCHING⟩ := exa_v g24a
  have S_INAPPROPRIATE_MATCHING : Sta s s.heap "com/example/waypost/waypost/ldap/ResultCode" "INAPPROPRIATE_MATCHING" "Lcom/example/waypost/waypost/ldap/ResultCode;" (.ref w_INAPPROPRIATE_MATCHING) := Sta.start ev_w_INAPPROPRIATE_MATCHING (Or.inr ⟨(hw _ (List.mem_of_getElem? (i := 36) rfl)), (hw _ (List.mem_of_getElem? (i := 70) rfl))⟩)
  have E_w_INAPPROPRIATE_MATCHING : Exa s s.heap w_INAPPROPRIATE_MATCHING "com/example/waypost/waypost/ldap/ResultCode" := Exa.start ev_w_INAPPROPRIATE_MATCHING g24a
  obtain ⟨w_AUTH_METHOD_NOT_SUPPORTED, ev_w_AUTH_METHOD_NOT_SUPPORTED⟩ := exa_v g26a
  have S_AUTH_METHOD_NOT_SUPPORTED : Sta s s.heap "com/example/waypost/waypost/ldap/ResultCode" "AUTH_METHOD_NOT_SUPPORTED" "Lcom/example/waypost/waypost/ldap/ResultCode;" (.ref w_AUTH_METHOD_NOT_SUPPORTED) := Sta.start ev_w_AUTH_METHOD_NOT_SUPPORTED (Or.inr ⟨(hw _ (List.mem_of_getElem? (i := 36) rfl)), (hw _ (List.mem_of_getElem? (i := 72) rfl))⟩)
  have E_w_AUTH_METHOD_NOT_SUPPORTED : Exa s s.heap w_AUTH_METHOD_NOT_SUPPORTED "com/example/waypost/waypost/ldap/ResultCode" := Exa.start ev_w_AUTH_METHOD_NOT_SUPPORTED g26a
  obtain ⟨w_INVALID_CREDENTIALS, ev_w_INVALID_CREDENTIALS⟩ := exa_v g28a
  have S_INVALID_CREDENTIALS : Sta s s.heap "com/example/waypost/waypost/ldap/ResultCode" "INVALID_CREDENTIALS" "Lcom/example/waypost/waypost/ldap/ResultCode;" (.ref w_INVALID_CREDENTIALS) := Sta.start ev_w_INVALID_CREDENTIALS (Or.inr ⟨(hw _ (List.mem_of_getElem? (i := 36) rfl)), (hw _ (List.mem_of_getElem? (i := 74) rfl))⟩)
  have E_w_INVALID_CREDENTIALS : Exa s s.heap w_INVALID_CREDENTIALS "com/example/waypost/waypost/ldap/ResultCode" := Exa.start ev_w_INVALID_CREDENTIALS g28a
  obtain ⟨w_NO_SUCH_ATTRIBUTE, ev_w_NO_SUCH_ATTRIBUTE⟩ := exa_v g30a
  have S_NO_SUCH_ATTRIBUTE : Sta s s.heap "com/example/waypost/waypost/ldap/ResultCode" "NO_SUCH_ATTRIBUTE" "Lcom/example/waypost/waypost/ldap/ResultCode;" (.ref w_NO_SUCH_ATTRIBUTE) := Sta.start ev_w_NO_SUCH_ATTRIBUTE (Or.inr ⟨(hw _ (List.mem_of_getElem? (i := 36) rfl)), (hw _ (List.mem_of_getElem? (i := 76) rfl))⟩)
  have E_w_NO_SUCH_ATTRIBUTE : Exa s s.heap w_NO_SUCH_ATTRIBUTE "com/example/waypost/waypost/ldap/ResultCode" := Exa.start ev_w_NO_SUCH_ATTRIBUTE g30a
  obtain ⟨w_COMPARE_TRUE, ev_w_COMPARE_TRUE⟩ := exa_v g32a
  have S_COMPARE_TRUE : Sta s s.heap "com/example/waypost/waypost/ldap/ResultCode" "COMPARE_TRUE" "Lcom/example/waypost/waypost/ldap/ResultCode;" (.ref w_COMPARE_TRUE) := Sta.start ev_w_COMPARE_TRUE (Or.inr ⟨(hw _ (List.mem_of_getElem? (i := 36) rfl)), (hw _ (List.mem_of_getElem? (i := 78) rfl))⟩)
  have E_w_COMPARE_TRUE : Exa s s.heap w_COMPARE_TRUE "com/example/waypost/waypost/ldap/ResultCode" := Exa.start ev_w_COMPARE_TRUE g32a
  obtain ⟨w_UNDEFINED_ATTRIBUTE_TYPE, ev_w_UNDEFINED_ATTRIBUTE_TYPE⟩ := exa_v g34a
  have S_UNDEFINED_ATTRIBUTE_TYPE : Sta s s.heap "com/example/waypost/waypost/ldap/ResultCode" "UNDEFINED_ATTRIBUTE_TYPE" "Lcom/example/waypost/waypost/ldap/ResultCode;" (.ref w_UNDEFINED_ATTRIBUTE_TYPE) := Sta.start ev_w_UNDEFINED_ATTRIBUTE_TYPE (Or.inr ⟨(hw _ (List.mem_of_getElem? (i := 36) rfl)), (hw _ (List.mem_of_getElem? (i := 80) rfl))⟩)
  have E_w_UNDEFINED_ATTRIBUTE_TYPE : Exa s s.heap w_UNDEFINED_ATTRIBUTE_TYPE "com/example/waypost/waypost/ldap/ResultCode" := Exa.start ev_w_UNDEFINED_ATTRIBUTE_TYPE g34a
  have F_code_w_SIZE_LIMIT_EXCEEDED : Fld s s.heap w_SIZE_LIMIT_EXCEEDED "com/example/waypost/waypost/ldap/ResultCode" "code" "I" (.int (4 : Int32)) := Fld.start ((fld_at ev_w_SIZE_LIMIT_EXCEEDED).symm.trans (own_eqI g7a))
  have F_code_w_INVALID_ATTRIBUTE_SYNTAX : Fld s s.heap w_INVALID_ATTRIBUTE_SYNTAX "com/example/waypost/waypost/ldap/ResultCode" "code" "I" (.int (21 : Int32)) := Fld.start ((fld_at ev_w_INVALID_ATTRIBUTE_SYNTAX).symm.trans (own_eqI g9a))
  have F_code_w_COMPARE_FALSE : Fld s s.heap w_COMPARE_FALSE "com/example/waypost/waypost/ldap/ResultCode" "code" "I" (.int (5 : Int32)) := Fld.start ((fld_at ev_w_COMPARE_FALSE).symm.trans (own_eqI g11a))
  have F_code_w_SUCCESS : Fld s s.heap w_SUCCESS "com/example/waypost/waypost/ldap/ResultCode" "code" "I" (.int (0 : Int32)) := Fld.start ((fld_at ev_w_SUCCESS).symm.trans (own_eqI g13a))
  have F_code_w_NO_SUCH_OBJECT : Fld s s.heap w_NO_SUCH_OBJECT "com/example/waypost/waypost/ldap/ResultCode" "code" "I" (.int (32 : Int32)) := Fld.start ((fld_at ev_w_NO_SUCH_OBJECT).symm.trans (own_eqI g15a))
  have F_code_w_UNAVAILABLE_CRITICAL_EXTENSION : Fld s s.heap w_UNAVAILABLE_CRITICAL_EXTENSION "com/example/waypost/waypost/ldap/ResultCode" "code" "I" (.int (12 : Int32)) := Fld.start ((fld_at ev_w_UNAVAILABLE_CRITICAL_EXTENSION).symm.trans (own_eqI g17a))
  have F_code_w_PROTOCOL_ERROR : Fld s s.heap w_PROTOCOL_ERROR "com/example/waypost/waypost/ldap/ResultCode" "code" "I" (.int (2 : Int32)) := Fld.start ((fld_at ev_w_PROTOCOL_ERROR).symm.trans (own_eqI g19a))
  have F_code_w_INVALID_DN_SYNTAX : Fld s s.heap w_INVALID_DN_SYNTAX "com/example/waypost/waypost/ldap/ResultCode" "code" "I" (.int (34 : Int32)) := Fld.start ((fld_at ev_w_INVALID_DN_SYNTAX).symm.trans (own_eqI g21a))
  have F_code_w_UNWILLING_TO_PERFORM : Fld s s.heap w_UNWILLING_TO_PERFORM "com/example/waypost/waypost/ldap/ResultCode" "code" "I" (.int (53 : Int32)) := Fld.start ((fld_at ev_w_UNWILLING_TO_PERFORM).symm.trans (own_eqI g23a))
  have F_code_w_INAPPROPRIATE_MATCHING : Fld s s.heap w_INAPPROPRIATE_MATCHING "com/example/waypost/waypost/ldap/ResultCode" "code" "I" (.int (18 : Int32)) := Fld.start ((fld_at ev_w_INAPPROPRIATE_MATCHING).symm.trans (own_eqI g25a))
  have F_code_w_AUTH_METHOD_NOT_SUPPORTED : Fld s s.heap w_AUTH_METHOD_NOT_SUPPORTED "com/example/waypost/waypost/ldap/ResultCode" "code" "I" (.int (7 : Int32)) := Fld.start ((fld_at ev_w_AUTH_METHOD_NOT_SUPPORTED).symm.trans (own_eqI g27a))
  have F_code_w_INVALID_CREDENTIALS : Fld s s.heap w_INVALID_CREDENTIALS "com/example/waypost/waypost/ldap/ResultCode" "code" "I" (.int (49 : Int32)) := Fld.start ((fld_at ev_w_INVALID_CREDENTIALS).symm.trans (own_eqI g29a))
  have F_code_w_NO_SUCH_ATTRIBUTE : Fld s s.heap w_NO_SUCH_ATTRIBUTE "com/example/waypost/waypost/ldap/ResultCode" "code" "I" (.int (16 : Int32)) := Fld.start ((fld_at ev_w_NO_SUCH_ATTRIBUTE).symm.trans (own_eqI g31a))
  have F_code_w_COMPARE_TRUE : Fld s s.heap w_COMPARE_TRUE "com/example/waypost/waypost/ldap/ResultCode" "code" "I" (.int (6 : Int32)) := Fld.start ((fld_at ev_w_COMPARE_TRUE).symm.trans (own_eqI g33a))
  have F_code_w_UNDEFINED_ATTRIBUTE_TYPE : Fld s s.heap w_UNDEFINED_ATTRIBUTE_TYPE "com/example/waypost/waypost/ldap/ResultCode" "code" "I" (.int (17 : Int32)) := Fld.start ((fld_at ev_w_UNDEFINED_ATTRIBUTE_TYPE).symm.trans (own_eqI g34b))
  obtain ⟨n, o, h1, h2, h3, _, L, rfl, ⟨rfl, N⟩, hq⟩ := rm0 l s _ hw tables_1 p1 p2 p3 p4 p5 w_SUCCESS w_PROTOCOL_ERROR w_SIZE_LIMIT_EXCEEDED w_COMPARE_FALSE w_COMPARE_TRUE w_AUTH_METHOD_NOT_SUPPORTED w_UNAVAILABLE_CRITICAL_EXTENSION w_NO_SUCH_ATTRIBUTE w_UNDEFINED_ATTRIBUTE_TYPE w_INAPPROPRIATE_MATCHING w_INVALID_ATTRIBUTE_SYNTAX w_NO_SUCH_OBJECT w_INVALID_DN_SYNTAX w_INVALID_CREDENTIALS w_UNWILLING_TO_PERFORM s.heap s.heap.size (Nat.le_refl _) S_SUCCESS S_PROTOCOL_ERROR S_SIZE_LIMIT_EXCEEDED S_COMPARE_FALSE S_COMPARE_TRUE S_AUTH_METHOD_NOT_SUPPORTED S_UNAVAILABLE_CRITICAL_EXTENSION S_NO_SUCH_ATTRIBUTE S_UNDEFINED_ATTRIBUTE_TYPE S_INAPPROPRIATE_MATCHING S_INVALID_ATTRIBUTE_SYNTAX S_NO_SUCH_OBJECT S_INVALID_DN_SYNTAX S_INVALID_CREDENTIALS S_UNWILLING_TO_PERFORM E_w_SUCCESS E_w_PROTOCOL_ERROR E_w_SIZE_LIMIT_EXCEEDED E_w_COMPARE_FALSE E_w_COMPARE_TRUE E_w_AUTH_METHOD_NOT_SUPPORTED E_w_UNAVAILABLE_CRITICAL_EXTENSION E_w_NO_SUCH_ATTRIBUTE E_w_UNDEFINED_ATTRIBUTE_TYPE E_w_INAPPROPRIATE_MATCHING E_w_INVALID_ATTRIBUTE_SYNTAX E_w_NO_SUCH_OBJECT E_w_INVALID_DN_SYNTAX E_w_INVALID_CREDENTIALS E_w_UNWILLING_TO_PERFORM F_code_w_SUCCESS F_code_w_PROTOCOL_ERROR F_code_w_SIZE_LIMIT_EXCEEDED F_code_w_COMPARE_FALSE F_code_w_COMPARE_TRUE F_code_w_AUTH_METHOD_NOT_SUPPORTED F_code_w_UNAVAILABLE_CRITICAL_EXTENSION F_code_w_NO_SUCH_ATTRIBUTE F_code_w_UNDEFINED_ATTRIBUTE_TYPE F_code_w_INAPPROPRIATE_MATCHING F_code_w_INVALID_ATTRIBUTE_SYNTAX F_code_w_NO_SUCH_OBJECT F_code_w_INVALID_DN_SYNTAX F_code_w_INVALID_CREDENTIALS F_code_w_UNWILLING_TO_PERFORM p e ha hc hk s m _ below hf ((Spec.applies_iff_loose hf).mp happ).1 ⟨rfl, State.Warmed39.refl s, rfl⟩ trivial
  refine ⟨n, _, h1, h2, h3, hpost _ _ _ _ _ _ ⟨Cond.after_iff.mpr rfl, Cond.after_iff.mpr (eq_i res_at (Term.int_eval (1)) rfl), trivial⟩ ⟨hq.1, hq.2.1, hq.2.2.1, (hq.2.2.2.sift fun y hy => Or.inr (N y hy)).mono (by decide) (by decide)⟩⟩
theorem main_1_1 : Claimed_1_1 := comes_1 fun _ _ _ _ _ _ h hF => ⟨h.1, hF⟩
theorem main_1_2 : Claimed_1_2 := comes_1 fun _ _ _ _ _ _ h hF => ⟨h.2.1, hF⟩
end Jvm.Pilot.@@N@@
namespace Jvm.Pilot.@@N@@
open Jvm Jvm.ClassFile Sem Op Lib Jvm.Free Jvm.Stand Jvm.Pilot.@@N@@.Jvm.D
/-! MADE BY PROGRAM (witnessworld.py) out of the Statement's table words and the real class files: 18 classes; the members and pool entries that the words name. The judged class is class 1, her method 1. -/
namespace start1
open Jvm.ClassFile
def u (s : String) : CpInfo := .utf8 (stringToUtf16 s)
/-- a pool by its gaps: so many unusable entries, then the entry; so many at the end -/
def gap : Nat → List CpInfo → List CpInfo
  | 0, r => r
  | n + 1, r => .unusable :: gap n r
def poolList (es : List (Nat × CpInfo)) (last : Nat) : List CpInfo := es.foldr (fun e r => gap e.1 (e.2 :: r)) (gap last [])
def pool (es : List (Nat × CpInfo)) (last : Nat) : Array CpInfo := ⟨poolList es last⟩
def fileOf (pool : Array CpInfo) (this : Nat) (attrs : Array Attribute := #[]) (ms : Array MethodInfo := #[]) (fl : Nat := 33) (sup : Nat := 0) (ifs : Array Nat := #[]) (fds : Array FieldInfo := #[]) : ClassFile where
  minorVersion := 0
  majorVersion := 65
  constantPool := pool
  accessFlags := fl
  thisClass := this
  superClass := sup
  interfaces := ifs
  fields := fds
  methods := ms
  attributes := attrs
def plain (name : String) (sup : Option ClassId) : Class where
  name := name
  kind := .ordinary
  loader := none
  accessFlags := 33
  super := sup
  interfaces := #[]
  cf := none
  fields := #[]
  methods := #[]
  instanceTypes := #[]
  staticTypes := #[]
  resolved := #[]
  callSites := []
  init := .initialized
  statics := none
  mirror := none

def pool0 : Array CpInfo := pool [(5, u "<init>"), (0, u "()V"), (1, .class_ 10), (1, u "java/lang/Object")] 113

def k0c0 : Code := { maxStack := 0, maxLocals := 1, code := object_method_1_code, exceptionTable := #[], attributes := #[] }
def k0m0 : Method := { name := "<init>", desc := "()V", sig := { parameters := [], returnType := none }, accessFlags := 1, code := some k0c0 }
/-- java/lang/Object -/
def k0 : Class := { plain "java/lang/Object" none with
  accessFlags := 33
  interfaces := #[]
  cf := some (fileOf pool0 8 #[] #[{ accessFlags := 1, nameIndex := 5, descriptorIndex := 6, attributes := #[] }] 33 0 #[] #[])
  fields := #[]
  methods := #[k0m0]
  instanceTypes := #[]
  staticTypes := #[]
  resolved := Array.replicate 124 none
  statics := none }

def pool1 : Array CpInfo := pool [(2, .class_ 4), (1, u "java/lang/Object"), (0, u "<init>"), (0, u "()V"), (0, .integer 2147483647), (0, .methodref 9 10), (0, .class_ 11), (0, .nameAndType 12 13), (0, u "com/example/waypost/waypost/ldap/ResultIsPinLaw"), (0, u "code"), (0, u "(I)I"), (0, .class_ 15), (0, u "com/example/waypost/waypost/ldap/LdapResponse$Result"), (0, .string 17), (0, u ""), (0, .methodref 14 19), (0, .nameAndType 5 20), (0, u "(IILjava/lang/String;Ljava/lang/String;)V"), (0, .methodref 9 22), (0, .nameAndType 23 24), (0, u "constant"), (0, u "(I)Lcom/example/waypost/waypost/ldap/ResultCode;"), (0, .methodref 14 26), (0, .nameAndType 27 28), (0, u "is"), (0, u "(Lcom/example/waypost/waypost/ldap/ResultCode;)Z"), (0, .fieldref 30 31), (0, .class_ 32), (0, .nameAndType 33 34), (0, u "com/example/waypost/waypost/ldap/ResultCode"), (0, u "SUCCESS"), (0, u "Lcom/example/waypost/waypost/ldap/ResultCode;"), (0, .fieldref 30 36), (0, .nameAndType 37 34), (0, u "PROTOCOL_ERROR"), (0, .fieldref 30 39), (0, .nameAndType 40 34), (0, u "SIZE_LIMIT_EXCEEDED"), (0, .fieldref 30 42), (0, .nameAndType 43 34), (0, u "COMPARE_FALSE"), (0, .fieldref 30 45), (0, .nameAndType 46 34), (0, u "COMPARE_TRUE"), (0, .fieldref 30 48), (0, .nameAndType 49 34), (0, u "AUTH_METHOD_NOT_SUPPORTED"), (0, .fieldref 30 51), (0, .nameAndType 52 34), (0, u "UNAVAILABLE_CRITICAL_EXTENSION"), (0, .fieldref 30 54), (0, .nameAndType 55 34), (0, u "NO_SUCH_ATTRIBUTE"), (0, .fieldref 30 57), (0, .nameAndType 58 34), (0, u "UNDEFINED_ATTRIBUTE_TYPE"), (0, .fieldref 30 60), (0, .nameAndType 61 34), (0, u "INAPPROPRIATE_MATCHING"), (0, .fieldref 30 63), (0, .nameAndType 64 34), (0, u "INVALID_ATTRIBUTE_SYNTAX"), (0, .fieldref 30 66), (0, .nameAndType 67 34), (0, u "NO_SUCH_OBJECT"), (0, .fieldref 30 69), (0, .nameAndType 70 34), (0, u "INVALID_DN_SYNTAX"), (0, .fieldref 30 72), (0, .nameAndType 73 34), (0, u "INVALID_CREDENTIALS"), (0, .fieldref 30 75), (0, .nameAndType 76 34), (0, u "UNWILLING_TO_PERFORM"), (2, u "law"), (0, u "(IIIII)Z")] 7

def k1m0 : Method := { name := "<init>", desc := "()V", sig := { parameters := [], returnType := none }, accessFlags := 2, code := none }
def k1c1 : Code := { maxStack := 6, maxLocals := 12, code := code, exceptionTable := #[], attributes := #[] }
def k1m1 : Method := { name := "law", desc := "(IIIII)Z", sig := { parameters := [.int, .int, .int, .int, .int], returnType := some .boolean }, accessFlags := 9, code := some k1c1 }
def k1c2 : Code := { maxStack := 2, maxLocals := 1, code := method_3_code, exceptionTable := #[], attributes := #[] }
def k1m2 : Method := { name := "constant", desc := "(I)Lcom/example/waypost/waypost/ldap/ResultCode;", sig := { parameters := [.int], returnType := some (.object "com/example/waypost/waypost/ldap/ResultCode") }, accessFlags := 10, code := some k1c2 }
def k1c3 : Code := { maxStack := 2, maxLocals := 1, code := method_4_code, exceptionTable := #[], attributes := #[] }
def k1m3 : Method := { name := "code", desc := "(I)I", sig := { parameters := [.int], returnType := some .int }, accessFlags := 10, code := some k1c3 }
/-- com/example/waypost/waypost/ldap/ResultIsPinLaw -/
def k1 : Class := { plain "com/example/waypost/waypost/ldap/ResultIsPinLaw" (some 0) with
  accessFlags := 49
  interfaces := #[]
  cf := some (fileOf pool1 9 #[] #[{ accessFlags := 2, nameIndex := 5, descriptorIndex := 6, attributes := #[] }, { accessFlags := 9, nameIndex := 79, descriptorIndex := 80, attributes := #[] }, { accessFlags := 10, nameIndex := 23, descriptorIndex := 24, attributes := #[] }, { accessFlags := 10, nameIndex := 12, descriptorIndex := 13, attributes := #[] }] 49 2 #[] #[])
  fields := #[]
  methods := #[k1m0, k1m1, k1m2, k1m3]
  instanceTypes := #[]
  staticTypes := #[]
  resolved := Array.replicate 88 none
  statics := none }

def pool2 : Array CpInfo := pool [(1, .methodref 2 3), (0, .class_ 4), (0, .nameAndType 5 6), (0, u "java/lang/Object"), (0, u "<init>"), (0, u "()V"), (0, .class_ 8), (0, u "java/lang/Record")] 13

def k2c0 : Code := { maxStack := 1, maxLocals := 1, code := jdk_30_method_1_code, exceptionTable := #[], attributes := #[] }
def k2m0 : Method := { name := "<init>", desc := "()V", sig := { parameters := [], returnType := none }, accessFlags := 4, code := some k2c0 }
/-- java/lang/Record -/
def k2 : Class := { plain "java/lang/Record" (some 0) with
  accessFlags := 1057
  interfaces := #[]
  cf := some (fileOf pool2 7 #[] #[{ accessFlags := 4, nameIndex := 5, descriptorIndex := 6, attributes := #[] }] 1057 2 #[] #[])
  fields := #[]
  methods := #[k2m0]
  instanceTypes := #[]
  staticTypes := #[]
  resolved := Array.replicate 22 none
  statics := none }

def pool3 : Array CpInfo := pool [(1, .class_ 2), (0, u "com/example/waypost/waypost/ldap/LdapResponse"), (0, .class_ 4), (0, u "java/lang/Object"), (3, .class_ 9), (0, u "com/example/waypost/waypost/ldap/LdapResponse$Result"), (0, .class_ 11), (0, u "com/example/waypost/waypost/ldap/LdapResponse$Intermediate"), (0, .class_ 13), (0, u "com/example/waypost/waypost/ldap/LdapResponse$SearchReference"), (0, .class_ 15), (0, u "com/example/waypost/waypost/ldap/LdapResponse$SearchEntry")] 6

/-- com/example/waypost/waypost/ldap/LdapResponse -/
def k3 : Class := { plain "com/example/waypost/waypost/ldap/LdapResponse" (some 0) with
  accessFlags := 1537
  interfaces := #[]
  cf := some (fileOf pool3 1 #[.nestMembers #[8, 10, 12, 14]] #[] 1537 3 #[] #[])
  fields := #[]
  methods := #[]
  instanceTypes := #[]
  staticTypes := #[]
  resolved := Array.replicate 22 none
  statics := none }

def pool4 : Array CpInfo := pool [(1, .methodref 2 3), (0, .class_ 4), (0, .nameAndType 5 6), (0, u "java/lang/Record"), (0, u "<init>"), (0, u "()V"), (0, .fieldref 8 9), (0, .class_ 10), (0, .nameAndType 11 12), (0, u "com/example/waypost/waypost/ldap/LdapResponse$Result"), (0, u "responseTag"), (0, u "I"), (0, .fieldref 8 14), (0, .nameAndType 15 12), (0, u "resultCode"), (0, .fieldref 8 17), (0, .nameAndType 18 19), (0, u "matchedDn"), (0, u "Ljava/lang/String;"), (0, .fieldref 8 21), (0, .nameAndType 22 19), (0, u "diagnosticMessage"), (0, .methodref 24 25), (0, .class_ 26), (0, .nameAndType 27 28), (0, u "com/example/waypost/waypost/ldap/ResultCode"), (0, u "code"), (0, u "()I"), (23, .class_ 53), (0, u "com/example/waypost/waypost/ldap/LdapResponse"), (0, u "(IILjava/lang/String;Ljava/lang/String;)V"), (3, u "is"), (0, u "(Lcom/example/waypost/waypost/ldap/ResultCode;)Z")] 39

def k4c0 : Code := { maxStack := 2, maxLocals := 5, code := prog_64_method_1_code, exceptionTable := #[], attributes := #[] }
def k4m0 : Method := { name := "<init>", desc := "(IILjava/lang/String;Ljava/lang/String;)V", sig := { parameters := [.int, .int, (.object "java/lang/String"), (.object "java/lang/String")], returnType := none }, accessFlags := 1, code := some k4c0 }
def k4c1 : Code := { maxStack := 2, maxLocals := 2, code := prog_64_method_2_code, exceptionTable := #[], attributes := #[] }
def k4m1 : Method := { name := "is", desc := "(Lcom/example/waypost/waypost/ldap/ResultCode;)Z", sig := { parameters := [(.object "com/example/waypost/waypost/ldap/ResultCode")], returnType := some .boolean }, accessFlags := 1, code := some k4c1 }
/-- com/example/waypost/waypost/ldap/LdapResponse$Result -/
def k4 : Class := { plain "com/example/waypost/waypost/ldap/LdapResponse$Result" (some 2) with
  accessFlags := 49
  interfaces := #[3]
  cf := some (fileOf pool4 8 #[.nestHost 52] #[{ accessFlags := 1, nameIndex := 5, descriptorIndex := 54, attributes := #[] }, { accessFlags := 1, nameIndex := 58, descriptorIndex := 59, attributes := #[] }] 49 2 #[52] #[{ accessFlags := 18, nameIndex := 11, descriptorIndex := 12, attributes := #[] }, { accessFlags := 18, nameIndex := 15, descriptorIndex := 12, attributes := #[] }, { accessFlags := 18, nameIndex := 18, descriptorIndex := 19, attributes := #[] }, { accessFlags := 18, nameIndex := 22, descriptorIndex := 19, attributes := #[] }])
  fields := #[{ name := "responseTag", type := .int, accessFlags := 18, slot := 0, constantValue := 0 }, { name := "resultCode", type := .int, accessFlags := 18, slot := 1, constantValue := 0 }, { name := "matchedDn", type := (.object "java/lang/String"), accessFlags := 18, slot := 2, constantValue := 0 }, { name := "diagnosticMessage", type := (.object "java/lang/String"), accessFlags := 18, slot := 3, constantValue := 0 }]
  methods := #[k4m0, k4m1]
  instanceTypes := #[.int, .int, (.object "java/lang/String"), (.object "java/lang/String")]
  staticTypes := #[]
  resolved := Array.replicate 99 none
  statics := none }

def pool5 : Array CpInfo := pool [(1, .class_ 2), (0, u "java/io/Serializable"), (0, .class_ 4), (0, u "java/lang/Object")] 2

/-- java/io/Serializable -/
def k5 : Class := { plain "java/io/Serializable" (some 0) with
  accessFlags := 1537
  interfaces := #[]
  cf := some (fileOf pool5 1 #[] #[] 1537 3 #[] #[])
  fields := #[]
  methods := #[]
  instanceTypes := #[]
  staticTypes := #[]
  resolved := Array.replicate 7 none
  statics := none }

def pool6 : Array CpInfo := pool [(1, .class_ 2), (0, u "java/lang/Comparable"), (0, .class_ 4), (0, u "java/lang/Object")] 7

/-- java/lang/Comparable -/
def k6 : Class := { plain "java/lang/Comparable" (some 0) with
  accessFlags := 1537
  interfaces := #[]
  cf := some (fileOf pool6 1 #[] #[] 1537 3 #[] #[])
  fields := #[]
  methods := #[]
  instanceTypes := #[]
  staticTypes := #[]
  resolved := Array.replicate 12 none
  statics := none }

def pool7 : Array CpInfo := pool [(2, .class_ 4), (1, u "java/lang/CharSequence"), (42, .class_ 48), (0, u "java/lang/CharSequence$1CodePointIterator"), (10, .class_ 60), (0, u "java/lang/CharSequence$1CharIterator"), (5, .class_ 67), (0, u "java/lang/Object")] 63

/-- java/lang/CharSequence -/
def k7 : Class := { plain "java/lang/CharSequence" (some 0) with
  accessFlags := 1537
  interfaces := #[]
  cf := some (fileOf pool7 2 #[.nestMembers #[47, 59]] #[] 1537 66 #[] #[])
  fields := #[]
  methods := #[]
  instanceTypes := #[]
  staticTypes := #[]
  resolved := Array.replicate 131 none
  statics := none }

def pool8 : Array CpInfo := pool [(1, .class_ 2), (0, u "java/lang/constant/Constable"), (0, .class_ 4), (0, u "java/lang/Object")] 6

/-- java/lang/constant/Constable -/
def k8 : Class := { plain "java/lang/constant/Constable" (some 0) with
  accessFlags := 1537
  interfaces := #[]
  cf := some (fileOf pool8 1 #[] #[] 1537 3 #[] #[])
  fields := #[]
  methods := #[]
  instanceTypes := #[]
  staticTypes := #[]
  resolved := Array.replicate 11 none
  statics := none }

def pool9 : Array CpInfo := pool [(1, .class_ 2), (0, u "java/lang/constant/ConstantDesc"), (0, .class_ 4), (0, u "java/lang/Object")] 32

/-- java/lang/constant/ConstantDesc -/
def k9 : Class := { plain "java/lang/constant/ConstantDesc" (some 0) with
  accessFlags := 1537
  interfaces := #[]
  cf := some (fileOf pool9 1 #[] #[] 1537 3 #[] #[])
  fields := #[]
  methods := #[]
  instanceTypes := #[]
  staticTypes := #[]
  resolved := Array.replicate 37 none
  statics := none }

def pool10 : Array CpInfo := pool [(2, .class_ 4), (1, u "java/lang/Object"), (0, u "<init>"), (0, u "()V"), (3, .class_ 12), (1, u "java/lang/String"), (0, u "value"), (0, u "[B"), (2, u "coder"), (0, u "B"), (2, u "hash"), (0, u "I"), (2, u "hashIsZero"), (0, u "Z"), (13, u "COMPACT_STRINGS"), (534, .class_ 576), (0, u "java/lang/CharSequence"), (22, u "CASE_INSENSITIVE_ORDER"), (0, u "Ljava/util/Comparator;"), (500, u "serialPersistentFields"), (0, u "[Ljava/io/ObjectStreamField;"), (0, .class_ 1104), (0, u "java/lang/String$CaseInsensitiveComparator"), (1, .class_ 1107), (0, u "java/io/Serializable"), (0, .class_ 1109), (0, u "java/lang/Comparable"), (0, .class_ 1111), (0, u "java/lang/constant/Constable"), (0, .class_ 1113), (0, u "java/lang/constant/ConstantDesc"), (2, u "serialVersionUID"), (0, u "J"), (3, u "REPL"), (0, u "C"), (2, u "LATIN1"), (1, u "UTF16")] 323

def k10m0 : Method := { name := "<init>", desc := "()V", sig := { parameters := [], returnType := none }, accessFlags := 1, code := none }
/-- java/lang/String -/
def k10 : Class := { plain "java/lang/String" (some 0) with
  accessFlags := 49
  interfaces := #[5, 6, 7, 8, 9]
  cf := some (fileOf pool10 10 #[.nestMembers #[1103]] #[{ accessFlags := 1, nameIndex := 5, descriptorIndex := 6, attributes := #[] }] 49 2 #[1106, 1108, 575, 1110, 1112] #[{ accessFlags := 18, nameIndex := 13, descriptorIndex := 14, attributes := #[] }, { accessFlags := 18, nameIndex := 17, descriptorIndex := 18, attributes := #[] }, { accessFlags := 2, nameIndex := 21, descriptorIndex := 22, attributes := #[] }, { accessFlags := 2, nameIndex := 25, descriptorIndex := 26, attributes := #[] }, { accessFlags := 26, nameIndex := 1116, descriptorIndex := 1117, attributes := #[] }, { accessFlags := 24, nameIndex := 40, descriptorIndex := 26, attributes := #[] }, { accessFlags := 26, nameIndex := 1101, descriptorIndex := 1102, attributes := #[] }, { accessFlags := 26, nameIndex := 1121, descriptorIndex := 1122, attributes := #[] }, { accessFlags := 25, nameIndex := 599, descriptorIndex := 600, attributes := #[] }, { accessFlags := 24, nameIndex := 1125, descriptorIndex := 18, attributes := #[] }, { accessFlags := 24, nameIndex := 1127, descriptorIndex := 18, attributes := #[] }])
  fields := #[{ name := "value", type := (.array .byte), accessFlags := 18, slot := 0, constantValue := 0 }, { name := "coder", type := .byte, accessFlags := 18, slot := 1, constantValue := 0 }, { name := "hash", type := .int, accessFlags := 2, slot := 2, constantValue := 0 }, { name := "hashIsZero", type := .boolean, accessFlags := 2, slot := 3, constantValue := 0 }, { name := "serialVersionUID", type := .long, accessFlags := 26, slot := 0, constantValue := 0 }, { name := "COMPACT_STRINGS", type := .boolean, accessFlags := 24, slot := 1, constantValue := 0 }, { name := "serialPersistentFields", type := (.array (.object "java/io/ObjectStreamField")), accessFlags := 26, slot := 2, constantValue := 0 }, { name := "REPL", type := .char, accessFlags := 26, slot := 3, constantValue := 0 }, { name := "CASE_INSENSITIVE_ORDER", type := (.object "java/util/Comparator"), accessFlags := 25, slot := 4, constantValue := 0 }, { name := "LATIN1", type := .byte, accessFlags := 24, slot := 5, constantValue := 0 }, { name := "UTF16", type := .byte, accessFlags := 24, slot := 6, constantValue := 0 }]
  methods := #[k10m0]
  instanceTypes := #[(.array .byte), .byte, .int, .boolean]
  staticTypes := #[.long, .boolean, (.array (.object "java/io/ObjectStreamField")), .char, (.object "java/util/Comparator"), .byte, .byte]
  resolved := Array.replicate 1451 none
  statics := none }

def pool11 : Array CpInfo := pool [(2, .class_ 4), (1, u "java/lang/Enum"), (0, u "name"), (0, u "Ljava/lang/String;"), (2, u "ordinal"), (0, u "I"), (1, .class_ 14), (1, u "java/lang/Object"), (4, u "hash"), (86, .class_ 108), (1, u "java/lang/Enum$EnumDesc"), (2, .class_ 112), (0, u "java/lang/constant/Constable"), (0, .class_ 114), (0, u "java/lang/Comparable"), (0, .class_ 116), (0, u "java/io/Serializable")] 87

/-- java/lang/Enum -/
def k11 : Class := { plain "java/lang/Enum" (some 0) with
  accessFlags := 1057
  interfaces := #[8, 6, 5]
  cf := some (fileOf pool11 2 #[.nestMembers #[106]] #[] 1057 12 #[111, 113, 115] #[{ accessFlags := 18, nameIndex := 5, descriptorIndex := 6, attributes := #[] }, { accessFlags := 18, nameIndex := 9, descriptorIndex := 10, attributes := #[] }, { accessFlags := 2, nameIndex := 19, descriptorIndex := 10, attributes := #[] }])
  fields := #[{ name := "name", type := (.object "java/lang/String"), accessFlags := 18, slot := 0, constantValue := 0 }, { name := "ordinal", type := .int, accessFlags := 18, slot := 1, constantValue := 0 }, { name := "hash", type := .int, accessFlags := 2, slot := 2, constantValue := 0 }]
  methods := #[]
  instanceTypes := #[(.object "java/lang/String"), .int, .int]
  staticTypes := #[]
  resolved := Array.replicate 204 none
  statics := none }

def pool12 : Array CpInfo := pool [(1, .class_ 2), (0, u "com/example/waypost/waypost/ldap/ResultCode"), (2, u "SUCCESS"), (0, u "Lcom/example/waypost/waypost/ldap/ResultCode;"), (2, u "PROTOCOL_ERROR"), (2, u "SIZE_LIMIT_EXCEEDED"), (2, u "COMPARE_FALSE"), (2, u "COMPARE_TRUE"), (2, u "AUTH_METHOD_NOT_SUPPORTED"), (2, u "UNAVAILABLE_CRITICAL_EXTENSION"), (2, u "NO_SUCH_ATTRIBUTE"), (2, u "UNDEFINED_ATTRIBUTE_TYPE"), (2, u "INAPPROPRIATE_MATCHING"), (2, u "INVALID_ATTRIBUTE_SYNTAX"), (2, u "NO_SUCH_OBJECT"), (2, u "INVALID_DN_SYNTAX"), (2, u "INVALID_CREDENTIALS"), (2, u "UNWILLING_TO_PERFORM"), (2, u "$VALUES"), (0, u "[Lcom/example/waypost/waypost/ldap/ResultCode;"), (6, .class_ 61), (1, u "java/lang/Enum"), (6, .fieldref 1 69), (0, .nameAndType 70 71), (0, u "code"), (0, u "I"), (29, u "()I")] 5

def k12c0 : Code := { maxStack := 1, maxLocals := 1, code := prog_72_method_4_code, exceptionTable := #[], attributes := #[] }
def k12m0 : Method := { name := "code", desc := "()I", sig := { parameters := [], returnType := some .int }, accessFlags := 0, code := some k12c0 }
/-- com/example/waypost/waypost/ldap/ResultCode -/
def k12 : Class := { plain "com/example/waypost/waypost/ldap/ResultCode" (some 11) with
  accessFlags := 16433
  interfaces := #[]
  cf := some (fileOf pool12 1 #[] #[{ accessFlags := 0, nameIndex := 70, descriptorIndex := 101, attributes := #[] }] 16433 59 #[] #[{ accessFlags := 16409, nameIndex := 5, descriptorIndex := 6, attributes := #[] }, { accessFlags := 16409, nameIndex := 9, descriptorIndex := 6, attributes := #[] }, { accessFlags := 16409, nameIndex := 12, descriptorIndex := 6, attributes := #[] }, { accessFlags := 16409, nameIndex := 15, descriptorIndex := 6, attributes := #[] }, { accessFlags := 16409, nameIndex := 18, descriptorIndex := 6, attributes := #[] }, { accessFlags := 16409, nameIndex := 21, descriptorIndex := 6, attributes := #[] }, { accessFlags := 16409, nameIndex := 24, descriptorIndex := 6, attributes := #[] }, { accessFlags := 16409, nameIndex := 27, descriptorIndex := 6, attributes := #[] }, { accessFlags := 16409, nameIndex := 30, descriptorIndex := 6, attributes := #[] }, { accessFlags := 16409, nameIndex := 33, descriptorIndex := 6, attributes := #[] }, { accessFlags := 16409, nameIndex := 36, descriptorIndex := 6, attributes := #[] }, { accessFlags := 16409, nameIndex := 39, descriptorIndex := 6, attributes := #[] }, { accessFlags := 16409, nameIndex := 42, descriptorIndex := 6, attributes := #[] }, { accessFlags := 16409, nameIndex := 45, descriptorIndex := 6, attributes := #[] }, { accessFlags := 16409, nameIndex := 48, descriptorIndex := 6, attributes := #[] }, { accessFlags := 18, nameIndex := 70, descriptorIndex := 71, attributes := #[] }, { accessFlags := 4122, nameIndex := 51, descriptorIndex := 52, attributes := #[] }])
  fields := #[{ name := "SUCCESS", type := (.object "com/example/waypost/waypost/ldap/ResultCode"), accessFlags := 16409, slot := 0, constantValue := 0 }, { name := "PROTOCOL_ERROR", type := (.object "com/example/waypost/waypost/ldap/ResultCode"), accessFlags := 16409, slot := 1, constantValue := 0 }, { name := "SIZE_LIMIT_EXCEEDED", type := (.object "com/example/waypost/waypost/ldap/ResultCode"), accessFlags := 16409, slot := 2, constantValue := 0 }, { name := "COMPARE_FALSE", type := (.object "com/example/waypost/waypost/ldap/ResultCode"), accessFlags := 16409, slot := 3, constantValue := 0 }, { name := "COMPARE_TRUE", type := (.object "com/example/waypost/waypost/ldap/ResultCode"), accessFlags := 16409, slot := 4, constantValue := 0 }, { name := "AUTH_METHOD_NOT_SUPPORTED", type := (.object "com/example/waypost/waypost/ldap/ResultCode"), accessFlags := 16409, slot := 5, constantValue := 0 }, { name := "UNAVAILABLE_CRITICAL_EXTENSION", type := (.object "com/example/waypost/waypost/ldap/ResultCode"), accessFlags := 16409, slot := 6, constantValue := 0 }, { name := "NO_SUCH_ATTRIBUTE", type := (.object "com/example/waypost/waypost/ldap/ResultCode"), accessFlags := 16409, slot := 7, constantValue := 0 }, { name := "UNDEFINED_ATTRIBUTE_TYPE", type := (.object "com/example/waypost/waypost/ldap/ResultCode"), accessFlags := 16409, slot := 8, constantValue := 0 }, { name := "INAPPROPRIATE_MATCHING", type := (.object "com/example/waypost/waypost/ldap/ResultCode"), accessFlags := 16409, slot := 9, constantValue := 0 }, { name := "INVALID_ATTRIBUTE_SYNTAX", type := (.object "com/example/waypost/waypost/ldap/ResultCode"), accessFlags := 16409, slot := 10, constantValue := 0 }, { name := "NO_SUCH_OBJECT", type := (.object "com/example/waypost/waypost/ldap/ResultCode"), accessFlags := 16409, slot := 11, constantValue := 0 }, { name := "INVALID_DN_SYNTAX", type := (.object "com/example/waypost/waypost/ldap/ResultCode"), accessFlags := 16409, slot := 12, constantValue := 0 }, { name := "INVALID_CREDENTIALS", type := (.object "com/example/waypost/waypost/ldap/ResultCode"), accessFlags := 16409, slot := 13, constantValue := 0 }, { name := "UNWILLING_TO_PERFORM", type := (.object "com/example/waypost/waypost/ldap/ResultCode"), accessFlags := 16409, slot := 14, constantValue := 0 }, { name := "code", type := .int, accessFlags := 18, slot := 3, constantValue := 0 }, { name := "$VALUES", type := (.array (.object "com/example/waypost/waypost/ldap/ResultCode")), accessFlags := 4122, slot := 15, constantValue := 0 }]
  methods := #[k12m0]
  instanceTypes := #[(.object "java/lang/String"), .int, .int, .int]
  staticTypes := #[(.object "com/example/waypost/waypost/ldap/ResultCode"), (.object "com/example/waypost/waypost/ldap/ResultCode"), (.object "com/example/waypost/waypost/ldap/ResultCode"), (.object "com/example/waypost/waypost/ldap/ResultCode"), (.object "com/example/waypost/waypost/ldap/ResultCode"), (.object "com/example/waypost/waypost/ldap/ResultCode"), (.object "com/example/waypost/waypost/ldap/ResultCode"), (.object "com/example/waypost/waypost/ldap/ResultCode"), (.object "com/example/waypost/waypost/ldap/ResultCode"), (.object "com/example/waypost/waypost/ldap/ResultCode"), (.object "com/example/waypost/waypost/ldap/ResultCode"), (.object "com/example/waypost/waypost/ldap/ResultCode"), (.object "com/example/waypost/waypost/ldap/ResultCode"), (.object "com/example/waypost/waypost/ldap/ResultCode"), (.object "com/example/waypost/waypost/ldap/ResultCode"), (.array (.object "com/example/waypost/waypost/ldap/ResultCode"))]
  resolved := Array.replicate 107 none
  statics := some 0 }

def pool13 : Array CpInfo := pool [(1, u "java/lang/Cloneable"), (0, .class_ 1), (0, u "java/lang/Object"), (0, .class_ 3)] 3

/-- java/lang/Cloneable -/
def k13 : Class := { plain "java/lang/Cloneable" (some 0) with
  accessFlags := 1537
  interfaces := #[]
  cf := some (fileOf pool13 2 #[] #[] 1537 4 #[] #[])
  fields := #[]
  methods := #[]
  instanceTypes := #[]
  staticTypes := #[]
  resolved := Array.replicate 8 none
  statics := none }

/-- the primitive byte -/
def k14 : Class := { plain "byte" none with kind := .primitive 'B', accessFlags := 0x411 }
/-- [B -/
def k15 : Class := { plain "[B" (some 0) with kind := .array 14 .byte, interfaces := #[13, 5], accessFlags := 1041 }

/-- the primitive int -/
def k16 : Class := { plain "int" none with kind := .primitive 'I', accessFlags := 0x411 }
/-- [I -/
def k17 : Class := { plain "[I" (some 0) with kind := .array 16 .int, interfaces := #[13, 5], accessFlags := 1041 }

def heap : Heap := #[{ cls := 12, slots := #[.ref 4, .ref 7, .ref 1, .ref 3, .ref 14, .ref 11, .ref 6, .ref 13, .ref 15, .ref 10, .ref 2, .ref 5, .ref 8, .ref 12, .ref 9, .null], vm := .statics 12 },
  { cls := 12, slots := #[.null, .int 0, .int 0, .int 4], vm := .none },
  { cls := 12, slots := #[.null, .int 0, .int 0, .int 21], vm := .none },
  { cls := 12, slots := #[.null, .int 0, .int 0, .int 5], vm := .none },
  { cls := 12, slots := #[.null, .int 0, .int 0, .int 0], vm := .none },
  { cls := 12, slots := #[.null, .int 0, .int 0, .int 32], vm := .none },
  { cls := 12, slots := #[.null, .int 0, .int 0, .int 12], vm := .none },
  { cls := 12, slots := #[.null, .int 0, .int 0, .int 2], vm := .none },
  { cls := 12, slots := #[.null, .int 0, .int 0, .int 34], vm := .none },
  { cls := 12, slots := #[.null, .int 0, .int 0, .int 53], vm := .none },
  { cls := 12, slots := #[.null, .int 0, .int 0, .int 18], vm := .none },
  { cls := 12, slots := #[.null, .int 0, .int 0, .int 7], vm := .none },
  { cls := 12, slots := #[.null, .int 0, .int 0, .int 49], vm := .none },
  { cls := 12, slots := #[.null, .int 0, .int 0, .int 16], vm := .none },
  { cls := 12, slots := #[.null, .int 0, .int 0, .int 6], vm := .none },
  { cls := 12, slots := #[.null, .int 0, .int 0, .int 17], vm := .none }]
def classes : Array Class := #[k0, k1, k2, k3, k4, k5, k6, k7, k8, k9, k10, k11, k12, k13, k14, k15, k16, k17]
def interned : List (Array UInt16 × Addr) := []
def slotsUsed : Nat := 76
def theMethod : MethodId := ⟨1, 1⟩
def args0 : Array Value := #[.int 0, .int 0, .int 0, .int 0, .int 0]
def aboutOver (below : List Frame) : State where
  vm := { classes := classes, interned := interned.toArray }
  heap := heap
  slotsUsed := slotsUsed
  threads := #[{ frames := .invoking theMethod args0 :: below }]
def below0 : List Frame := [.native { method := ⟨0, 0⟩, args := #[] }]
def about1 : State := aboutOver below0
def p0 : Program := .bare "" "" ""
def e0 : Env := launch0.env 0 0 0
theorem w_frames : about1.frames = Frame.invoking theMethod args0 :: below0 := rfl
set_option maxRecDepth 65536 in
theorem w_args : argsFit about1.vm theMethod args0 = true := by decide +kernel
set_option maxRecDepth 65536 in
theorem w_heap : heapFits about1 = true := by decide +kernel
set_option maxRecDepth 65536 in
theorem w_runnable : about1.curStatus? = some .runnable := by decide +kernel
set_option maxRecDepth 65536 in
theorem w_alone : about1.alone = true := by decide +kernel
set_option maxRecDepth 65536 in
theorem w_named : about1.methodNamed? x = some theMethod := by decide +kernel
set_option maxRecDepth 65536 in
theorem w_hears : about1.hears theMethod below0 = true := by decide +kernel
set_option maxRecDepth 65536 in
theorem w_ripe : about1.ripe theMethod args0 below0 = true := by decide +kernel
theorem w_running : about1.status = .running := rfl
set_option maxRecDepth 65536 in
theorem w_room : about1.hasRoom e0.platform room_1 = true :=
  launch0.hasRoom_least _ room_1 (by decide +kernel) (by decide +kernel) (by decide +kernel) (by decide +kernel) (by decide +kernel) (by decide +kernel)
theorem allAtoms_all (ts : List Jvm.Cond) (a : Array Jvm.Value) (st : Jvm.State) : (allAtoms ts).before a st = ts.all (fun c => c.before a st) := by
  induction ts with
  | nil => rfl
  | cons c t ih =>
    show (Jvm.Cond.and c (allAtoms t)).before a st = _
    rw [Jvm.Cond.before_and, ih, List.all_cons]
def words1 : List Jvm.Cond := Jvm.Cond.code x code maxLocals ret :: tables_1
/-- a 'code' word, met by the world's own term for the bytes: nothing is compared byte by byte -/
theorem code_word {y : MethodName} {bytes : ByteArray} {mx : Nat} {rt : Option FieldType} {a : Array Value} {s : State} {m : MethodId} {meth : Method} {c : Code} (h1 : s.methodNamed? y = some m) (h2 : s.vm.method? m = some meth) (h3 : meth.code = some c) (h4 : c.code = bytes)
    (h5 : (c.maxLocals == mx && c.exceptionTable.isEmpty && decide (c.maxStack ≤ mostOperands) && decide (meth.sig.returnType = rt) && !meth.locks && decide (parseMethodDescriptor y.desc = some meth.sig)) = true) : (Jvm.Cond.code y bytes mx rt).before a s = true := by
  simp only [Bool.and_eq_true, beq_iff_eq, Bool.not_eq_true', decide_eq_true_eq] at h5
  obtain ⟨⟨⟨⟨⟨g1, g2⟩, g3⟩, g4⟩, g5⟩, g6⟩ := h5
  simp [Cond.before, Cond.holds, Cond.value, h1, h2, h3, h4, g1, g2, g3, g4, g5, g6]
def isCode : Jvm.Cond → Bool
  | .code _ _ _ _ => true
  | _ => false
theorem all_split {L : List Jvm.Cond} {P : Jvm.Cond → Bool} (h1 : L.all (fun c => isCode c || P c) = true) (h2 : ∀ c ∈ L.filter isCode, P c = true) : L.all P = true := by
  refine List.all_eq_true.mpr fun c hc => ?_
  have h := List.all_eq_true.mp h1 c hc
  rcases Bool.eq_false_or_eq_true (isCode c) with hi | hi
  · exact h2 c (List.mem_filter.mpr ⟨hc, hi⟩)
  · simpa [hi] using h
set_option maxRecDepth 65536 in
theorem w_c0 : (Jvm.Cond.code x code maxLocals ret).before args0 about1 = true := code_word (m := ⟨1, 1⟩) (meth := k1m1) (c := k1c1) (by decide +kernel) rfl rfl rfl (by decide +kernel)
set_option maxRecDepth 65536 in
theorem w_c1 : (Jvm.Cond.code ({ cls := "com/example/waypost/waypost/ldap/LdapResponse$Result", name := "<init>", desc := "(IILjava/lang/String;Ljava/lang/String;)V" } : Jvm.MethodName) prog_64_method_1_code (5 : Nat) (Option.none : Option Jvm.ClassFile.FieldType)).before args0 about1 = true := code_word (m := ⟨4, 0⟩) (meth := k4m0) (c := k4c0) (by decide +kernel) rfl rfl rfl (by decide +kernel)
set_option maxRecDepth 65536 in
theorem w_c2 : (Jvm.Cond.code ({ cls := "java/lang/Record", name := "<init>", desc := "()V" } : Jvm.MethodName) jdk_30_method_1_code (1 : Nat) (Option.none : Option Jvm.ClassFile.FieldType)).before args0 about1 = true := code_word (m := ⟨2, 0⟩) (meth := k2m0) (c := k2c0) (by decide +kernel) rfl rfl rfl (by decide +kernel)
set_option maxRecDepth 65536 in
theorem w_c3 : (Jvm.Cond.code ({ cls := "java/lang/Object", name := "<init>", desc := "()V" } : Jvm.MethodName) object_method_1_code (1 : Nat) (Option.none : Option Jvm.ClassFile.FieldType)).before args0 about1 = true := code_word (m := ⟨0, 0⟩) (meth := k0m0) (c := k0c0) (by decide +kernel) rfl rfl rfl (by decide +kernel)
set_option maxRecDepth 65536 in
theorem w_c4 : (Jvm.Cond.code ({ cls := "com/example/waypost/waypost/ldap/ResultIsPinLaw", name := "constant", desc := "(I)Lcom/example/waypost/waypost/ldap/ResultCode;" } : Jvm.MethodName) method_3_code (1 : Nat) (Option.some (Jvm.ClassFile.FieldType.object "com/example/waypost/waypost/ldap/ResultCode"))).before args0 about1 = true := code_word (m := ⟨1, 2⟩) (meth := k1m2) (c := k1c2) (by decide +kernel) rfl rfl rfl (by decide +kernel)
set_option maxRecDepth 65536 in
theorem w_c5 : (Jvm.Cond.code ({ cls := "com/example/waypost/waypost/ldap/LdapResponse$Result", name := "is", desc := "(Lcom/example/waypost/waypost/ldap/ResultCode;)Z" } : Jvm.MethodName) prog_64_method_2_code (2 : Nat) (Option.some Jvm.ClassFile.FieldType.boolean)).before args0 about1 = true := code_word (m := ⟨4, 1⟩) (meth := k4m1) (c := k4c1) (by decide +kernel) rfl rfl rfl (by decide +kernel)
set_option maxRecDepth 65536 in
theorem w_c6 : (Jvm.Cond.code ({ cls := "com/example/waypost/waypost/ldap/ResultCode", name := "code", desc := "()I" } : Jvm.MethodName) prog_72_method_4_code (1 : Nat) (Option.some Jvm.ClassFile.FieldType.int)).before args0 about1 = true := code_word (m := ⟨12, 0⟩) (meth := k12m0) (c := k12c0) (by decide +kernel) rfl rfl rfl (by decide +kernel)
set_option maxRecDepth 65536 in
theorem w_c7 : (Jvm.Cond.code ({ cls := "com/example/waypost/waypost/ldap/ResultIsPinLaw", name := "code", desc := "(I)I" } : Jvm.MethodName) method_4_code (1 : Nat) (Option.some Jvm.ClassFile.FieldType.int)).before args0 about1 = true := code_word (m := ⟨1, 3⟩) (meth := k1m3) (c := k1c3) (by decide +kernel) rfl rfl rfl (by decide +kernel)
def codes1 : List Jvm.Cond := [Jvm.Cond.code x code maxLocals ret, Jvm.Cond.code ({ cls := "com/example/waypost/waypost/ldap/LdapResponse$Result", name := "<init>", desc := "(IILjava/lang/String;Ljava/lang/String;)V" } : Jvm.MethodName) prog_64_method_1_code (5 : Nat) (Option.none : Option Jvm.ClassFile.FieldType), Jvm.Cond.code ({ cls := "java/lang/Record", name := "<init>", desc := "()V" } : Jvm.MethodName) jdk_30_method_1_code (1 : Nat) (Option.none : Option Jvm.ClassFile.FieldType), Jvm.Cond.code ({ cls := "java/lang/Object", name := "<init>", desc := "()V" } : Jvm.MethodName) object_method_1_code (1 : Nat) (Option.none : Option Jvm.ClassFile.FieldType), Jvm.Cond.code ({ cls := "com/example/waypost/waypost/ldap/ResultIsPinLaw", name := "constant", desc := "(I)Lcom/example/waypost/waypost/ldap/ResultCode;" } : Jvm.MethodName) method_3_code (1 : Nat) (Option.some (Jvm.ClassFile.FieldType.object "com/example/waypost/waypost/ldap/ResultCode")), Jvm.Cond.code ({ cls := "com/example/waypost/waypost/ldap/LdapResponse$Result", name := "is", desc := "(Lcom/example/waypost/waypost/ldap/ResultCode;)Z" } : Jvm.MethodName) prog_64_method_2_code (2 : Nat) (Option.some Jvm.ClassFile.FieldType.boolean), Jvm.Cond.code ({ cls := "com/example/waypost/waypost/ldap/ResultCode", name := "code", desc := "()I" } : Jvm.MethodName) prog_72_method_4_code (1 : Nat) (Option.some Jvm.ClassFile.FieldType.int), Jvm.Cond.code ({ cls := "com/example/waypost/waypost/ldap/ResultIsPinLaw", name := "code", desc := "(I)I" } : Jvm.MethodName) method_4_code (1 : Nat) (Option.some Jvm.ClassFile.FieldType.int)]
set_option maxRecDepth 65536 in
theorem codes_eq : words1.filter isCode = codes1 := rfl
theorem w_codes : ∀ c ∈ words1.filter isCode, c.before args0 about1 = true := by
  rw [codes_eq]
  intro c hc
  simp only [codes1, List.mem_cons, List.not_mem_nil, or_false] at hc
  rcases hc with rfl | rfl | rfl | rfl | rfl | rfl | rfl | rfl
  · exact w_c0
  · exact w_c1
  · exact w_c2
  · exact w_c3
  · exact w_c4
  · exact w_c5
  · exact w_c6
  · exact w_c7
set_option maxRecDepth 65536 in
theorem w_t1 : (words1.take 24).all (fun c => isCode c || c.before args0 about1) = true := by decide +kernel
set_option maxRecDepth 65536 in
theorem w_t2 : ((words1.drop 24).take 24).all (fun c => isCode c || c.before args0 about1) = true := by decide +kernel
set_option maxRecDepth 65536 in
theorem w_t3 : (((words1.drop 24).drop 24).take 24).all (fun c => isCode c || c.before args0 about1) = true := by decide +kernel
set_option maxRecDepth 65536 in
theorem w_t4 : (((words1.drop 24).drop 24).drop 24).all (fun c => isCode c || c.before args0 about1) = true := by decide +kernel
theorem w_tables : (allAtoms (Jvm.Cond.code x code maxLocals ret :: tables_1)).before args0 about1 = true := by
  rw [allAtoms_all]
  show words1.all (fun c => c.before args0 about1) = true
  refine all_split ?_ w_codes
  rw [← List.take_append_drop 24 words1, List.all_append, w_t1, ← List.take_append_drop 24 (words1.drop 24), List.all_append, w_t2, ← List.take_append_drop 24 ((words1.drop 24).drop 24), List.all_append, w_t3, w_t4]
  rfl
set_option maxRecDepth 65536 in
theorem w_case : (Jvm.Cond.and given_1 narrow_1).before args0 about1 = true := by decide +kernel
theorem w_applies : (headSpec (Jvm.Cond.code x code maxLocals ret :: tables_1) room_1).applies x e0.platform about1 = true :=
  (Spec.applies_iff w_frames).mpr ⟨w_running, w_runnable, w_alone, w_named, w_hears, w_ripe, w_room, w_tables⟩
theorem atStart : AtStart classFile x code maxLocals ret World_1 tables_1 room_1 Calls_1 rest_1 Pre_1 launch0 p0 e0 about1 theMethod args0 below0 :=
  ⟨lists_1, trivial, launch0.admits_env _ _ _, launch0.least_env, fairChoices_fair.cas, fairChoices_fair.clock, w_frames, w_args, w_heap, w_applies, trivial, trivial, w_case⟩
end start1
theorem witness_1 : WitnessClaimed_1 := ⟨start1.p0, start1.e0, start1.about1, start1.theMethod, start1.args0, start1.below0, start1.atStart⟩
end Jvm.Pilot.@@N@@
