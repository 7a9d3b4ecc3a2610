import JvmDerived
import JvmDerived.Pilot.@@N@@Statement
import JvmDerived.Pilot.@@N@@Code
set_option linter.unusedVariables false
set_option linter.unusedSimpArgs false
namespace Jvm.RoadKit
open Sem ClassFile Op Lib Jvm.Stand Jvm.Free Jvm.LawKit
section New
variable {p : Program} {l : Launch} {e : Env} {R : Room} {s : State} {m : MethodId} {args : Array Value} {below : List Frame} {meth : Method} {c : Code} {T : State} {locs : List Loc} {cells slots : Nat}
theorem retI (X : Stand p l e R s m args below meth c T locs cells slots) (hx : p.tables.exec = Jvm.exec) {pc : Nat} {Ls : Array Slot} {z : Int32} {rest : List Value} (hret : meth.sig.returnType = some .int) (hd : decode c.code pc = .ok (.ireturn, 1)) {fs : List Frame}
    (hl : ∀ (f : JFrame) (acts : List Action), f.method = m → f.locked = none → f.entered = [] → (doReturn e (T.setTop f) acts (some (.int z))).1 = T.setFrames fs) : Steps p.tables e below (T.setTop (mkF m pc Ls (.int z :: rest))) (T.setFrames fs) := by
  have hm' : T.vm.method? m = some meth := X.method'
  have hn : narrow .int (.int z) = .int z := rfl
  show Steps p.tables e below (T.setTop { method := m, pc := pc, locals := Ls, stack := _ :: rest, locked := none }) _
  jvm_step X.here [X.here.top, hx, hd, hm', hret, hn]
  first | (intro acts; rw [hl _ acts rfl rfl rfl]) | rw [hl _ _ rfl rfl rfl]
  exact Steps.refl _
end New
end Jvm.RoadKit
namespace Jvm.Pilot.@@N@@
open Jvm Jvm.ClassFile Sem Op Lib Jvm.Free Jvm.Stand Jvm.LawKit Jvm.RoadKit Bundle Jvm.Pilot.@@N@@.Jvm.D
def own_Goes (p : Program) (e : Env) (below : List Frame) (S : State) (K : State → Outcome → Prop) : Prop := ∃ s₂ o, Steps p.tables e below S s₂ ∧ s₂.status = .running ∧ Ended s₂ below o ∧ K s₂ o
theorem own_of {p : Program} {e : Env} {below : List Frame} {S S' : State} {K : State → Outcome → Prop} (k : ∀ t, Steps p.tables e below S' t → Steps p.tables e below S t) (h : own_Goes p e below S' K) : own_Goes p e below S K := by
  obtain ⟨t, o, h1, h2⟩ := h
  exact ⟨t, o, k t h1, h2⟩
theorem own_nameK {p : Program} {e : Env} {below : List Frame} {S : State} {K' : State → Outcome → Prop} (h : ∀ K, K = K' → own_Goes p e below S K) : own_Goes p e below S K' := h K' rfl
theorem own_nar {g : Int32} (h : g = (0 : Int32) ∨ g = (1 : Int32)) : nar .boolean g = g := by rcases h with rfl | rfl <;> rfl
theorem own_narV {g : Int32} (h : g = (0 : Int32) ∨ g = (1 : Int32)) : narrow .boolean (.int g) = .int g := by rcases h with rfl | rfl <;> rfl
theorem own_fitsZ {g : Int32} (h : g = (0 : Int32) ∨ g = (1 : Int32)) : fits .boolean (.int g) = true := by rcases h with rfl | rfl <;> rfl
theorem own_cat {v : Value} (h : v.isRef = true) : v.category = 1 := by
  rcases ref_cases h with rfl | ⟨a, rfl⟩ <;> rfl
theorem own_eqI {args : Array Value} {s : State} {t : Term} {k : Int32} (h : (Jvm.Cond.eq t (.int k)).value args s none s [] = some true) : t.eval args s none [] s = some (.int k) := by
  simp only [Cond.value, Term.eval] at h
  cases ht : t.eval args s none [] s with
  | none => simp [ht] at h
  | some x => cases x <;> simp [ht] at h ⊢; exact h
theorem own_eqL {args : Array Value} {s : State} {t : Term} {k : Int64} (h : (Jvm.Cond.eq t (.long k)).value args s none s [] = some true) : t.eval args s none [] s = some (.long k) := by
  simp only [Cond.value, Term.eval] at h
  cases ht : t.eval args s none [] s with
  | none => simp [ht] at h
  | some x => cases x <;> simp [ht] at h ⊢; exact h
def own_Ar (Z : State) (h : Heap) (a : Addr) (ty : FieldType) (n : Nat) (f : Nat → Value) : Prop := ∃ c : Cell, Arr Z h a c ty ∧ c.slots.size = n ∧ ∀ i, i < n → c.slots[i]? = some (f i)
section OwnArr
variable {Z : State} {h h' : Heap} {a b : Addr} {ty : FieldType} {n sl : Nat} {f : Nat → Value} {v : Value} {ws : List Addr}
theorem own_Ar.lt (F : own_Ar Z h a ty n f) : a < h.size := by obtain ⟨c, A, -⟩ := F; exact A.lt
theorem own_Ar.ext (F : own_Ar Z h a ty n f) (E : Ext h h') : own_Ar Z h' a ty n f := by obtain ⟨c, A, r⟩ := F; exact ⟨c, A.ext E, r⟩
theorem own_Ar.other (F : own_Ar Z h b ty n f) (W : Wr h h' a sl v) (q : b ≠ a) : own_Ar Z h' b ty n f := by obtain ⟨c, A, r⟩ := F; exact ⟨c, A.other W q, r⟩
theorem own_Ar.keep (F : own_Ar Z h a ty n f) (K : Keep h h' ws) (q : a ∉ ws) : own_Ar Z h' a ty n f := by obtain ⟨c, A, r⟩ := F; exact ⟨c, ⟨K.2.1 a c A.1 q, A.2⟩, r⟩
theorem own_Ar.new {k : ClassId} {z : Int32} (A : Arr Z h a (newA k ty z) ty) (q : ¬ z < 0) (e : z.toNatClampNeg = n) : own_Ar Z h a ty n (fun _ => defaultValue ty) := by
  obtain ⟨c, A', r1, r2, r3, H, G⟩ := Arv.new A q
  refine ⟨c, A', r2.trans e, fun i hi => ?_⟩
  rw [H i (by rw [r2, e]; exact hi)]
  simp
theorem own_Ar.upd {c : Cell} (A : Arr Z h a c ty) (S : c.slots.size = n) (H : ∀ i, i < n → c.slots[i]? = some (f i)) (hj : sl < n) (W : Wr h h' a sl v) : own_Ar Z h' a ty n (fun i => if i = sl then v else f i) := by
  refine ⟨_, A.same W, by simp [Cell.setSlot, S], fun i hi => ?_⟩
  by_cases q : i = sl
  · subst q
    simp [Cell.setSlot, S, hj]
  · simp only [q, if_false]
    rw [← H i hi]
    show (c.slots.setIfInBounds sl v)[i]? = _
    rw [Array.getElem?_setIfInBounds_ne (fun e => q e.symm)]
def own_nst (h : Heap) (x : Addr) : Prop := ∃ c : Cell, h[x]? = some c ∧ c.vm.isStatics = false
theorem own_nstE {C : String} (E : Exa Z h a C) : own_nst h a := by obtain ⟨c, _, h1, -, -, h4, -⟩ := E; exact ⟨c, h1, h4⟩
theorem own_nstA (F : own_Ar Z h a ty n f) : own_nst h a := by obtain ⟨c, A, -⟩ := F; exact ⟨c, A.1, A.plain⟩
theorem own_staK {C k d : String} (F : Sta Z h C k d v) (K : Keep h h' ws) (q : ∀ x ∈ ws, own_nst h x) : Sta Z h' C k d v := by
  obtain ⟨cf, i, k, fd, st, cell, h1, h2, h3, h4, h5, h6, h7⟩ := F
  refine ⟨cf, i, k, fd, st, cell, h1, h2, h3, h4, K.2.1 _ _ h5 fun hm => ?_, h6, h7⟩
  obtain ⟨c, e1, e2⟩ := q _ hm
  cases h5.symm.trans e1
  rw [h6] at e2; cases e2
theorem own_since0 {s : State} : s.Since s.vm 0 := (State.WarmedH.refl s).since 0
theorem own_inb {c : Cell} {j : Int32} (S : c.slots.size = n) (q : ¬ j < 0) (r : j.toNatClampNeg < n) : ¬ (j < 0 ∨ c.slots.size ≤ j.toNatClampNeg) := fun u => u.elim q (fun w => by omega)
end OwnArr
section OwnSteps
variable {p : Program} {l : Launch} {e : Env} {R : Room} {s : State} {m : MethodId} {args : Array Value} {below : List Frame} {meth : Method} {c : Code} {T : State} {locs : List Loc} {cells slots : Nat} {Z : State} {h : Heap}
theorem own_stI (X : Stand p l e R s m args below meth c T locs cells slots) (hx : p.tables.exec = Jvm.exec) (hZ : Z.Warmed39 s.vm) (eT : T.heap = h) {a : Addr} {n : Nat} {f : Nat → Value} (F : own_Ar Z h a .int n f) {j x : Int32} (q : ¬ j < 0) (r : j.toNatClampNeg < n) {g : JFrame} (hg : g.method = m) {rest : List Value} (hs : g.stack = .int x :: .int j :: .ref a :: rest) (hd : decode c.code g.pc = .ok (.iastore, 1)) :
    ∃ T' h', Stand p l e R s m args below meth c T' (locs ++ [⟨a, j.toNatClampNeg⟩]) cells slots ∧ T'.heap = h' ∧ Wr h h' a j.toNatClampNeg (.int x) ∧ own_Ar Z h' a .int n (fun i => if i = j.toNatClampNeg then .int x else f i) ∧ ∀ target, Steps p.tables e below (T'.setTop { g with pc := g.pc + 1, stack := rest }) target → Steps p.tables e below (T.setTop g) target := by
  obtain ⟨cl, A, S, H⟩ := F
  obtain ⟨T', h', X', e', W, st⟩ := stI X hx hZ eT A (j := j) (own_inb S q r) hg hs hd
  exact ⟨T', h', X', e', W, own_Ar.upd A S H r W, st⟩
theorem own_stB (X : Stand p l e R s m args below meth c T locs cells slots) (hx : p.tables.exec = Jvm.exec) (hZ : Z.Warmed39 s.vm) (eT : T.heap = h) {a : Addr} {n : Nat} {f : Nat → Value} (F : own_Ar Z h a .byte n f) {j x : Int32} (q : ¬ j < 0) (r : j.toNatClampNeg < n) {g : JFrame} (hg : g.method = m) {rest : List Value} (hs : g.stack = .int x :: .int j :: .ref a :: rest) (hd : decode c.code g.pc = .ok (.bastore, 1)) :
    ∃ T' h', Stand p l e R s m args below meth c T' (locs ++ [⟨a, j.toNatClampNeg⟩]) cells slots ∧ T'.heap = h' ∧ Wr h h' a j.toNatClampNeg (.int (nar .byte x)) ∧ own_Ar Z h' a .byte n (fun i => if i = j.toNatClampNeg then .int (nar .byte x) else f i) ∧ ∀ target, Steps p.tables e below (T'.setTop { g with pc := g.pc + 1, stack := rest }) target → Steps p.tables e below (T.setTop g) target := by
  obtain ⟨cl, A, S, H⟩ := F
  obtain ⟨T', h', X', e', W, st⟩ := stB X hx hZ eT A (j := j) (own_inb S q r) hg hs hd
  exact ⟨T', h', X', e', W, own_Ar.upd A S H r W, st⟩
theorem own_ldI (X : Stand p l e R s m args below meth c T locs cells slots) (hx : p.tables.exec = Jvm.exec) (hZ : Z.Warmed39 s.vm) (eT : T.heap = h) {a : Addr} {n : Nat} {f : Nat → Value} (F : own_Ar Z h a .int n f) {j y : Int32} (q : ¬ j < 0) (r : j.toNatClampNeg < n) (hy : f j.toNatClampNeg = .int y) {g : JFrame} (hg : g.method = m) {rest : List Value} (hs : g.stack = .int j :: .ref a :: rest) (hd : decode c.code g.pc = .ok (.iaload, 1)) (target : State) (k : Steps p.tables e below (T.setTop { g with pc := g.pc + 1, stack := .int y :: rest }) target) : Steps p.tables e below (T.setTop g) target := by
  obtain ⟨cl, A, S, H⟩ := F
  exact X.iaload hx (j := j) (v := .int y) (by rw [eT]; exact A.1) (State.isArrayOf_alike hZ.alike A.2.1) A.2.2 (own_inb S q r) (by rw [H _ r, hy]) hg hs hd _ k
theorem own_ldB (X : Stand p l e R s m args below meth c T locs cells slots) (hx : p.tables.exec = Jvm.exec) (hZ : Z.Warmed39 s.vm) (eT : T.heap = h) {a : Addr} {n : Nat} {f : Nat → Value} (F : own_Ar Z h a .byte n f) {j y : Int32} (q : ¬ j < 0) (r : j.toNatClampNeg < n) (hy : f j.toNatClampNeg = .int y) {g : JFrame} (hg : g.method = m) {rest : List Value} (hs : g.stack = .int j :: .ref a :: rest) (hd : decode c.code g.pc = .ok (.baload, 1)) (target : State) (k : Steps p.tables e below (T.setTop { g with pc := g.pc + 1, stack := .int y :: rest }) target) : Steps p.tables e below (T.setTop g) target := by
  obtain ⟨cl, A, S, H⟩ := F
  exact X.baloadBytes hx (j := j) (v := .int y) (by rw [eT]; exact A.1) (State.isArrayOf_alike hZ.alike A.2.1) A.2.2 (own_inb S q r) (by rw [H _ r, hy]) hg hs hd _ k
theorem own_ldA (X : Stand p l e R s m args below meth c T locs cells slots) (hx : p.tables.exec = Jvm.exec) (hZ : Z.Warmed39 s.vm) (eT : T.heap = h) {a : Addr} {n : Nat} {ty : FieldType} {f : Nat → Value} (F : own_Ar Z h a ty n f) (ht : ty.isReference = true) {j : Int32} {y : Value} (q : ¬ j < 0) (r : j.toNatClampNeg < n) (hy : f j.toNatClampNeg = y) {g : JFrame} (hg : g.method = m) {rest : List Value} (hs : g.stack = .int j :: .ref a :: rest) (hd : decode c.code g.pc = .ok (.aaload, 1)) (target : State) (k : Steps p.tables e below (T.setTop { g with pc := g.pc + 1, stack := y :: rest }) target) : Steps p.tables e below (T.setTop g) target := by
  obtain ⟨cl, A, S, H⟩ := F
  exact X.aaload hx (j := j) (v := y) (by rw [eT]; exact A.1) (State.isArrayOf_alike hZ.alike A.2.1) ht A.2.2 (own_inb S q r) (by rw [H _ r, hy]) hg hs hd _ k
theorem own_len (X : Stand p l e R s m args below meth c T locs cells slots) (hx : p.tables.exec = Jvm.exec) (hZ : Z.Warmed39 s.vm) (eT : T.heap = h) {a : Addr} {n : Nat} {ty : FieldType} {f : Nat → Value} (F : own_Ar Z h a ty n f) {z : Int32} (hz : n.toInt32 = z) {g : JFrame} (hg : g.method = m) {rest : List Value} (hs : g.stack = .ref a :: rest) (hd : decode c.code g.pc = .ok (.arraylength, 1)) (target : State) (k : Steps p.tables e below (T.setTop { g with pc := g.pc + 1, stack := .int z :: rest }) target) : Steps p.tables e below (T.setTop g) target := by
  obtain ⟨cl, A, S, H⟩ := F
  exact X.arraylength hx (by rw [eT]; exact A.1) (State.isArrayOf_alike hZ.alike A.2.1) hg hs hd _ (by rw [S, hz]; exact k)
end OwnSteps
theorem own_size {args : Array Value} {s : State} {t : Term} {a : Addr} {cl : Cell} (h : (Term.length t).eval args s none [] s = some (.int (256 : Int32))) (ht : t.eval args s none [] s = some (.ref a)) (hc : s.heap[a]? = some cl) : cl.slots.size = 256 := by
  obtain ⟨a', c', e1, e2, e3⟩ := Term.length_spec h
  cases ht.symm.trans e1
  have e4 := (State.arrayAt?_spec e2).1
  cases hc.symm.trans e4
  have hf : cl.slots.size < 2 ^ 31 := by
    by_cases hs : cl.slots.size < 2 ^ 31
    · exact hs
    · exfalso
      simp only [Term.eval, ht, Option.bind_eq_bind, Option.bind_some, e2, if_neg hs] at h
      cases h
  have q := len_toInt hf
  rw [← Value.int.inj e3] at q
  have q2 : (256 : Int32).toInt = 256 := by decide
  omega
theorem own_fitsR {C : String} {v : Value} (h : v.isRef = true) : fits (.object C) v = true := by
  rcases ref_cases h with rfl | ⟨a, rfl⟩ <;> rfl
theorem own_lidx {q : Int64} (h1 : ¬ (lcmpW q (-128 : Int64)) < (0 : Int32)) (h2 : ¬ (0 : Int32) < (lcmpW q (127 : Int64))) : ¬ ((q.toInt32) + (128 : Int32)) < 0 ∧ ((q.toInt32) + (128 : Int32)).toNatClampNeg < 256 := by
  rw [lw_lt, Int64.lt_iff_toInt_lt] at h1
  rw [lw_gt, Int64.lt_iff_toInt_lt] at h2
  have e1 : (-128 : Int64).toInt = -128 := by decide
  have e2 : (127 : Int64).toInt = 127 := by decide
  have e3 : (0 : Int32).toInt = 0 := by decide
  have e4 : (128 : Int32).toInt = 128 := by decide
  have a := c_l2i q
  have b := c_iadd q.toInt32 (128 : Int32)
  have c := rng32 q.toInt32
  have d := rng32 (q.toInt32 + (128 : Int32))
  have e5 : (q.toInt32 + (128 : Int32)).toNatClampNeg = (q.toInt32 + (128 : Int32)).toInt.toNat := rfl
  rw [Int32.lt_iff_toInt_lt, e3, e5]
  rw [e1] at h1; rw [e2] at h2; rw [e4] at b
  omega
theorem own_chr (p : Int32) : ¬ (255 : Int32) < ((((p.toUInt32 >>> ((8 : Int32) &&& 31).toUInt32).toInt32) &&& (255 : Int32)).toUInt32.toUInt16.toUInt32.toInt32) := by
  generalize ((p.toUInt32 >>> ((8 : Int32) &&& 31).toUInt32).toInt32) = x
  rw [i2c_mask, Int32.lt_iff_toInt_lt]
  have h := c_and x (255 : Int32) (by decide)
  omega
theorem own_clamp {i : Nat} (h : i < 2 ^ 31) : i.toInt32.toNatClampNeg = i := by
  have q := len_toInt h
  show i.toInt32.toInt.toNat = i
  omega
theorem own_neI {args : Array Value} {s : State} {t : Term} {k x : Int32} (h : (Jvm.Cond.not (Jvm.Cond.eq t (.int k))).value args s none s [] = some true) (ht : t.eval args s none [] s = some (.int x)) : ¬ x = k := by
  have q := not_v h
  simp only [Cond.value, Term.eval, ht] at q
  simpa using q
theorem d1_0 : decode method_2_code 0 = .ok (.iload_n 0, 1) := by decide +kernel
theorem d1_1 : decode method_2_code 1 = .ok (.ifCond .ne 7, 3) := by decide +kernel
theorem d1_4 : decode method_2_code 4 = .ok (.getstatic 7, 3) := by decide +kernel
theorem d1_7 : decode method_2_code 7 = .ok (.areturn, 1) := by decide +kernel
theorem d1_8 : decode method_2_code 8 = .ok (.iload_n 0, 1) := by decide +kernel
theorem d1_9 : decode method_2_code 9 = .ok (.iconst 1, 1) := by decide +kernel
theorem d1_10 : decode method_2_code 10 = .ok (.if_icmp .ne 7, 3) := by decide +kernel
theorem d1_13 : decode method_2_code 13 = .ok (.getstatic 13, 3) := by decide +kernel
theorem d1_16 : decode method_2_code 16 = .ok (.areturn, 1) := by decide +kernel
theorem d1_17 : decode method_2_code 17 = .ok (.iload_n 0, 1) := by decide +kernel
theorem d1_18 : decode method_2_code 18 = .ok (.iconst 2, 1) := by decide +kernel
theorem d1_19 : decode method_2_code 19 = .ok (.if_icmp .ne 7, 3) := by decide +kernel
theorem d1_22 : decode method_2_code 22 = .ok (.getstatic 16, 3) := by decide +kernel
theorem d1_25 : decode method_2_code 25 = .ok (.areturn, 1) := by decide +kernel
theorem d1_26 : decode method_2_code 26 = .ok (.getstatic 19, 3) := by decide +kernel
theorem d1_29 : decode method_2_code 29 = .ok (.areturn, 1) := by decide +kernel
theorem pn_1 : plainName "com/example/versions_to_view/versionstoview/lock/LockRequestNoteKeptWaitingPinLaw" = true := by first | (simp [plainName, overriddenIn]; done) | decide +kernel
theorem ef_1 (m : MethodId) (p1 : Int32) : entryFrame m #[(.int p1)] 1 = mkF m 0 #[.val (.int p1)] [] := by first | (simp [entryFrame, mkF, argsToLocals, Value.category]; done) | rfl
def Q1 (Z : State) (p1 : Int32) (w_SHARED : Addr) (w_EXCLUSIVE : Addr) (w_GAP : Addr) (w_INSERT_INTENTION : Addr) (h0 : Heap) (n0 : Nat) (v : Option Value) (h : Heap) (L : List Loc) : Prop := ∃ r : Addr, (v = some (.ref r)) ∧ (Fr n0 L) ∧ (h = h0)
set_option maxRecDepth 65536 in
set_option maxHeartbeats 40000000 in
theorem rm1 (l : Launch) (Z : State) (a0 : Array Value) (hw : ∀ d ∈ tables_1, d.before a0 Z = true) (ws : List Jvm.Cond) (p1 : Int32) (w_SHARED : Addr) (w_EXCLUSIVE : Addr) (w_GAP : Addr) (w_INSERT_INTENTION : Addr) (h0 : Heap) (n0 : Nat) (Z0 : n0 ≤ h0.size) (S_SHARED : Sta Z h0 "com/example/versions_to_view/versionstoview/lock/LockMode" "SHARED" "Lcom/example/versions_to_view/versionstoview/lock/LockMode;" (.ref w_SHARED)) (S_EXCLUSIVE : Sta Z h0 "com/example/versions_to_view/versionstoview/lock/LockMode" "EXCLUSIVE" "Lcom/example/versions_to_view/versionstoview/lock/LockMode;" (.ref w_EXCLUSIVE)) (S_GAP : Sta Z h0 "com/example/versions_to_view/versionstoview/lock/LockMode" "GAP" "Lcom/example/versions_to_view/versionstoview/lock/LockMode;" (.ref w_GAP)) (S_INSERT_INTENTION : Sta Z h0 "com/example/versions_to_view/versionstoview/lock/LockMode" "INSERT_INTENTION" "Lcom/example/versions_to_view/versionstoview/lock/LockMode;" (.ref w_INSERT_INTENTION)) :
    MetFree l (⟨"com/example/versions_to_view/versionstoview/lock/LockRequestNoteKeptWaitingPinLaw", "modeOf", "(I)Lcom/example/versions_to_view/versionstoview/lock/LockMode;"⟩ : MethodName) (head1 (Jvm.Cond.code (⟨"com/example/versions_to_view/versionstoview/lock/LockRequestNoteKeptWaitingPinLaw", "modeOf", "(I)Lcom/example/versions_to_view/versionstoview/lock/LockMode;"⟩ : MethodName) method_2_code 1 (some (.object "com/example/versions_to_view/versionstoview/lock/LockMode")) :: ws) ({ frames := 0, cells := 0, slots := 0, locals := 0 } : Room)) (fun a U => a = #[(.int p1)] ∧ Z.Warmed39 U.vm ∧ U.heap = h0) (fun _ _ _ _ _ => True) (fun _ U o U' => ∃ v L, o = .returned v ∧ Q1 Z p1 w_SHARED w_EXCLUSIVE w_GAP w_INSERT_INTENTION h0 n0 v U'.heap L ∧ FrameEnd U o U' L ({ frames := 0, cells := 0, slots := 0, locals := 0 } : Room).cells ({ frames := 0, cells := 0, slots := 0, locals := 0 } : Room).slots) := by
  refine MetFree.of_bodySF (plainFor_of_name pn_1) hisR ?_
  intro p e s m args below meth c s₁ Bd hml0 hP hK
  obtain ⟨rfl, hZ, hh⟩ := hP
  have hx := Bd.exec
  have hby := Bd.bytes
  have hml : c.maxLocals = 1 := hml0
  have hown : s.vm.findClass "com/example/versions_to_view/versionstoview/lock/LockRequestNoteKeptWaitingPinLaw" = some m.cls := findClass_of_methodNamed Bd.named
  have hnm := (name_of_methodNamed Bd.named Bd.method).1
  have X0 : Stand p l e ({ frames := 0, cells := 0, slots := 0, locals := 0 } : Room) s m #[(.int p1)] below meth c s₁ [] 0 0 := Stand.of_body Bd
  have e0 : s₁.heap = h0 := by rw [← hh, Bd.state]; rfl
  have N0 := Fr.nil n0
  refine own_of (S := s₁.setTop (entryFrame m #[(.int p1)] 1)) (S' := s₁.setTop (mkF m 0 #[.val (.int p1)] [])) (K := fun s₂ o => ∃ v L, o = .returned v ∧ Q1 Z p1 w_SHARED w_EXCLUSIVE w_GAP w_INSERT_INTENTION h0 n0 v s₂.heap L ∧ FrameEnd s o s₂ L ({ frames := 0, cells := 0, slots := 0, locals := 0 } : Room).cells ({ frames := 0, cells := 0, slots := 0, locals := 0 } : Room).slots) (fun t k => castTop (ef_1 m p1) k) ?_
  refine own_nameK fun K hKd => ?_
  refine own_of (S' := s₁.setTop (mkF m 1 #[.val (.int p1)] [(.int p1)])) (fun t k => XS.iloadN X0.here hx rfl (hb hby d1_0) rfl k) ?_
  by_cases hc1_1 : p1 = (0 : Int32)
  · refine own_of (S' := s₁.setTop (mkF m 4 #[.val (.int p1)] [])) (fun t k => XS.ifNo X0.here hx rfl (hb hby d1_1) rfl ((if0 _ _).trans (teq hc1_1).2) k) ?_
    obtain ⟨T2, X2, e2, st2⟩ := getS2 X0 hx hZ hown (host := "") (Or.inl (hw _ (List.mem_of_getElem? (i := 4) rfl))) Via.refl e0 S_SHARED (g := (mkF m 4 #[.val (.int p1)] [])) rfl (hb hby d1_4)
    refine own_of (S' := T2.setTop (mkF m 7 #[.val (.int p1)] [(.ref w_SHARED)])) st2 ?_
    obtain ⟨fs, hr, hrun, hended, hW, hsame⟩ := X2.leave (v := some (.ref w_SHARED)) (fun h => by rw [Bd.returns] at h; cases h)
    subst hKd
    exact ⟨_, _, (retOut X2 hx Bd.returns rfl (Or.inr (Or.inr (Or.inr (Or.inr ⟨rfl, rfl, rfl⟩)))) (hb hby d1_7) hr), hrun, hended, _, _, rfl, (by
      show Q1 Z p1 w_SHARED w_EXCLUSIVE w_GAP w_INSERT_INTENTION h0 n0 _ T2.heap _
      rw [show T2.heap = h0 from e2]
      exact ⟨w_SHARED, rfl, N0, rfl⟩), ⟨_, rfl⟩, hW, hsame.mono (by decide) (by decide)⟩
  refine own_of (S' := s₁.setTop (mkF m 8 #[.val (.int p1)] [])) (fun t k => XS.ifYes X0.here hx rfl (pc0 := 1) (pc' := 8) rfl (hb hby d1_1) rfl ((if0 _ _).trans (feq hc1_1).2) (by decide) (by decide) k) ?_
  refine own_of (S' := s₁.setTop (mkF m 9 #[.val (.int p1)] [(.int p1)])) (fun t k => XS.iloadN X0.here hx rfl (hb hby d1_8) rfl k) ?_
  refine own_of (S' := s₁.setTop (mkF m 10 #[.val (.int p1)] [(.int (1 : Int32)), (.int p1)])) (fun t k => XS.iconst X0.here hx rfl (hb hby d1_9) k) ?_
  by_cases hc10_3 : p1 = (1 : Int32)
  · refine own_of (S' := s₁.setTop (mkF m 13 #[.val (.int p1)] [])) (fun t k => XS.icmpNo X0.here hx rfl (hb hby d1_10) rfl (teq hc10_3).2 k) ?_
    obtain ⟨T4, X4, e4, st4⟩ := getS2 X0 hx hZ hown (host := "") (Or.inl (hw _ (List.mem_of_getElem? (i := 115) rfl))) Via.refl e0 S_EXCLUSIVE (g := (mkF m 13 #[.val (.int p1)] [])) rfl (hb hby d1_13)
    refine own_of (S' := T4.setTop (mkF m 16 #[.val (.int p1)] [(.ref w_EXCLUSIVE)])) st4 ?_
    obtain ⟨fs, hr, hrun, hended, hW, hsame⟩ := X4.leave (v := some (.ref w_EXCLUSIVE)) (fun h => by rw [Bd.returns] at h; cases h)
    subst hKd
    exact ⟨_, _, (retOut X4 hx Bd.returns rfl (Or.inr (Or.inr (Or.inr (Or.inr ⟨rfl, rfl, rfl⟩)))) (hb hby d1_16) hr), hrun, hended, _, _, rfl, (by
      show Q1 Z p1 w_SHARED w_EXCLUSIVE w_GAP w_INSERT_INTENTION h0 n0 _ T4.heap _
      rw [show T4.heap = h0 from e4]
      exact ⟨w_EXCLUSIVE, rfl, N0, rfl⟩), ⟨_, rfl⟩, hW, hsame.mono (by decide) (by decide)⟩
  refine own_of (S' := s₁.setTop (mkF m 17 #[.val (.int p1)] [])) (fun t k => XS.icmpYes X0.here hx rfl (pc0 := 10) (pc' := 17) rfl (hb hby d1_10) rfl (feq hc10_3).2 (by decide) (by decide) k) ?_
  refine own_of (S' := s₁.setTop (mkF m 18 #[.val (.int p1)] [(.int p1)])) (fun t k => XS.iloadN X0.here hx rfl (hb hby d1_17) rfl k) ?_
  refine own_of (S' := s₁.setTop (mkF m 19 #[.val (.int p1)] [(.int (2 : Int32)), (.int p1)])) (fun t k => XS.iconst X0.here hx rfl (hb hby d1_18) k) ?_
  by_cases hc19_5 : p1 = (2 : Int32)
  · refine own_of (S' := s₁.setTop (mkF m 22 #[.val (.int p1)] [])) (fun t k => XS.icmpNo X0.here hx rfl (hb hby d1_19) rfl (teq hc19_5).2 k) ?_
    obtain ⟨T6, X6, e6, st6⟩ := getS2 X0 hx hZ hown (host := "") (Or.inl (hw _ (List.mem_of_getElem? (i := 113) rfl))) Via.refl e0 S_GAP (g := (mkF m 22 #[.val (.int p1)] [])) rfl (hb hby d1_22)
    refine own_of (S' := T6.setTop (mkF m 25 #[.val (.int p1)] [(.ref w_GAP)])) st6 ?_
    obtain ⟨fs, hr, hrun, hended, hW, hsame⟩ := X6.leave (v := some (.ref w_GAP)) (fun h => by rw [Bd.returns] at h; cases h)
    subst hKd
    exact ⟨_, _, (retOut X6 hx Bd.returns rfl (Or.inr (Or.inr (Or.inr (Or.inr ⟨rfl, rfl, rfl⟩)))) (hb hby d1_25) hr), hrun, hended, _, _, rfl, (by
      show Q1 Z p1 w_SHARED w_EXCLUSIVE w_GAP w_INSERT_INTENTION h0 n0 _ T6.heap _
      rw [show T6.heap = h0 from e6]
      exact ⟨w_GAP, rfl, N0, rfl⟩), ⟨_, rfl⟩, hW, hsame.mono (by decide) (by decide)⟩
  refine own_of (S' := s₁.setTop (mkF m 26 #[.val (.int p1)] [])) (fun t k => XS.icmpYes X0.here hx rfl (pc0 := 19) (pc' := 26) rfl (hb hby d1_19) rfl (feq hc19_5).2 (by decide) (by decide) k) ?_
  obtain ⟨T7, X7, e7, st7⟩ := getS2 X0 hx hZ hown (host := "") (Or.inl (hw _ (List.mem_of_getElem? (i := 15) rfl))) Via.refl e0 S_INSERT_INTENTION (g := (mkF m 26 #[.val (.int p1)] [])) rfl (hb hby d1_26)
  refine own_of (S' := T7.setTop (mkF m 29 #[.val (.int p1)] [(.ref w_INSERT_INTENTION)])) st7 ?_
  obtain ⟨fs, hr, hrun, hended, hW, hsame⟩ := X7.leave (v := some (.ref w_INSERT_INTENTION)) (fun h => by rw [Bd.returns] at h; cases h)
  subst hKd
  exact ⟨_, _, (retOut X7 hx Bd.returns rfl (Or.inr (Or.inr (Or.inr (Or.inr ⟨rfl, rfl, rfl⟩)))) (hb hby d1_29) hr), hrun, hended, _, _, rfl, (by
    show Q1 Z p1 w_SHARED w_EXCLUSIVE w_GAP w_INSERT_INTENTION h0 n0 _ T7.heap _
    rw [show T7.heap = h0 from e7]
    exact ⟨w_INSERT_INTENTION, rfl, N0, rfl⟩), ⟨_, rfl⟩, hW, hsame.mono (by decide) (by decide)⟩
theorem d16_0 : decode jdk_18_method_1_code 0 = .ok (.aload_n 0, 1) := by decide +kernel
theorem d16_1 : decode jdk_18_method_1_code 1 = .ok (.invokespecial 1, 3) := by decide +kernel
theorem d16_4 : decode jdk_18_method_1_code 4 = .ok (.return_, 1) := by decide +kernel
theorem pn_16 : plainName "java/lang/Number" = true := by first | (simp [plainName, overriddenIn]; done) | decide +kernel
theorem ef_16 (m : MethodId) (a1 : Addr) : entryFrame m #[(.ref a1)] 1 = mkF m 0 #[.val (.ref a1)] [] := by first | (simp [entryFrame, mkF, argsToLocals, Value.category]; done) | rfl
def Q16 (Z : State) (a1 : Addr) (h0 : Heap) (n0 : Nat) (v : Option Value) (h : Heap) (L : List Loc) : Prop := (v = none) ∧ (Fr n0 L) ∧ (h = h0)
set_option maxRecDepth 65536 in
set_option maxHeartbeats 40000000 in
theorem rm16 (l : Launch) (Z : State) (a0 : Array Value) (hw : ∀ d ∈ tables_1, d.before a0 Z = true) (ws : List Jvm.Cond) (a1 : Addr) (h0 : Heap) (n0 : Nat) (Z0 : n0 ≤ h0.size) :
    MetFree l (⟨"java/lang/Number", "<init>", "()V"⟩ : MethodName) (head1 (Jvm.Cond.code (⟨"java/lang/Number", "<init>", "()V"⟩ : MethodName) jdk_18_method_1_code 1 none :: ws) ({ frames := 1, cells := 0, slots := 0, locals := 12 } : Room)) (fun a U => a = #[(.ref a1)] ∧ Z.Warmed39 U.vm ∧ U.heap = h0) (fun _ _ _ _ _ => True) (fun _ U o U' => ∃ v L, o = .returned v ∧ Q16 Z a1 h0 n0 v U'.heap L ∧ FrameEnd U o U' L ({ frames := 1, cells := 0, slots := 0, locals := 12 } : Room).cells ({ frames := 1, cells := 0, slots := 0, locals := 12 } : Room).slots) := by
  refine MetFree.of_bodySF (plainFor_of_name pn_16) hisR ?_
  intro p e s m args below meth c s₁ Bd hml0 hP hK
  obtain ⟨rfl, hZ, hh⟩ := hP
  have hx := Bd.exec
  have hby := Bd.bytes
  have hml : c.maxLocals = 1 := hml0
  have hown : s.vm.findClass "java/lang/Number" = some m.cls := findClass_of_methodNamed Bd.named
  have hnm := (name_of_methodNamed Bd.named Bd.method).1
  have X0 : Stand p l e ({ frames := 1, cells := 0, slots := 0, locals := 12 } : Room) s m #[(.ref a1)] below meth c s₁ [] 0 0 := Stand.of_body Bd
  have e0 : s₁.heap = h0 := by rw [← hh, Bd.state]; rfl
  have N0 := Fr.nil n0
  refine own_of (S := s₁.setTop (entryFrame m #[(.ref a1)] 1)) (S' := s₁.setTop (mkF m 0 #[.val (.ref a1)] [])) (K := fun s₂ o => ∃ v L, o = .returned v ∧ Q16 Z a1 h0 n0 v s₂.heap L ∧ FrameEnd s o s₂ L ({ frames := 1, cells := 0, slots := 0, locals := 12 } : Room).cells ({ frames := 1, cells := 0, slots := 0, locals := 12 } : Room).slots) (fun t k => castTop (ef_16 m a1) k) ?_
  refine own_nameK fun K hKd => ?_
  refine own_of (S' := s₁.setTop (mkF m 1 #[.val (.ref a1)] [(.ref a1)])) (fun t k => XS.aloadN X0.here hx rfl (hb hby d16_0) rfl rfl k) ?_
  obtain ⟨T1, X1, e1, st1⟩ := initO X0 hx hZ hown (hw _ (List.mem_of_getElem? (i := 110) rfl)) (hw _ (List.mem_of_getElem? (i := 37) rfl)) (hw _ (List.mem_of_getElem? (i := 38) rfl)) e0 (g := (mkF m 1 #[.val (.ref a1)] [(.ref a1)])) rfl (by rw [hml]; rfl) rfl (hb hby d16_1) (by decide) (W := 0) (by show 2 * 0 + _ ≤ _; exact Nat.le_of_eq rfl) (by decide)
  refine own_of (S' := T1.setTop (mkF m 4 #[.val (.ref a1)] [])) st1 ?_
  obtain ⟨fs, hr, hrun, hended, hW, hsame⟩ := X1.leave (v := none) (fun _ => rfl)
  subst hKd
  exact ⟨_, _, X1.returnOut hx Bd.returns (hb hby d16_4) hr, hrun, hended, _, _, rfl, (by
    show Q16 Z a1 h0 n0 _ T1.heap _
    rw [show T1.heap = h0 from e1]
    exact ⟨rfl, N0, rfl⟩), ⟨_, rfl⟩, hW, hsame.mono (by decide) (by decide)⟩
theorem d15_0 : decode jdk_35_method_26_code 0 = .ok (.aload_n 0, 1) := by decide +kernel
theorem d15_1 : decode jdk_35_method_26_code 1 = .ok (.invokespecial 270, 3) := by decide +kernel
theorem d15_4 : decode jdk_35_method_26_code 4 = .ok (.aload_n 0, 1) := by decide +kernel
theorem d15_5 : decode jdk_35_method_26_code 5 = .ok (.lload_n 1, 1) := by decide +kernel
theorem d15_6 : decode jdk_35_method_26_code 6 = .ok (.putfield 273, 3) := by decide +kernel
theorem d15_9 : decode jdk_35_method_26_code 9 = .ok (.return_, 1) := by decide +kernel
theorem pn_15 : plainName "java/lang/Long" = true := by first | (simp [plainName, overriddenIn]; done) | decide +kernel
theorem pd15_0 : parseMethodDescriptor "()V" = some ⟨[], none⟩ := by decide +kernel
theorem ef_15 (m : MethodId) (a1 : Addr) (q2 : Int64) : entryFrame m #[(.ref a1), (.long q2)] 3 = mkF m 0 #[.val (.ref a1), .val (.long q2), .second] [] := by first | (simp [entryFrame, mkF, argsToLocals, Value.category]; done) | rfl
def Q15 (Z : State) (a1 : Addr) (q2 : Int64) (h0 : Heap) (n0 : Nat) (v : Option Value) (h : Heap) (L : List Loc) : Prop := (v = none) ∧ (Fr n0 L) ∧ (Keep h0 h [a1])
set_option maxRecDepth 65536 in
set_option maxHeartbeats 40000000 in
theorem rm15 (l : Launch) (Z : State) (a0 : Array Value) (hw : ∀ d ∈ tables_1, d.before a0 Z = true) (ws : List Jvm.Cond) (a1 : Addr) (q2 : Int64) (h0 : Heap) (n0 : Nat) (Z0 : n0 ≤ h0.size) (E_a1 : Exa Z h0 a1 "java/lang/Long") (F_value_a1 : Fld Z h0 a1 "java/lang/Long" "value" "J" (.long (0 : Int64))) (g_a1 : n0 ≤ a1) :
    MetFree l (⟨"java/lang/Long", "<init>", "(J)V"⟩ : MethodName) (head1 (Jvm.Cond.code (⟨"java/lang/Long", "<init>", "(J)V"⟩ : MethodName) jdk_35_method_26_code 3 none :: ws) ({ frames := 2, cells := 0, slots := 0, locals := 24 } : Room)) (fun a U => a = #[(.ref a1), (.long q2)] ∧ Z.Warmed39 U.vm ∧ U.heap = h0) (fun _ _ _ _ _ => True) (fun _ U o U' => ∃ v L, o = .returned v ∧ Q15 Z a1 q2 h0 n0 v U'.heap L ∧ FrameEnd U o U' L ({ frames := 2, cells := 0, slots := 0, locals := 24 } : Room).cells ({ frames := 2, cells := 0, slots := 0, locals := 24 } : Room).slots) := by
  refine MetFree.of_bodySF (plainFor_of_name pn_15) hisR ?_
  intro p e s m args below meth c s₁ Bd hml0 hP hK
  obtain ⟨rfl, hZ, hh⟩ := hP
  have hx := Bd.exec
  have hby := Bd.bytes
  have hml : c.maxLocals = 3 := hml0
  have hown : s.vm.findClass "java/lang/Long" = some m.cls := findClass_of_methodNamed Bd.named
  have hnm := (name_of_methodNamed Bd.named Bd.method).1
  have X0 : Stand p l e ({ frames := 2, cells := 0, slots := 0, locals := 24 } : Room) s m #[(.ref a1), (.long q2)] below meth c s₁ [] 0 0 := Stand.of_body Bd
  have e0 : s₁.heap = h0 := by rw [← hh, Bd.state]; rfl
  have N0 := Fr.nil n0
  refine own_of (S := s₁.setTop (entryFrame m #[(.ref a1), (.long q2)] 3)) (S' := s₁.setTop (mkF m 0 #[.val (.ref a1), .val (.long q2), .second] [])) (K := fun s₂ o => ∃ v L, o = .returned v ∧ Q15 Z a1 q2 h0 n0 v s₂.heap L ∧ FrameEnd s o s₂ L ({ frames := 2, cells := 0, slots := 0, locals := 24 } : Room).cells ({ frames := 2, cells := 0, slots := 0, locals := 24 } : Room).slots) (fun t k => castTop (ef_15 m a1 q2) k) ?_
  refine own_nameK fun K hKd => ?_
  refine own_of (S' := s₁.setTop (mkF m 1 #[.val (.ref a1), .val (.long q2), .second] [(.ref a1)])) (fun t k => XS.aloadN X0.here hx rfl (hb hby d15_0) rfl rfl k) ?_
  obtain ⟨_, _, ⟨T1, L1, k1, n1⟩, -, X1, ⟨Lc1, hQ1, l1, y1, z1⟩, st1⟩ := X0.specialBack hx (y := (⟨"java/lang/Number", "<init>", "()V"⟩ : MethodName)) rfl hown (mvT hZ (hw _ (List.mem_of_getElem? (i := 104) rfl))) (mvT hZ (hw _ (List.mem_of_getElem? (i := 105) rfl))) (mvT hZ (hw _ (List.mem_of_getElem? (i := 109) rfl))) (by decide) (backOf (W := 0) (rm16 l Z a0 hw [] a1 h0 n0 Z0 ) hZ (hw _ (List.mem_of_getElem? (i := 109) rfl)) (hw _ (List.mem_of_getElem? (i := 108) rfl)) (by decide) (by decide)) (g := (mkF m 1 #[.val (.ref a1), .val (.long q2), .second] [(.ref a1)])) rfl (by rw [hml]; rfl) (Steps.refl _) (a := a1) (argsL := []) (rest := []) (lenOf pd15_0 rfl) rfl (by show 2 * 0 + _ ≤ _; exact Nat.le_of_eq rfl) (hb hby d15_1) (fun _ _ => ⟨rfl, e0, (by decide : 0 + _ ≤ _), (by decide : 0 + _ ≤ _)⟩)
  dsimp only [Pt.U, Pt.locs, Pt.cells, Pt.slots] at X1 l1 y1 z1 st1 hQ1
  subst l1 y1 z1
  obtain ⟨rfl, N1q, hh1⟩ := hQ1
  have N1 := Fr.app N0 N1q
  refine own_of (S' := T1.setTop (mkF m 4 #[.val (.ref a1), .val (.long q2), .second] [])) (fun t k => st1.trans k) ?_
  refine own_of (S' := T1.setTop (mkF m 5 #[.val (.ref a1), .val (.long q2), .second] [(.ref a1)])) (fun t k => XS.aloadN X1.here hx rfl (hb hby d15_4) rfl rfl k) ?_
  refine own_of (S' := T1.setTop (mkF m 6 #[.val (.ref a1), .val (.long q2), .second] [(.long q2), (.ref a1)])) (fun t k => XS.lloadN X1.here hx rfl (hb hby d15_5) rfl k) ?_
  obtain ⟨T2, h2, X2, e2, W2, st2⟩ := putF X1 hx hZ hown (host := "") (Or.inl (hw _ (List.mem_of_getElem? (i := 111) rfl))) Via.refl (hh1) F_value_a1 E_a1 (Or.inr ⟨(hw _ (List.mem_of_getElem? (i := 112) rfl)), rfl, hnm⟩) (hw _ (List.mem_of_getElem? (i := 99) rfl)) (ty := .long) (by decide) rfl rfl (g := (mkF m 6 #[.val (.ref a1), .val (.long q2), .second] [(.long q2), (.ref a1)])) rfl rfl (hb hby d15_6)
  have N2 := Fr.snoc X2 N1 g_a1
  have Fw_value_2 : Fld Z h2 a1 "java/lang/Long" "value" "J" (.long q2) := F_value_a1.same W2
  refine own_of (S' := T2.setTop (mkF m 9 #[.val (.ref a1), .val (.long q2), .second] [])) st2 ?_
  obtain ⟨fs, hr, hrun, hended, hW, hsame⟩ := X2.leave (v := none) (fun _ => rfl)
  subst hKd
  exact ⟨_, _, X2.returnOut hx Bd.returns (hb hby d15_9) hr, hrun, hended, _, _, rfl, (by
    show Q15 Z a1 q2 h0 n0 _ T2.heap _
    rw [show T2.heap = h2 from e2]
    exact ⟨rfl, N2, ((Keep.refl h0 [a1]).wr W2 (Or.inl (List.mem_of_getElem? (i := 0) rfl)))⟩), ⟨_, rfl⟩, hW, hsame.mono (by decide) (by decide)⟩
theorem d2_0 : decode jdk_35_method_24_code 0 = .ok (.sipush 128, 3) := by decide +kernel
theorem d2_3 : decode jdk_35_method_24_code 3 = .ok (.istore_n 2, 1) := by decide +kernel
theorem d2_4 : decode jdk_35_method_24_code 4 = .ok (.lload_n 0, 1) := by decide +kernel
theorem d2_5 : decode jdk_35_method_24_code 5 = .ok (.ldc2_w 230, 3) := by decide +kernel
theorem d2_8 : decode jdk_35_method_24_code 8 = .ok (.lcmp, 1) := by decide +kernel
theorem d2_9 : decode jdk_35_method_24_code 9 = .ok (.ifCond .lt 22, 3) := by decide +kernel
theorem d2_12 : decode jdk_35_method_24_code 12 = .ok (.lload_n 0, 1) := by decide +kernel
theorem d2_13 : decode jdk_35_method_24_code 13 = .ok (.ldc2_w 232, 3) := by decide +kernel
theorem d2_16 : decode jdk_35_method_24_code 16 = .ok (.lcmp, 1) := by decide +kernel
theorem d2_17 : decode jdk_35_method_24_code 17 = .ok (.ifCond .gt 14, 3) := by decide +kernel
theorem d2_20 : decode jdk_35_method_24_code 20 = .ok (.getstatic 234, 3) := by decide +kernel
theorem d2_23 : decode jdk_35_method_24_code 23 = .ok (.lload_n 0, 1) := by decide +kernel
theorem d2_24 : decode jdk_35_method_24_code 24 = .ok (.l2i, 1) := by decide +kernel
theorem d2_25 : decode jdk_35_method_24_code 25 = .ok (.sipush 128, 3) := by decide +kernel
theorem d2_28 : decode jdk_35_method_24_code 28 = .ok (.iadd, 1) := by decide +kernel
theorem d2_29 : decode jdk_35_method_24_code 29 = .ok (.aaload, 1) := by decide +kernel
theorem d2_30 : decode jdk_35_method_24_code 30 = .ok (.areturn, 1) := by decide +kernel
theorem d2_31 : decode jdk_35_method_24_code 31 = .ok (.new 1, 3) := by decide +kernel
theorem d2_34 : decode jdk_35_method_24_code 34 = .ok (.dup, 1) := by decide +kernel
theorem d2_35 : decode jdk_35_method_24_code 35 = .ok (.lload_n 0, 1) := by decide +kernel
theorem d2_36 : decode jdk_35_method_24_code 36 = .ok (.invokespecial 240, 3) := by decide +kernel
theorem d2_39 : decode jdk_35_method_24_code 39 = .ok (.areturn, 1) := by decide +kernel
theorem pn_2 : plainName "java/lang/Long" = true := by first | (simp [plainName, overriddenIn]; done) | decide +kernel
theorem pd2_0 : parseMethodDescriptor "(J)V" = some ⟨[.long], none⟩ := by decide +kernel
theorem ef_2 (m : MethodId) (q1 : Int64) : entryFrame m #[(.long q1)] 3 = mkF m 0 #[.val (.long q1), .second, .unset] [] := by first | (simp [entryFrame, mkF, argsToLocals, Value.category]; done) | rfl
def Q2 (Z : State) (q1 : Int64) (wc : Addr) (fc : Nat → Value) (h0 : Heap) (n0 : Nat) (v : Option Value) (h : Heap) (L : List Loc) : Prop := ∃ r : Addr, (v = some (.ref r)) ∧ (Fr n0 L) ∧ (Keep h0 h [])
set_option maxRecDepth 65536 in
set_option maxHeartbeats 40000000 in
theorem rm2 (l : Launch) (Z : State) (a0 : Array Value) (hw : ∀ d ∈ tables_1, d.before a0 Z = true) (ws : List Jvm.Cond) (q1 : Int64) (wc : Addr) (fc : Nat → Value) (h0 : Heap) (n0 : Nat) (Z0 : n0 ≤ h0.size) (S_cache : Sta Z h0 "java/lang/Long$LongCache" "cache" "[Ljava/lang/Long;" (.ref wc)) (V_wc : own_Ar Z h0 wc (.object "java/lang/Long") 256 fc) (hca : ∀ i, i < 256 → ∃ a, fc i = .ref a) :
    MetFree l (⟨"java/lang/Long", "valueOf", "(J)Ljava/lang/Long;"⟩ : MethodName) (head1 (Jvm.Cond.code (⟨"java/lang/Long", "valueOf", "(J)Ljava/lang/Long;"⟩ : MethodName) jdk_35_method_24_code 3 (some (.object "java/lang/Long")) :: ws) ({ frames := 3, cells := 1, slots := 1, locals := 39 } : Room)) (fun a U => a = #[(.long q1)] ∧ Z.Warmed39 U.vm ∧ U.heap = h0) (fun _ _ _ _ _ => True) (fun _ U o U' => ∃ v L, o = .returned v ∧ Q2 Z q1 wc fc h0 n0 v U'.heap L ∧ FrameEnd U o U' L ({ frames := 3, cells := 1, slots := 1, locals := 39 } : Room).cells ({ frames := 3, cells := 1, slots := 1, locals := 39 } : Room).slots) := by
  refine MetFree.of_bodySF (plainFor_of_name pn_2) hisR ?_
  intro p e s m args below meth c s₁ Bd hml0 hP hK
  obtain ⟨rfl, hZ, hh⟩ := hP
  have hx := Bd.exec
  have hby := Bd.bytes
  have hml : c.maxLocals = 3 := hml0
  have hown : s.vm.findClass "java/lang/Long" = some m.cls := findClass_of_methodNamed Bd.named
  have hnm := (name_of_methodNamed Bd.named Bd.method).1
  have X0 : Stand p l e ({ frames := 3, cells := 1, slots := 1, locals := 39 } : Room) s m #[(.long q1)] below meth c s₁ [] 0 0 := Stand.of_body Bd
  have e0 : s₁.heap = h0 := by rw [← hh, Bd.state]; rfl
  have N0 := Fr.nil n0
  refine own_of (S := s₁.setTop (entryFrame m #[(.long q1)] 3)) (S' := s₁.setTop (mkF m 0 #[.val (.long q1), .second, .unset] [])) (K := fun s₂ o => ∃ v L, o = .returned v ∧ Q2 Z q1 wc fc h0 n0 v s₂.heap L ∧ FrameEnd s o s₂ L ({ frames := 3, cells := 1, slots := 1, locals := 39 } : Room).cells ({ frames := 3, cells := 1, slots := 1, locals := 39 } : Room).slots) (fun t k => castTop (ef_2 m q1) k) ?_
  refine own_nameK fun K hKd => ?_
  refine own_of (S' := s₁.setTop (mkF m 3 #[.val (.long q1), .second, .unset] [(.int (128 : Int32))])) (fun t k => XS.sipush X0.here hx rfl (hb hby d2_0) k) ?_
  refine own_of (S' := s₁.setTop (mkF m 4 #[.val (.long q1), .second, .val (.int (128 : Int32))] [])) (fun t k => XS.istoreN X0.here hx rfl (hb hby d2_3) rfl (l' := #[.val (.long q1), .second, .val (.int (128 : Int32))]) rfl k) ?_
  refine own_of (S' := s₁.setTop (mkF m 5 #[.val (.long q1), .second, .val (.int (128 : Int32))] [(.long q1)])) (fun t k => XS.lloadN X0.here hx rfl (hb hby d2_4) rfl k) ?_
  refine own_of (S' := s₁.setTop (mkF m 8 #[.val (.long q1), .second, .val (.int (128 : Int32))] [(.long (-128 : Int64)), (.long q1)])) (X0.ldc2Long hx hown (mvT hZ (hw _ (List.mem_of_getElem? (i := 11) rfl))) (g := (mkF m 5 #[.val (.long q1), .second, .val (.int (128 : Int32))] [(.long q1)])) rfl (hb hby d2_5)) ?_
  refine own_of (S' := s₁.setTop (mkF m 9 #[.val (.long q1), .second, .val (.int (128 : Int32))] [(.int (lcmpW q1 (-128 : Int64)))])) (fun t k => XS.lcmp X0.here hx rfl (hb hby d2_8) rfl k) ?_
  by_cases hc9_1 : (lcmpW q1 (-128 : Int64)) < (0 : Int32)
  · refine own_of (S' := s₁.setTop (mkF m 31 #[.val (.long q1), .second, .val (.int (128 : Int32))] [])) (fun t k => XS.ifYes X0.here hx rfl (pc0 := 9) (pc' := 31) rfl (hb hby d2_9) rfl ((if0 _ _).trans (tlt hc9_1).1) (by decide) (by decide) k) ?_
    obtain ⟨T2, h2, X2, e2, E2, A2, D2, -, st2⟩ := newO X0 hx hZ hown (hw _ (List.mem_of_getElem? (i := 98) rfl)) (hw _ (List.mem_of_getElem? (i := 99) rfl)) (hw _ (List.mem_of_getElem? (i := 9) rfl)) e0 (g := (mkF m 31 #[.val (.long q1), .second, .val (.int (128 : Int32))] [])) rfl (hb hby d2_31) (by decide) (by decide)
    obtain ⟨b2, g2⟩ : ∃ z, z = h0.size := ⟨_, rfl⟩
    rw [← g2] at A2 D2 st2
    have g_b2 : n0 ≤ b2 := Nat.le_trans Z0 (Nat.le_trans (Nat.le_refl _) (Nat.le_of_eq g2.symm))
    have F_value_b2 : Fld Z h2 b2 "java/lang/Long" "value" "J" (.long (0 : Int64)) := D2 (Or.inr (hw _ (List.mem_of_getElem? (i := 112) rfl))) (ty := .long) (by decide)
    refine own_of (S' := T2.setTop (mkF m 34 #[.val (.long q1), .second, .val (.int (128 : Int32))] [(.ref b2)])) st2 ?_
    refine own_of (S' := T2.setTop (mkF m 35 #[.val (.long q1), .second, .val (.int (128 : Int32))] [(.ref b2), (.ref b2)])) (fun t k => XS.dup X2.here hx rfl (hb hby d2_34) rfl rfl k) ?_
    refine own_of (S' := T2.setTop (mkF m 36 #[.val (.long q1), .second, .val (.int (128 : Int32))] [(.long q1), (.ref b2), (.ref b2)])) (fun t k => XS.lloadN X2.here hx rfl (hb hby d2_35) rfl k) ?_
    obtain ⟨_, _, ⟨T3, L3, k3, n3⟩, -, X3, ⟨Lc3, hQ3, l3, y3, z3⟩, st3⟩ := X2.specialBack hx (y := (⟨"java/lang/Long", "<init>", "(J)V"⟩ : MethodName)) rfl hown (mvT hZ (hw _ (List.mem_of_getElem? (i := 100) rfl))) (mvT hZ (hw _ (List.mem_of_getElem? (i := 101) rfl))) (mvT hZ (hw _ (List.mem_of_getElem? (i := 103) rfl))) (by decide) (backOf (W := 1) (rm15 l Z a0 hw [] b2 q1 h2 n0 (Nat.le_trans Z0 E2.1) A2 F_value_b2 g_b2) hZ (hw _ (List.mem_of_getElem? (i := 103) rfl)) (hw _ (List.mem_of_getElem? (i := 9) rfl)) (by decide) (by decide)) (g := (mkF m 36 #[.val (.long q1), .second, .val (.int (128 : Int32))] [(.long q1), (.ref b2), (.ref b2)])) rfl (by rw [hml]; rfl) (Steps.refl _) (a := b2) (argsL := [(.long q1)]) (rest := [(.ref b2)]) (lenOf pd2_0 rfl) rfl (by show 2 * 0 + _ ≤ _; exact Nat.le_of_eq rfl) (hb hby d2_36) (fun _ _ => ⟨rfl, e2, (by decide : (0 + 1) + _ ≤ _), (by decide : (0 + 1) + _ ≤ _)⟩)
    dsimp only [Pt.U, Pt.locs, Pt.cells, Pt.slots] at X3 l3 y3 z3 st3 hQ3
    subst l3 y3 z3
    obtain ⟨rfl, N3q, K3⟩ := hQ3
    have N3 := Fr.app N0 N3q
    refine own_of (S' := T3.setTop (mkF m 39 #[.val (.long q1), .second, .val (.int (128 : Int32))] [(.ref b2)])) (fun t k => st3.trans k) ?_
    obtain ⟨fs, hr, hrun, hended, hW, hsame⟩ := X3.leave (v := some (.ref b2)) (fun h => by rw [Bd.returns] at h; cases h)
    subst hKd
    exact ⟨_, _, (retOut X3 hx Bd.returns rfl (Or.inr (Or.inr (Or.inr (Or.inr ⟨rfl, rfl, rfl⟩)))) (hb hby d2_39) hr), hrun, hended, _, _, rfl, (by
      show Q2 Z q1 wc fc h0 n0 _ T3.heap _
      exact ⟨b2, rfl, N3, (((Keep.refl h0 []).ext E2).trans K3 (allS (Or.inr (Nat.le_trans (Nat.le_refl _) (Nat.le_of_eq g2.symm))) all0))⟩), ⟨_, rfl⟩, hW, hsame.mono (by decide) (by decide)⟩
  refine own_of (S' := s₁.setTop (mkF m 12 #[.val (.long q1), .second, .val (.int (128 : Int32))] [])) (fun t k => XS.ifNo X0.here hx rfl (hb hby d2_9) rfl ((if0 _ _).trans (flt hc9_1).1) k) ?_
  refine own_of (S' := s₁.setTop (mkF m 13 #[.val (.long q1), .second, .val (.int (128 : Int32))] [(.long q1)])) (fun t k => XS.lloadN X0.here hx rfl (hb hby d2_12) rfl k) ?_
  refine own_of (S' := s₁.setTop (mkF m 16 #[.val (.long q1), .second, .val (.int (128 : Int32))] [(.long (127 : Int64)), (.long q1)])) (X0.ldc2Long hx hown (mvT hZ (hw _ (List.mem_of_getElem? (i := 12) rfl))) (g := (mkF m 13 #[.val (.long q1), .second, .val (.int (128 : Int32))] [(.long q1)])) rfl (hb hby d2_13)) ?_
  refine own_of (S' := s₁.setTop (mkF m 17 #[.val (.long q1), .second, .val (.int (128 : Int32))] [(.int (lcmpW q1 (127 : Int64)))])) (fun t k => XS.lcmp X0.here hx rfl (hb hby d2_16) rfl k) ?_
  by_cases hc17_4 : (0 : Int32) < (lcmpW q1 (127 : Int64))
  · refine own_of (S' := s₁.setTop (mkF m 31 #[.val (.long q1), .second, .val (.int (128 : Int32))] [])) (fun t k => XS.ifYes X0.here hx rfl (pc0 := 17) (pc' := 31) rfl (hb hby d2_17) rfl ((if0 _ _).trans (tlt hc17_4).2.2.1) (by decide) (by decide) k) ?_
    obtain ⟨T5, h5, X5, e5, E5, A5, D5, -, st5⟩ := newO X0 hx hZ hown (hw _ (List.mem_of_getElem? (i := 98) rfl)) (hw _ (List.mem_of_getElem? (i := 99) rfl)) (hw _ (List.mem_of_getElem? (i := 9) rfl)) e0 (g := (mkF m 31 #[.val (.long q1), .second, .val (.int (128 : Int32))] [])) rfl (hb hby d2_31) (by decide) (by decide)
    obtain ⟨b5, g5⟩ : ∃ z, z = h0.size := ⟨_, rfl⟩
    rw [← g5] at A5 D5 st5
    have g_b5 : n0 ≤ b5 := Nat.le_trans Z0 (Nat.le_trans (Nat.le_refl _) (Nat.le_of_eq g5.symm))
    have F_value_b5 : Fld Z h5 b5 "java/lang/Long" "value" "J" (.long (0 : Int64)) := D5 (Or.inr (hw _ (List.mem_of_getElem? (i := 112) rfl))) (ty := .long) (by decide)
    refine own_of (S' := T5.setTop (mkF m 34 #[.val (.long q1), .second, .val (.int (128 : Int32))] [(.ref b5)])) st5 ?_
    refine own_of (S' := T5.setTop (mkF m 35 #[.val (.long q1), .second, .val (.int (128 : Int32))] [(.ref b5), (.ref b5)])) (fun t k => XS.dup X5.here hx rfl (hb hby d2_34) rfl rfl k) ?_
    refine own_of (S' := T5.setTop (mkF m 36 #[.val (.long q1), .second, .val (.int (128 : Int32))] [(.long q1), (.ref b5), (.ref b5)])) (fun t k => XS.lloadN X5.here hx rfl (hb hby d2_35) rfl k) ?_
    obtain ⟨_, _, ⟨T6, L6, k6, n6⟩, -, X6, ⟨Lc6, hQ6, l6, y6, z6⟩, st6⟩ := X5.specialBack hx (y := (⟨"java/lang/Long", "<init>", "(J)V"⟩ : MethodName)) rfl hown (mvT hZ (hw _ (List.mem_of_getElem? (i := 100) rfl))) (mvT hZ (hw _ (List.mem_of_getElem? (i := 101) rfl))) (mvT hZ (hw _ (List.mem_of_getElem? (i := 103) rfl))) (by decide) (backOf (W := 1) (rm15 l Z a0 hw [] b5 q1 h5 n0 (Nat.le_trans Z0 E5.1) A5 F_value_b5 g_b5) hZ (hw _ (List.mem_of_getElem? (i := 103) rfl)) (hw _ (List.mem_of_getElem? (i := 9) rfl)) (by decide) (by decide)) (g := (mkF m 36 #[.val (.long q1), .second, .val (.int (128 : Int32))] [(.long q1), (.ref b5), (.ref b5)])) rfl (by rw [hml]; rfl) (Steps.refl _) (a := b5) (argsL := [(.long q1)]) (rest := [(.ref b5)]) (lenOf pd2_0 rfl) rfl (by show 2 * 0 + _ ≤ _; exact Nat.le_of_eq rfl) (hb hby d2_36) (fun _ _ => ⟨rfl, e5, (by decide : (0 + 1) + _ ≤ _), (by decide : (0 + 1) + _ ≤ _)⟩)
    dsimp only [Pt.U, Pt.locs, Pt.cells, Pt.slots] at X6 l6 y6 z6 st6 hQ6
    subst l6 y6 z6
    obtain ⟨rfl, N6q, K6⟩ := hQ6
    have N6 := Fr.app N0 N6q
    refine own_of (S' := T6.setTop (mkF m 39 #[.val (.long q1), .second, .val (.int (128 : Int32))] [(.ref b5)])) (fun t k => st6.trans k) ?_
    obtain ⟨fs, hr, hrun, hended, hW, hsame⟩ := X6.leave (v := some (.ref b5)) (fun h => by rw [Bd.returns] at h; cases h)
    subst hKd
    exact ⟨_, _, (retOut X6 hx Bd.returns rfl (Or.inr (Or.inr (Or.inr (Or.inr ⟨rfl, rfl, rfl⟩)))) (hb hby d2_39) hr), hrun, hended, _, _, rfl, (by
      show Q2 Z q1 wc fc h0 n0 _ T6.heap _
      exact ⟨b5, rfl, N6, (((Keep.refl h0 []).ext E5).trans K6 (allS (Or.inr (Nat.le_trans (Nat.le_refl _) (Nat.le_of_eq g5.symm))) all0))⟩), ⟨_, rfl⟩, hW, hsame.mono (by decide) (by decide)⟩
  refine own_of (S' := s₁.setTop (mkF m 20 #[.val (.long q1), .second, .val (.int (128 : Int32))] [])) (fun t k => XS.ifNo X0.here hx rfl (hb hby d2_17) rfl ((if0 _ _).trans (flt hc17_4).2.2.1) k) ?_
  obtain ⟨T7, X7, e7, st7⟩ := getS2 X0 hx hZ hown (host := "") (Or.inl (hw _ (List.mem_of_getElem? (i := 13) rfl))) Via.refl e0 S_cache (g := (mkF m 20 #[.val (.long q1), .second, .val (.int (128 : Int32))] [])) rfl (hb hby d2_20)
  refine own_of (S' := T7.setTop (mkF m 23 #[.val (.long q1), .second, .val (.int (128 : Int32))] [(.ref wc)])) st7 ?_
  refine own_of (S' := T7.setTop (mkF m 24 #[.val (.long q1), .second, .val (.int (128 : Int32))] [(.long q1), (.ref wc)])) (fun t k => XS.lloadN X7.here hx rfl (hb hby d2_23) rfl k) ?_
  refine own_of (S' := T7.setTop (mkF m 25 #[.val (.long q1), .second, .val (.int (128 : Int32))] [(.int (q1.toInt32)), (.ref wc)])) (fun t k => XS.l2i X7.here hx rfl (hb hby d2_24) rfl k) ?_
  refine own_of (S' := T7.setTop (mkF m 28 #[.val (.long q1), .second, .val (.int (128 : Int32))] [(.int (128 : Int32)), (.int (q1.toInt32)), (.ref wc)])) (fun t k => XS.sipush X7.here hx rfl (hb hby d2_25) k) ?_
  refine own_of (S' := T7.setTop (mkF m 29 #[.val (.long q1), .second, .val (.int (128 : Int32))] [(.int ((q1.toInt32) + (128 : Int32))), (.ref wc)])) (fun t k => XS.iadd X7.here hx rfl (hb hby d2_28) rfl k) ?_
  obtain ⟨y8, hy8⟩ := hca _ (own_lidx hc9_1 hc17_4).2
  refine own_of (S' := T7.setTop (mkF m 30 #[.val (.long q1), .second, .val (.int (128 : Int32))] [(.ref y8)])) (own_ldA X7 hx hZ e7 V_wc rfl (j := ((q1.toInt32) + (128 : Int32))) (y := (.ref y8)) (own_lidx hc9_1 hc17_4).1 (own_lidx hc9_1 hc17_4).2 hy8 (g := (mkF m 29 #[.val (.long q1), .second, .val (.int (128 : Int32))] [(.int ((q1.toInt32) + (128 : Int32))), (.ref wc)])) rfl rfl (hb hby d2_29)) ?_
  obtain ⟨fs, hr, hrun, hended, hW, hsame⟩ := X7.leave (v := some (.ref y8)) (fun h => by rw [Bd.returns] at h; cases h)
  subst hKd
  exact ⟨_, _, (retOut X7 hx Bd.returns rfl (Or.inr (Or.inr (Or.inr (Or.inr ⟨rfl, rfl, rfl⟩)))) (hb hby d2_30) hr), hrun, hended, _, _, rfl, (by
    show Q2 Z q1 wc fc h0 n0 _ T7.heap _
    rw [show T7.heap = h0 from e7]
    exact ⟨y8, rfl, N0, (Keep.refl h0 [])⟩), ⟨_, rfl⟩, hW, hsame.mono (by decide) (by decide)⟩
theorem d4_0 : decode jdk_43_method_3_code 0 = .ok (.iload_n 0, 1) := by decide +kernel
theorem d4_1 : decode jdk_43_method_3_code 1 = .ok (.sipush 255, 3) := by decide +kernel
theorem d4_4 : decode jdk_43_method_3_code 4 = .ok (.if_icmp .gt 7, 3) := by decide +kernel
theorem d4_7 : decode jdk_43_method_3_code 7 = .ok (.iconst 1, 1) := by decide +kernel
theorem d4_8 : decode jdk_43_method_3_code 8 = .ok (.goto 4, 3) := by decide +kernel
theorem d4_12 : decode jdk_43_method_3_code 12 = .ok (.ireturn, 1) := by decide +kernel
theorem pn_4 : plainName "java/lang/StringLatin1" = true := by first | (simp [plainName, overriddenIn]; done) | decide +kernel
theorem ef_4 (m : MethodId) (p1 : Int32) : entryFrame m #[(.int p1)] 1 = mkF m 0 #[.val (.int p1)] [] := by first | (simp [entryFrame, mkF, argsToLocals, Value.category]; done) | rfl
def Q4 (Z : State) (p1 : Int32) (h0 : Heap) (n0 : Nat) (v : Option Value) (h : Heap) (L : List Loc) : Prop := (v = some (.int (1 : Int32))) ∧ (Fr n0 L) ∧ (h = h0)
set_option maxRecDepth 65536 in
set_option maxHeartbeats 40000000 in
theorem rm4 (l : Launch) (Z : State) (a0 : Array Value) (hw : ∀ d ∈ tables_1, d.before a0 Z = true) (ws : List Jvm.Cond) (p1 : Int32) (h0 : Heap) (n0 : Nat) (Z0 : n0 ≤ h0.size) (hle : ¬ (255 : Int32) < p1) :
    MetFree l (⟨"java/lang/StringLatin1", "canEncode", "(C)Z"⟩ : MethodName) (head1 (Jvm.Cond.code (⟨"java/lang/StringLatin1", "canEncode", "(C)Z"⟩ : MethodName) jdk_43_method_3_code 1 (some .boolean) :: ws) ({ frames := 0, cells := 0, slots := 0, locals := 0 } : Room)) (fun a U => a = #[(.int p1)] ∧ Z.Warmed39 U.vm ∧ U.heap = h0) (fun _ _ _ _ _ => True) (fun _ U o U' => ∃ v L, o = .returned v ∧ Q4 Z p1 h0 n0 v U'.heap L ∧ FrameEnd U o U' L ({ frames := 0, cells := 0, slots := 0, locals := 0 } : Room).cells ({ frames := 0, cells := 0, slots := 0, locals := 0 } : Room).slots) := by
  refine MetFree.of_bodySF (plainFor_of_name pn_4) hisR ?_
  intro p e s m args below meth c s₁ Bd hml0 hP hK
  obtain ⟨rfl, hZ, hh⟩ := hP
  have hx := Bd.exec
  have hby := Bd.bytes
  have hml : c.maxLocals = 1 := hml0
  have hown : s.vm.findClass "java/lang/StringLatin1" = some m.cls := findClass_of_methodNamed Bd.named
  have hnm := (name_of_methodNamed Bd.named Bd.method).1
  have X0 : Stand p l e ({ frames := 0, cells := 0, slots := 0, locals := 0 } : Room) s m #[(.int p1)] below meth c s₁ [] 0 0 := Stand.of_body Bd
  have e0 : s₁.heap = h0 := by rw [← hh, Bd.state]; rfl
  have N0 := Fr.nil n0
  refine own_of (S := s₁.setTop (entryFrame m #[(.int p1)] 1)) (S' := s₁.setTop (mkF m 0 #[.val (.int p1)] [])) (K := fun s₂ o => ∃ v L, o = .returned v ∧ Q4 Z p1 h0 n0 v s₂.heap L ∧ FrameEnd s o s₂ L ({ frames := 0, cells := 0, slots := 0, locals := 0 } : Room).cells ({ frames := 0, cells := 0, slots := 0, locals := 0 } : Room).slots) (fun t k => castTop (ef_4 m p1) k) ?_
  refine own_nameK fun K hKd => ?_
  refine own_of (S' := s₁.setTop (mkF m 1 #[.val (.int p1)] [(.int p1)])) (fun t k => XS.iloadN X0.here hx rfl (hb hby d4_0) rfl k) ?_
  refine own_of (S' := s₁.setTop (mkF m 4 #[.val (.int p1)] [(.int (255 : Int32)), (.int p1)])) (fun t k => XS.sipush X0.here hx rfl (hb hby d4_1) k) ?_
  refine own_of (S' := s₁.setTop (mkF m 7 #[.val (.int p1)] [])) (fun t k => XS.icmpNo X0.here hx rfl (hb hby d4_4) rfl (flt hle).2.2.1 k) ?_
  refine own_of (S' := s₁.setTop (mkF m 8 #[.val (.int p1)] [(.int (1 : Int32))])) (fun t k => XS.iconst X0.here hx rfl (hb hby d4_7) k) ?_
  refine own_of (S' := s₁.setTop (mkF m 12 #[.val (.int p1)] [(.int (1 : Int32))])) (fun t k => XS.goto X0.here hx rfl (pc0 := 8) (pc' := 12) rfl (hb hby d4_8) (by decide) (by decide) k) ?_
  obtain ⟨fs, hr, hrun, hended, hW, hsame⟩ := X0.leave (v := some (.int (1 : Int32))) (fun h => by rw [Bd.returns] at h; cases h)
  subst hKd
  exact ⟨_, _, retN X0 hx (t := .boolean) Bd.returns (by simp) (hb hby d4_12) hr, hrun, hended, _, _, rfl, (by
    show Q4 Z p1 h0 n0 _ s₁.heap _
    rw [show s₁.heap = h0 from e0]
    exact ⟨rfl, N0, rfl⟩), ⟨_, rfl⟩, hW, hsame.mono (by decide) (by decide)⟩
theorem d5_0 : decode jdk_43_method_46_code 0 = .ok (.iconst 1, 1) := by decide +kernel
theorem d5_1 : decode jdk_43_method_46_code 1 = .ok (.newarray .byte, 2) := by decide +kernel
theorem d5_3 : decode jdk_43_method_46_code 3 = .ok (.dup, 1) := by decide +kernel
theorem d5_4 : decode jdk_43_method_46_code 4 = .ok (.iconst 0, 1) := by decide +kernel
theorem d5_5 : decode jdk_43_method_46_code 5 = .ok (.iload_n 0, 1) := by decide +kernel
theorem d5_6 : decode jdk_43_method_46_code 6 = .ok (.i2b, 1) := by decide +kernel
theorem d5_7 : decode jdk_43_method_46_code 7 = .ok (.bastore, 1) := by decide +kernel
theorem d5_8 : decode jdk_43_method_46_code 8 = .ok (.areturn, 1) := by decide +kernel
theorem pn_5 : plainName "java/lang/StringLatin1" = true := by first | (simp [plainName, overriddenIn]; done) | decide +kernel
theorem ef_5 (m : MethodId) (p1 : Int32) : entryFrame m #[(.int p1)] 1 = mkF m 0 #[.val (.int p1)] [] := by first | (simp [entryFrame, mkF, argsToLocals, Value.category]; done) | rfl
def Q5 (Z : State) (p1 : Int32) (h0 : Heap) (n0 : Nat) (v : Option Value) (h : Heap) (L : List Loc) : Prop := ∃ r : Addr, (v = some (.ref r)) ∧ (Fr n0 L) ∧ (Keep h0 h [])
set_option maxRecDepth 65536 in
set_option maxHeartbeats 40000000 in
theorem rm5 (l : Launch) (Z : State) (a0 : Array Value) (hw : ∀ d ∈ tables_1, d.before a0 Z = true) (ws : List Jvm.Cond) (p1 : Int32) (h0 : Heap) (n0 : Nat) (Z0 : n0 ≤ h0.size) :
    MetFree l (⟨"java/lang/StringLatin1", "toBytes", "(C)[B"⟩ : MethodName) (head1 (Jvm.Cond.code (⟨"java/lang/StringLatin1", "toBytes", "(C)[B"⟩ : MethodName) jdk_43_method_46_code 1 (some (.array .byte)) :: ws) ({ frames := 0, cells := 1, slots := 1, locals := 0 } : Room)) (fun a U => a = #[(.int p1)] ∧ Z.Warmed39 U.vm ∧ U.heap = h0) (fun _ _ _ _ _ => True) (fun _ U o U' => ∃ v L, o = .returned v ∧ Q5 Z p1 h0 n0 v U'.heap L ∧ FrameEnd U o U' L ({ frames := 0, cells := 1, slots := 1, locals := 0 } : Room).cells ({ frames := 0, cells := 1, slots := 1, locals := 0 } : Room).slots) := by
  refine MetFree.of_bodySF (plainFor_of_name pn_5) hisR ?_
  intro p e s m args below meth c s₁ Bd hml0 hP hK
  obtain ⟨rfl, hZ, hh⟩ := hP
  have hx := Bd.exec
  have hby := Bd.bytes
  have hml : c.maxLocals = 1 := hml0
  have hown : s.vm.findClass "java/lang/StringLatin1" = some m.cls := findClass_of_methodNamed Bd.named
  have hnm := (name_of_methodNamed Bd.named Bd.method).1
  have X0 : Stand p l e ({ frames := 0, cells := 1, slots := 1, locals := 0 } : Room) s m #[(.int p1)] below meth c s₁ [] 0 0 := Stand.of_body Bd
  have e0 : s₁.heap = h0 := by rw [← hh, Bd.state]; rfl
  have N0 := Fr.nil n0
  refine own_of (S := s₁.setTop (entryFrame m #[(.int p1)] 1)) (S' := s₁.setTop (mkF m 0 #[.val (.int p1)] [])) (K := fun s₂ o => ∃ v L, o = .returned v ∧ Q5 Z p1 h0 n0 v s₂.heap L ∧ FrameEnd s o s₂ L ({ frames := 0, cells := 1, slots := 1, locals := 0 } : Room).cells ({ frames := 0, cells := 1, slots := 1, locals := 0 } : Room).slots) (fun t k => castTop (ef_5 m p1) k) ?_
  refine own_nameK fun K hKd => ?_
  refine own_of (S' := s₁.setTop (mkF m 1 #[.val (.int p1)] [(.int (1 : Int32))])) (fun t k => XS.iconst X0.here hx rfl (hb hby d5_0) k) ?_
  obtain ⟨T1, h1, k1, X1, e1, E1, A1, st1⟩ := newP X0 hx hZ (hw _ (List.mem_of_getElem? (i := 31) rfl)) e0 (g := (mkF m 1 #[.val (.int p1)] [(.int (1 : Int32))])) rfl (hb hby d5_1) rfl (by decide) (cap := 1) (by decide) (by decide) (by decide) (by decide)
  obtain ⟨b1, g1⟩ : ∃ z, z = h0.size := ⟨_, rfl⟩
  rw [← g1] at A1 st1
  have g_b1 : n0 ≤ b1 := Nat.le_trans Z0 (Nat.le_trans (Nat.le_refl _) (Nat.le_of_eq g1.symm))
  have V_b1 : own_Ar Z h1 b1 .byte 1 (fun _ => defaultValue .byte) := own_Ar.new A1 (by decide) (by decide)
  refine own_of (S' := T1.setTop (mkF m 3 #[.val (.int p1)] [(.ref b1)])) st1 ?_
  refine own_of (S' := T1.setTop (mkF m 4 #[.val (.int p1)] [(.ref b1), (.ref b1)])) (fun t k => XS.dup X1.here hx rfl (hb hby d5_3) rfl rfl k) ?_
  refine own_of (S' := T1.setTop (mkF m 5 #[.val (.int p1)] [(.int (0 : Int32)), (.ref b1), (.ref b1)])) (fun t k => XS.iconst X1.here hx rfl (hb hby d5_4) k) ?_
  refine own_of (S' := T1.setTop (mkF m 6 #[.val (.int p1)] [(.int p1), (.int (0 : Int32)), (.ref b1), (.ref b1)])) (fun t k => XS.iloadN X1.here hx rfl (hb hby d5_5) rfl k) ?_
  refine own_of (S' := T1.setTop (mkF m 7 #[.val (.int p1)] [(.int (p1.toInt8.toInt32)), (.int (0 : Int32)), (.ref b1), (.ref b1)])) (fun t k => XS.i2b X1.here hx rfl (hb hby d5_6) rfl k) ?_
  obtain ⟨T2, h2, X2, e2, W2, V2, st2⟩ := own_stB X1 hx hZ e1 V_b1 (j := (0 : Int32)) (by decide) (by decide) (g := (mkF m 7 #[.val (.int p1)] [(.int (p1.toInt8.toInt32)), (.int (0 : Int32)), (.ref b1), (.ref b1)])) rfl rfl (hb hby d5_7)
  have N2 := Fr.snoc X2 N0 g_b1
  obtain ⟨fn2, q2⟩ : ∃ y : Nat → Value, y = (fun i => if i = ((0 : Int32)).toNatClampNeg then .int (nar .byte (p1.toInt8.toInt32)) else (fun _ => defaultValue .byte) i) := ⟨_, rfl⟩
  rw [← q2] at V2
  refine own_of (S' := T2.setTop (mkF m 8 #[.val (.int p1)] [(.ref b1)])) st2 ?_
  obtain ⟨fs, hr, hrun, hended, hW, hsame⟩ := X2.leave (v := some (.ref b1)) (fun h => by rw [Bd.returns] at h; cases h)
  subst hKd
  exact ⟨_, _, (retOut X2 hx Bd.returns rfl (Or.inr (Or.inr (Or.inr (Or.inr ⟨rfl, rfl, rfl⟩)))) (hb hby d5_8) hr), hrun, hended, _, _, rfl, (by
    show Q5 Z p1 h0 n0 _ T2.heap _
    rw [show T2.heap = h2 from e2]
    exact ⟨b1, rfl, N2, (((Keep.refl h0 []).ext E1).wr W2 (Or.inr (Nat.le_trans (Nat.le_refl _) (Nat.le_of_eq g1.symm))))⟩), ⟨_, rfl⟩, hW, hsame.mono (by decide) (by decide)⟩
theorem d6_0 : decode jdk_42_method_151_code 0 = .ok (.aload_n 0, 1) := by decide +kernel
theorem d6_1 : decode jdk_42_method_151_code 1 = .ok (.invokespecial 1, 3) := by decide +kernel
theorem d6_4 : decode jdk_42_method_151_code 4 = .ok (.aload_n 0, 1) := by decide +kernel
theorem d6_5 : decode jdk_42_method_151_code 5 = .ok (.aload_n 1, 1) := by decide +kernel
theorem d6_6 : decode jdk_42_method_151_code 6 = .ok (.putfield 9, 3) := by decide +kernel
theorem d6_9 : decode jdk_42_method_151_code 9 = .ok (.aload_n 0, 1) := by decide +kernel
theorem d6_10 : decode jdk_42_method_151_code 10 = .ok (.iload_n 2, 1) := by decide +kernel
theorem d6_11 : decode jdk_42_method_151_code 11 = .ok (.putfield 15, 3) := by decide +kernel
theorem d6_14 : decode jdk_42_method_151_code 14 = .ok (.return_, 1) := by decide +kernel
theorem pn_6 : plainName "java/lang/String" = true := by first | (simp [plainName, overriddenIn]; done) | decide +kernel
theorem ef_6 (m : MethodId) (a1 : Addr) (a2 : Addr) (p3 : Int32) : entryFrame m #[(.ref a1), (.ref a2), (.int p3)] 3 = mkF m 0 #[.val (.ref a1), .val (.ref a2), .val (.int p3)] [] := by first | (simp [entryFrame, mkF, argsToLocals, Value.category]; done) | rfl
def Q6 (Z : State) (a1 : Addr) (a2 : Addr) (p3 : Int32) (h0 : Heap) (n0 : Nat) (v : Option Value) (h : Heap) (L : List Loc) : Prop := (v = none) ∧ (Fr n0 L) ∧ (Keep h0 h [a1])
set_option maxRecDepth 65536 in
set_option maxHeartbeats 40000000 in
theorem rm6 (l : Launch) (Z : State) (a0 : Array Value) (hw : ∀ d ∈ tables_1, d.before a0 Z = true) (ws : List Jvm.Cond) (a1 : Addr) (a2 : Addr) (p3 : Int32) (h0 : Heap) (n0 : Nat) (Z0 : n0 ≤ h0.size) (E_a1 : Exa Z h0 a1 "java/lang/String") (F_value_a1 : Fld Z h0 a1 "java/lang/String" "value" "[B" .null) (F_coder_a1 : Fld Z h0 a1 "java/lang/String" "coder" "B" (.int (0 : Int32))) (g_a1 : n0 ≤ a1) :
    MetFree l (⟨"java/lang/String", "<init>", "([BB)V"⟩ : MethodName) (head1 (Jvm.Cond.code (⟨"java/lang/String", "<init>", "([BB)V"⟩ : MethodName) jdk_42_method_151_code 3 none :: ws) ({ frames := 1, cells := 0, slots := 0, locals := 12 } : Room)) (fun a U => a = #[(.ref a1), (.ref a2), (.int p3)] ∧ Z.Warmed39 U.vm ∧ U.heap = h0) (fun _ _ _ _ _ => True) (fun _ U o U' => ∃ v L, o = .returned v ∧ Q6 Z a1 a2 p3 h0 n0 v U'.heap L ∧ FrameEnd U o U' L ({ frames := 1, cells := 0, slots := 0, locals := 12 } : Room).cells ({ frames := 1, cells := 0, slots := 0, locals := 12 } : Room).slots) := by
  refine MetFree.of_bodySF (plainFor_of_name pn_6) hisR ?_
  intro p e s m args below meth c s₁ Bd hml0 hP hK
  obtain ⟨rfl, hZ, hh⟩ := hP
  have hx := Bd.exec
  have hby := Bd.bytes
  have hml : c.maxLocals = 3 := hml0
  have hown : s.vm.findClass "java/lang/String" = some m.cls := findClass_of_methodNamed Bd.named
  have hnm := (name_of_methodNamed Bd.named Bd.method).1
  have X0 : Stand p l e ({ frames := 1, cells := 0, slots := 0, locals := 12 } : Room) s m #[(.ref a1), (.ref a2), (.int p3)] below meth c s₁ [] 0 0 := Stand.of_body Bd
  have e0 : s₁.heap = h0 := by rw [← hh, Bd.state]; rfl
  have N0 := Fr.nil n0
  refine own_of (S := s₁.setTop (entryFrame m #[(.ref a1), (.ref a2), (.int p3)] 3)) (S' := s₁.setTop (mkF m 0 #[.val (.ref a1), .val (.ref a2), .val (.int p3)] [])) (K := fun s₂ o => ∃ v L, o = .returned v ∧ Q6 Z a1 a2 p3 h0 n0 v s₂.heap L ∧ FrameEnd s o s₂ L ({ frames := 1, cells := 0, slots := 0, locals := 12 } : Room).cells ({ frames := 1, cells := 0, slots := 0, locals := 12 } : Room).slots) (fun t k => castTop (ef_6 m a1 a2 p3) k) ?_
  refine own_nameK fun K hKd => ?_
  refine own_of (S' := s₁.setTop (mkF m 1 #[.val (.ref a1), .val (.ref a2), .val (.int p3)] [(.ref a1)])) (fun t k => XS.aloadN X0.here hx rfl (hb hby d6_0) rfl rfl k) ?_
  obtain ⟨T1, X1, e1, st1⟩ := initO X0 hx hZ hown (hw _ (List.mem_of_getElem? (i := 36) rfl)) (hw _ (List.mem_of_getElem? (i := 37) rfl)) (hw _ (List.mem_of_getElem? (i := 38) rfl)) e0 (g := (mkF m 1 #[.val (.ref a1), .val (.ref a2), .val (.int p3)] [(.ref a1)])) rfl (by rw [hml]; rfl) rfl (hb hby d6_1) (by decide) (W := 0) (by show 2 * 0 + _ ≤ _; exact Nat.le_of_eq rfl) (by decide)
  refine own_of (S' := T1.setTop (mkF m 4 #[.val (.ref a1), .val (.ref a2), .val (.int p3)] [])) st1 ?_
  refine own_of (S' := T1.setTop (mkF m 5 #[.val (.ref a1), .val (.ref a2), .val (.int p3)] [(.ref a1)])) (fun t k => XS.aloadN X1.here hx rfl (hb hby d6_4) rfl rfl k) ?_
  refine own_of (S' := T1.setTop (mkF m 6 #[.val (.ref a1), .val (.ref a2), .val (.int p3)] [(.ref a2), (.ref a1)])) (fun t k => XS.aloadN X1.here hx rfl (hb hby d6_5) rfl rfl k) ?_
  obtain ⟨T2, h2, X2, e2, W2, st2⟩ := putF X1 hx hZ hown (host := "") (Or.inl (hw _ (List.mem_of_getElem? (i := 39) rfl))) Via.refl e1 F_value_a1 E_a1 (Or.inr ⟨(hw _ (List.mem_of_getElem? (i := 40) rfl)), rfl, hnm⟩) (hw _ (List.mem_of_getElem? (i := 27) rfl)) (ty := (.array .byte)) (by decide) rfl rfl (g := (mkF m 6 #[.val (.ref a1), .val (.ref a2), .val (.int p3)] [(.ref a2), (.ref a1)])) rfl rfl (hb hby d6_6)
  have N2 := Fr.snoc X2 N0 g_a1
  have Fw_value_2 : Fld Z h2 a1 "java/lang/String" "value" "[B" (.ref a2) := F_value_a1.same W2
  refine own_of (S' := T2.setTop (mkF m 9 #[.val (.ref a1), .val (.ref a2), .val (.int p3)] [])) st2 ?_
  refine own_of (S' := T2.setTop (mkF m 10 #[.val (.ref a1), .val (.ref a2), .val (.int p3)] [(.ref a1)])) (fun t k => XS.aloadN X2.here hx rfl (hb hby d6_9) rfl rfl k) ?_
  refine own_of (S' := T2.setTop (mkF m 11 #[.val (.ref a1), .val (.ref a2), .val (.int p3)] [(.int p3), (.ref a1)])) (fun t k => XS.iloadN X2.here hx rfl (hb hby d6_10) rfl k) ?_
  have E_a1_t3 : Exa Z h2 a1 "java/lang/String" := (E_a1.wr W2)
  have F_coder_a1_t4 : Fld Z h2 a1 "java/lang/String" "coder" "B" (.int (0 : Int32)) := (F_coder_a1.other W2 (Or.inr (slot_ne (Or.inr (hw _ (List.mem_of_getElem? (i := 42) rfl))) (Or.inr (hw _ (List.mem_of_getElem? (i := 40) rfl))) (by decide) (t := .byte) (t' := (.array .byte)) (by decide) (by decide))))
  obtain ⟨T5, h5, X5, e5, W5, st5⟩ := putFN X2 hx hZ hown (hw _ (List.mem_of_getElem? (i := 41) rfl)) Via.refl e2 F_coder_a1_t4 E_a1_t3 (Or.inr ⟨(hw _ (List.mem_of_getElem? (i := 42) rfl)), rfl, hnm⟩) (hw _ (List.mem_of_getElem? (i := 27) rfl)) (ty := .byte) (v' := (.int (nar .byte p3))) (by decide) rfl (fits_nar_byte _) (g := (mkF m 11 #[.val (.ref a1), .val (.ref a2), .val (.int p3)] [(.int p3), (.ref a1)])) rfl rfl (hb hby d6_11)
  have N5 := Fr.snoc X5 N2 g_a1
  have Fw_coder_5 : Fld Z h5 a1 "java/lang/String" "coder" "B" (.int (nar .byte p3)) := F_coder_a1_t4.same W5
  refine own_of (S' := T5.setTop (mkF m 14 #[.val (.ref a1), .val (.ref a2), .val (.int p3)] [])) st5 ?_
  obtain ⟨fs, hr, hrun, hended, hW, hsame⟩ := X5.leave (v := none) (fun _ => rfl)
  subst hKd
  exact ⟨_, _, X5.returnOut hx Bd.returns (hb hby d6_14) hr, hrun, hended, _, _, rfl, (by
    show Q6 Z a1 a2 p3 h0 n0 _ T5.heap _
    rw [show T5.heap = h5 from e5]
    exact ⟨rfl, N5, (((Keep.refl h0 [a1]).wr W2 (Or.inl (List.mem_of_getElem? (i := 0) rfl))).wr W5 (Or.inl (List.mem_of_getElem? (i := 0) rfl)))⟩), ⟨_, rfl⟩, hW, hsame.mono (by decide) (by decide)⟩
theorem d3_0 : decode jdk_42_method_139_code 0 = .ok (.getstatic 38, 3) := by decide +kernel
theorem d3_3 : decode jdk_42_method_139_code 3 = .ok (.ifCond .eq 23, 3) := by decide +kernel
theorem d3_6 : decode jdk_42_method_139_code 6 = .ok (.iload_n 0, 1) := by decide +kernel
theorem d3_7 : decode jdk_42_method_139_code 7 = .ok (.invokestatic 1015, 3) := by decide +kernel
theorem d3_10 : decode jdk_42_method_139_code 10 = .ok (.ifCond .eq 16, 3) := by decide +kernel
theorem d3_13 : decode jdk_42_method_139_code 13 = .ok (.new 10, 3) := by decide +kernel
theorem d3_16 : decode jdk_42_method_139_code 16 = .ok (.dup, 1) := by decide +kernel
theorem d3_17 : decode jdk_42_method_139_code 17 = .ok (.iload_n 0, 1) := by decide +kernel
theorem d3_18 : decode jdk_42_method_139_code 18 = .ok (.invokestatic 1018, 3) := by decide +kernel
theorem d3_21 : decode jdk_42_method_139_code 21 = .ok (.iconst 0, 1) := by decide +kernel
theorem d3_22 : decode jdk_42_method_139_code 22 = .ok (.invokespecial 209, 3) := by decide +kernel
theorem d3_25 : decode jdk_42_method_139_code 25 = .ok (.areturn, 1) := by decide +kernel
theorem pn_3 : plainName "java/lang/String" = true := by first | (simp [plainName, overriddenIn]; done) | decide +kernel
theorem pd3_0 : parseMethodDescriptor "(C)Z" = some ⟨[.char], some .boolean⟩ := by decide +kernel
theorem pd3_1 : parseMethodDescriptor "(C)[B" = some ⟨[.char], some (.array .byte)⟩ := by decide +kernel
theorem pd3_2 : parseMethodDescriptor "([BB)V" = some ⟨[(.array .byte), .byte], none⟩ := by decide +kernel
theorem ef_3 (m : MethodId) (p1 : Int32) : entryFrame m #[(.int p1)] 1 = mkF m 0 #[.val (.int p1)] [] := by first | (simp [entryFrame, mkF, argsToLocals, Value.category]; done) | rfl
def Q3 (Z : State) (p1 : Int32) (ics : Int32) (h0 : Heap) (n0 : Nat) (v : Option Value) (h : Heap) (L : List Loc) : Prop := ∃ r : Addr, (v = some (.ref r)) ∧ (Fr n0 L) ∧ (Keep h0 h [])
set_option maxRecDepth 65536 in
set_option maxHeartbeats 40000000 in
theorem rm3 (l : Launch) (Z : State) (a0 : Array Value) (hw : ∀ d ∈ tables_1, d.before a0 Z = true) (ws : List Jvm.Cond) (p1 : Int32) (ics : Int32) (h0 : Heap) (n0 : Nat) (Z0 : n0 ≤ h0.size) (S_COMPACT_STRINGS : Sta Z h0 "java/lang/String" "COMPACT_STRINGS" "Z" (.int ics)) (hics : ¬ ics = (0 : Int32)) (hle : ¬ (255 : Int32) < p1) :
    MetFree l (⟨"java/lang/String", "valueOf", "(C)Ljava/lang/String;"⟩ : MethodName) (head1 (Jvm.Cond.code (⟨"java/lang/String", "valueOf", "(C)Ljava/lang/String;"⟩ : MethodName) jdk_42_method_139_code 1 (some (.object "java/lang/String")) :: ws) ({ frames := 2, cells := 2, slots := 5, locals := 27 } : Room)) (fun a U => a = #[(.int p1)] ∧ Z.Warmed39 U.vm ∧ U.heap = h0) (fun _ _ _ _ _ => True) (fun _ U o U' => ∃ v L, o = .returned v ∧ Q3 Z p1 ics h0 n0 v U'.heap L ∧ FrameEnd U o U' L ({ frames := 2, cells := 2, slots := 5, locals := 27 } : Room).cells ({ frames := 2, cells := 2, slots := 5, locals := 27 } : Room).slots) := by
  refine MetFree.of_bodySF (plainFor_of_name pn_3) hisR ?_
  intro p e s m args below meth c s₁ Bd hml0 hP hK
  obtain ⟨rfl, hZ, hh⟩ := hP
  have hx := Bd.exec
  have hby := Bd.bytes
  have hml : c.maxLocals = 1 := hml0
  have hown : s.vm.findClass "java/lang/String" = some m.cls := findClass_of_methodNamed Bd.named
  have hnm := (name_of_methodNamed Bd.named Bd.method).1
  have X0 : Stand p l e ({ frames := 2, cells := 2, slots := 5, locals := 27 } : Room) s m #[(.int p1)] below meth c s₁ [] 0 0 := Stand.of_body Bd
  have e0 : s₁.heap = h0 := by rw [← hh, Bd.state]; rfl
  have N0 := Fr.nil n0
  refine own_of (S := s₁.setTop (entryFrame m #[(.int p1)] 1)) (S' := s₁.setTop (mkF m 0 #[.val (.int p1)] [])) (K := fun s₂ o => ∃ v L, o = .returned v ∧ Q3 Z p1 ics h0 n0 v s₂.heap L ∧ FrameEnd s o s₂ L ({ frames := 2, cells := 2, slots := 5, locals := 27 } : Room).cells ({ frames := 2, cells := 2, slots := 5, locals := 27 } : Room).slots) (fun t k => castTop (ef_3 m p1) k) ?_
  refine own_nameK fun K hKd => ?_
  obtain ⟨T1, X1, e1, st1⟩ := getS2 X0 hx hZ hown (host := "") (Or.inl (hw _ (List.mem_of_getElem? (i := 21) rfl))) Via.refl e0 S_COMPACT_STRINGS (g := (mkF m 0 #[.val (.int p1)] [])) rfl (hb hby d3_0)
  refine own_of (S' := T1.setTop (mkF m 3 #[.val (.int p1)] [(.int ics)])) st1 ?_
  refine own_of (S' := T1.setTop (mkF m 6 #[.val (.int p1)] [])) (fun t k => XS.ifNo X1.here hx rfl (hb hby d3_3) rfl ((if0 _ _).trans (feq hics).1) k) ?_
  refine own_of (S' := T1.setTop (mkF m 7 #[.val (.int p1)] [(.int p1)])) (fun t k => XS.iloadN X1.here hx rfl (hb hby d3_6) rfl k) ?_
  obtain ⟨_, _, ⟨T2, L2, k2, n2⟩, -, X2, ⟨Lc2, hQ2, l2, y2, z2⟩, st2⟩ := Jvm.LawKit.callS X1 hx (y := (⟨"java/lang/StringLatin1", "canEncode", "(C)Z"⟩ : MethodName)) hown (mvT hZ (hw _ (List.mem_of_getElem? (i := 22) rfl))) (mvT hZ (hw _ (List.mem_of_getElem? (i := 23) rfl))) (mvT hZ (hw _ (List.mem_of_getElem? (i := 24) rfl))) (mvT hZ (hw _ (List.mem_of_getElem? (i := 25) rfl))) (by decide) (backOf (W := 0) (rm4 l Z a0 hw [] p1 h0 n0 Z0 hle) hZ (hw _ (List.mem_of_getElem? (i := 25) rfl)) (hw _ (List.mem_of_getElem? (i := 24) rfl)) (by decide) (by decide)) (g := (mkF m 7 #[.val (.int p1)] [(.int p1)])) rfl (by rw [hml]; rfl) (argsL := [(.int p1)]) (rest := []) (lenOf pd3_0 rfl) rfl (by show 2 * 0 + _ ≤ _; exact Nat.le_of_eq rfl) (hb hby d3_7) (fun _ _ => ⟨rfl, e1, (by decide : 0 + _ ≤ _), (by decide : 0 + _ ≤ _)⟩)
  dsimp only [Pt.U, Pt.locs, Pt.cells, Pt.slots] at X2 l2 y2 z2 st2 hQ2
  subst l2 y2 z2
  obtain ⟨rfl, N2q, hh2⟩ := hQ2
  have N2 := Fr.app N0 N2q
  refine own_of (S' := T2.setTop (mkF m 10 #[.val (.int p1)] [(.int (1 : Int32))])) st2 ?_
  refine own_of (S' := T2.setTop (mkF m 13 #[.val (.int p1)] [])) (fun t k => XS.ifNo X2.here hx rfl (hb hby d3_10) rfl ((if0 _ _).trans (feq (by decide : ¬ ((1 : Int32) = (0 : Int32)))).1) k) ?_
  obtain ⟨T3, h3, X3, e3, E3, A3, D3, -, st3⟩ := newO X2 hx hZ hown (hw _ (List.mem_of_getElem? (i := 26) rfl)) (hw _ (List.mem_of_getElem? (i := 27) rfl)) (hw _ (List.mem_of_getElem? (i := 19) rfl)) (hh2) (g := (mkF m 13 #[.val (.int p1)] [])) rfl (hb hby d3_13) (by decide) (by decide)
  obtain ⟨b3, g3⟩ : ∃ z, z = h0.size := ⟨_, rfl⟩
  rw [← g3] at A3 D3 st3
  have g_b3 : n0 ≤ b3 := Nat.le_trans Z0 (Nat.le_trans (Nat.le_refl _) (Nat.le_of_eq g3.symm))
  have F_value_b3 : Fld Z h3 b3 "java/lang/String" "value" "[B" .null := D3 (Or.inr (hw _ (List.mem_of_getElem? (i := 40) rfl))) (ty := (.array .byte)) (by decide)
  have F_coder_b3 : Fld Z h3 b3 "java/lang/String" "coder" "B" (.int (0 : Int32)) := D3 (Or.inr (hw _ (List.mem_of_getElem? (i := 42) rfl))) (ty := .byte) (by decide)
  refine own_of (S' := T3.setTop (mkF m 16 #[.val (.int p1)] [(.ref b3)])) st3 ?_
  refine own_of (S' := T3.setTop (mkF m 17 #[.val (.int p1)] [(.ref b3), (.ref b3)])) (fun t k => XS.dup X3.here hx rfl (hb hby d3_16) rfl rfl k) ?_
  refine own_of (S' := T3.setTop (mkF m 18 #[.val (.int p1)] [(.int p1), (.ref b3), (.ref b3)])) (fun t k => XS.iloadN X3.here hx rfl (hb hby d3_17) rfl k) ?_
  obtain ⟨_, _, ⟨T4, L4, k4, n4⟩, -, X4, ⟨Lc4, hQ4, l4, y4, z4⟩, st4⟩ := Jvm.LawKit.callS X3 hx (y := (⟨"java/lang/StringLatin1", "toBytes", "(C)[B"⟩ : MethodName)) hown (mvT hZ (hw _ (List.mem_of_getElem? (i := 28) rfl))) (mvT hZ (hw _ (List.mem_of_getElem? (i := 29) rfl))) (mvT hZ (hw _ (List.mem_of_getElem? (i := 24) rfl))) (mvT hZ (hw _ (List.mem_of_getElem? (i := 30) rfl))) (by decide) (backOf (W := 2) (rm5 l Z a0 hw [] p1 h3 n0 (Nat.le_trans Z0 E3.1) ) hZ (hw _ (List.mem_of_getElem? (i := 30) rfl)) (hw _ (List.mem_of_getElem? (i := 24) rfl)) (by decide) (by decide)) (g := (mkF m 18 #[.val (.int p1)] [(.int p1), (.ref b3), (.ref b3)])) rfl (by rw [hml]; rfl) (argsL := [(.int p1)]) (rest := [(.ref b3), (.ref b3)]) (lenOf pd3_1 rfl) rfl (by show 2 * 0 + _ ≤ _; exact Nat.le_of_eq rfl) (hb hby d3_18) (fun _ _ => ⟨rfl, e3, (by decide : ((0 + 0) + 1) + _ ≤ _), (by decide : ((0 + 0) + 4) + _ ≤ _)⟩)
  dsimp only [Pt.U, Pt.locs, Pt.cells, Pt.slots] at X4 l4 y4 z4 st4 hQ4
  subst l4 y4 z4
  obtain ⟨r_4, rfl, N4q, K4⟩ := hQ4
  have N4 := Fr.app N2 N4q
  refine own_of (S' := T4.setTop (mkF m 21 #[.val (.int p1)] [(.ref r_4), (.ref b3), (.ref b3)])) st4 ?_
  refine own_of (S' := T4.setTop (mkF m 22 #[.val (.int p1)] [(.int (0 : Int32)), (.ref r_4), (.ref b3), (.ref b3)])) (fun t k => XS.iconst X4.here hx rfl (hb hby d3_21) k) ?_
  have A3_t5 : Exa Z T4.heap b3 "java/lang/String" := (A3.keep K4)
  have F_value_b3_t6 : Fld Z T4.heap b3 "java/lang/String" "value" "[B" .null := (F_value_b3.keep K4 nin0)
  have F_coder_b3_t7 : Fld Z T4.heap b3 "java/lang/String" "coder" "B" (.int (0 : Int32)) := (F_coder_b3.keep K4 nin0)
  obtain ⟨_, _, ⟨T8, L8, k8, n8⟩, -, X8, ⟨Lc8, hQ8, l8, y8, z8⟩, st8⟩ := X4.specialBack hx (y := (⟨"java/lang/String", "<init>", "([BB)V"⟩ : MethodName)) rfl hown (mvT hZ (hw _ (List.mem_of_getElem? (i := 32) rfl))) (mvT hZ (hw _ (List.mem_of_getElem? (i := 33) rfl))) (mvT hZ (hw _ (List.mem_of_getElem? (i := 35) rfl))) (by decide) (backOf (W := 1) (rm6 l Z a0 hw [] b3 r_4 (0 : Int32) T4.heap n0 (Nat.le_trans (Nat.le_trans Z0 E3.1) K4.1) A3_t5 F_value_b3_t6 F_coder_b3_t7 g_b3) hZ (hw _ (List.mem_of_getElem? (i := 35) rfl)) (hw _ (List.mem_of_getElem? (i := 19) rfl)) (by decide) (by decide)) (g := (mkF m 22 #[.val (.int p1)] [(.int (0 : Int32)), (.ref r_4), (.ref b3), (.ref b3)])) rfl (by rw [hml]; rfl) (Steps.refl _) (a := b3) (argsL := [(.ref r_4), (.int (0 : Int32))]) (rest := [(.ref b3)]) (lenOf pd3_2 rfl) rfl (by show 2 * 0 + _ ≤ _; exact Nat.le_of_eq rfl) (hb hby d3_22) (fun _ _ => ⟨rfl, rfl, (by decide : (((0 + 0) + 1) + 1) + _ ≤ _), (by decide : (((0 + 0) + 4) + 1) + _ ≤ _)⟩)
  dsimp only [Pt.U, Pt.locs, Pt.cells, Pt.slots] at X8 l8 y8 z8 st8 hQ8
  subst l8 y8 z8
  obtain ⟨rfl, N8q, K8⟩ := hQ8
  have N8 := Fr.app N4 N8q
  refine own_of (S' := T8.setTop (mkF m 25 #[.val (.int p1)] [(.ref b3)])) (fun t k => st8.trans k) ?_
  obtain ⟨fs, hr, hrun, hended, hW, hsame⟩ := X8.leave (v := some (.ref b3)) (fun h => by rw [Bd.returns] at h; cases h)
  subst hKd
  exact ⟨_, _, (retOut X8 hx Bd.returns rfl (Or.inr (Or.inr (Or.inr (Or.inr ⟨rfl, rfl, rfl⟩)))) (hb hby d3_25) hr), hrun, hended, _, _, rfl, (by
    show Q3 Z p1 ics h0 n0 _ T8.heap _
    exact ⟨b3, rfl, N8, ((((Keep.refl h0 []).ext E3).trans K4 all0).trans K8 (allS (Or.inr (Nat.le_trans (Nat.le_refl _) (Nat.le_of_eq g3.symm))) all0))⟩), ⟨_, rfl⟩, hW, hsame.mono (by decide) (by decide)⟩
theorem d8_0 : decode prog_18_method_1_code 0 = .ok (.aload_n 0, 1) := by decide +kernel
theorem d8_1 : decode prog_18_method_1_code 1 = .ok (.invokespecial 1, 3) := by decide +kernel
theorem d8_4 : decode prog_18_method_1_code 4 = .ok (.aload_n 0, 1) := by decide +kernel
theorem d8_5 : decode prog_18_method_1_code 5 = .ok (.aload_n 1, 1) := by decide +kernel
theorem d8_6 : decode prog_18_method_1_code 6 = .ok (.putfield 7, 3) := by decide +kernel
theorem d8_9 : decode prog_18_method_1_code 9 = .ok (.aload_n 0, 1) := by decide +kernel
theorem d8_10 : decode prog_18_method_1_code 10 = .ok (.aload_n 2, 1) := by decide +kernel
theorem d8_11 : decode prog_18_method_1_code 11 = .ok (.putfield 13, 3) := by decide +kernel
theorem d8_14 : decode prog_18_method_1_code 14 = .ok (.aload_n 0, 1) := by decide +kernel
theorem d8_15 : decode prog_18_method_1_code 15 = .ok (.aload_n 3, 1) := by decide +kernel
theorem d8_16 : decode prog_18_method_1_code 16 = .ok (.putfield 17, 3) := by decide +kernel
theorem d8_19 : decode prog_18_method_1_code 19 = .ok (.aload_n 0, 1) := by decide +kernel
theorem d8_20 : decode prog_18_method_1_code 20 = .ok (.aload 4, 2) := by decide +kernel
theorem d8_22 : decode prog_18_method_1_code 22 = .ok (.putfield 20, 3) := by decide +kernel
theorem d8_25 : decode prog_18_method_1_code 25 = .ok (.aload_n 0, 1) := by decide +kernel
theorem d8_26 : decode prog_18_method_1_code 26 = .ok (.aload 5, 2) := by decide +kernel
theorem d8_28 : decode prog_18_method_1_code 28 = .ok (.putfield 24, 3) := by decide +kernel
theorem d8_31 : decode prog_18_method_1_code 31 = .ok (.aload_n 0, 1) := by decide +kernel
theorem d8_32 : decode prog_18_method_1_code 32 = .ok (.iload 7, 2) := by decide +kernel
theorem d8_34 : decode prog_18_method_1_code 34 = .ok (.putfield 28, 3) := by decide +kernel
theorem d8_37 : decode prog_18_method_1_code 37 = .ok (.aload_n 0, 1) := by decide +kernel
theorem d8_38 : decode prog_18_method_1_code 38 = .ok (.iload 6, 2) := by decide +kernel
theorem d8_40 : decode prog_18_method_1_code 40 = .ok (.putfield 32, 3) := by decide +kernel
theorem d8_43 : decode prog_18_method_1_code 43 = .ok (.return_, 1) := by decide +kernel
theorem pn_8 : plainName "com/example/versions_to_view/versionstoview/lock/LockRequest" = true := by first | (simp [plainName, overriddenIn]; done) | decide +kernel
theorem ef_8 (m : MethodId) (a1 : Addr) (ta : Addr) (key : Value) (ins : Value) (mo : Addr) (gr : Int32) (iw : Int32) (h2 : key.isRef = true) (h3 : ins.isRef = true) : entryFrame m #[(.ref a1), (.ref ta), key, ins, .null, (.ref mo), (.int gr), (.int iw)] 8 = mkF m 0 #[.val (.ref a1), .val (.ref ta), .val key, .val ins, .val .null, .val (.ref mo), .val (.int gr), .val (.int iw)] [] := by
  rcases ref_cases h2 with rfl | ⟨_, rfl⟩ <;> rcases ref_cases h3 with rfl | ⟨_, rfl⟩ <;>
  first | (simp [entryFrame, mkF, argsToLocals, Value.category]; done) | rfl
def Q8 (Z : State) (a1 : Addr) (ta : Addr) (key : Value) (ins : Value) (mo : Addr) (gr : Int32) (iw : Int32) (h0 : Heap) (n0 : Nat) (v : Option Value) (h : Heap) (L : List Loc) : Prop := (v = none) ∧ (Fr n0 L) ∧ (Keep h0 h [a1]) ∧ (Fld Z h a1 "com/example/versions_to_view/versionstoview/lock/LockRequest" "key" "Ljava/lang/Long;" key) ∧ (Fld Z h a1 "com/example/versions_to_view/versionstoview/lock/LockRequest" "mode" "Lcom/example/versions_to_view/versionstoview/lock/LockMode;" (.ref mo)) ∧ (Fld Z h a1 "com/example/versions_to_view/versionstoview/lock/LockRequest" "inWord" "Z" (.int iw)) ∧ (Fld Z h a1 "com/example/versions_to_view/versionstoview/lock/LockRequest" "granted" "Z" (.int gr)) ∧ (Fld Z h a1 "com/example/versions_to_view/versionstoview/lock/LockRequest" "keptWaiting" "Z" (.int (0 : Int32))) ∧ (Fld Z h a1 "com/example/versions_to_view/versionstoview/lock/LockRequest" "refused" "Z" (.int (0 : Int32)))
set_option maxRecDepth 65536 in
set_option maxHeartbeats 40000000 in
theorem rm8 (l : Launch) (Z : State) (a0 : Array Value) (hw : ∀ d ∈ tables_1, d.before a0 Z = true) (ws : List Jvm.Cond) (a1 : Addr) (ta : Addr) (key : Value) (ins : Value) (mo : Addr) (gr : Int32) (iw : Int32) (h0 : Heap) (n0 : Nat) (Z0 : n0 ≤ h0.size) (E_a1 : Exa Z h0 a1 "com/example/versions_to_view/versionstoview/lock/LockRequest") (F_table_a1 : Fld Z h0 a1 "com/example/versions_to_view/versionstoview/lock/LockRequest" "table" "Ljava/lang/String;" .null) (F_key_a1 : Fld Z h0 a1 "com/example/versions_to_view/versionstoview/lock/LockRequest" "key" "Ljava/lang/Long;" .null) (F_inserted_a1 : Fld Z h0 a1 "com/example/versions_to_view/versionstoview/lock/LockRequest" "inserted" "Ljava/lang/Long;" .null) (F_transaction_a1 : Fld Z h0 a1 "com/example/versions_to_view/versionstoview/lock/LockRequest" "transaction" "Lcom/example/versions_to_view/versionstoview/transaction/Transaction;" .null) (F_mode_a1 : Fld Z h0 a1 "com/example/versions_to_view/versionstoview/lock/LockRequest" "mode" "Lcom/example/versions_to_view/versionstoview/lock/LockMode;" .null) (F_inWord_a1 : Fld Z h0 a1 "com/example/versions_to_view/versionstoview/lock/LockRequest" "inWord" "Z" (.int (0 : Int32))) (F_granted_a1 : Fld Z h0 a1 "com/example/versions_to_view/versionstoview/lock/LockRequest" "granted" "Z" (.int (0 : Int32))) (F_keptWaiting_a1 : Fld Z h0 a1 "com/example/versions_to_view/versionstoview/lock/LockRequest" "keptWaiting" "Z" (.int (0 : Int32))) (F_refused_a1 : Fld Z h0 a1 "com/example/versions_to_view/versionstoview/lock/LockRequest" "refused" "Z" (.int (0 : Int32))) (g_a1 : n0 ≤ a1) (hv_key : key.isRef = true) (hv_ins : ins.isRef = true) (hb_gr : gr = (0 : Int32) ∨ gr = (1 : Int32)) (hb_iw : iw = (0 : Int32) ∨ iw = (1 : Int32)) :
    MetFree l (⟨"com/example/versions_to_view/versionstoview/lock/LockRequest", "<init>", "(Ljava/lang/String;Ljava/lang/Long;Ljava/lang/Long;Lcom/example/versions_to_view/versionstoview/transaction/Transaction;Lcom/example/versions_to_view/versionstoview/lock/LockMode;ZZ)V"⟩ : MethodName) (head1 (Jvm.Cond.code (⟨"com/example/versions_to_view/versionstoview/lock/LockRequest", "<init>", "(Ljava/lang/String;Ljava/lang/Long;Ljava/lang/Long;Lcom/example/versions_to_view/versionstoview/transaction/Transaction;Lcom/example/versions_to_view/versionstoview/lock/LockMode;ZZ)V"⟩ : MethodName) prog_18_method_1_code 8 none :: ws) ({ frames := 1, cells := 0, slots := 0, locals := 12 } : Room)) (fun a U => a = #[(.ref a1), (.ref ta), key, ins, .null, (.ref mo), (.int gr), (.int iw)] ∧ Z.Warmed39 U.vm ∧ U.heap = h0) (fun _ _ _ _ _ => True) (fun _ U o U' => ∃ v L, o = .returned v ∧ Q8 Z a1 ta key ins mo gr iw h0 n0 v U'.heap L ∧ FrameEnd U o U' L ({ frames := 1, cells := 0, slots := 0, locals := 12 } : Room).cells ({ frames := 1, cells := 0, slots := 0, locals := 12 } : Room).slots) := by
  refine MetFree.of_bodySF (plainFor_of_name pn_8) hisR ?_
  intro p e s m args below meth c s₁ Bd hml0 hP hK
  obtain ⟨rfl, hZ, hh⟩ := hP
  have hx := Bd.exec
  have hby := Bd.bytes
  have hml : c.maxLocals = 8 := hml0
  have hown : s.vm.findClass "com/example/versions_to_view/versionstoview/lock/LockRequest" = some m.cls := findClass_of_methodNamed Bd.named
  have hnm := (name_of_methodNamed Bd.named Bd.method).1
  have X0 : Stand p l e ({ frames := 1, cells := 0, slots := 0, locals := 12 } : Room) s m #[(.ref a1), (.ref ta), key, ins, .null, (.ref mo), (.int gr), (.int iw)] below meth c s₁ [] 0 0 := Stand.of_body Bd
  have e0 : s₁.heap = h0 := by rw [← hh, Bd.state]; rfl
  have N0 := Fr.nil n0
  refine own_of (S := s₁.setTop (entryFrame m #[(.ref a1), (.ref ta), key, ins, .null, (.ref mo), (.int gr), (.int iw)] 8)) (S' := s₁.setTop (mkF m 0 #[.val (.ref a1), .val (.ref ta), .val key, .val ins, .val .null, .val (.ref mo), .val (.int gr), .val (.int iw)] [])) (K := fun s₂ o => ∃ v L, o = .returned v ∧ Q8 Z a1 ta key ins mo gr iw h0 n0 v s₂.heap L ∧ FrameEnd s o s₂ L ({ frames := 1, cells := 0, slots := 0, locals := 12 } : Room).cells ({ frames := 1, cells := 0, slots := 0, locals := 12 } : Room).slots) (fun t k => castTop (ef_8 m a1 ta key ins mo gr iw hv_key hv_ins) k) ?_
  refine own_nameK fun K hKd => ?_
  refine own_of (S' := s₁.setTop (mkF m 1 #[.val (.ref a1), .val (.ref ta), .val key, .val ins, .val .null, .val (.ref mo), .val (.int gr), .val (.int iw)] [(.ref a1)])) (fun t k => XS.aloadN X0.here hx rfl (hb hby d8_0) rfl rfl k) ?_
  obtain ⟨T1, X1, e1, st1⟩ := initO X0 hx hZ hown (hw _ (List.mem_of_getElem? (i := 49) rfl)) (hw _ (List.mem_of_getElem? (i := 37) rfl)) (hw _ (List.mem_of_getElem? (i := 38) rfl)) e0 (g := (mkF m 1 #[.val (.ref a1), .val (.ref ta), .val key, .val ins, .val .null, .val (.ref mo), .val (.int gr), .val (.int iw)] [(.ref a1)])) rfl (by rw [hml]; rfl) rfl (hb hby d8_1) (by decide) (W := 0) (by show 2 * 0 + _ ≤ _; exact Nat.le_of_eq rfl) (by decide)
  refine own_of (S' := T1.setTop (mkF m 4 #[.val (.ref a1), .val (.ref ta), .val key, .val ins, .val .null, .val (.ref mo), .val (.int gr), .val (.int iw)] [])) st1 ?_
  refine own_of (S' := T1.setTop (mkF m 5 #[.val (.ref a1), .val (.ref ta), .val key, .val ins, .val .null, .val (.ref mo), .val (.int gr), .val (.int iw)] [(.ref a1)])) (fun t k => XS.aloadN X1.here hx rfl (hb hby d8_4) rfl rfl k) ?_
  refine own_of (S' := T1.setTop (mkF m 6 #[.val (.ref a1), .val (.ref ta), .val key, .val ins, .val .null, .val (.ref mo), .val (.int gr), .val (.int iw)] [(.ref ta), (.ref a1)])) (fun t k => XS.aloadN X1.here hx rfl (hb hby d8_5) rfl rfl k) ?_
  obtain ⟨T2, h2, X2, e2, W2, st2⟩ := putF X1 hx hZ hown (host := "") (Or.inl (hw _ (List.mem_of_getElem? (i := 50) rfl))) Via.refl e1 F_table_a1 E_a1 (Or.inr ⟨(hw _ (List.mem_of_getElem? (i := 51) rfl)), rfl, hnm⟩) (hw _ (List.mem_of_getElem? (i := 44) rfl)) (ty := (.object "java/lang/String")) (by decide) rfl rfl (g := (mkF m 6 #[.val (.ref a1), .val (.ref ta), .val key, .val ins, .val .null, .val (.ref mo), .val (.int gr), .val (.int iw)] [(.ref ta), (.ref a1)])) rfl rfl (hb hby d8_6)
  have N2 := Fr.snoc X2 N0 g_a1
  have Fw_table_2 : Fld Z h2 a1 "com/example/versions_to_view/versionstoview/lock/LockRequest" "table" "Ljava/lang/String;" (.ref ta) := F_table_a1.same W2
  refine own_of (S' := T2.setTop (mkF m 9 #[.val (.ref a1), .val (.ref ta), .val key, .val ins, .val .null, .val (.ref mo), .val (.int gr), .val (.int iw)] [])) st2 ?_
  refine own_of (S' := T2.setTop (mkF m 10 #[.val (.ref a1), .val (.ref ta), .val key, .val ins, .val .null, .val (.ref mo), .val (.int gr), .val (.int iw)] [(.ref a1)])) (fun t k => XS.aloadN X2.here hx rfl (hb hby d8_9) rfl rfl k) ?_
  refine own_of (S' := T2.setTop (mkF m 11 #[.val (.ref a1), .val (.ref ta), .val key, .val ins, .val .null, .val (.ref mo), .val (.int gr), .val (.int iw)] [key, (.ref a1)])) (fun t k => XS.aloadN X2.here hx rfl (hb hby d8_10) rfl (hv_key) k) ?_
  have E_a1_t3 : Exa Z h2 a1 "com/example/versions_to_view/versionstoview/lock/LockRequest" := (E_a1.wr W2)
  have F_key_a1_t4 : Fld Z h2 a1 "com/example/versions_to_view/versionstoview/lock/LockRequest" "key" "Ljava/lang/Long;" .null := (F_key_a1.other W2 (Or.inr (slot_ne (Or.inl (hw _ (List.mem_of_getElem? (i := 53) rfl))) (Or.inr (hw _ (List.mem_of_getElem? (i := 51) rfl))) (by decide) (t := (.object "java/lang/Long")) (t' := (.object "java/lang/String")) (by decide) (by decide))))
  obtain ⟨T5, h5, X5, e5, W5, st5⟩ := putF X2 hx hZ hown (host := "") (Or.inl (hw _ (List.mem_of_getElem? (i := 52) rfl))) Via.refl e2 F_key_a1_t4 E_a1_t3 (Or.inl (hw _ (List.mem_of_getElem? (i := 53) rfl))) (hw _ (List.mem_of_getElem? (i := 44) rfl)) (ty := (.object "java/lang/Long")) (by decide) rfl (own_fitsR hv_key) (g := (mkF m 11 #[.val (.ref a1), .val (.ref ta), .val key, .val ins, .val .null, .val (.ref mo), .val (.int gr), .val (.int iw)] [key, (.ref a1)])) rfl rfl (hb hby d8_11)
  have N5 := Fr.snoc X5 N2 g_a1
  have Fw_key_5 : Fld Z h5 a1 "com/example/versions_to_view/versionstoview/lock/LockRequest" "key" "Ljava/lang/Long;" key := F_key_a1_t4.same W5
  refine own_of (S' := T5.setTop (mkF m 14 #[.val (.ref a1), .val (.ref ta), .val key, .val ins, .val .null, .val (.ref mo), .val (.int gr), .val (.int iw)] [])) st5 ?_
  refine own_of (S' := T5.setTop (mkF m 15 #[.val (.ref a1), .val (.ref ta), .val key, .val ins, .val .null, .val (.ref mo), .val (.int gr), .val (.int iw)] [(.ref a1)])) (fun t k => XS.aloadN X5.here hx rfl (hb hby d8_14) rfl rfl k) ?_
  refine own_of (S' := T5.setTop (mkF m 16 #[.val (.ref a1), .val (.ref ta), .val key, .val ins, .val .null, .val (.ref mo), .val (.int gr), .val (.int iw)] [ins, (.ref a1)])) (fun t k => XS.aloadN X5.here hx rfl (hb hby d8_15) rfl (hv_ins) k) ?_
  have E_a1_t6 : Exa Z h5 a1 "com/example/versions_to_view/versionstoview/lock/LockRequest" := (E_a1_t3.wr W5)
  have F_inserted_a1_t7 : Fld Z h5 a1 "com/example/versions_to_view/versionstoview/lock/LockRequest" "inserted" "Ljava/lang/Long;" .null := ((F_inserted_a1.other W2 (Or.inr (slot_ne (Or.inr (hw _ (List.mem_of_getElem? (i := 55) rfl))) (Or.inr (hw _ (List.mem_of_getElem? (i := 51) rfl))) (by decide) (t := (.object "java/lang/Long")) (t' := (.object "java/lang/String")) (by decide) (by decide)))).other W5 (Or.inr (slot_ne (Or.inr (hw _ (List.mem_of_getElem? (i := 55) rfl))) (Or.inl (hw _ (List.mem_of_getElem? (i := 53) rfl))) (by decide) (t := (.object "java/lang/Long")) (t' := (.object "java/lang/Long")) (by decide) (by decide))))
  obtain ⟨T8, h8, X8, e8, W8, st8⟩ := putF X5 hx hZ hown (host := "") (Or.inl (hw _ (List.mem_of_getElem? (i := 54) rfl))) Via.refl e5 F_inserted_a1_t7 E_a1_t6 (Or.inr ⟨(hw _ (List.mem_of_getElem? (i := 55) rfl)), rfl, hnm⟩) (hw _ (List.mem_of_getElem? (i := 44) rfl)) (ty := (.object "java/lang/Long")) (by decide) rfl (own_fitsR hv_ins) (g := (mkF m 16 #[.val (.ref a1), .val (.ref ta), .val key, .val ins, .val .null, .val (.ref mo), .val (.int gr), .val (.int iw)] [ins, (.ref a1)])) rfl rfl (hb hby d8_16)
  have N8 := Fr.snoc X8 N5 g_a1
  have Fw_inserted_8 : Fld Z h8 a1 "com/example/versions_to_view/versionstoview/lock/LockRequest" "inserted" "Ljava/lang/Long;" ins := F_inserted_a1_t7.same W8
  refine own_of (S' := T8.setTop (mkF m 19 #[.val (.ref a1), .val (.ref ta), .val key, .val ins, .val .null, .val (.ref mo), .val (.int gr), .val (.int iw)] [])) st8 ?_
  refine own_of (S' := T8.setTop (mkF m 20 #[.val (.ref a1), .val (.ref ta), .val key, .val ins, .val .null, .val (.ref mo), .val (.int gr), .val (.int iw)] [(.ref a1)])) (fun t k => XS.aloadN X8.here hx rfl (hb hby d8_19) rfl rfl k) ?_
  refine own_of (S' := T8.setTop (mkF m 22 #[.val (.ref a1), .val (.ref ta), .val key, .val ins, .val .null, .val (.ref mo), .val (.int gr), .val (.int iw)] [.null, (.ref a1)])) (fun t k => XS.aload X8.here hx rfl (hb hby d8_20) rfl rfl k) ?_
  have E_a1_t9 : Exa Z h8 a1 "com/example/versions_to_view/versionstoview/lock/LockRequest" := (E_a1_t6.wr W8)
  have F_transaction_a1_t10 : Fld Z h8 a1 "com/example/versions_to_view/versionstoview/lock/LockRequest" "transaction" "Lcom/example/versions_to_view/versionstoview/transaction/Transaction;" .null := (((F_transaction_a1.other W2 (Or.inr (slot_ne (Or.inr (hw _ (List.mem_of_getElem? (i := 57) rfl))) (Or.inr (hw _ (List.mem_of_getElem? (i := 51) rfl))) (by decide) (t := (.object "com/example/versions_to_view/versionstoview/transaction/Transaction")) (t' := (.object "java/lang/String")) (by decide) (by decide)))).other W5 (Or.inr (slot_ne (Or.inr (hw _ (List.mem_of_getElem? (i := 57) rfl))) (Or.inl (hw _ (List.mem_of_getElem? (i := 53) rfl))) (by decide) (t := (.object "com/example/versions_to_view/versionstoview/transaction/Transaction")) (t' := (.object "java/lang/Long")) (by decide) (by decide)))).other W8 (Or.inr (slot_ne (Or.inr (hw _ (List.mem_of_getElem? (i := 57) rfl))) (Or.inr (hw _ (List.mem_of_getElem? (i := 55) rfl))) (by decide) (t := (.object "com/example/versions_to_view/versionstoview/transaction/Transaction")) (t' := (.object "java/lang/Long")) (by decide) (by decide))))
  obtain ⟨T11, h11, X11, e11, W11, st11⟩ := putF X8 hx hZ hown (host := "") (Or.inl (hw _ (List.mem_of_getElem? (i := 56) rfl))) Via.refl e8 F_transaction_a1_t10 E_a1_t9 (Or.inr ⟨(hw _ (List.mem_of_getElem? (i := 57) rfl)), rfl, hnm⟩) (hw _ (List.mem_of_getElem? (i := 44) rfl)) (ty := (.object "com/example/versions_to_view/versionstoview/transaction/Transaction")) (by decide) rfl rfl (g := (mkF m 22 #[.val (.ref a1), .val (.ref ta), .val key, .val ins, .val .null, .val (.ref mo), .val (.int gr), .val (.int iw)] [.null, (.ref a1)])) rfl rfl (hb hby d8_22)
  have N11 := Fr.snoc X11 N8 g_a1
  have Fw_transaction_11 : Fld Z h11 a1 "com/example/versions_to_view/versionstoview/lock/LockRequest" "transaction" "Lcom/example/versions_to_view/versionstoview/transaction/Transaction;" .null := F_transaction_a1_t10.same W11
  refine own_of (S' := T11.setTop (mkF m 25 #[.val (.ref a1), .val (.ref ta), .val key, .val ins, .val .null, .val (.ref mo), .val (.int gr), .val (.int iw)] [])) st11 ?_
  refine own_of (S' := T11.setTop (mkF m 26 #[.val (.ref a1), .val (.ref ta), .val key, .val ins, .val .null, .val (.ref mo), .val (.int gr), .val (.int iw)] [(.ref a1)])) (fun t k => XS.aloadN X11.here hx rfl (hb hby d8_25) rfl rfl k) ?_
  refine own_of (S' := T11.setTop (mkF m 28 #[.val (.ref a1), .val (.ref ta), .val key, .val ins, .val .null, .val (.ref mo), .val (.int gr), .val (.int iw)] [(.ref mo), (.ref a1)])) (fun t k => XS.aload X11.here hx rfl (hb hby d8_26) rfl rfl k) ?_
  have E_a1_t12 : Exa Z h11 a1 "com/example/versions_to_view/versionstoview/lock/LockRequest" := (E_a1_t9.wr W11)
  have F_mode_a1_t13 : Fld Z h11 a1 "com/example/versions_to_view/versionstoview/lock/LockRequest" "mode" "Lcom/example/versions_to_view/versionstoview/lock/LockMode;" .null := ((((F_mode_a1.other W2 (Or.inr (slot_ne (Or.inr (hw _ (List.mem_of_getElem? (i := 59) rfl))) (Or.inr (hw _ (List.mem_of_getElem? (i := 51) rfl))) (by decide) (t := (.object "com/example/versions_to_view/versionstoview/lock/LockMode")) (t' := (.object "java/lang/String")) (by decide) (by decide)))).other W5 (Or.inr (slot_ne (Or.inr (hw _ (List.mem_of_getElem? (i := 59) rfl))) (Or.inl (hw _ (List.mem_of_getElem? (i := 53) rfl))) (by decide) (t := (.object "com/example/versions_to_view/versionstoview/lock/LockMode")) (t' := (.object "java/lang/Long")) (by decide) (by decide)))).other W8 (Or.inr (slot_ne (Or.inr (hw _ (List.mem_of_getElem? (i := 59) rfl))) (Or.inr (hw _ (List.mem_of_getElem? (i := 55) rfl))) (by decide) (t := (.object "com/example/versions_to_view/versionstoview/lock/LockMode")) (t' := (.object "java/lang/Long")) (by decide) (by decide)))).other W11 (Or.inr (slot_ne (Or.inr (hw _ (List.mem_of_getElem? (i := 59) rfl))) (Or.inr (hw _ (List.mem_of_getElem? (i := 57) rfl))) (by decide) (t := (.object "com/example/versions_to_view/versionstoview/lock/LockMode")) (t' := (.object "com/example/versions_to_view/versionstoview/transaction/Transaction")) (by decide) (by decide))))
  obtain ⟨T14, h14, X14, e14, W14, st14⟩ := putF X11 hx hZ hown (host := "") (Or.inl (hw _ (List.mem_of_getElem? (i := 58) rfl))) Via.refl e11 F_mode_a1_t13 E_a1_t12 (Or.inr ⟨(hw _ (List.mem_of_getElem? (i := 59) rfl)), rfl, hnm⟩) (hw _ (List.mem_of_getElem? (i := 44) rfl)) (ty := (.object "com/example/versions_to_view/versionstoview/lock/LockMode")) (by decide) rfl rfl (g := (mkF m 28 #[.val (.ref a1), .val (.ref ta), .val key, .val ins, .val .null, .val (.ref mo), .val (.int gr), .val (.int iw)] [(.ref mo), (.ref a1)])) rfl rfl (hb hby d8_28)
  have N14 := Fr.snoc X14 N11 g_a1
  have Fw_mode_14 : Fld Z h14 a1 "com/example/versions_to_view/versionstoview/lock/LockRequest" "mode" "Lcom/example/versions_to_view/versionstoview/lock/LockMode;" (.ref mo) := F_mode_a1_t13.same W14
  refine own_of (S' := T14.setTop (mkF m 31 #[.val (.ref a1), .val (.ref ta), .val key, .val ins, .val .null, .val (.ref mo), .val (.int gr), .val (.int iw)] [])) st14 ?_
  refine own_of (S' := T14.setTop (mkF m 32 #[.val (.ref a1), .val (.ref ta), .val key, .val ins, .val .null, .val (.ref mo), .val (.int gr), .val (.int iw)] [(.ref a1)])) (fun t k => XS.aloadN X14.here hx rfl (hb hby d8_31) rfl rfl k) ?_
  refine own_of (S' := T14.setTop (mkF m 34 #[.val (.ref a1), .val (.ref ta), .val key, .val ins, .val .null, .val (.ref mo), .val (.int gr), .val (.int iw)] [(.int iw), (.ref a1)])) (fun t k => XS.iload X14.here hx rfl (hb hby d8_32) rfl k) ?_
  have E_a1_t15 : Exa Z h14 a1 "com/example/versions_to_view/versionstoview/lock/LockRequest" := (E_a1_t12.wr W14)
  have F_inWord_a1_t16 : Fld Z h14 a1 "com/example/versions_to_view/versionstoview/lock/LockRequest" "inWord" "Z" (.int (0 : Int32)) := (((((F_inWord_a1.other W2 (Or.inr (slot_ne (Or.inr (hw _ (List.mem_of_getElem? (i := 61) rfl))) (Or.inr (hw _ (List.mem_of_getElem? (i := 51) rfl))) (by decide) (t := .boolean) (t' := (.object "java/lang/String")) (by decide) (by decide)))).other W5 (Or.inr (slot_ne (Or.inr (hw _ (List.mem_of_getElem? (i := 61) rfl))) (Or.inl (hw _ (List.mem_of_getElem? (i := 53) rfl))) (by decide) (t := .boolean) (t' := (.object "java/lang/Long")) (by decide) (by decide)))).other W8 (Or.inr (slot_ne (Or.inr (hw _ (List.mem_of_getElem? (i := 61) rfl))) (Or.inr (hw _ (List.mem_of_getElem? (i := 55) rfl))) (by decide) (t := .boolean) (t' := (.object "java/lang/Long")) (by decide) (by decide)))).other W11 (Or.inr (slot_ne (Or.inr (hw _ (List.mem_of_getElem? (i := 61) rfl))) (Or.inr (hw _ (List.mem_of_getElem? (i := 57) rfl))) (by decide) (t := .boolean) (t' := (.object "com/example/versions_to_view/versionstoview/transaction/Transaction")) (by decide) (by decide)))).other W14 (Or.inr (slot_ne (Or.inr (hw _ (List.mem_of_getElem? (i := 61) rfl))) (Or.inr (hw _ (List.mem_of_getElem? (i := 59) rfl))) (by decide) (t := .boolean) (t' := (.object "com/example/versions_to_view/versionstoview/lock/LockMode")) (by decide) (by decide))))
  obtain ⟨T17, h17, X17, e17, W17, st17⟩ := putFN X14 hx hZ hown (hw _ (List.mem_of_getElem? (i := 60) rfl)) Via.refl e14 F_inWord_a1_t16 E_a1_t15 (Or.inr ⟨(hw _ (List.mem_of_getElem? (i := 61) rfl)), rfl, hnm⟩) (hw _ (List.mem_of_getElem? (i := 44) rfl)) (ty := .boolean) (v' := (.int iw)) (by decide) (own_narV hb_iw) (own_fitsZ hb_iw) (g := (mkF m 34 #[.val (.ref a1), .val (.ref ta), .val key, .val ins, .val .null, .val (.ref mo), .val (.int gr), .val (.int iw)] [(.int iw), (.ref a1)])) rfl rfl (hb hby d8_34)
  have N17 := Fr.snoc X17 N14 g_a1
  have Fw_inWord_17 : Fld Z h17 a1 "com/example/versions_to_view/versionstoview/lock/LockRequest" "inWord" "Z" (.int iw) := F_inWord_a1_t16.same W17
  refine own_of (S' := T17.setTop (mkF m 37 #[.val (.ref a1), .val (.ref ta), .val key, .val ins, .val .null, .val (.ref mo), .val (.int gr), .val (.int iw)] [])) st17 ?_
  refine own_of (S' := T17.setTop (mkF m 38 #[.val (.ref a1), .val (.ref ta), .val key, .val ins, .val .null, .val (.ref mo), .val (.int gr), .val (.int iw)] [(.ref a1)])) (fun t k => XS.aloadN X17.here hx rfl (hb hby d8_37) rfl rfl k) ?_
  refine own_of (S' := T17.setTop (mkF m 40 #[.val (.ref a1), .val (.ref ta), .val key, .val ins, .val .null, .val (.ref mo), .val (.int gr), .val (.int iw)] [(.int gr), (.ref a1)])) (fun t k => XS.iload X17.here hx rfl (hb hby d8_38) rfl k) ?_
  have E_a1_t18 : Exa Z h17 a1 "com/example/versions_to_view/versionstoview/lock/LockRequest" := (E_a1_t15.wr W17)
  have F_granted_a1_t19 : Fld Z h17 a1 "com/example/versions_to_view/versionstoview/lock/LockRequest" "granted" "Z" (.int (0 : Int32)) := ((((((F_granted_a1.other W2 (Or.inr (slot_ne (Or.inl (hw _ (List.mem_of_getElem? (i := 63) rfl))) (Or.inr (hw _ (List.mem_of_getElem? (i := 51) rfl))) (by decide) (t := .boolean) (t' := (.object "java/lang/String")) (by decide) (by decide)))).other W5 (Or.inr (slot_ne (Or.inl (hw _ (List.mem_of_getElem? (i := 63) rfl))) (Or.inl (hw _ (List.mem_of_getElem? (i := 53) rfl))) (by decide) (t := .boolean) (t' := (.object "java/lang/Long")) (by decide) (by decide)))).other W8 (Or.inr (slot_ne (Or.inl (hw _ (List.mem_of_getElem? (i := 63) rfl))) (Or.inr (hw _ (List.mem_of_getElem? (i := 55) rfl))) (by decide) (t := .boolean) (t' := (.object "java/lang/Long")) (by decide) (by decide)))).other W11 (Or.inr (slot_ne (Or.inl (hw _ (List.mem_of_getElem? (i := 63) rfl))) (Or.inr (hw _ (List.mem_of_getElem? (i := 57) rfl))) (by decide) (t := .boolean) (t' := (.object "com/example/versions_to_view/versionstoview/transaction/Transaction")) (by decide) (by decide)))).other W14 (Or.inr (slot_ne (Or.inl (hw _ (List.mem_of_getElem? (i := 63) rfl))) (Or.inr (hw _ (List.mem_of_getElem? (i := 59) rfl))) (by decide) (t := .boolean) (t' := (.object "com/example/versions_to_view/versionstoview/lock/LockMode")) (by decide) (by decide)))).other W17 (Or.inr (slot_ne (Or.inl (hw _ (List.mem_of_getElem? (i := 63) rfl))) (Or.inr (hw _ (List.mem_of_getElem? (i := 61) rfl))) (by decide) (t := .boolean) (t' := .boolean) (by decide) (by decide))))
  obtain ⟨T20, h20, X20, e20, W20, st20⟩ := putFN X17 hx hZ hown (hw _ (List.mem_of_getElem? (i := 62) rfl)) Via.refl e17 F_granted_a1_t19 E_a1_t18 (Or.inl (hw _ (List.mem_of_getElem? (i := 63) rfl))) (hw _ (List.mem_of_getElem? (i := 44) rfl)) (ty := .boolean) (v' := (.int gr)) (by decide) (own_narV hb_gr) (own_fitsZ hb_gr) (g := (mkF m 40 #[.val (.ref a1), .val (.ref ta), .val key, .val ins, .val .null, .val (.ref mo), .val (.int gr), .val (.int iw)] [(.int gr), (.ref a1)])) rfl rfl (hb hby d8_40)
  have N20 := Fr.snoc X20 N17 g_a1
  have Fw_granted_20 : Fld Z h20 a1 "com/example/versions_to_view/versionstoview/lock/LockRequest" "granted" "Z" (.int gr) := F_granted_a1_t19.same W20
  refine own_of (S' := T20.setTop (mkF m 43 #[.val (.ref a1), .val (.ref ta), .val key, .val ins, .val .null, .val (.ref mo), .val (.int gr), .val (.int iw)] [])) st20 ?_
  obtain ⟨fs, hr, hrun, hended, hW, hsame⟩ := X20.leave (v := none) (fun _ => rfl)
  have Fw_key_5_t21 : Fld Z h20 a1 "com/example/versions_to_view/versionstoview/lock/LockRequest" "key" "Ljava/lang/Long;" key := (((((Fw_key_5.other W8 (Or.inr (slot_ne (Or.inl (hw _ (List.mem_of_getElem? (i := 53) rfl))) (Or.inr (hw _ (List.mem_of_getElem? (i := 55) rfl))) (by decide) (t := (.object "java/lang/Long")) (t' := (.object "java/lang/Long")) (by decide) (by decide)))).other W11 (Or.inr (slot_ne (Or.inl (hw _ (List.mem_of_getElem? (i := 53) rfl))) (Or.inr (hw _ (List.mem_of_getElem? (i := 57) rfl))) (by decide) (t := (.object "java/lang/Long")) (t' := (.object "com/example/versions_to_view/versionstoview/transaction/Transaction")) (by decide) (by decide)))).other W14 (Or.inr (slot_ne (Or.inl (hw _ (List.mem_of_getElem? (i := 53) rfl))) (Or.inr (hw _ (List.mem_of_getElem? (i := 59) rfl))) (by decide) (t := (.object "java/lang/Long")) (t' := (.object "com/example/versions_to_view/versionstoview/lock/LockMode")) (by decide) (by decide)))).other W17 (Or.inr (slot_ne (Or.inl (hw _ (List.mem_of_getElem? (i := 53) rfl))) (Or.inr (hw _ (List.mem_of_getElem? (i := 61) rfl))) (by decide) (t := (.object "java/lang/Long")) (t' := .boolean) (by decide) (by decide)))).other W20 (Or.inr (slot_ne (Or.inl (hw _ (List.mem_of_getElem? (i := 53) rfl))) (Or.inl (hw _ (List.mem_of_getElem? (i := 63) rfl))) (by decide) (t := (.object "java/lang/Long")) (t' := .boolean) (by decide) (by decide))))
  have Fw_mode_14_t22 : Fld Z h20 a1 "com/example/versions_to_view/versionstoview/lock/LockRequest" "mode" "Lcom/example/versions_to_view/versionstoview/lock/LockMode;" (.ref mo) := ((Fw_mode_14.other W17 (Or.inr (slot_ne (Or.inr (hw _ (List.mem_of_getElem? (i := 59) rfl))) (Or.inr (hw _ (List.mem_of_getElem? (i := 61) rfl))) (by decide) (t := (.object "com/example/versions_to_view/versionstoview/lock/LockMode")) (t' := .boolean) (by decide) (by decide)))).other W20 (Or.inr (slot_ne (Or.inr (hw _ (List.mem_of_getElem? (i := 59) rfl))) (Or.inl (hw _ (List.mem_of_getElem? (i := 63) rfl))) (by decide) (t := (.object "com/example/versions_to_view/versionstoview/lock/LockMode")) (t' := .boolean) (by decide) (by decide))))
  have Fw_inWord_17_t23 : Fld Z h20 a1 "com/example/versions_to_view/versionstoview/lock/LockRequest" "inWord" "Z" (.int iw) := (Fw_inWord_17.other W20 (Or.inr (slot_ne (Or.inr (hw _ (List.mem_of_getElem? (i := 61) rfl))) (Or.inl (hw _ (List.mem_of_getElem? (i := 63) rfl))) (by decide) (t := .boolean) (t' := .boolean) (by decide) (by decide))))
  have F_keptWaiting_a1_t24 : Fld Z h20 a1 "com/example/versions_to_view/versionstoview/lock/LockRequest" "keptWaiting" "Z" (.int (0 : Int32)) := (((((((F_keptWaiting_a1.other W2 (Or.inr (slot_ne (Or.inl (hw _ (List.mem_of_getElem? (i := 70) rfl))) (Or.inr (hw _ (List.mem_of_getElem? (i := 51) rfl))) (by decide) (t := .boolean) (t' := (.object "java/lang/String")) (by decide) (by decide)))).other W5 (Or.inr (slot_ne (Or.inl (hw _ (List.mem_of_getElem? (i := 70) rfl))) (Or.inl (hw _ (List.mem_of_getElem? (i := 53) rfl))) (by decide) (t := .boolean) (t' := (.object "java/lang/Long")) (by decide) (by decide)))).other W8 (Or.inr (slot_ne (Or.inl (hw _ (List.mem_of_getElem? (i := 70) rfl))) (Or.inr (hw _ (List.mem_of_getElem? (i := 55) rfl))) (by decide) (t := .boolean) (t' := (.object "java/lang/Long")) (by decide) (by decide)))).other W11 (Or.inr (slot_ne (Or.inl (hw _ (List.mem_of_getElem? (i := 70) rfl))) (Or.inr (hw _ (List.mem_of_getElem? (i := 57) rfl))) (by decide) (t := .boolean) (t' := (.object "com/example/versions_to_view/versionstoview/transaction/Transaction")) (by decide) (by decide)))).other W14 (Or.inr (slot_ne (Or.inl (hw _ (List.mem_of_getElem? (i := 70) rfl))) (Or.inr (hw _ (List.mem_of_getElem? (i := 59) rfl))) (by decide) (t := .boolean) (t' := (.object "com/example/versions_to_view/versionstoview/lock/LockMode")) (by decide) (by decide)))).other W17 (Or.inr (slot_ne (Or.inl (hw _ (List.mem_of_getElem? (i := 70) rfl))) (Or.inr (hw _ (List.mem_of_getElem? (i := 61) rfl))) (by decide) (t := .boolean) (t' := .boolean) (by decide) (by decide)))).other W20 (Or.inr (slot_ne (Or.inl (hw _ (List.mem_of_getElem? (i := 70) rfl))) (Or.inl (hw _ (List.mem_of_getElem? (i := 63) rfl))) (by decide) (t := .boolean) (t' := .boolean) (by decide) (by decide))))
  have F_refused_a1_t25 : Fld Z h20 a1 "com/example/versions_to_view/versionstoview/lock/LockRequest" "refused" "Z" (.int (0 : Int32)) := (((((((F_refused_a1.other W2 (Or.inr (slot_ne (Or.inl (hw _ (List.mem_of_getElem? (i := 82) rfl))) (Or.inr (hw _ (List.mem_of_getElem? (i := 51) rfl))) (by decide) (t := .boolean) (t' := (.object "java/lang/String")) (by decide) (by decide)))).other W5 (Or.inr (slot_ne (Or.inl (hw _ (List.mem_of_getElem? (i := 82) rfl))) (Or.inl (hw _ (List.mem_of_getElem? (i := 53) rfl))) (by decide) (t := .boolean) (t' := (.object "java/lang/Long")) (by decide) (by decide)))).other W8 (Or.inr (slot_ne (Or.inl (hw _ (List.mem_of_getElem? (i := 82) rfl))) (Or.inr (hw _ (List.mem_of_getElem? (i := 55) rfl))) (by decide) (t := .boolean) (t' := (.object "java/lang/Long")) (by decide) (by decide)))).other W11 (Or.inr (slot_ne (Or.inl (hw _ (List.mem_of_getElem? (i := 82) rfl))) (Or.inr (hw _ (List.mem_of_getElem? (i := 57) rfl))) (by decide) (t := .boolean) (t' := (.object "com/example/versions_to_view/versionstoview/transaction/Transaction")) (by decide) (by decide)))).other W14 (Or.inr (slot_ne (Or.inl (hw _ (List.mem_of_getElem? (i := 82) rfl))) (Or.inr (hw _ (List.mem_of_getElem? (i := 59) rfl))) (by decide) (t := .boolean) (t' := (.object "com/example/versions_to_view/versionstoview/lock/LockMode")) (by decide) (by decide)))).other W17 (Or.inr (slot_ne (Or.inl (hw _ (List.mem_of_getElem? (i := 82) rfl))) (Or.inr (hw _ (List.mem_of_getElem? (i := 61) rfl))) (by decide) (t := .boolean) (t' := .boolean) (by decide) (by decide)))).other W20 (Or.inr (slot_ne (Or.inl (hw _ (List.mem_of_getElem? (i := 82) rfl))) (Or.inl (hw _ (List.mem_of_getElem? (i := 63) rfl))) (by decide) (t := .boolean) (t' := .boolean) (by decide) (by decide))))
  subst hKd
  exact ⟨_, _, X20.returnOut hx Bd.returns (hb hby d8_43) hr, hrun, hended, _, _, rfl, (by
    show Q8 Z a1 ta key ins mo gr iw h0 n0 _ T20.heap _
    rw [show T20.heap = h20 from e20]
    exact ⟨rfl, N20, ((((((((Keep.refl h0 [a1]).wr W2 (Or.inl (List.mem_of_getElem? (i := 0) rfl))).wr W5 (Or.inl (List.mem_of_getElem? (i := 0) rfl))).wr W8 (Or.inl (List.mem_of_getElem? (i := 0) rfl))).wr W11 (Or.inl (List.mem_of_getElem? (i := 0) rfl))).wr W14 (Or.inl (List.mem_of_getElem? (i := 0) rfl))).wr W17 (Or.inl (List.mem_of_getElem? (i := 0) rfl))).wr W20 (Or.inl (List.mem_of_getElem? (i := 0) rfl))), Fw_key_5_t21, Fw_mode_14_t22, Fw_inWord_17_t23, Fw_granted_20, F_keptWaiting_a1_t24, F_refused_a1_t25⟩), ⟨_, rfl⟩, hW, hsame.mono (by decide) (by decide)⟩
theorem d9_0 : decode prog_18_method_13_code 0 = .ok (.aload_n 0, 1) := by decide +kernel
theorem d9_1 : decode prog_18_method_13_code 1 = .ok (.getfield 44, 3) := by decide +kernel
theorem d9_4 : decode prog_18_method_13_code 4 = .ok (.ifCond .ne 7, 3) := by decide +kernel
theorem d9_7 : decode prog_18_method_13_code 7 = .ok (.iconst 1, 1) := by decide +kernel
theorem d9_8 : decode prog_18_method_13_code 8 = .ok (.goto 4, 3) := by decide +kernel
theorem d9_12 : decode prog_18_method_13_code 12 = .ok (.istore_n 1, 1) := by decide +kernel
theorem d9_13 : decode prog_18_method_13_code 13 = .ok (.aload_n 0, 1) := by decide +kernel
theorem d9_14 : decode prog_18_method_13_code 14 = .ok (.iconst 1, 1) := by decide +kernel
theorem d9_15 : decode prog_18_method_13_code 15 = .ok (.putfield 44, 3) := by decide +kernel
theorem d9_18 : decode prog_18_method_13_code 18 = .ok (.iload_n 1, 1) := by decide +kernel
theorem d9_19 : decode prog_18_method_13_code 19 = .ok (.ireturn, 1) := by decide +kernel
theorem pn_9a : plainName "com/example/versions_to_view/versionstoview/lock/LockRequest" = true := by first | (simp [plainName, overriddenIn]; done) | decide +kernel
theorem ef_9a (m : MethodId) (a1 : Addr) : entryFrame m #[(.ref a1)] 2 = mkF m 0 #[.val (.ref a1), .unset] [] := by first | (simp [entryFrame, mkF, argsToLocals, Value.category]; done) | rfl
def Q9a (Z : State) (a1 : Addr) (h0 : Heap) (n0 : Nat) (v : Option Value) (h : Heap) (L : List Loc) : Prop := (v = some (.int (1 : Int32))) ∧ (Fr n0 L) ∧ (Wr h0 h a1 (Jvm.RoadKit.slotOf Z "com/example/versions_to_view/versionstoview/lock/LockRequest" "keptWaiting" "Z") (.int (1 : Int32)))
set_option maxRecDepth 65536 in
set_option maxHeartbeats 40000000 in
theorem rm9a (l : Launch) (Z : State) (a0 : Array Value) (hw : ∀ d ∈ tables_1, d.before a0 Z = true) (ws : List Jvm.Cond) (a1 : Addr) (h0 : Heap) (n0 : Nat) (Z0 : n0 ≤ h0.size) (E_a1 : Exa Z h0 a1 "com/example/versions_to_view/versionstoview/lock/LockRequest") (F_keptWaiting_a1 : Fld Z h0 a1 "com/example/versions_to_view/versionstoview/lock/LockRequest" "keptWaiting" "Z" (.int (0 : Int32))) (g_a1 : n0 ≤ a1) :
    MetFree l (⟨"com/example/versions_to_view/versionstoview/lock/LockRequest", "noteKeptWaiting", "()Z"⟩ : MethodName) (head1 (Jvm.Cond.code (⟨"com/example/versions_to_view/versionstoview/lock/LockRequest", "noteKeptWaiting", "()Z"⟩ : MethodName) prog_18_method_13_code 2 (some .boolean) :: ws) ({ frames := 0, cells := 0, slots := 0, locals := 0 } : Room)) (fun a U => a = #[(.ref a1)] ∧ Z.Warmed39 U.vm ∧ U.heap = h0) (fun _ _ _ _ _ => True) (fun _ U o U' => ∃ v L, o = .returned v ∧ Q9a Z a1 h0 n0 v U'.heap L ∧ FrameEnd U o U' L ({ frames := 0, cells := 0, slots := 0, locals := 0 } : Room).cells ({ frames := 0, cells := 0, slots := 0, locals := 0 } : Room).slots) := by
  refine MetFree.of_bodySF (plainFor_of_name pn_9a) hisR ?_
  intro p e s m args below meth c s₁ Bd hml0 hP hK
  obtain ⟨rfl, hZ, hh⟩ := hP
  have hx := Bd.exec
  have hby := Bd.bytes
  have hml : c.maxLocals = 2 := hml0
  have hown : s.vm.findClass "com/example/versions_to_view/versionstoview/lock/LockRequest" = some m.cls := findClass_of_methodNamed Bd.named
  have hnm := (name_of_methodNamed Bd.named Bd.method).1
  have X0 : Stand p l e ({ frames := 0, cells := 0, slots := 0, locals := 0 } : Room) s m #[(.ref a1)] below meth c s₁ [] 0 0 := Stand.of_body Bd
  have e0 : s₁.heap = h0 := by rw [← hh, Bd.state]; rfl
  have N0 := Fr.nil n0
  refine own_of (S := s₁.setTop (entryFrame m #[(.ref a1)] 2)) (S' := s₁.setTop (mkF m 0 #[.val (.ref a1), .unset] [])) (K := fun s₂ o => ∃ v L, o = .returned v ∧ Q9a Z a1 h0 n0 v s₂.heap L ∧ FrameEnd s o s₂ L ({ frames := 0, cells := 0, slots := 0, locals := 0 } : Room).cells ({ frames := 0, cells := 0, slots := 0, locals := 0 } : Room).slots) (fun t k => castTop (ef_9a m a1) k) ?_
  refine own_nameK fun K hKd => ?_
  refine own_of (S' := s₁.setTop (mkF m 1 #[.val (.ref a1), .unset] [(.ref a1)])) (fun t k => XS.aloadN X0.here hx rfl (hb hby d9_0) rfl rfl k) ?_
  obtain ⟨T1, X1, e1, st1⟩ := getF X0 hx hZ hown (host := "") (Or.inl (hw _ (List.mem_of_getElem? (i := 69) rfl))) Via.refl e0 F_keptWaiting_a1 (g := (mkF m 1 #[.val (.ref a1), .unset] [(.ref a1)])) rfl rfl (hb hby d9_1)
  refine own_of (S' := T1.setTop (mkF m 4 #[.val (.ref a1), .unset] [(.int (0 : Int32))])) st1 ?_
  refine own_of (S' := T1.setTop (mkF m 7 #[.val (.ref a1), .unset] [])) (fun t k => XS.ifNo X1.here hx rfl (hb hby d9_4) rfl ((if0 _ _).trans (teq (by decide : (0 : Int32) = (0 : Int32))).2) k) ?_
  refine own_of (S' := T1.setTop (mkF m 8 #[.val (.ref a1), .unset] [(.int (1 : Int32))])) (fun t k => XS.iconst X1.here hx rfl (hb hby d9_7) k) ?_
  refine own_of (S' := T1.setTop (mkF m 12 #[.val (.ref a1), .unset] [(.int (1 : Int32))])) (fun t k => XS.goto X1.here hx rfl (pc0 := 8) (pc' := 12) rfl (hb hby d9_8) (by decide) (by decide) k) ?_
  refine own_of (S' := T1.setTop (mkF m 13 #[.val (.ref a1), .val (.int (1 : Int32))] [])) (fun t k => XS.istoreN X1.here hx rfl (hb hby d9_12) rfl (l' := #[.val (.ref a1), .val (.int (1 : Int32))]) rfl k) ?_
  refine own_of (S' := T1.setTop (mkF m 14 #[.val (.ref a1), .val (.int (1 : Int32))] [(.ref a1)])) (fun t k => XS.aloadN X1.here hx rfl (hb hby d9_13) rfl rfl k) ?_
  refine own_of (S' := T1.setTop (mkF m 15 #[.val (.ref a1), .val (.int (1 : Int32))] [(.int (1 : Int32)), (.ref a1)])) (fun t k => XS.iconst X1.here hx rfl (hb hby d9_14) k) ?_
  obtain ⟨T2, h2, X2, e2, W2, st2⟩ := putFN X1 hx hZ hown (hw _ (List.mem_of_getElem? (i := 69) rfl)) Via.refl e1 F_keptWaiting_a1 E_a1 (Or.inl (hw _ (List.mem_of_getElem? (i := 70) rfl))) (hw _ (List.mem_of_getElem? (i := 44) rfl)) (ty := .boolean) (v' := (.int (1 : Int32))) (by decide) rfl rfl (g := (mkF m 15 #[.val (.ref a1), .val (.int (1 : Int32))] [(.int (1 : Int32)), (.ref a1)])) rfl rfl (hb hby d9_15)
  have N2 := Fr.snoc X2 N0 g_a1
  have Fw_keptWaiting_2 : Fld Z h2 a1 "com/example/versions_to_view/versionstoview/lock/LockRequest" "keptWaiting" "Z" (.int (1 : Int32)) := F_keptWaiting_a1.same W2
  refine own_of (S' := T2.setTop (mkF m 18 #[.val (.ref a1), .val (.int (1 : Int32))] [])) st2 ?_
  refine own_of (S' := T2.setTop (mkF m 19 #[.val (.ref a1), .val (.int (1 : Int32))] [(.int (1 : Int32))])) (fun t k => XS.iloadN X2.here hx rfl (hb hby d9_18) rfl k) ?_
  obtain ⟨fs, hr, hrun, hended, hW, hsame⟩ := X2.leave (v := some (.int (1 : Int32))) (fun h => by rw [Bd.returns] at h; cases h)
  subst hKd
  exact ⟨_, _, retN X2 hx (t := .boolean) Bd.returns (by simp) (hb hby d9_19) hr, hrun, hended, _, _, rfl, (by
    show Q9a Z a1 h0 n0 _ T2.heap _
    rw [show T2.heap = h2 from e2]
    exact ⟨rfl, N2, W2⟩), ⟨_, rfl⟩, hW, hsame.mono (by decide) (by decide)⟩
theorem d9_11 : decode prog_18_method_13_code 11 = .ok (.iconst 0, 1) := by decide +kernel
theorem pn_9b : plainName "com/example/versions_to_view/versionstoview/lock/LockRequest" = true := by first | (simp [plainName, overriddenIn]; done) | decide +kernel
theorem ef_9b (m : MethodId) (a1 : Addr) : entryFrame m #[(.ref a1)] 2 = mkF m 0 #[.val (.ref a1), .unset] [] := by first | (simp [entryFrame, mkF, argsToLocals, Value.category]; done) | rfl
def Q9b (Z : State) (a1 : Addr) (h0 : Heap) (n0 : Nat) (v : Option Value) (h : Heap) (L : List Loc) : Prop := (v = some (.int (0 : Int32))) ∧ (Fr n0 L) ∧ (Wr h0 h a1 (Jvm.RoadKit.slotOf Z "com/example/versions_to_view/versionstoview/lock/LockRequest" "keptWaiting" "Z") (.int (1 : Int32)))
set_option maxRecDepth 65536 in
set_option maxHeartbeats 40000000 in
theorem rm9b (l : Launch) (Z : State) (a0 : Array Value) (hw : ∀ d ∈ tables_1, d.before a0 Z = true) (ws : List Jvm.Cond) (a1 : Addr) (h0 : Heap) (n0 : Nat) (Z0 : n0 ≤ h0.size) (E_a1 : Exa Z h0 a1 "com/example/versions_to_view/versionstoview/lock/LockRequest") (F_keptWaiting_a1 : Fld Z h0 a1 "com/example/versions_to_view/versionstoview/lock/LockRequest" "keptWaiting" "Z" (.int (1 : Int32))) (g_a1 : n0 ≤ a1) :
    MetFree l (⟨"com/example/versions_to_view/versionstoview/lock/LockRequest", "noteKeptWaiting", "()Z"⟩ : MethodName) (head1 (Jvm.Cond.code (⟨"com/example/versions_to_view/versionstoview/lock/LockRequest", "noteKeptWaiting", "()Z"⟩ : MethodName) prog_18_method_13_code 2 (some .boolean) :: ws) ({ frames := 0, cells := 0, slots := 0, locals := 0 } : Room)) (fun a U => a = #[(.ref a1)] ∧ Z.Warmed39 U.vm ∧ U.heap = h0) (fun _ _ _ _ _ => True) (fun _ U o U' => ∃ v L, o = .returned v ∧ Q9b Z a1 h0 n0 v U'.heap L ∧ FrameEnd U o U' L ({ frames := 0, cells := 0, slots := 0, locals := 0 } : Room).cells ({ frames := 0, cells := 0, slots := 0, locals := 0 } : Room).slots) := by
  refine MetFree.of_bodySF (plainFor_of_name pn_9b) hisR ?_
  intro p e s m args below meth c s₁ Bd hml0 hP hK
  obtain ⟨rfl, hZ, hh⟩ := hP
  have hx := Bd.exec
  have hby := Bd.bytes
  have hml : c.maxLocals = 2 := hml0
  have hown : s.vm.findClass "com/example/versions_to_view/versionstoview/lock/LockRequest" = some m.cls := findClass_of_methodNamed Bd.named
  have hnm := (name_of_methodNamed Bd.named Bd.method).1
  have X0 : Stand p l e ({ frames := 0, cells := 0, slots := 0, locals := 0 } : Room) s m #[(.ref a1)] below meth c s₁ [] 0 0 := Stand.of_body Bd
  have e0 : s₁.heap = h0 := by rw [← hh, Bd.state]; rfl
  have N0 := Fr.nil n0
  refine own_of (S := s₁.setTop (entryFrame m #[(.ref a1)] 2)) (S' := s₁.setTop (mkF m 0 #[.val (.ref a1), .unset] [])) (K := fun s₂ o => ∃ v L, o = .returned v ∧ Q9b Z a1 h0 n0 v s₂.heap L ∧ FrameEnd s o s₂ L ({ frames := 0, cells := 0, slots := 0, locals := 0 } : Room).cells ({ frames := 0, cells := 0, slots := 0, locals := 0 } : Room).slots) (fun t k => castTop (ef_9b m a1) k) ?_
  refine own_nameK fun K hKd => ?_
  refine own_of (S' := s₁.setTop (mkF m 1 #[.val (.ref a1), .unset] [(.ref a1)])) (fun t k => XS.aloadN X0.here hx rfl (hb hby d9_0) rfl rfl k) ?_
  obtain ⟨T1, X1, e1, st1⟩ := getF X0 hx hZ hown (host := "") (Or.inl (hw _ (List.mem_of_getElem? (i := 69) rfl))) Via.refl e0 F_keptWaiting_a1 (g := (mkF m 1 #[.val (.ref a1), .unset] [(.ref a1)])) rfl rfl (hb hby d9_1)
  refine own_of (S' := T1.setTop (mkF m 4 #[.val (.ref a1), .unset] [(.int (1 : Int32))])) st1 ?_
  refine own_of (S' := T1.setTop (mkF m 11 #[.val (.ref a1), .unset] [])) (fun t k => XS.ifYes X1.here hx rfl (pc0 := 4) (pc' := 11) rfl (hb hby d9_4) rfl ((if0 _ _).trans (feq (by decide : ¬ ((1 : Int32) = (0 : Int32)))).2) (by decide) (by decide) k) ?_
  refine own_of (S' := T1.setTop (mkF m 12 #[.val (.ref a1), .unset] [(.int (0 : Int32))])) (fun t k => XS.iconst X1.here hx rfl (hb hby d9_11) k) ?_
  refine own_of (S' := T1.setTop (mkF m 13 #[.val (.ref a1), .val (.int (0 : Int32))] [])) (fun t k => XS.istoreN X1.here hx rfl (hb hby d9_12) rfl (l' := #[.val (.ref a1), .val (.int (0 : Int32))]) rfl k) ?_
  refine own_of (S' := T1.setTop (mkF m 14 #[.val (.ref a1), .val (.int (0 : Int32))] [(.ref a1)])) (fun t k => XS.aloadN X1.here hx rfl (hb hby d9_13) rfl rfl k) ?_
  refine own_of (S' := T1.setTop (mkF m 15 #[.val (.ref a1), .val (.int (0 : Int32))] [(.int (1 : Int32)), (.ref a1)])) (fun t k => XS.iconst X1.here hx rfl (hb hby d9_14) k) ?_
  obtain ⟨T2, h2, X2, e2, W2, st2⟩ := putFN X1 hx hZ hown (hw _ (List.mem_of_getElem? (i := 69) rfl)) Via.refl e1 F_keptWaiting_a1 E_a1 (Or.inl (hw _ (List.mem_of_getElem? (i := 70) rfl))) (hw _ (List.mem_of_getElem? (i := 44) rfl)) (ty := .boolean) (v' := (.int (1 : Int32))) (by decide) rfl rfl (g := (mkF m 15 #[.val (.ref a1), .val (.int (0 : Int32))] [(.int (1 : Int32)), (.ref a1)])) rfl rfl (hb hby d9_15)
  have N2 := Fr.snoc X2 N0 g_a1
  have Fw_keptWaiting_2 : Fld Z h2 a1 "com/example/versions_to_view/versionstoview/lock/LockRequest" "keptWaiting" "Z" (.int (1 : Int32)) := F_keptWaiting_a1.same W2
  refine own_of (S' := T2.setTop (mkF m 18 #[.val (.ref a1), .val (.int (0 : Int32))] [])) st2 ?_
  refine own_of (S' := T2.setTop (mkF m 19 #[.val (.ref a1), .val (.int (0 : Int32))] [(.int (0 : Int32))])) (fun t k => XS.iloadN X2.here hx rfl (hb hby d9_18) rfl k) ?_
  obtain ⟨fs, hr, hrun, hended, hW, hsame⟩ := X2.leave (v := some (.int (0 : Int32))) (fun h => by rw [Bd.returns] at h; cases h)
  subst hKd
  exact ⟨_, _, retN X2 hx (t := .boolean) Bd.returns (by simp) (hb hby d9_19) hr, hrun, hended, _, _, rfl, (by
    show Q9b Z a1 h0 n0 _ T2.heap _
    rw [show T2.heap = h2 from e2]
    exact ⟨rfl, N2, W2⟩), ⟨_, rfl⟩, hW, hsame.mono (by decide) (by decide)⟩
theorem d10_0 : decode prog_18_method_7_code 0 = .ok (.aload_n 0, 1) := by decide +kernel
theorem d10_1 : decode prog_18_method_7_code 1 = .ok (.getfield 32, 3) := by decide +kernel
theorem d10_4 : decode prog_18_method_7_code 4 = .ok (.ireturn, 1) := by decide +kernel
theorem pn_10 : plainName "com/example/versions_to_view/versionstoview/lock/LockRequest" = true := by first | (simp [plainName, overriddenIn]; done) | decide +kernel
theorem ef_10 (m : MethodId) (a1 : Addr) : entryFrame m #[(.ref a1)] 1 = mkF m 0 #[.val (.ref a1)] [] := by first | (simp [entryFrame, mkF, argsToLocals, Value.category]; done) | rfl
def Q10 (Z : State) (a1 : Addr) (k : Int32) (h0 : Heap) (n0 : Nat) (v : Option Value) (h : Heap) (L : List Loc) : Prop := (v = some (.int k)) ∧ (Fr n0 L) ∧ (h = h0)
set_option maxRecDepth 65536 in
set_option maxHeartbeats 40000000 in
theorem rm10 (l : Launch) (Z : State) (a0 : Array Value) (hw : ∀ d ∈ tables_1, d.before a0 Z = true) (ws : List Jvm.Cond) (a1 : Addr) (k : Int32) (h0 : Heap) (n0 : Nat) (Z0 : n0 ≤ h0.size) (F_granted_a1 : Fld Z h0 a1 "com/example/versions_to_view/versionstoview/lock/LockRequest" "granted" "Z" (.int k)) (hb_k : k = (0 : Int32) ∨ k = (1 : Int32)) :
    MetFree l (⟨"com/example/versions_to_view/versionstoview/lock/LockRequest", "isGranted", "()Z"⟩ : MethodName) (head1 (Jvm.Cond.code (⟨"com/example/versions_to_view/versionstoview/lock/LockRequest", "isGranted", "()Z"⟩ : MethodName) prog_18_method_7_code 1 (some .boolean) :: ws) ({ frames := 0, cells := 0, slots := 0, locals := 0 } : Room)) (fun a U => a = #[(.ref a1)] ∧ Z.Warmed39 U.vm ∧ U.heap = h0) (fun _ _ _ _ _ => True) (fun _ U o U' => ∃ v L, o = .returned v ∧ Q10 Z a1 k h0 n0 v U'.heap L ∧ FrameEnd U o U' L ({ frames := 0, cells := 0, slots := 0, locals := 0 } : Room).cells ({ frames := 0, cells := 0, slots := 0, locals := 0 } : Room).slots) := by
  refine MetFree.of_bodySF (plainFor_of_name pn_10) hisR ?_
  intro p e s m args below meth c s₁ Bd hml0 hP hK
  obtain ⟨rfl, hZ, hh⟩ := hP
  have hx := Bd.exec
  have hby := Bd.bytes
  have hml : c.maxLocals = 1 := hml0
  have hown : s.vm.findClass "com/example/versions_to_view/versionstoview/lock/LockRequest" = some m.cls := findClass_of_methodNamed Bd.named
  have hnm := (name_of_methodNamed Bd.named Bd.method).1
  have X0 : Stand p l e ({ frames := 0, cells := 0, slots := 0, locals := 0 } : Room) s m #[(.ref a1)] below meth c s₁ [] 0 0 := Stand.of_body Bd
  have e0 : s₁.heap = h0 := by rw [← hh, Bd.state]; rfl
  have N0 := Fr.nil n0
  refine own_of (S := s₁.setTop (entryFrame m #[(.ref a1)] 1)) (S' := s₁.setTop (mkF m 0 #[.val (.ref a1)] [])) (K := fun s₂ o => ∃ v L, o = .returned v ∧ Q10 Z a1 k h0 n0 v s₂.heap L ∧ FrameEnd s o s₂ L ({ frames := 0, cells := 0, slots := 0, locals := 0 } : Room).cells ({ frames := 0, cells := 0, slots := 0, locals := 0 } : Room).slots) (fun t k => castTop (ef_10 m a1) k) ?_
  refine own_nameK fun K hKd => ?_
  refine own_of (S' := s₁.setTop (mkF m 1 #[.val (.ref a1)] [(.ref a1)])) (fun t k => XS.aloadN X0.here hx rfl (hb hby d10_0) rfl rfl k) ?_
  obtain ⟨T1, X1, e1, st1⟩ := getF X0 hx hZ hown (host := "") (Or.inl (hw _ (List.mem_of_getElem? (i := 62) rfl))) Via.refl e0 F_granted_a1 (g := (mkF m 1 #[.val (.ref a1)] [(.ref a1)])) rfl rfl (hb hby d10_1)
  refine own_of (S' := T1.setTop (mkF m 4 #[.val (.ref a1)] [(.int k)])) st1 ?_
  obtain ⟨fs, hr, hrun, hended, hW, hsame⟩ := X1.leave (v := some (.int k)) (fun h => by rw [Bd.returns] at h; cases h)
  subst hKd
  exact ⟨_, _, retN X1 hx (t := .boolean) Bd.returns (by simp) (hb hby d10_4) (by rw [own_nar hb_k]; exact hr), hrun, hended, _, _, rfl, (by
    show Q10 Z a1 k h0 n0 _ T1.heap _
    rw [show T1.heap = h0 from e1]
    exact ⟨rfl, N0, rfl⟩), ⟨_, rfl⟩, hW, hsame.mono (by decide) (by decide)⟩
theorem d11_0 : decode prog_18_method_8_code 0 = .ok (.aload_n 0, 1) := by decide +kernel
theorem d11_1 : decode prog_18_method_8_code 1 = .ok (.getfield 35, 3) := by decide +kernel
theorem d11_4 : decode prog_18_method_8_code 4 = .ok (.ireturn, 1) := by decide +kernel
theorem pn_11 : plainName "com/example/versions_to_view/versionstoview/lock/LockRequest" = true := by first | (simp [plainName, overriddenIn]; done) | decide +kernel
theorem ef_11 (m : MethodId) (a1 : Addr) : entryFrame m #[(.ref a1)] 1 = mkF m 0 #[.val (.ref a1)] [] := by first | (simp [entryFrame, mkF, argsToLocals, Value.category]; done) | rfl
def Q11 (Z : State) (a1 : Addr) (k : Int32) (h0 : Heap) (n0 : Nat) (v : Option Value) (h : Heap) (L : List Loc) : Prop := (v = some (.int k)) ∧ (Fr n0 L) ∧ (h = h0)
set_option maxRecDepth 65536 in
set_option maxHeartbeats 40000000 in
theorem rm11 (l : Launch) (Z : State) (a0 : Array Value) (hw : ∀ d ∈ tables_1, d.before a0 Z = true) (ws : List Jvm.Cond) (a1 : Addr) (k : Int32) (h0 : Heap) (n0 : Nat) (Z0 : n0 ≤ h0.size) (F_refused_a1 : Fld Z h0 a1 "com/example/versions_to_view/versionstoview/lock/LockRequest" "refused" "Z" (.int k)) (hb_k : k = (0 : Int32) ∨ k = (1 : Int32)) :
    MetFree l (⟨"com/example/versions_to_view/versionstoview/lock/LockRequest", "isRefused", "()Z"⟩ : MethodName) (head1 (Jvm.Cond.code (⟨"com/example/versions_to_view/versionstoview/lock/LockRequest", "isRefused", "()Z"⟩ : MethodName) prog_18_method_8_code 1 (some .boolean) :: ws) ({ frames := 0, cells := 0, slots := 0, locals := 0 } : Room)) (fun a U => a = #[(.ref a1)] ∧ Z.Warmed39 U.vm ∧ U.heap = h0) (fun _ _ _ _ _ => True) (fun _ U o U' => ∃ v L, o = .returned v ∧ Q11 Z a1 k h0 n0 v U'.heap L ∧ FrameEnd U o U' L ({ frames := 0, cells := 0, slots := 0, locals := 0 } : Room).cells ({ frames := 0, cells := 0, slots := 0, locals := 0 } : Room).slots) := by
  refine MetFree.of_bodySF (plainFor_of_name pn_11) hisR ?_
  intro p e s m args below meth c s₁ Bd hml0 hP hK
  obtain ⟨rfl, hZ, hh⟩ := hP
  have hx := Bd.exec
  have hby := Bd.bytes
  have hml : c.maxLocals = 1 := hml0
  have hown : s.vm.findClass "com/example/versions_to_view/versionstoview/lock/LockRequest" = some m.cls := findClass_of_methodNamed Bd.named
  have hnm := (name_of_methodNamed Bd.named Bd.method).1
  have X0 : Stand p l e ({ frames := 0, cells := 0, slots := 0, locals := 0 } : Room) s m #[(.ref a1)] below meth c s₁ [] 0 0 := Stand.of_body Bd
  have e0 : s₁.heap = h0 := by rw [← hh, Bd.state]; rfl
  have N0 := Fr.nil n0
  refine own_of (S := s₁.setTop (entryFrame m #[(.ref a1)] 1)) (S' := s₁.setTop (mkF m 0 #[.val (.ref a1)] [])) (K := fun s₂ o => ∃ v L, o = .returned v ∧ Q11 Z a1 k h0 n0 v s₂.heap L ∧ FrameEnd s o s₂ L ({ frames := 0, cells := 0, slots := 0, locals := 0 } : Room).cells ({ frames := 0, cells := 0, slots := 0, locals := 0 } : Room).slots) (fun t k => castTop (ef_11 m a1) k) ?_
  refine own_nameK fun K hKd => ?_
  refine own_of (S' := s₁.setTop (mkF m 1 #[.val (.ref a1)] [(.ref a1)])) (fun t k => XS.aloadN X0.here hx rfl (hb hby d11_0) rfl rfl k) ?_
  obtain ⟨T1, X1, e1, st1⟩ := getF X0 hx hZ hown (host := "") (Or.inl (hw _ (List.mem_of_getElem? (i := 81) rfl))) Via.refl e0 F_refused_a1 (g := (mkF m 1 #[.val (.ref a1)] [(.ref a1)])) rfl rfl (hb hby d11_1)
  refine own_of (S' := T1.setTop (mkF m 4 #[.val (.ref a1)] [(.int k)])) st1 ?_
  obtain ⟨fs, hr, hrun, hended, hW, hsame⟩ := X1.leave (v := some (.int k)) (fun h => by rw [Bd.returns] at h; cases h)
  subst hKd
  exact ⟨_, _, retN X1 hx (t := .boolean) Bd.returns (by simp) (hb hby d11_4) (by rw [own_nar hb_k]; exact hr), hrun, hended, _, _, rfl, (by
    show Q11 Z a1 k h0 n0 _ T1.heap _
    rw [show T1.heap = h0 from e1]
    exact ⟨rfl, N0, rfl⟩), ⟨_, rfl⟩, hW, hsame.mono (by decide) (by decide)⟩
theorem d12_0 : decode prog_18_method_9_code 0 = .ok (.aload_n 0, 1) := by decide +kernel
theorem d12_1 : decode prog_18_method_9_code 1 = .ok (.getfield 28, 3) := by decide +kernel
theorem d12_4 : decode prog_18_method_9_code 4 = .ok (.ireturn, 1) := by decide +kernel
theorem pn_12 : plainName "com/example/versions_to_view/versionstoview/lock/LockRequest" = true := by first | (simp [plainName, overriddenIn]; done) | decide +kernel
theorem ef_12 (m : MethodId) (a1 : Addr) : entryFrame m #[(.ref a1)] 1 = mkF m 0 #[.val (.ref a1)] [] := by first | (simp [entryFrame, mkF, argsToLocals, Value.category]; done) | rfl
def Q12 (Z : State) (a1 : Addr) (k : Int32) (h0 : Heap) (n0 : Nat) (v : Option Value) (h : Heap) (L : List Loc) : Prop := (v = some (.int k)) ∧ (Fr n0 L) ∧ (h = h0)
set_option maxRecDepth 65536 in
set_option maxHeartbeats 40000000 in
theorem rm12 (l : Launch) (Z : State) (a0 : Array Value) (hw : ∀ d ∈ tables_1, d.before a0 Z = true) (ws : List Jvm.Cond) (a1 : Addr) (k : Int32) (h0 : Heap) (n0 : Nat) (Z0 : n0 ≤ h0.size) (F_inWord_a1 : Fld Z h0 a1 "com/example/versions_to_view/versionstoview/lock/LockRequest" "inWord" "Z" (.int k)) (hb_k : k = (0 : Int32) ∨ k = (1 : Int32)) :
    MetFree l (⟨"com/example/versions_to_view/versionstoview/lock/LockRequest", "standsForWord", "()Z"⟩ : MethodName) (head1 (Jvm.Cond.code (⟨"com/example/versions_to_view/versionstoview/lock/LockRequest", "standsForWord", "()Z"⟩ : MethodName) prog_18_method_9_code 1 (some .boolean) :: ws) ({ frames := 0, cells := 0, slots := 0, locals := 0 } : Room)) (fun a U => a = #[(.ref a1)] ∧ Z.Warmed39 U.vm ∧ U.heap = h0) (fun _ _ _ _ _ => True) (fun _ U o U' => ∃ v L, o = .returned v ∧ Q12 Z a1 k h0 n0 v U'.heap L ∧ FrameEnd U o U' L ({ frames := 0, cells := 0, slots := 0, locals := 0 } : Room).cells ({ frames := 0, cells := 0, slots := 0, locals := 0 } : Room).slots) := by
  refine MetFree.of_bodySF (plainFor_of_name pn_12) hisR ?_
  intro p e s m args below meth c s₁ Bd hml0 hP hK
  obtain ⟨rfl, hZ, hh⟩ := hP
  have hx := Bd.exec
  have hby := Bd.bytes
  have hml : c.maxLocals = 1 := hml0
  have hown : s.vm.findClass "com/example/versions_to_view/versionstoview/lock/LockRequest" = some m.cls := findClass_of_methodNamed Bd.named
  have hnm := (name_of_methodNamed Bd.named Bd.method).1
  have X0 : Stand p l e ({ frames := 0, cells := 0, slots := 0, locals := 0 } : Room) s m #[(.ref a1)] below meth c s₁ [] 0 0 := Stand.of_body Bd
  have e0 : s₁.heap = h0 := by rw [← hh, Bd.state]; rfl
  have N0 := Fr.nil n0
  refine own_of (S := s₁.setTop (entryFrame m #[(.ref a1)] 1)) (S' := s₁.setTop (mkF m 0 #[.val (.ref a1)] [])) (K := fun s₂ o => ∃ v L, o = .returned v ∧ Q12 Z a1 k h0 n0 v s₂.heap L ∧ FrameEnd s o s₂ L ({ frames := 0, cells := 0, slots := 0, locals := 0 } : Room).cells ({ frames := 0, cells := 0, slots := 0, locals := 0 } : Room).slots) (fun t k => castTop (ef_12 m a1) k) ?_
  refine own_nameK fun K hKd => ?_
  refine own_of (S' := s₁.setTop (mkF m 1 #[.val (.ref a1)] [(.ref a1)])) (fun t k => XS.aloadN X0.here hx rfl (hb hby d12_0) rfl rfl k) ?_
  obtain ⟨T1, X1, e1, st1⟩ := getF X0 hx hZ hown (host := "") (Or.inl (hw _ (List.mem_of_getElem? (i := 60) rfl))) Via.refl e0 F_inWord_a1 (g := (mkF m 1 #[.val (.ref a1)] [(.ref a1)])) rfl rfl (hb hby d12_1)
  refine own_of (S' := T1.setTop (mkF m 4 #[.val (.ref a1)] [(.int k)])) st1 ?_
  obtain ⟨fs, hr, hrun, hended, hW, hsame⟩ := X1.leave (v := some (.int k)) (fun h => by rw [Bd.returns] at h; cases h)
  subst hKd
  exact ⟨_, _, retN X1 hx (t := .boolean) Bd.returns (by simp) (hb hby d12_4) (by rw [own_nar hb_k]; exact hr), hrun, hended, _, _, rfl, (by
    show Q12 Z a1 k h0 n0 _ T1.heap _
    rw [show T1.heap = h0 from e1]
    exact ⟨rfl, N0, rfl⟩), ⟨_, rfl⟩, hW, hsame.mono (by decide) (by decide)⟩
theorem d13_0 : decode prog_18_method_3_code 0 = .ok (.aload_n 0, 1) := by decide +kernel
theorem d13_1 : decode prog_18_method_3_code 1 = .ok (.getfield 13, 3) := by decide +kernel
theorem d13_4 : decode prog_18_method_3_code 4 = .ok (.areturn, 1) := by decide +kernel
theorem pn_13 : plainName "com/example/versions_to_view/versionstoview/lock/LockRequest" = true := by first | (simp [plainName, overriddenIn]; done) | decide +kernel
theorem ef_13 (m : MethodId) (a1 : Addr) : entryFrame m #[(.ref a1)] 1 = mkF m 0 #[.val (.ref a1)] [] := by first | (simp [entryFrame, mkF, argsToLocals, Value.category]; done) | rfl
def Q13 (Z : State) (a1 : Addr) (key : Value) (h0 : Heap) (n0 : Nat) (v : Option Value) (h : Heap) (L : List Loc) : Prop := (v = some key) ∧ (Fr n0 L) ∧ (h = h0)
set_option maxRecDepth 65536 in
set_option maxHeartbeats 40000000 in
theorem rm13 (l : Launch) (Z : State) (a0 : Array Value) (hw : ∀ d ∈ tables_1, d.before a0 Z = true) (ws : List Jvm.Cond) (a1 : Addr) (key : Value) (h0 : Heap) (n0 : Nat) (Z0 : n0 ≤ h0.size) (F_key_a1 : Fld Z h0 a1 "com/example/versions_to_view/versionstoview/lock/LockRequest" "key" "Ljava/lang/Long;" key) (hv_key : key.isRef = true) :
    MetFree l (⟨"com/example/versions_to_view/versionstoview/lock/LockRequest", "getKey", "()Ljava/lang/Long;"⟩ : MethodName) (head1 (Jvm.Cond.code (⟨"com/example/versions_to_view/versionstoview/lock/LockRequest", "getKey", "()Ljava/lang/Long;"⟩ : MethodName) prog_18_method_3_code 1 (some (.object "java/lang/Long")) :: ws) ({ frames := 0, cells := 0, slots := 0, locals := 0 } : Room)) (fun a U => a = #[(.ref a1)] ∧ Z.Warmed39 U.vm ∧ U.heap = h0) (fun _ _ _ _ _ => True) (fun _ U o U' => ∃ v L, o = .returned v ∧ Q13 Z a1 key h0 n0 v U'.heap L ∧ FrameEnd U o U' L ({ frames := 0, cells := 0, slots := 0, locals := 0 } : Room).cells ({ frames := 0, cells := 0, slots := 0, locals := 0 } : Room).slots) := by
  refine MetFree.of_bodySF (plainFor_of_name pn_13) hisR ?_
  intro p e s m args below meth c s₁ Bd hml0 hP hK
  obtain ⟨rfl, hZ, hh⟩ := hP
  have hx := Bd.exec
  have hby := Bd.bytes
  have hml : c.maxLocals = 1 := hml0
  have hown : s.vm.findClass "com/example/versions_to_view/versionstoview/lock/LockRequest" = some m.cls := findClass_of_methodNamed Bd.named
  have hnm := (name_of_methodNamed Bd.named Bd.method).1
  have X0 : Stand p l e ({ frames := 0, cells := 0, slots := 0, locals := 0 } : Room) s m #[(.ref a1)] below meth c s₁ [] 0 0 := Stand.of_body Bd
  have e0 : s₁.heap = h0 := by rw [← hh, Bd.state]; rfl
  have N0 := Fr.nil n0
  refine own_of (S := s₁.setTop (entryFrame m #[(.ref a1)] 1)) (S' := s₁.setTop (mkF m 0 #[.val (.ref a1)] [])) (K := fun s₂ o => ∃ v L, o = .returned v ∧ Q13 Z a1 key h0 n0 v s₂.heap L ∧ FrameEnd s o s₂ L ({ frames := 0, cells := 0, slots := 0, locals := 0 } : Room).cells ({ frames := 0, cells := 0, slots := 0, locals := 0 } : Room).slots) (fun t k => castTop (ef_13 m a1) k) ?_
  refine own_nameK fun K hKd => ?_
  refine own_of (S' := s₁.setTop (mkF m 1 #[.val (.ref a1)] [(.ref a1)])) (fun t k => XS.aloadN X0.here hx rfl (hb hby d13_0) rfl rfl k) ?_
  obtain ⟨T1, X1, e1, st1⟩ := getF X0 hx hZ hown (host := "") (Or.inl (hw _ (List.mem_of_getElem? (i := 52) rfl))) Via.refl e0 F_key_a1 (g := (mkF m 1 #[.val (.ref a1)] [(.ref a1)])) rfl rfl (hb hby d13_1)
  refine own_of (S' := T1.setTop (mkF m 4 #[.val (.ref a1)] [key])) st1 ?_
  obtain ⟨fs, hr, hrun, hended, hW, hsame⟩ := X1.leave (v := some key) (fun h => by rw [Bd.returns] at h; cases h)
  subst hKd
  exact ⟨_, _, (retOut X1 hx Bd.returns rfl (Or.inr (Or.inr (Or.inr (Or.inr ⟨rfl, rfl, (hv_key)⟩)))) (hb hby d13_4) hr), hrun, hended, _, _, rfl, (by
    show Q13 Z a1 key h0 n0 _ T1.heap _
    rw [show T1.heap = h0 from e1]
    exact ⟨rfl, N0, rfl⟩), ⟨_, rfl⟩, hW, hsame.mono (by decide) (by decide)⟩
theorem d14_0 : decode prog_18_method_6_code 0 = .ok (.aload_n 0, 1) := by decide +kernel
theorem d14_1 : decode prog_18_method_6_code 1 = .ok (.getfield 24, 3) := by decide +kernel
theorem d14_4 : decode prog_18_method_6_code 4 = .ok (.areturn, 1) := by decide +kernel
theorem pn_14 : plainName "com/example/versions_to_view/versionstoview/lock/LockRequest" = true := by first | (simp [plainName, overriddenIn]; done) | decide +kernel
theorem ef_14 (m : MethodId) (a1 : Addr) : entryFrame m #[(.ref a1)] 1 = mkF m 0 #[.val (.ref a1)] [] := by first | (simp [entryFrame, mkF, argsToLocals, Value.category]; done) | rfl
def Q14 (Z : State) (a1 : Addr) (mo : Addr) (h0 : Heap) (n0 : Nat) (v : Option Value) (h : Heap) (L : List Loc) : Prop := (v = some (.ref mo)) ∧ (Fr n0 L) ∧ (h = h0)
set_option maxRecDepth 65536 in
set_option maxHeartbeats 40000000 in
theorem rm14 (l : Launch) (Z : State) (a0 : Array Value) (hw : ∀ d ∈ tables_1, d.before a0 Z = true) (ws : List Jvm.Cond) (a1 : Addr) (mo : Addr) (h0 : Heap) (n0 : Nat) (Z0 : n0 ≤ h0.size) (F_mode_a1 : Fld Z h0 a1 "com/example/versions_to_view/versionstoview/lock/LockRequest" "mode" "Lcom/example/versions_to_view/versionstoview/lock/LockMode;" (.ref mo)) :
    MetFree l (⟨"com/example/versions_to_view/versionstoview/lock/LockRequest", "getMode", "()Lcom/example/versions_to_view/versionstoview/lock/LockMode;"⟩ : MethodName) (head1 (Jvm.Cond.code (⟨"com/example/versions_to_view/versionstoview/lock/LockRequest", "getMode", "()Lcom/example/versions_to_view/versionstoview/lock/LockMode;"⟩ : MethodName) prog_18_method_6_code 1 (some (.object "com/example/versions_to_view/versionstoview/lock/LockMode")) :: ws) ({ frames := 0, cells := 0, slots := 0, locals := 0 } : Room)) (fun a U => a = #[(.ref a1)] ∧ Z.Warmed39 U.vm ∧ U.heap = h0) (fun _ _ _ _ _ => True) (fun _ U o U' => ∃ v L, o = .returned v ∧ Q14 Z a1 mo h0 n0 v U'.heap L ∧ FrameEnd U o U' L ({ frames := 0, cells := 0, slots := 0, locals := 0 } : Room).cells ({ frames := 0, cells := 0, slots := 0, locals := 0 } : Room).slots) := by
  refine MetFree.of_bodySF (plainFor_of_name pn_14) hisR ?_
  intro p e s m args below meth c s₁ Bd hml0 hP hK
  obtain ⟨rfl, hZ, hh⟩ := hP
  have hx := Bd.exec
  have hby := Bd.bytes
  have hml : c.maxLocals = 1 := hml0
  have hown : s.vm.findClass "com/example/versions_to_view/versionstoview/lock/LockRequest" = some m.cls := findClass_of_methodNamed Bd.named
  have hnm := (name_of_methodNamed Bd.named Bd.method).1
  have X0 : Stand p l e ({ frames := 0, cells := 0, slots := 0, locals := 0 } : Room) s m #[(.ref a1)] below meth c s₁ [] 0 0 := Stand.of_body Bd
  have e0 : s₁.heap = h0 := by rw [← hh, Bd.state]; rfl
  have N0 := Fr.nil n0
  refine own_of (S := s₁.setTop (entryFrame m #[(.ref a1)] 1)) (S' := s₁.setTop (mkF m 0 #[.val (.ref a1)] [])) (K := fun s₂ o => ∃ v L, o = .returned v ∧ Q14 Z a1 mo h0 n0 v s₂.heap L ∧ FrameEnd s o s₂ L ({ frames := 0, cells := 0, slots := 0, locals := 0 } : Room).cells ({ frames := 0, cells := 0, slots := 0, locals := 0 } : Room).slots) (fun t k => castTop (ef_14 m a1) k) ?_
  refine own_nameK fun K hKd => ?_
  refine own_of (S' := s₁.setTop (mkF m 1 #[.val (.ref a1)] [(.ref a1)])) (fun t k => XS.aloadN X0.here hx rfl (hb hby d14_0) rfl rfl k) ?_
  obtain ⟨T1, X1, e1, st1⟩ := getF X0 hx hZ hown (host := "") (Or.inl (hw _ (List.mem_of_getElem? (i := 58) rfl))) Via.refl e0 F_mode_a1 (g := (mkF m 1 #[.val (.ref a1)] [(.ref a1)])) rfl rfl (hb hby d14_1)
  refine own_of (S' := T1.setTop (mkF m 4 #[.val (.ref a1)] [(.ref mo)])) st1 ?_
  obtain ⟨fs, hr, hrun, hended, hW, hsame⟩ := X1.leave (v := some (.ref mo)) (fun h => by rw [Bd.returns] at h; cases h)
  subst hKd
  exact ⟨_, _, (retOut X1 hx Bd.returns rfl (Or.inr (Or.inr (Or.inr (Or.inr ⟨rfl, rfl, rfl⟩)))) (hb hby d14_4) hr), hrun, hended, _, _, rfl, (by
    show Q14 Z a1 mo h0 n0 _ T1.heap _
    rw [show T1.heap = h0 from e1]
    exact ⟨rfl, N0, rfl⟩), ⟨_, rfl⟩, hW, hsame.mono (by decide) (by decide)⟩
theorem pn_0 : plainName "com/example/versions_to_view/versionstoview/lock/LockRequestNoteKeptWaitingPinLaw" = true := by first | (simp [plainName, overriddenIn]; done) | decide +kernel
theorem pd0_0 : parseMethodDescriptor "(I)Lcom/example/versions_to_view/versionstoview/lock/LockMode;" = some ⟨[.int], some (.object "com/example/versions_to_view/versionstoview/lock/LockMode")⟩ := by decide +kernel
theorem pd0_1 : parseMethodDescriptor "(C)Ljava/lang/String;" = some ⟨[.char], some (.object "java/lang/String")⟩ := by decide +kernel
theorem pd0_2 : parseMethodDescriptor "(Ljava/lang/String;Ljava/lang/Long;Ljava/lang/Long;Lcom/example/versions_to_view/versionstoview/transaction/Transaction;Lcom/example/versions_to_view/versionstoview/lock/LockMode;ZZ)V" = some ⟨[(.object "java/lang/String"), (.object "java/lang/Long"), (.object "java/lang/Long"), (.object "com/example/versions_to_view/versionstoview/transaction/Transaction"), (.object "com/example/versions_to_view/versionstoview/lock/LockMode"), .boolean, .boolean], none⟩ := by decide +kernel
theorem pd0_3 : parseMethodDescriptor "()Z" = some ⟨[], some .boolean⟩ := by decide +kernel
theorem pd0_4 : parseMethodDescriptor "()Ljava/lang/Long;" = some ⟨[], some (.object "java/lang/Long")⟩ := by decide +kernel
theorem pd0_5 : parseMethodDescriptor "()Lcom/example/versions_to_view/versionstoview/lock/LockMode;" = some ⟨[], some (.object "com/example/versions_to_view/versionstoview/lock/LockMode")⟩ := by decide +kernel
theorem pd0_6 : parseMethodDescriptor "(J)Ljava/lang/Long;" = some ⟨[.long], some (.object "java/lang/Long")⟩ := by decide +kernel
theorem ef_0 (m : MethodId) (p1 : Int32) (q2 : Int64) : entryFrame m #[(.int p1), (.long q2)] maxLocals = mkF m 0 #[.val (.int p1), .val (.long q2), .second, .unset, .unset, .unset, .unset, .unset, .unset, .unset, .unset, .unset, .unset] [] := by first | (simp [entryFrame, mkF, argsToLocals, Value.category, maxLocals]; done) | rfl
def Q0 (Z : State) (p1 : Int32) (q2 : Int64) (w_SHARED : Addr) (w_EXCLUSIVE : Addr) (w_GAP : Addr) (w_INSERT_INTENTION : Addr) (wc : Addr) (fc : Nat → Value) (ics : Int32) (h0 : Heap) (n0 : Nat) (v : Option Value) (h : Heap) (L : List Loc) : Prop := (v = some (.int (1 : Int32))) ∧ (Fr n0 L)
set_option maxRecDepth 65536 in
set_option maxHeartbeats 40000000 in
theorem rm0 (l : Launch) (Z : State) (a0 : Array Value) (hw : ∀ d ∈ tables_1, d.before a0 Z = true) (ws : List Jvm.Cond) (p1 : Int32) (q2 : Int64) (w_SHARED : Addr) (w_EXCLUSIVE : Addr) (w_GAP : Addr) (w_INSERT_INTENTION : Addr) (wc : Addr) (fc : Nat → Value) (ics : Int32) (h0 : Heap) (n0 : Nat) (Z0 : n0 ≤ h0.size) (S_SHARED : Sta Z h0 "com/example/versions_to_view/versionstoview/lock/LockMode" "SHARED" "Lcom/example/versions_to_view/versionstoview/lock/LockMode;" (.ref w_SHARED)) (S_EXCLUSIVE : Sta Z h0 "com/example/versions_to_view/versionstoview/lock/LockMode" "EXCLUSIVE" "Lcom/example/versions_to_view/versionstoview/lock/LockMode;" (.ref w_EXCLUSIVE)) (S_GAP : Sta Z h0 "com/example/versions_to_view/versionstoview/lock/LockMode" "GAP" "Lcom/example/versions_to_view/versionstoview/lock/LockMode;" (.ref w_GAP)) (S_INSERT_INTENTION : Sta Z h0 "com/example/versions_to_view/versionstoview/lock/LockMode" "INSERT_INTENTION" "Lcom/example/versions_to_view/versionstoview/lock/LockMode;" (.ref w_INSERT_INTENTION)) (S_cache : Sta Z h0 "java/lang/Long$LongCache" "cache" "[Ljava/lang/Long;" (.ref wc)) (V_wc : own_Ar Z h0 wc (.object "java/lang/Long") 256 fc) (hca : ∀ i, i < 256 → ∃ a, fc i = .ref a) (S_COMPACT_STRINGS : Sta Z h0 "java/lang/String" "COMPACT_STRINGS" "Z" (.int ics)) (hics : ¬ ics = (0 : Int32)) :
    MetFree l x (head1 (Jvm.Cond.code x code maxLocals ret :: ws) room_1) (fun a U => a = #[(.int p1), (.long q2)] ∧ Z.Warmed39 U.vm ∧ U.heap = h0) (fun _ _ _ _ _ => True) (fun _ U o U' => ∃ v L, o = .returned v ∧ Q0 Z p1 q2 w_SHARED w_EXCLUSIVE w_GAP w_INSERT_INTENTION wc fc ics h0 n0 v U'.heap L ∧ FrameEnd U o U' L room_1.cells room_1.slots) := by
  refine MetFree.of_bodySF (plainFor_of_name pn_0) hisR ?_
  intro p e s m args below meth c s₁ Bd hml0 hP hK
  obtain ⟨rfl, hZ, hh⟩ := hP
  have hx := Bd.exec
  have hby := Bd.bytes
  have hml : c.maxLocals = 13 := hml0
  have hown : s.vm.findClass "com/example/versions_to_view/versionstoview/lock/LockRequestNoteKeptWaitingPinLaw" = some m.cls := findClass_of_methodNamed Bd.named
  have hnm := (name_of_methodNamed Bd.named Bd.method).1
  have X0 : Stand p l e room_1 s m #[(.int p1), (.long q2)] below meth c s₁ [] 0 0 := Stand.of_body Bd
  have e0 : s₁.heap = h0 := by rw [← hh, Bd.state]; rfl
  have N0 := Fr.nil n0
  refine own_of (S := s₁.setTop (entryFrame m #[(.int p1), (.long q2)] maxLocals)) (S' := s₁.setTop (mkF m 0 #[.val (.int p1), .val (.long q2), .second, .unset, .unset, .unset, .unset, .unset, .unset, .unset, .unset, .unset, .unset] [])) (K := fun s₂ o => ∃ v L, o = .returned v ∧ Q0 Z p1 q2 w_SHARED w_EXCLUSIVE w_GAP w_INSERT_INTENTION wc fc ics h0 n0 v s₂.heap L ∧ FrameEnd s o s₂ L room_1.cells room_1.slots) (fun t k => castTop (ef_0 m p1 q2) k) ?_
  refine own_nameK fun K hKd => ?_
  have J12_1 : ∀ (gr : Int32), gr = (0 : Int32) ∨ gr = (1 : Int32) → own_Goes p e below (s₁.setTop (mkF m 12 #[.val (.int p1), .val (.long q2), .second, .val (.int gr), .unset, .unset, .unset, .unset, .unset, .unset, .unset, .unset, .unset] [])) K := by
    intro gr hgr
    have J25_2 : ∀ (iw : Int32), iw = (0 : Int32) ∨ iw = (1 : Int32) → own_Goes p e below (s₁.setTop (mkF m 25 #[.val (.int p1), .val (.long q2), .second, .val (.int gr), .val (.int iw), .unset, .unset, .unset, .unset, .unset, .unset, .unset, .unset] [])) K := by
      intro iw hiw
      refine own_of (S' := s₁.setTop (mkF m 26 #[.val (.int p1), .val (.long q2), .second, .val (.int gr), .val (.int iw), .unset, .unset, .unset, .unset, .unset, .unset, .unset, .unset] [(.int p1)])) (fun t k => XS.iloadN X0.here hx rfl (hb hby at_25) rfl k) ?_
      refine own_of (S' := s₁.setTop (mkF m 27 #[.val (.int p1), .val (.long q2), .second, .val (.int gr), .val (.int iw), .unset, .unset, .unset, .unset, .unset, .unset, .unset, .unset] [(.int (2 : Int32)), (.int p1)])) (fun t k => XS.iconst X0.here hx rfl (hb hby at_26) k) ?_
      refine own_of (S' := s₁.setTop (mkF m 28 #[.val (.int p1), .val (.long q2), .second, .val (.int gr), .val (.int iw), .unset, .unset, .unset, .unset, .unset, .unset, .unset, .unset] [(.int ((p1.toUInt32 >>> ((2 : Int32) &&& 31).toUInt32).toInt32))])) (fun t k => XS.iushr X0.here hx rfl (hb hby at_27) rfl k) ?_
      refine own_of (S' := s₁.setTop (mkF m 29 #[.val (.int p1), .val (.long q2), .second, .val (.int gr), .val (.int iw), .unset, .unset, .unset, .unset, .unset, .unset, .unset, .unset] [(.int (3 : Int32)), (.int ((p1.toUInt32 >>> ((2 : Int32) &&& 31).toUInt32).toInt32))])) (fun t k => XS.iconst X0.here hx rfl (hb hby at_28) k) ?_
      refine own_of (S' := s₁.setTop (mkF m 30 #[.val (.int p1), .val (.long q2), .second, .val (.int gr), .val (.int iw), .unset, .unset, .unset, .unset, .unset, .unset, .unset, .unset] [(.int (((p1.toUInt32 >>> ((2 : Int32) &&& 31).toUInt32).toInt32) &&& (3 : Int32)))])) (fun t k => XS.iand X0.here hx rfl (hb hby at_29) rfl k) ?_
      obtain ⟨_, _, ⟨T3, L3, k3, n3⟩, -, X3, ⟨Lc3, hQ3, l3, y3, z3⟩, st3⟩ := Jvm.LawKit.callS X0 hx (y := (⟨"com/example/versions_to_view/versionstoview/lock/LockRequestNoteKeptWaitingPinLaw", "modeOf", "(I)Lcom/example/versions_to_view/versionstoview/lock/LockMode;"⟩ : MethodName)) hown (mvT hZ (hw _ (List.mem_of_getElem? (i := 0) rfl))) (mvT hZ (hw _ (List.mem_of_getElem? (i := 1) rfl))) (mvT hZ (hw _ (List.mem_of_getElem? (i := 2) rfl))) (mvT hZ (hw _ (List.mem_of_getElem? (i := 3) rfl))) (by decide) (backOf (W := 0) (rm1 l Z a0 hw [] (((p1.toUInt32 >>> ((2 : Int32) &&& 31).toUInt32).toInt32) &&& (3 : Int32)) w_SHARED w_EXCLUSIVE w_GAP w_INSERT_INTENTION h0 n0 Z0 S_SHARED S_EXCLUSIVE S_GAP S_INSERT_INTENTION) hZ (hw _ (List.mem_of_getElem? (i := 3) rfl)) (hw _ (List.mem_of_getElem? (i := 2) rfl)) (by decide) (by decide)) (g := (mkF m 30 #[.val (.int p1), .val (.long q2), .second, .val (.int gr), .val (.int iw), .unset, .unset, .unset, .unset, .unset, .unset, .unset, .unset] [(.int (((p1.toUInt32 >>> ((2 : Int32) &&& 31).toUInt32).toInt32) &&& (3 : Int32)))])) rfl (by rw [hml]; rfl) (argsL := [(.int (((p1.toUInt32 >>> ((2 : Int32) &&& 31).toUInt32).toInt32) &&& (3 : Int32)))]) (rest := []) (lenOf pd0_0 rfl) rfl (by show 2 * 0 + _ ≤ _; exact Nat.le_of_eq rfl) (hb hby at_30) (fun _ _ => ⟨rfl, e0, (by decide : 0 + _ ≤ _), (by decide : 0 + _ ≤ _)⟩)
      dsimp only [Pt.U, Pt.locs, Pt.cells, Pt.slots] at X3 l3 y3 z3 st3 hQ3
      subst l3 y3 z3
      obtain ⟨r_3, rfl, N3q, hh3⟩ := hQ3
      have N3 := Fr.app N0 N3q
      refine own_of (S' := T3.setTop (mkF m 33 #[.val (.int p1), .val (.long q2), .second, .val (.int gr), .val (.int iw), .unset, .unset, .unset, .unset, .unset, .unset, .unset, .unset] [(.ref r_3)])) st3 ?_
      refine own_of (S' := T3.setTop (mkF m 35 #[.val (.int p1), .val (.long q2), .second, .val (.int gr), .val (.int iw), .val (.ref r_3), .unset, .unset, .unset, .unset, .unset, .unset, .unset] [])) (fun t k => XS.astore X3.here hx rfl (hb hby at_33) rfl rfl (l' := #[.val (.int p1), .val (.long q2), .second, .val (.int gr), .val (.int iw), .val (.ref r_3), .unset, .unset, .unset, .unset, .unset, .unset, .unset]) rfl k) ?_
      have J50_4 : ∀ (T4 : State) (L4 : List Loc) (X4 : Stand p l e room_1 s m #[(.int p1), (.long q2)] below meth c T4 L4 1 1) (K4 : Keep h0 T4.heap []) (N4 : Fr n0 L4) (ky : Value), ky.isRef = true → own_Goes p e below (T4.setTop (mkF m 50 #[.val (.int p1), .val (.long q2), .second, .val (.int gr), .val (.int iw), .val (.ref r_3), .unset, .unset, .unset, .unset, .unset, .unset, .unset] [ky])) K := by
        intro T4 L4 X4 K4 N4 ky hky
        refine own_of (S' := T4.setTop (mkF m 52 #[.val (.int p1), .val (.long q2), .second, .val (.int gr), .val (.int iw), .val (.ref r_3), .val ky, .unset, .unset, .unset, .unset, .unset, .unset] [])) (fun t k => XS.astoreS X4.here hx rfl (hb hby at_50) rfl hky (own_cat hky) rfl (Or.inl rfl) k) ?_
        have J68_5 : ∀ (T5 : State) (L5 : List Loc) (X5 : Stand p l e room_1 s m #[(.int p1), (.long q2)] below meth c T5 L5 2 2) (K5 : Keep T4.heap T5.heap []) (N5 : Fr n0 L5) (iv_ : Value), iv_.isRef = true → own_Goes p e below (T5.setTop (mkF m 68 #[.val (.int p1), .val (.long q2), .second, .val (.int gr), .val (.int iw), .val (.ref r_3), .val ky, .unset, .unset, .unset, .unset, .unset, .unset] [iv_])) K := by
          intro T5 L5 X5 K5 N5 iv_ hiv
          refine own_of (S' := T5.setTop (mkF m 70 #[.val (.int p1), .val (.long q2), .second, .val (.int gr), .val (.int iw), .val (.ref r_3), .val ky, .val iv_, .unset, .unset, .unset, .unset, .unset] [])) (fun t k => XS.astoreS X5.here hx rfl (hb hby at_68) rfl hiv (own_cat hiv) rfl (Or.inl rfl) k) ?_
          refine own_of (S' := T5.setTop (mkF m 71 #[.val (.int p1), .val (.long q2), .second, .val (.int gr), .val (.int iw), .val (.ref r_3), .val ky, .val iv_, .unset, .unset, .unset, .unset, .unset] [(.int p1)])) (fun t k => XS.iloadN X5.here hx rfl (hb hby at_70) rfl k) ?_
          refine own_of (S' := T5.setTop (mkF m 73 #[.val (.int p1), .val (.long q2), .second, .val (.int gr), .val (.int iw), .val (.ref r_3), .val ky, .val iv_, .unset, .unset, .unset, .unset, .unset] [(.int (8 : Int32)), (.int p1)])) (fun t k => XS.bipush X5.here hx rfl (hb hby at_71) k) ?_
          refine own_of (S' := T5.setTop (mkF m 74 #[.val (.int p1), .val (.long q2), .second, .val (.int gr), .val (.int iw), .val (.ref r_3), .val ky, .val iv_, .unset, .unset, .unset, .unset, .unset] [(.int ((p1.toUInt32 >>> ((8 : Int32) &&& 31).toUInt32).toInt32))])) (fun t k => XS.iushr X5.here hx rfl (hb hby at_73) rfl k) ?_
          refine own_of (S' := T5.setTop (mkF m 77 #[.val (.int p1), .val (.long q2), .second, .val (.int gr), .val (.int iw), .val (.ref r_3), .val ky, .val iv_, .unset, .unset, .unset, .unset, .unset] [(.int (255 : Int32)), (.int ((p1.toUInt32 >>> ((8 : Int32) &&& 31).toUInt32).toInt32))])) (fun t k => XS.sipush X5.here hx rfl (hb hby at_74) k) ?_
          refine own_of (S' := T5.setTop (mkF m 78 #[.val (.int p1), .val (.long q2), .second, .val (.int gr), .val (.int iw), .val (.ref r_3), .val ky, .val iv_, .unset, .unset, .unset, .unset, .unset] [(.int (((p1.toUInt32 >>> ((8 : Int32) &&& 31).toUInt32).toInt32) &&& (255 : Int32)))])) (fun t k => XS.iand X5.here hx rfl (hb hby at_77) rfl k) ?_
          refine own_of (S' := T5.setTop (mkF m 79 #[.val (.int p1), .val (.long q2), .second, .val (.int gr), .val (.int iw), .val (.ref r_3), .val ky, .val iv_, .unset, .unset, .unset, .unset, .unset] [(.int ((((p1.toUInt32 >>> ((8 : Int32) &&& 31).toUInt32).toInt32) &&& (255 : Int32)).toUInt32.toUInt16.toUInt32.toInt32))])) (fun t k => XS.i2c X5.here hx rfl (hb hby at_78) rfl k) ?_
          have S_COMPACT_STRINGS_t6 : Sta Z T5.heap "java/lang/String" "COMPACT_STRINGS" "Z" (.int ics) := (own_staK (own_staK S_COMPACT_STRINGS K4 all0) K5 all0)
          obtain ⟨_, _, ⟨T7, L7, k7, n7⟩, -, X7, ⟨Lc7, hQ7, l7, y7, z7⟩, st7⟩ := Jvm.LawKit.callS X5 hx (y := (⟨"java/lang/String", "valueOf", "(C)Ljava/lang/String;"⟩ : MethodName)) hown (mvT hZ (hw _ (List.mem_of_getElem? (i := 17) rfl))) (mvT hZ (hw _ (List.mem_of_getElem? (i := 18) rfl))) (mvT hZ (hw _ (List.mem_of_getElem? (i := 19) rfl))) (mvT hZ (hw _ (List.mem_of_getElem? (i := 20) rfl))) (by decide) (backOf (W := 0) (rm3 l Z a0 hw [] ((((p1.toUInt32 >>> ((8 : Int32) &&& 31).toUInt32).toInt32) &&& (255 : Int32)).toUInt32.toUInt16.toUInt32.toInt32) ics T5.heap n0 (Nat.le_trans (Nat.le_trans Z0 K4.1) K5.1) S_COMPACT_STRINGS_t6 hics (own_chr p1)) hZ (hw _ (List.mem_of_getElem? (i := 20) rfl)) (hw _ (List.mem_of_getElem? (i := 19) rfl)) (by decide) (by decide)) (g := (mkF m 79 #[.val (.int p1), .val (.long q2), .second, .val (.int gr), .val (.int iw), .val (.ref r_3), .val ky, .val iv_, .unset, .unset, .unset, .unset, .unset] [(.int ((((p1.toUInt32 >>> ((8 : Int32) &&& 31).toUInt32).toInt32) &&& (255 : Int32)).toUInt32.toUInt16.toUInt32.toInt32))])) rfl (by rw [hml]; rfl) (argsL := [(.int ((((p1.toUInt32 >>> ((8 : Int32) &&& 31).toUInt32).toInt32) &&& (255 : Int32)).toUInt32.toUInt16.toUInt32.toInt32))]) (rest := []) (lenOf pd0_1 rfl) rfl (by show 2 * 0 + _ ≤ _; exact Nat.le_of_eq rfl) (hb hby at_79) (fun _ _ => ⟨rfl, rfl, (by decide : 2 + _ ≤ _), (by decide : 2 + _ ≤ _)⟩)
          dsimp only [Pt.U, Pt.locs, Pt.cells, Pt.slots] at X7 l7 y7 z7 st7 hQ7
          subst l7 y7 z7
          obtain ⟨r_7, rfl, N7q, K7⟩ := hQ7
          have N7 := Fr.app N5 N7q
          refine own_of (S' := T7.setTop (mkF m 82 #[.val (.int p1), .val (.long q2), .second, .val (.int gr), .val (.int iw), .val (.ref r_3), .val ky, .val iv_, .unset, .unset, .unset, .unset, .unset] [(.ref r_7)])) st7 ?_
          refine own_of (S' := T7.setTop (mkF m 84 #[.val (.int p1), .val (.long q2), .second, .val (.int gr), .val (.int iw), .val (.ref r_3), .val ky, .val iv_, .val (.ref r_7), .unset, .unset, .unset, .unset] [])) (fun t k => XS.astore X7.here hx rfl (hb hby at_82) rfl rfl (l' := #[.val (.int p1), .val (.long q2), .second, .val (.int gr), .val (.int iw), .val (.ref r_3), .val ky, .val iv_, .val (.ref r_7), .unset, .unset, .unset, .unset]) rfl k) ?_
          obtain ⟨T8, h8, X8, e8, E8, A8, D8, -, st8⟩ := newO X7 hx hZ hown (hw _ (List.mem_of_getElem? (i := 43) rfl)) (hw _ (List.mem_of_getElem? (i := 44) rfl)) (hw _ (List.mem_of_getElem? (i := 45) rfl)) rfl (g := (mkF m 84 #[.val (.int p1), .val (.long q2), .second, .val (.int gr), .val (.int iw), .val (.ref r_3), .val ky, .val iv_, .val (.ref r_7), .unset, .unset, .unset, .unset] [])) rfl (hb hby at_84) (by decide) (by decide)
          obtain ⟨b8, g8⟩ : ∃ z, z = T7.heap.size := ⟨_, rfl⟩
          rw [← g8] at A8 D8 st8
          have g_b8 : n0 ≤ b8 := Nat.le_trans Z0 (Nat.le_trans (Nat.le_trans (Nat.le_trans (Nat.le_trans (Nat.le_refl _) K4.1) K5.1) K7.1) (Nat.le_of_eq g8.symm))
          have F_table_b8 : Fld Z h8 b8 "com/example/versions_to_view/versionstoview/lock/LockRequest" "table" "Ljava/lang/String;" .null := D8 (Or.inr (hw _ (List.mem_of_getElem? (i := 51) rfl))) (ty := (.object "java/lang/String")) (by decide)
          have F_key_b8 : Fld Z h8 b8 "com/example/versions_to_view/versionstoview/lock/LockRequest" "key" "Ljava/lang/Long;" .null := D8 (Or.inl (hw _ (List.mem_of_getElem? (i := 53) rfl))) (ty := (.object "java/lang/Long")) (by decide)
          have F_inserted_b8 : Fld Z h8 b8 "com/example/versions_to_view/versionstoview/lock/LockRequest" "inserted" "Ljava/lang/Long;" .null := D8 (Or.inr (hw _ (List.mem_of_getElem? (i := 55) rfl))) (ty := (.object "java/lang/Long")) (by decide)
          have F_transaction_b8 : Fld Z h8 b8 "com/example/versions_to_view/versionstoview/lock/LockRequest" "transaction" "Lcom/example/versions_to_view/versionstoview/transaction/Transaction;" .null := D8 (Or.inr (hw _ (List.mem_of_getElem? (i := 57) rfl))) (ty := (.object "com/example/versions_to_view/versionstoview/transaction/Transaction")) (by decide)
          have F_mode_b8 : Fld Z h8 b8 "com/example/versions_to_view/versionstoview/lock/LockRequest" "mode" "Lcom/example/versions_to_view/versionstoview/lock/LockMode;" .null := D8 (Or.inr (hw _ (List.mem_of_getElem? (i := 59) rfl))) (ty := (.object "com/example/versions_to_view/versionstoview/lock/LockMode")) (by decide)
          have F_inWord_b8 : Fld Z h8 b8 "com/example/versions_to_view/versionstoview/lock/LockRequest" "inWord" "Z" (.int (0 : Int32)) := D8 (Or.inr (hw _ (List.mem_of_getElem? (i := 61) rfl))) (ty := .boolean) (by decide)
          have F_granted_b8 : Fld Z h8 b8 "com/example/versions_to_view/versionstoview/lock/LockRequest" "granted" "Z" (.int (0 : Int32)) := D8 (Or.inl (hw _ (List.mem_of_getElem? (i := 63) rfl))) (ty := .boolean) (by decide)
          have F_keptWaiting_b8 : Fld Z h8 b8 "com/example/versions_to_view/versionstoview/lock/LockRequest" "keptWaiting" "Z" (.int (0 : Int32)) := D8 (Or.inl (hw _ (List.mem_of_getElem? (i := 70) rfl))) (ty := .boolean) (by decide)
          have F_refused_b8 : Fld Z h8 b8 "com/example/versions_to_view/versionstoview/lock/LockRequest" "refused" "Z" (.int (0 : Int32)) := D8 (Or.inl (hw _ (List.mem_of_getElem? (i := 82) rfl))) (ty := .boolean) (by decide)
          refine own_of (S' := T8.setTop (mkF m 87 #[.val (.int p1), .val (.long q2), .second, .val (.int gr), .val (.int iw), .val (.ref r_3), .val ky, .val iv_, .val (.ref r_7), .unset, .unset, .unset, .unset] [(.ref b8)])) st8 ?_
          refine own_of (S' := T8.setTop (mkF m 88 #[.val (.int p1), .val (.long q2), .second, .val (.int gr), .val (.int iw), .val (.ref r_3), .val ky, .val iv_, .val (.ref r_7), .unset, .unset, .unset, .unset] [(.ref b8), (.ref b8)])) (fun t k => XS.dup X8.here hx rfl (hb hby at_87) rfl rfl k) ?_
          refine own_of (S' := T8.setTop (mkF m 90 #[.val (.int p1), .val (.long q2), .second, .val (.int gr), .val (.int iw), .val (.ref r_3), .val ky, .val iv_, .val (.ref r_7), .unset, .unset, .unset, .unset] [(.ref r_7), (.ref b8), (.ref b8)])) (fun t k => XS.aload X8.here hx rfl (hb hby at_88) rfl rfl k) ?_
          refine own_of (S' := T8.setTop (mkF m 92 #[.val (.int p1), .val (.long q2), .second, .val (.int gr), .val (.int iw), .val (.ref r_3), .val ky, .val iv_, .val (.ref r_7), .unset, .unset, .unset, .unset] [ky, (.ref r_7), (.ref b8), (.ref b8)])) (fun t k => XS.aload X8.here hx rfl (hb hby at_90) rfl (hky) k) ?_
          refine own_of (S' := T8.setTop (mkF m 94 #[.val (.int p1), .val (.long q2), .second, .val (.int gr), .val (.int iw), .val (.ref r_3), .val ky, .val iv_, .val (.ref r_7), .unset, .unset, .unset, .unset] [iv_, ky, (.ref r_7), (.ref b8), (.ref b8)])) (fun t k => XS.aload X8.here hx rfl (hb hby at_92) rfl (hiv) k) ?_
          refine own_of (S' := T8.setTop (mkF m 95 #[.val (.int p1), .val (.long q2), .second, .val (.int gr), .val (.int iw), .val (.ref r_3), .val ky, .val iv_, .val (.ref r_7), .unset, .unset, .unset, .unset] [.null, iv_, ky, (.ref r_7), (.ref b8), (.ref b8)])) (fun t k => XS.aconstNull X8.here hx rfl (hb hby at_94) k) ?_
          refine own_of (S' := T8.setTop (mkF m 97 #[.val (.int p1), .val (.long q2), .second, .val (.int gr), .val (.int iw), .val (.ref r_3), .val ky, .val iv_, .val (.ref r_7), .unset, .unset, .unset, .unset] [(.ref r_3), .null, iv_, ky, (.ref r_7), (.ref b8), (.ref b8)])) (fun t k => XS.aload X8.here hx rfl (hb hby at_95) rfl rfl k) ?_
          refine own_of (S' := T8.setTop (mkF m 98 #[.val (.int p1), .val (.long q2), .second, .val (.int gr), .val (.int iw), .val (.ref r_3), .val ky, .val iv_, .val (.ref r_7), .unset, .unset, .unset, .unset] [(.int gr), (.ref r_3), .null, iv_, ky, (.ref r_7), (.ref b8), (.ref b8)])) (fun t k => XS.iloadN X8.here hx rfl (hb hby at_97) rfl k) ?_
          refine own_of (S' := T8.setTop (mkF m 100 #[.val (.int p1), .val (.long q2), .second, .val (.int gr), .val (.int iw), .val (.ref r_3), .val ky, .val iv_, .val (.ref r_7), .unset, .unset, .unset, .unset] [(.int iw), (.int gr), (.ref r_3), .null, iv_, ky, (.ref r_7), (.ref b8), (.ref b8)])) (fun t k => XS.iload X8.here hx rfl (hb hby at_98) rfl k) ?_
          obtain ⟨_, _, ⟨T9, L9, k9, n9⟩, -, X9, ⟨Lc9, hQ9, l9, y9, z9⟩, st9⟩ := X8.specialBack hx (y := (⟨"com/example/versions_to_view/versionstoview/lock/LockRequest", "<init>", "(Ljava/lang/String;Ljava/lang/Long;Ljava/lang/Long;Lcom/example/versions_to_view/versionstoview/transaction/Transaction;Lcom/example/versions_to_view/versionstoview/lock/LockMode;ZZ)V"⟩ : MethodName)) rfl hown (mvT hZ (hw _ (List.mem_of_getElem? (i := 46) rfl))) (mvT hZ (hw _ (List.mem_of_getElem? (i := 47) rfl))) (mvT hZ (hw _ (List.mem_of_getElem? (i := 48) rfl))) (by decide) (backOf (W := 1) (rm8 l Z a0 hw [] b8 r_7 ky iv_ r_3 gr iw h8 n0 (Nat.le_trans (Nat.le_trans (Nat.le_trans (Nat.le_trans Z0 K4.1) K5.1) K7.1) E8.1) A8 F_table_b8 F_key_b8 F_inserted_b8 F_transaction_b8 F_mode_b8 F_inWord_b8 F_granted_b8 F_keptWaiting_b8 F_refused_b8 g_b8 hky hiv hgr hiw) hZ (hw _ (List.mem_of_getElem? (i := 48) rfl)) (hw _ (List.mem_of_getElem? (i := 45) rfl)) (by decide) (by decide)) (g := (mkF m 100 #[.val (.int p1), .val (.long q2), .second, .val (.int gr), .val (.int iw), .val (.ref r_3), .val ky, .val iv_, .val (.ref r_7), .unset, .unset, .unset, .unset] [(.int iw), (.int gr), (.ref r_3), .null, iv_, ky, (.ref r_7), (.ref b8), (.ref b8)])) rfl (by rw [hml]; rfl) (Steps.refl _) (a := b8) (argsL := [(.ref r_7), ky, iv_, .null, (.ref r_3), (.int gr), (.int iw)]) (rest := [(.ref b8)]) (lenOf pd0_2 rfl) rfl (by show 2 * 0 + _ ≤ _; exact Nat.le_of_eq rfl) (hb hby at_100) (fun _ _ => ⟨rfl, e8, (by decide : ((2 + 2) + 1) + _ ≤ _), (by decide : ((2 + 5) + 9) + _ ≤ _)⟩)
          dsimp only [Pt.U, Pt.locs, Pt.cells, Pt.slots] at X9 l9 y9 z9 st9 hQ9
          subst l9 y9 z9
          obtain ⟨rfl, N9q, K9, F_key_q9_0, F_mode_q9_1, F_inWord_q9_2, F_granted_q9_3, F_keptWaiting_q9_4, F_refused_q9_5⟩ := hQ9
          have N9 := Fr.app N7 N9q
          refine own_of (S' := T9.setTop (mkF m 103 #[.val (.int p1), .val (.long q2), .second, .val (.int gr), .val (.int iw), .val (.ref r_3), .val ky, .val iv_, .val (.ref r_7), .unset, .unset, .unset, .unset] [(.ref b8)])) (fun t k => st9.trans k) ?_
          refine own_of (S' := T9.setTop (mkF m 105 #[.val (.int p1), .val (.long q2), .second, .val (.int gr), .val (.int iw), .val (.ref r_3), .val ky, .val iv_, .val (.ref r_7), .val (.ref b8), .unset, .unset, .unset] [])) (fun t k => XS.astore X9.here hx rfl (hb hby at_103) rfl rfl (l' := #[.val (.int p1), .val (.long q2), .second, .val (.int gr), .val (.int iw), .val (.ref r_3), .val ky, .val iv_, .val (.ref r_7), .val (.ref b8), .unset, .unset, .unset]) rfl k) ?_
          refine own_of (S' := T9.setTop (mkF m 107 #[.val (.int p1), .val (.long q2), .second, .val (.int gr), .val (.int iw), .val (.ref r_3), .val ky, .val iv_, .val (.ref r_7), .val (.ref b8), .unset, .unset, .unset] [(.ref b8)])) (fun t k => XS.aload X9.here hx rfl (hb hby at_105) rfl rfl k) ?_
          have A8_t10 : Exa Z T9.heap b8 "com/example/versions_to_view/versionstoview/lock/LockRequest" := (A8.keep K9)
          obtain ⟨cq11, kq11, q11a, q11b, q11c⟩ := isOf hZ rfl A8_t10
          obtain ⟨_, _, ⟨T11, L11, k11, n11⟩, -, X11, ⟨Lc11, hQ11, l11, y11, z11⟩, st11⟩ := X9.virtualBack hx (y := (⟨"com/example/versions_to_view/versionstoview/lock/LockRequest", "noteKeptWaiting", "()Z"⟩ : MethodName)) (z := (⟨"com/example/versions_to_view/versionstoview/lock/LockRequest", "noteKeptWaiting", "()Z"⟩ : MethodName)) hown (mvT hZ (hw _ (List.mem_of_getElem? (i := 64) rfl))) (mvT hZ (hw _ (List.mem_of_getElem? (i := 65) rfl))) (notFace_of_selects (args := #[]) (mvT hZ (hw _ (List.mem_of_getElem? (i := 67) rfl)))) (mvT hZ (hw _ (List.mem_of_getElem? (i := 67) rfl))) (mvT hZ (hw _ (List.mem_of_getElem? (i := 66) rfl))) (by decide) (backOf (W := 0) (rm9a l Z a0 hw [] b8 T9.heap n0 (Nat.le_trans (Nat.le_trans (Nat.le_trans (Nat.le_trans (Nat.le_trans Z0 K4.1) K5.1) K7.1) E8.1) K9.1) A8_t10 F_keptWaiting_q9_4 g_b8) hZ (hw _ (List.mem_of_getElem? (i := 68) rfl)) (hw _ (List.mem_of_getElem? (i := 45) rfl)) (by decide) (by decide)) q11a q11c (g := (mkF m 107 #[.val (.int p1), .val (.long q2), .second, .val (.int gr), .val (.int iw), .val (.ref r_3), .val ky, .val iv_, .val (.ref r_7), .val (.ref b8), .unset, .unset, .unset] [(.ref b8)])) rfl (by rw [hml]; rfl) (Steps.refl _) (argsL := []) (rest := []) (lenOf pd0_3 rfl) rfl (by show 2 * 0 + _ ≤ _; exact Nat.le_of_eq rfl) (hb hby at_107) (fun _ _ => ⟨rfl, rfl, (by decide : (((2 + 2) + 1) + 0) + _ ≤ _), (by decide : (((2 + 5) + 9) + 0) + _ ≤ _)⟩)
          dsimp only [Pt.U, Pt.locs, Pt.cells, Pt.slots] at X11 l11 y11 z11 st11 hQ11
          subst l11 y11 z11
          obtain ⟨rfl, N11q, K11⟩ := hQ11
          have N11 := Fr.app N9 N11q
          have Fw_keptWaiting_11 : Fld Z T11.heap b8 "com/example/versions_to_view/versionstoview/lock/LockRequest" "keptWaiting" "Z" (.int (1 : Int32)) := F_keptWaiting_q9_4.same K11
          refine own_of (S' := T11.setTop (mkF m 110 #[.val (.int p1), .val (.long q2), .second, .val (.int gr), .val (.int iw), .val (.ref r_3), .val ky, .val iv_, .val (.ref r_7), .val (.ref b8), .unset, .unset, .unset] [(.int (1 : Int32))])) (fun t k => st11.trans k) ?_
          refine own_of (S' := T11.setTop (mkF m 112 #[.val (.int p1), .val (.long q2), .second, .val (.int gr), .val (.int iw), .val (.ref r_3), .val ky, .val iv_, .val (.ref r_7), .val (.ref b8), .val (.int (1 : Int32)), .unset, .unset] [])) (fun t k => XS.istore X11.here hx rfl (hb hby at_110) rfl (l' := #[.val (.int p1), .val (.long q2), .second, .val (.int gr), .val (.int iw), .val (.ref r_3), .val ky, .val iv_, .val (.ref r_7), .val (.ref b8), .val (.int (1 : Int32)), .unset, .unset]) rfl k) ?_
          refine own_of (S' := T11.setTop (mkF m 114 #[.val (.int p1), .val (.long q2), .second, .val (.int gr), .val (.int iw), .val (.ref r_3), .val ky, .val iv_, .val (.ref r_7), .val (.ref b8), .val (.int (1 : Int32)), .unset, .unset] [(.ref b8)])) (fun t k => XS.aload X11.here hx rfl (hb hby at_112) rfl rfl k) ?_
          have A8_t12 : Exa Z T11.heap b8 "com/example/versions_to_view/versionstoview/lock/LockRequest" := (A8_t10.wr K11)
          obtain ⟨cq13, kq13, q13a, q13b, q13c⟩ := isOf hZ rfl A8_t12
          obtain ⟨_, _, ⟨T13, L13, k13, n13⟩, -, X13, ⟨Lc13, hQ13, l13, y13, z13⟩, st13⟩ := X11.virtualBack hx (y := (⟨"com/example/versions_to_view/versionstoview/lock/LockRequest", "noteKeptWaiting", "()Z"⟩ : MethodName)) (z := (⟨"com/example/versions_to_view/versionstoview/lock/LockRequest", "noteKeptWaiting", "()Z"⟩ : MethodName)) hown (mvT hZ (hw _ (List.mem_of_getElem? (i := 64) rfl))) (mvT hZ (hw _ (List.mem_of_getElem? (i := 65) rfl))) (notFace_of_selects (args := #[]) (mvT hZ (hw _ (List.mem_of_getElem? (i := 67) rfl)))) (mvT hZ (hw _ (List.mem_of_getElem? (i := 67) rfl))) (mvT hZ (hw _ (List.mem_of_getElem? (i := 66) rfl))) (by decide) (backOf (W := 0) (rm9b l Z a0 hw [] b8 T11.heap n0 (Nat.le_trans (Nat.le_trans (Nat.le_trans (Nat.le_trans (Nat.le_trans (Nat.le_trans Z0 K4.1) K5.1) K7.1) E8.1) K9.1) (Keep.of_wr K11).1) A8_t12 Fw_keptWaiting_11 g_b8) hZ (hw _ (List.mem_of_getElem? (i := 68) rfl)) (hw _ (List.mem_of_getElem? (i := 45) rfl)) (by decide) (by decide)) q13a q13c (g := (mkF m 114 #[.val (.int p1), .val (.long q2), .second, .val (.int gr), .val (.int iw), .val (.ref r_3), .val ky, .val iv_, .val (.ref r_7), .val (.ref b8), .val (.int (1 : Int32)), .unset, .unset] [(.ref b8)])) rfl (by rw [hml]; rfl) (Steps.refl _) (argsL := []) (rest := []) (lenOf pd0_3 rfl) rfl (by show 2 * 0 + _ ≤ _; exact Nat.le_of_eq rfl) (hb hby at_114) (fun _ _ => ⟨rfl, rfl, (by decide : ((((2 + 2) + 1) + 0) + 0) + _ ≤ _), (by decide : ((((2 + 5) + 9) + 0) + 0) + _ ≤ _)⟩)
          dsimp only [Pt.U, Pt.locs, Pt.cells, Pt.slots] at X13 l13 y13 z13 st13 hQ13
          subst l13 y13 z13
          obtain ⟨rfl, N13q, K13⟩ := hQ13
          have N13 := Fr.app N11 N13q
          have Fw_keptWaiting_13 : Fld Z T13.heap b8 "com/example/versions_to_view/versionstoview/lock/LockRequest" "keptWaiting" "Z" (.int (1 : Int32)) := Fw_keptWaiting_11.same K13
          refine own_of (S' := T13.setTop (mkF m 117 #[.val (.int p1), .val (.long q2), .second, .val (.int gr), .val (.int iw), .val (.ref r_3), .val ky, .val iv_, .val (.ref r_7), .val (.ref b8), .val (.int (1 : Int32)), .unset, .unset] [(.int (0 : Int32))])) (fun t k => st13.trans k) ?_
          refine own_of (S' := T13.setTop (mkF m 119 #[.val (.int p1), .val (.long q2), .second, .val (.int gr), .val (.int iw), .val (.ref r_3), .val ky, .val iv_, .val (.ref r_7), .val (.ref b8), .val (.int (1 : Int32)), .val (.int (0 : Int32)), .unset] [])) (fun t k => XS.istore X13.here hx rfl (hb hby at_117) rfl (l' := #[.val (.int p1), .val (.long q2), .second, .val (.int gr), .val (.int iw), .val (.ref r_3), .val ky, .val iv_, .val (.ref r_7), .val (.ref b8), .val (.int (1 : Int32)), .val (.int (0 : Int32)), .unset]) rfl k) ?_
          refine own_of (S' := T13.setTop (mkF m 121 #[.val (.int p1), .val (.long q2), .second, .val (.int gr), .val (.int iw), .val (.ref r_3), .val ky, .val iv_, .val (.ref r_7), .val (.ref b8), .val (.int (1 : Int32)), .val (.int (0 : Int32)), .unset] [(.ref b8)])) (fun t k => XS.aload X13.here hx rfl (hb hby at_119) rfl rfl k) ?_
          have A8_t14 : Exa Z T13.heap b8 "com/example/versions_to_view/versionstoview/lock/LockRequest" := (A8_t12.wr K13)
          obtain ⟨cq15, kq15, q15a, q15b, q15c⟩ := isOf hZ rfl A8_t14
          obtain ⟨_, _, ⟨T15, L15, k15, n15⟩, -, X15, ⟨Lc15, hQ15, l15, y15, z15⟩, st15⟩ := X13.virtualBack hx (y := (⟨"com/example/versions_to_view/versionstoview/lock/LockRequest", "noteKeptWaiting", "()Z"⟩ : MethodName)) (z := (⟨"com/example/versions_to_view/versionstoview/lock/LockRequest", "noteKeptWaiting", "()Z"⟩ : MethodName)) hown (mvT hZ (hw _ (List.mem_of_getElem? (i := 64) rfl))) (mvT hZ (hw _ (List.mem_of_getElem? (i := 65) rfl))) (notFace_of_selects (args := #[]) (mvT hZ (hw _ (List.mem_of_getElem? (i := 67) rfl)))) (mvT hZ (hw _ (List.mem_of_getElem? (i := 67) rfl))) (mvT hZ (hw _ (List.mem_of_getElem? (i := 66) rfl))) (by decide) (backOf (W := 0) (rm9b l Z a0 hw [] b8 T13.heap n0 (Nat.le_trans (Nat.le_trans (Nat.le_trans (Nat.le_trans (Nat.le_trans (Nat.le_trans (Nat.le_trans Z0 K4.1) K5.1) K7.1) E8.1) K9.1) (Keep.of_wr K11).1) (Keep.of_wr K13).1) A8_t14 Fw_keptWaiting_13 g_b8) hZ (hw _ (List.mem_of_getElem? (i := 68) rfl)) (hw _ (List.mem_of_getElem? (i := 45) rfl)) (by decide) (by decide)) q15a q15c (g := (mkF m 121 #[.val (.int p1), .val (.long q2), .second, .val (.int gr), .val (.int iw), .val (.ref r_3), .val ky, .val iv_, .val (.ref r_7), .val (.ref b8), .val (.int (1 : Int32)), .val (.int (0 : Int32)), .unset] [(.ref b8)])) rfl (by rw [hml]; rfl) (Steps.refl _) (argsL := []) (rest := []) (lenOf pd0_3 rfl) rfl (by show 2 * 0 + _ ≤ _; exact Nat.le_of_eq rfl) (hb hby at_121) (fun _ _ => ⟨rfl, rfl, (by decide : (((((2 + 2) + 1) + 0) + 0) + 0) + _ ≤ _), (by decide : (((((2 + 5) + 9) + 0) + 0) + 0) + _ ≤ _)⟩)
          dsimp only [Pt.U, Pt.locs, Pt.cells, Pt.slots] at X15 l15 y15 z15 st15 hQ15
          subst l15 y15 z15
          obtain ⟨rfl, N15q, K15⟩ := hQ15
          have N15 := Fr.app N13 N15q
          have Fw_keptWaiting_15 : Fld Z T15.heap b8 "com/example/versions_to_view/versionstoview/lock/LockRequest" "keptWaiting" "Z" (.int (1 : Int32)) := Fw_keptWaiting_13.same K15
          refine own_of (S' := T15.setTop (mkF m 124 #[.val (.int p1), .val (.long q2), .second, .val (.int gr), .val (.int iw), .val (.ref r_3), .val ky, .val iv_, .val (.ref r_7), .val (.ref b8), .val (.int (1 : Int32)), .val (.int (0 : Int32)), .unset] [(.int (0 : Int32))])) (fun t k => st15.trans k) ?_
          refine own_of (S' := T15.setTop (mkF m 126 #[.val (.int p1), .val (.long q2), .second, .val (.int gr), .val (.int iw), .val (.ref r_3), .val ky, .val iv_, .val (.ref r_7), .val (.ref b8), .val (.int (1 : Int32)), .val (.int (0 : Int32)), .val (.int (0 : Int32))] [])) (fun t k => XS.istore X15.here hx rfl (hb hby at_124) rfl (l' := #[.val (.int p1), .val (.long q2), .second, .val (.int gr), .val (.int iw), .val (.ref r_3), .val ky, .val iv_, .val (.ref r_7), .val (.ref b8), .val (.int (1 : Int32)), .val (.int (0 : Int32)), .val (.int (0 : Int32))]) rfl k) ?_
          refine own_of (S' := T15.setTop (mkF m 128 #[.val (.int p1), .val (.long q2), .second, .val (.int gr), .val (.int iw), .val (.ref r_3), .val ky, .val iv_, .val (.ref r_7), .val (.ref b8), .val (.int (1 : Int32)), .val (.int (0 : Int32)), .val (.int (0 : Int32))] [(.int (1 : Int32))])) (fun t k => XS.iload X15.here hx rfl (hb hby at_126) rfl k) ?_
          refine own_of (S' := T15.setTop (mkF m 131 #[.val (.int p1), .val (.long q2), .second, .val (.int gr), .val (.int iw), .val (.ref r_3), .val ky, .val iv_, .val (.ref r_7), .val (.ref b8), .val (.int (1 : Int32)), .val (.int (0 : Int32)), .val (.int (0 : Int32))] [])) (fun t k => XS.ifNo X15.here hx rfl (hb hby at_128) rfl ((if0 _ _).trans (feq (by decide : ¬ ((1 : Int32) = (0 : Int32)))).1) k) ?_
          refine own_of (S' := T15.setTop (mkF m 133 #[.val (.int p1), .val (.long q2), .second, .val (.int gr), .val (.int iw), .val (.ref r_3), .val ky, .val iv_, .val (.ref r_7), .val (.ref b8), .val (.int (1 : Int32)), .val (.int (0 : Int32)), .val (.int (0 : Int32))] [(.int (0 : Int32))])) (fun t k => XS.iload X15.here hx rfl (hb hby at_131) rfl k) ?_
          refine own_of (S' := T15.setTop (mkF m 136 #[.val (.int p1), .val (.long q2), .second, .val (.int gr), .val (.int iw), .val (.ref r_3), .val ky, .val iv_, .val (.ref r_7), .val (.ref b8), .val (.int (1 : Int32)), .val (.int (0 : Int32)), .val (.int (0 : Int32))] [])) (fun t k => XS.ifNo X15.here hx rfl (hb hby at_133) rfl ((if0 _ _).trans (teq (by decide : (0 : Int32) = (0 : Int32))).2) k) ?_
          refine own_of (S' := T15.setTop (mkF m 138 #[.val (.int p1), .val (.long q2), .second, .val (.int gr), .val (.int iw), .val (.ref r_3), .val ky, .val iv_, .val (.ref r_7), .val (.ref b8), .val (.int (1 : Int32)), .val (.int (0 : Int32)), .val (.int (0 : Int32))] [(.int (0 : Int32))])) (fun t k => XS.iload X15.here hx rfl (hb hby at_136) rfl k) ?_
          refine own_of (S' := T15.setTop (mkF m 141 #[.val (.int p1), .val (.long q2), .second, .val (.int gr), .val (.int iw), .val (.ref r_3), .val ky, .val iv_, .val (.ref r_7), .val (.ref b8), .val (.int (1 : Int32)), .val (.int (0 : Int32)), .val (.int (0 : Int32))] [])) (fun t k => XS.ifNo X15.here hx rfl (hb hby at_138) rfl ((if0 _ _).trans (teq (by decide : (0 : Int32) = (0 : Int32))).2) k) ?_
          refine own_of (S' := T15.setTop (mkF m 143 #[.val (.int p1), .val (.long q2), .second, .val (.int gr), .val (.int iw), .val (.ref r_3), .val ky, .val iv_, .val (.ref r_7), .val (.ref b8), .val (.int (1 : Int32)), .val (.int (0 : Int32)), .val (.int (0 : Int32))] [(.ref b8)])) (fun t k => XS.aload X15.here hx rfl (hb hby at_141) rfl rfl k) ?_
          have F_granted_q9_3_t16 : Fld Z T15.heap b8 "com/example/versions_to_view/versionstoview/lock/LockRequest" "granted" "Z" (.int gr) := (((F_granted_q9_3.other K11 (Or.inr (slot_ne (Or.inl (hw _ (List.mem_of_getElem? (i := 63) rfl))) (Or.inl (hw _ (List.mem_of_getElem? (i := 70) rfl))) (by decide) (t := .boolean) (t' := .boolean) (by decide) (by decide)))).other K13 (Or.inr (slot_ne (Or.inl (hw _ (List.mem_of_getElem? (i := 63) rfl))) (Or.inl (hw _ (List.mem_of_getElem? (i := 70) rfl))) (by decide) (t := .boolean) (t' := .boolean) (by decide) (by decide)))).other K15 (Or.inr (slot_ne (Or.inl (hw _ (List.mem_of_getElem? (i := 63) rfl))) (Or.inl (hw _ (List.mem_of_getElem? (i := 70) rfl))) (by decide) (t := .boolean) (t' := .boolean) (by decide) (by decide))))
          have A8_t18 : Exa Z T15.heap b8 "com/example/versions_to_view/versionstoview/lock/LockRequest" := (A8_t14.wr K15)
          obtain ⟨cq17, kq17, q17a, q17b, q17c⟩ := isOf hZ rfl A8_t18
          obtain ⟨_, _, ⟨T17, L17, k17, n17⟩, -, X17, ⟨Lc17, hQ17, l17, y17, z17⟩, st17⟩ := X15.virtualBack hx (y := (⟨"com/example/versions_to_view/versionstoview/lock/LockRequest", "isGranted", "()Z"⟩ : MethodName)) (z := (⟨"com/example/versions_to_view/versionstoview/lock/LockRequest", "isGranted", "()Z"⟩ : MethodName)) hown (mvT hZ (hw _ (List.mem_of_getElem? (i := 71) rfl))) (mvT hZ (hw _ (List.mem_of_getElem? (i := 72) rfl))) (notFace_of_selects (args := #[]) (mvT hZ (hw _ (List.mem_of_getElem? (i := 74) rfl)))) (mvT hZ (hw _ (List.mem_of_getElem? (i := 74) rfl))) (mvT hZ (hw _ (List.mem_of_getElem? (i := 73) rfl))) (by decide) (backOf (W := 0) (rm10 l Z a0 hw [] b8 gr T15.heap n0 (Nat.le_trans (Nat.le_trans (Nat.le_trans (Nat.le_trans (Nat.le_trans (Nat.le_trans (Nat.le_trans (Nat.le_trans Z0 K4.1) K5.1) K7.1) E8.1) K9.1) (Keep.of_wr K11).1) (Keep.of_wr K13).1) (Keep.of_wr K15).1) F_granted_q9_3_t16 hgr) hZ (hw _ (List.mem_of_getElem? (i := 75) rfl)) (hw _ (List.mem_of_getElem? (i := 45) rfl)) (by decide) (by decide)) q17a q17c (g := (mkF m 143 #[.val (.int p1), .val (.long q2), .second, .val (.int gr), .val (.int iw), .val (.ref r_3), .val ky, .val iv_, .val (.ref r_7), .val (.ref b8), .val (.int (1 : Int32)), .val (.int (0 : Int32)), .val (.int (0 : Int32))] [(.ref b8)])) rfl (by rw [hml]; rfl) (Steps.refl _) (argsL := []) (rest := []) (lenOf pd0_3 rfl) rfl (by show 2 * 0 + _ ≤ _; exact Nat.le_of_eq rfl) (hb hby at_143) (fun _ _ => ⟨rfl, rfl, (by decide : ((((((2 + 2) + 1) + 0) + 0) + 0) + 0) + _ ≤ _), (by decide : ((((((2 + 5) + 9) + 0) + 0) + 0) + 0) + _ ≤ _)⟩)
          dsimp only [Pt.U, Pt.locs, Pt.cells, Pt.slots] at X17 l17 y17 z17 st17 hQ17
          subst l17 y17 z17
          obtain ⟨rfl, N17q, hh17⟩ := hQ17
          have N17 := Fr.app N15 N17q
          refine own_of (S' := T17.setTop (mkF m 146 #[.val (.int p1), .val (.long q2), .second, .val (.int gr), .val (.int iw), .val (.ref r_3), .val ky, .val iv_, .val (.ref r_7), .val (.ref b8), .val (.int (1 : Int32)), .val (.int (0 : Int32)), .val (.int (0 : Int32))] [(.int gr)])) (fun t k => st17.trans k) ?_
          refine own_of (S' := T17.setTop (mkF m 147 #[.val (.int p1), .val (.long q2), .second, .val (.int gr), .val (.int iw), .val (.ref r_3), .val ky, .val iv_, .val (.ref r_7), .val (.ref b8), .val (.int (1 : Int32)), .val (.int (0 : Int32)), .val (.int (0 : Int32))] [(.int gr), (.int gr)])) (fun t k => XS.iloadN X17.here hx rfl (hb hby at_146) rfl k) ?_
          refine own_of (S' := T17.setTop (mkF m 150 #[.val (.int p1), .val (.long q2), .second, .val (.int gr), .val (.int iw), .val (.ref r_3), .val ky, .val iv_, .val (.ref r_7), .val (.ref b8), .val (.int (1 : Int32)), .val (.int (0 : Int32)), .val (.int (0 : Int32))] [])) (fun t k => XS.icmpNo X17.here hx rfl (hb hby at_147) rfl (teq (rfl : gr = gr)).2 k) ?_
          refine own_of (S' := T17.setTop (mkF m 152 #[.val (.int p1), .val (.long q2), .second, .val (.int gr), .val (.int iw), .val (.ref r_3), .val ky, .val iv_, .val (.ref r_7), .val (.ref b8), .val (.int (1 : Int32)), .val (.int (0 : Int32)), .val (.int (0 : Int32))] [(.ref b8)])) (fun t k => XS.aload X17.here hx rfl (hb hby at_150) rfl rfl k) ?_
          have F_refused_q9_5_t19 : Fld Z T15.heap b8 "com/example/versions_to_view/versionstoview/lock/LockRequest" "refused" "Z" (.int (0 : Int32)) := (((F_refused_q9_5.other K11 (Or.inr (slot_ne (Or.inl (hw _ (List.mem_of_getElem? (i := 82) rfl))) (Or.inl (hw _ (List.mem_of_getElem? (i := 70) rfl))) (by decide) (t := .boolean) (t' := .boolean) (by decide) (by decide)))).other K13 (Or.inr (slot_ne (Or.inl (hw _ (List.mem_of_getElem? (i := 82) rfl))) (Or.inl (hw _ (List.mem_of_getElem? (i := 70) rfl))) (by decide) (t := .boolean) (t' := .boolean) (by decide) (by decide)))).other K15 (Or.inr (slot_ne (Or.inl (hw _ (List.mem_of_getElem? (i := 82) rfl))) (Or.inl (hw _ (List.mem_of_getElem? (i := 70) rfl))) (by decide) (t := .boolean) (t' := .boolean) (by decide) (by decide))))
          obtain ⟨cq20, kq20, q20a, q20b, q20c⟩ := isOf hZ (hh17) A8_t18
          obtain ⟨_, _, ⟨T20, L20, k20, n20⟩, -, X20, ⟨Lc20, hQ20, l20, y20, z20⟩, st20⟩ := X17.virtualBack hx (y := (⟨"com/example/versions_to_view/versionstoview/lock/LockRequest", "isRefused", "()Z"⟩ : MethodName)) (z := (⟨"com/example/versions_to_view/versionstoview/lock/LockRequest", "isRefused", "()Z"⟩ : MethodName)) hown (mvT hZ (hw _ (List.mem_of_getElem? (i := 76) rfl))) (mvT hZ (hw _ (List.mem_of_getElem? (i := 77) rfl))) (notFace_of_selects (args := #[]) (mvT hZ (hw _ (List.mem_of_getElem? (i := 79) rfl)))) (mvT hZ (hw _ (List.mem_of_getElem? (i := 79) rfl))) (mvT hZ (hw _ (List.mem_of_getElem? (i := 78) rfl))) (by decide) (backOf (W := 0) (rm11 l Z a0 hw [] b8 (0 : Int32) T15.heap n0 (Nat.le_trans (Nat.le_trans (Nat.le_trans (Nat.le_trans (Nat.le_trans (Nat.le_trans (Nat.le_trans (Nat.le_trans Z0 K4.1) K5.1) K7.1) E8.1) K9.1) (Keep.of_wr K11).1) (Keep.of_wr K13).1) (Keep.of_wr K15).1) F_refused_q9_5_t19 (Or.inl rfl)) hZ (hw _ (List.mem_of_getElem? (i := 80) rfl)) (hw _ (List.mem_of_getElem? (i := 45) rfl)) (by decide) (by decide)) q20a q20c (g := (mkF m 152 #[.val (.int p1), .val (.long q2), .second, .val (.int gr), .val (.int iw), .val (.ref r_3), .val ky, .val iv_, .val (.ref r_7), .val (.ref b8), .val (.int (1 : Int32)), .val (.int (0 : Int32)), .val (.int (0 : Int32))] [(.ref b8)])) rfl (by rw [hml]; rfl) (Steps.refl _) (argsL := []) (rest := []) (lenOf pd0_3 rfl) rfl (by show 2 * 0 + _ ≤ _; exact Nat.le_of_eq rfl) (hb hby at_152) (fun _ _ => ⟨rfl, (hh17), (by decide : (((((((2 + 2) + 1) + 0) + 0) + 0) + 0) + 0) + _ ≤ _), (by decide : (((((((2 + 5) + 9) + 0) + 0) + 0) + 0) + 0) + _ ≤ _)⟩)
          dsimp only [Pt.U, Pt.locs, Pt.cells, Pt.slots] at X20 l20 y20 z20 st20 hQ20
          subst l20 y20 z20
          obtain ⟨rfl, N20q, hh20⟩ := hQ20
          have N20 := Fr.app N17 N20q
          refine own_of (S' := T20.setTop (mkF m 155 #[.val (.int p1), .val (.long q2), .second, .val (.int gr), .val (.int iw), .val (.ref r_3), .val ky, .val iv_, .val (.ref r_7), .val (.ref b8), .val (.int (1 : Int32)), .val (.int (0 : Int32)), .val (.int (0 : Int32))] [(.int (0 : Int32))])) (fun t k => st20.trans k) ?_
          refine own_of (S' := T20.setTop (mkF m 158 #[.val (.int p1), .val (.long q2), .second, .val (.int gr), .val (.int iw), .val (.ref r_3), .val ky, .val iv_, .val (.ref r_7), .val (.ref b8), .val (.int (1 : Int32)), .val (.int (0 : Int32)), .val (.int (0 : Int32))] [])) (fun t k => XS.ifNo X20.here hx rfl (hb hby at_155) rfl ((if0 _ _).trans (teq (by decide : (0 : Int32) = (0 : Int32))).2) k) ?_
          refine own_of (S' := T20.setTop (mkF m 160 #[.val (.int p1), .val (.long q2), .second, .val (.int gr), .val (.int iw), .val (.ref r_3), .val ky, .val iv_, .val (.ref r_7), .val (.ref b8), .val (.int (1 : Int32)), .val (.int (0 : Int32)), .val (.int (0 : Int32))] [(.ref b8)])) (fun t k => XS.aload X20.here hx rfl (hb hby at_158) rfl rfl k) ?_
          have F_inWord_q9_2_t21 : Fld Z T15.heap b8 "com/example/versions_to_view/versionstoview/lock/LockRequest" "inWord" "Z" (.int iw) := (((F_inWord_q9_2.other K11 (Or.inr (slot_ne (Or.inr (hw _ (List.mem_of_getElem? (i := 61) rfl))) (Or.inl (hw _ (List.mem_of_getElem? (i := 70) rfl))) (by decide) (t := .boolean) (t' := .boolean) (by decide) (by decide)))).other K13 (Or.inr (slot_ne (Or.inr (hw _ (List.mem_of_getElem? (i := 61) rfl))) (Or.inl (hw _ (List.mem_of_getElem? (i := 70) rfl))) (by decide) (t := .boolean) (t' := .boolean) (by decide) (by decide)))).other K15 (Or.inr (slot_ne (Or.inr (hw _ (List.mem_of_getElem? (i := 61) rfl))) (Or.inl (hw _ (List.mem_of_getElem? (i := 70) rfl))) (by decide) (t := .boolean) (t' := .boolean) (by decide) (by decide))))
          obtain ⟨cq22, kq22, q22a, q22b, q22c⟩ := isOf hZ (hh20) A8_t18
          obtain ⟨_, _, ⟨T22, L22, k22, n22⟩, -, X22, ⟨Lc22, hQ22, l22, y22, z22⟩, st22⟩ := X20.virtualBack hx (y := (⟨"com/example/versions_to_view/versionstoview/lock/LockRequest", "standsForWord", "()Z"⟩ : MethodName)) (z := (⟨"com/example/versions_to_view/versionstoview/lock/LockRequest", "standsForWord", "()Z"⟩ : MethodName)) hown (mvT hZ (hw _ (List.mem_of_getElem? (i := 83) rfl))) (mvT hZ (hw _ (List.mem_of_getElem? (i := 84) rfl))) (notFace_of_selects (args := #[]) (mvT hZ (hw _ (List.mem_of_getElem? (i := 86) rfl)))) (mvT hZ (hw _ (List.mem_of_getElem? (i := 86) rfl))) (mvT hZ (hw _ (List.mem_of_getElem? (i := 85) rfl))) (by decide) (backOf (W := 0) (rm12 l Z a0 hw [] b8 iw T15.heap n0 (Nat.le_trans (Nat.le_trans (Nat.le_trans (Nat.le_trans (Nat.le_trans (Nat.le_trans (Nat.le_trans (Nat.le_trans Z0 K4.1) K5.1) K7.1) E8.1) K9.1) (Keep.of_wr K11).1) (Keep.of_wr K13).1) (Keep.of_wr K15).1) F_inWord_q9_2_t21 hiw) hZ (hw _ (List.mem_of_getElem? (i := 87) rfl)) (hw _ (List.mem_of_getElem? (i := 45) rfl)) (by decide) (by decide)) q22a q22c (g := (mkF m 160 #[.val (.int p1), .val (.long q2), .second, .val (.int gr), .val (.int iw), .val (.ref r_3), .val ky, .val iv_, .val (.ref r_7), .val (.ref b8), .val (.int (1 : Int32)), .val (.int (0 : Int32)), .val (.int (0 : Int32))] [(.ref b8)])) rfl (by rw [hml]; rfl) (Steps.refl _) (argsL := []) (rest := []) (lenOf pd0_3 rfl) rfl (by show 2 * 0 + _ ≤ _; exact Nat.le_of_eq rfl) (hb hby at_160) (fun _ _ => ⟨rfl, (hh20), (by decide : ((((((((2 + 2) + 1) + 0) + 0) + 0) + 0) + 0) + 0) + _ ≤ _), (by decide : ((((((((2 + 5) + 9) + 0) + 0) + 0) + 0) + 0) + 0) + _ ≤ _)⟩)
          dsimp only [Pt.U, Pt.locs, Pt.cells, Pt.slots] at X22 l22 y22 z22 st22 hQ22
          subst l22 y22 z22
          obtain ⟨rfl, N22q, hh22⟩ := hQ22
          have N22 := Fr.app N20 N22q
          refine own_of (S' := T22.setTop (mkF m 163 #[.val (.int p1), .val (.long q2), .second, .val (.int gr), .val (.int iw), .val (.ref r_3), .val ky, .val iv_, .val (.ref r_7), .val (.ref b8), .val (.int (1 : Int32)), .val (.int (0 : Int32)), .val (.int (0 : Int32))] [(.int iw)])) (fun t k => st22.trans k) ?_
          refine own_of (S' := T22.setTop (mkF m 165 #[.val (.int p1), .val (.long q2), .second, .val (.int gr), .val (.int iw), .val (.ref r_3), .val ky, .val iv_, .val (.ref r_7), .val (.ref b8), .val (.int (1 : Int32)), .val (.int (0 : Int32)), .val (.int (0 : Int32))] [(.int iw), (.int iw)])) (fun t k => XS.iload X22.here hx rfl (hb hby at_163) rfl k) ?_
          refine own_of (S' := T22.setTop (mkF m 168 #[.val (.int p1), .val (.long q2), .second, .val (.int gr), .val (.int iw), .val (.ref r_3), .val ky, .val iv_, .val (.ref r_7), .val (.ref b8), .val (.int (1 : Int32)), .val (.int (0 : Int32)), .val (.int (0 : Int32))] [])) (fun t k => XS.icmpNo X22.here hx rfl (hb hby at_165) rfl (teq (rfl : iw = iw)).2 k) ?_
          refine own_of (S' := T22.setTop (mkF m 170 #[.val (.int p1), .val (.long q2), .second, .val (.int gr), .val (.int iw), .val (.ref r_3), .val ky, .val iv_, .val (.ref r_7), .val (.ref b8), .val (.int (1 : Int32)), .val (.int (0 : Int32)), .val (.int (0 : Int32))] [(.ref b8)])) (fun t k => XS.aload X22.here hx rfl (hb hby at_168) rfl rfl k) ?_
          have F_key_q9_0_t23 : Fld Z T15.heap b8 "com/example/versions_to_view/versionstoview/lock/LockRequest" "key" "Ljava/lang/Long;" ky := (((F_key_q9_0.other K11 (Or.inr (slot_ne (Or.inl (hw _ (List.mem_of_getElem? (i := 53) rfl))) (Or.inl (hw _ (List.mem_of_getElem? (i := 70) rfl))) (by decide) (t := (.object "java/lang/Long")) (t' := .boolean) (by decide) (by decide)))).other K13 (Or.inr (slot_ne (Or.inl (hw _ (List.mem_of_getElem? (i := 53) rfl))) (Or.inl (hw _ (List.mem_of_getElem? (i := 70) rfl))) (by decide) (t := (.object "java/lang/Long")) (t' := .boolean) (by decide) (by decide)))).other K15 (Or.inr (slot_ne (Or.inl (hw _ (List.mem_of_getElem? (i := 53) rfl))) (Or.inl (hw _ (List.mem_of_getElem? (i := 70) rfl))) (by decide) (t := (.object "java/lang/Long")) (t' := .boolean) (by decide) (by decide))))
          obtain ⟨cq24, kq24, q24a, q24b, q24c⟩ := isOf hZ (hh22) A8_t18
          obtain ⟨_, _, ⟨T24, L24, k24, n24⟩, -, X24, ⟨Lc24, hQ24, l24, y24, z24⟩, st24⟩ := X22.virtualBack hx (y := (⟨"com/example/versions_to_view/versionstoview/lock/LockRequest", "getKey", "()Ljava/lang/Long;"⟩ : MethodName)) (z := (⟨"com/example/versions_to_view/versionstoview/lock/LockRequest", "getKey", "()Ljava/lang/Long;"⟩ : MethodName)) hown (mvT hZ (hw _ (List.mem_of_getElem? (i := 88) rfl))) (mvT hZ (hw _ (List.mem_of_getElem? (i := 89) rfl))) (notFace_of_selects (args := #[]) (mvT hZ (hw _ (List.mem_of_getElem? (i := 91) rfl)))) (mvT hZ (hw _ (List.mem_of_getElem? (i := 91) rfl))) (mvT hZ (hw _ (List.mem_of_getElem? (i := 90) rfl))) (by decide) (backOf (W := 0) (rm13 l Z a0 hw [] b8 ky T15.heap n0 (Nat.le_trans (Nat.le_trans (Nat.le_trans (Nat.le_trans (Nat.le_trans (Nat.le_trans (Nat.le_trans (Nat.le_trans Z0 K4.1) K5.1) K7.1) E8.1) K9.1) (Keep.of_wr K11).1) (Keep.of_wr K13).1) (Keep.of_wr K15).1) F_key_q9_0_t23 hky) hZ (hw _ (List.mem_of_getElem? (i := 92) rfl)) (hw _ (List.mem_of_getElem? (i := 45) rfl)) (by decide) (by decide)) q24a q24c (g := (mkF m 170 #[.val (.int p1), .val (.long q2), .second, .val (.int gr), .val (.int iw), .val (.ref r_3), .val ky, .val iv_, .val (.ref r_7), .val (.ref b8), .val (.int (1 : Int32)), .val (.int (0 : Int32)), .val (.int (0 : Int32))] [(.ref b8)])) rfl (by rw [hml]; rfl) (Steps.refl _) (argsL := []) (rest := []) (lenOf pd0_4 rfl) rfl (by show 2 * 0 + _ ≤ _; exact Nat.le_of_eq rfl) (hb hby at_170) (fun _ _ => ⟨rfl, (hh22), (by decide : (((((((((2 + 2) + 1) + 0) + 0) + 0) + 0) + 0) + 0) + 0) + _ ≤ _), (by decide : (((((((((2 + 5) + 9) + 0) + 0) + 0) + 0) + 0) + 0) + 0) + _ ≤ _)⟩)
          dsimp only [Pt.U, Pt.locs, Pt.cells, Pt.slots] at X24 l24 y24 z24 st24 hQ24
          subst l24 y24 z24
          obtain ⟨rfl, N24q, hh24⟩ := hQ24
          have N24 := Fr.app N22 N24q
          refine own_of (S' := T24.setTop (mkF m 173 #[.val (.int p1), .val (.long q2), .second, .val (.int gr), .val (.int iw), .val (.ref r_3), .val ky, .val iv_, .val (.ref r_7), .val (.ref b8), .val (.int (1 : Int32)), .val (.int (0 : Int32)), .val (.int (0 : Int32))] [ky])) (fun t k => st24.trans k) ?_
          refine own_of (S' := T24.setTop (mkF m 175 #[.val (.int p1), .val (.long q2), .second, .val (.int gr), .val (.int iw), .val (.ref r_3), .val ky, .val iv_, .val (.ref r_7), .val (.ref b8), .val (.int (1 : Int32)), .val (.int (0 : Int32)), .val (.int (0 : Int32))] [ky, ky])) (fun t k => XS.aload X24.here hx rfl (hb hby at_173) rfl (hky) k) ?_
          refine own_of (S' := T24.setTop (mkF m 178 #[.val (.int p1), .val (.long q2), .second, .val (.int gr), .val (.int iw), .val (.ref r_3), .val ky, .val iv_, .val (.ref r_7), .val (.ref b8), .val (.int (1 : Int32)), .val (.int (0 : Int32)), .val (.int (0 : Int32))] [])) (fun t k => Jvm.RoadKit.acmp (g := (mkF m 175 #[.val (.int p1), .val (.long q2), .second, .val (.int gr), .val (.int iw), .val (.ref r_3), .val ky, .val iv_, .val (.ref r_7), .val (.ref b8), .val (.int (1 : Int32)), .val (.int (0 : Int32)), .val (.int (0 : Int32))] [ky, ky])) X24 hx rfl (hky) (hky) (pc0 := 175) (pc' := 178) (same := true) rfl (hb hby at_175) rfl (decide_eq_true rfl) (by decide) (by decide) k) ?_
          refine own_of (S' := T24.setTop (mkF m 180 #[.val (.int p1), .val (.long q2), .second, .val (.int gr), .val (.int iw), .val (.ref r_3), .val ky, .val iv_, .val (.ref r_7), .val (.ref b8), .val (.int (1 : Int32)), .val (.int (0 : Int32)), .val (.int (0 : Int32))] [(.ref b8)])) (fun t k => XS.aload X24.here hx rfl (hb hby at_178) rfl rfl k) ?_
          have F_mode_q9_1_t25 : Fld Z T15.heap b8 "com/example/versions_to_view/versionstoview/lock/LockRequest" "mode" "Lcom/example/versions_to_view/versionstoview/lock/LockMode;" (.ref r_3) := (((F_mode_q9_1.other K11 (Or.inr (slot_ne (Or.inr (hw _ (List.mem_of_getElem? (i := 59) rfl))) (Or.inl (hw _ (List.mem_of_getElem? (i := 70) rfl))) (by decide) (t := (.object "com/example/versions_to_view/versionstoview/lock/LockMode")) (t' := .boolean) (by decide) (by decide)))).other K13 (Or.inr (slot_ne (Or.inr (hw _ (List.mem_of_getElem? (i := 59) rfl))) (Or.inl (hw _ (List.mem_of_getElem? (i := 70) rfl))) (by decide) (t := (.object "com/example/versions_to_view/versionstoview/lock/LockMode")) (t' := .boolean) (by decide) (by decide)))).other K15 (Or.inr (slot_ne (Or.inr (hw _ (List.mem_of_getElem? (i := 59) rfl))) (Or.inl (hw _ (List.mem_of_getElem? (i := 70) rfl))) (by decide) (t := (.object "com/example/versions_to_view/versionstoview/lock/LockMode")) (t' := .boolean) (by decide) (by decide))))
          obtain ⟨cq26, kq26, q26a, q26b, q26c⟩ := isOf hZ (hh24) A8_t18
          obtain ⟨_, _, ⟨T26, L26, k26, n26⟩, -, X26, ⟨Lc26, hQ26, l26, y26, z26⟩, st26⟩ := X24.virtualBack hx (y := (⟨"com/example/versions_to_view/versionstoview/lock/LockRequest", "getMode", "()Lcom/example/versions_to_view/versionstoview/lock/LockMode;"⟩ : MethodName)) (z := (⟨"com/example/versions_to_view/versionstoview/lock/LockRequest", "getMode", "()Lcom/example/versions_to_view/versionstoview/lock/LockMode;"⟩ : MethodName)) hown (mvT hZ (hw _ (List.mem_of_getElem? (i := 93) rfl))) (mvT hZ (hw _ (List.mem_of_getElem? (i := 94) rfl))) (notFace_of_selects (args := #[]) (mvT hZ (hw _ (List.mem_of_getElem? (i := 96) rfl)))) (mvT hZ (hw _ (List.mem_of_getElem? (i := 96) rfl))) (mvT hZ (hw _ (List.mem_of_getElem? (i := 95) rfl))) (by decide) (backOf (W := 0) (rm14 l Z a0 hw [] b8 r_3 T15.heap n0 (Nat.le_trans (Nat.le_trans (Nat.le_trans (Nat.le_trans (Nat.le_trans (Nat.le_trans (Nat.le_trans (Nat.le_trans Z0 K4.1) K5.1) K7.1) E8.1) K9.1) (Keep.of_wr K11).1) (Keep.of_wr K13).1) (Keep.of_wr K15).1) F_mode_q9_1_t25) hZ (hw _ (List.mem_of_getElem? (i := 97) rfl)) (hw _ (List.mem_of_getElem? (i := 45) rfl)) (by decide) (by decide)) q26a q26c (g := (mkF m 180 #[.val (.int p1), .val (.long q2), .second, .val (.int gr), .val (.int iw), .val (.ref r_3), .val ky, .val iv_, .val (.ref r_7), .val (.ref b8), .val (.int (1 : Int32)), .val (.int (0 : Int32)), .val (.int (0 : Int32))] [(.ref b8)])) rfl (by rw [hml]; rfl) (Steps.refl _) (argsL := []) (rest := []) (lenOf pd0_5 rfl) rfl (by show 2 * 0 + _ ≤ _; exact Nat.le_of_eq rfl) (hb hby at_180) (fun _ _ => ⟨rfl, (hh24), (by decide : ((((((((((2 + 2) + 1) + 0) + 0) + 0) + 0) + 0) + 0) + 0) + 0) + _ ≤ _), (by decide : ((((((((((2 + 5) + 9) + 0) + 0) + 0) + 0) + 0) + 0) + 0) + 0) + _ ≤ _)⟩)
          dsimp only [Pt.U, Pt.locs, Pt.cells, Pt.slots] at X26 l26 y26 z26 st26 hQ26
          subst l26 y26 z26
          obtain ⟨rfl, N26q, hh26⟩ := hQ26
          have N26 := Fr.app N24 N26q
          refine own_of (S' := T26.setTop (mkF m 183 #[.val (.int p1), .val (.long q2), .second, .val (.int gr), .val (.int iw), .val (.ref r_3), .val ky, .val iv_, .val (.ref r_7), .val (.ref b8), .val (.int (1 : Int32)), .val (.int (0 : Int32)), .val (.int (0 : Int32))] [(.ref r_3)])) (fun t k => st26.trans k) ?_
          refine own_of (S' := T26.setTop (mkF m 185 #[.val (.int p1), .val (.long q2), .second, .val (.int gr), .val (.int iw), .val (.ref r_3), .val ky, .val iv_, .val (.ref r_7), .val (.ref b8), .val (.int (1 : Int32)), .val (.int (0 : Int32)), .val (.int (0 : Int32))] [(.ref r_3), (.ref r_3)])) (fun t k => XS.aload X26.here hx rfl (hb hby at_183) rfl rfl k) ?_
          refine own_of (S' := T26.setTop (mkF m 188 #[.val (.int p1), .val (.long q2), .second, .val (.int gr), .val (.int iw), .val (.ref r_3), .val ky, .val iv_, .val (.ref r_7), .val (.ref b8), .val (.int (1 : Int32)), .val (.int (0 : Int32)), .val (.int (0 : Int32))] [])) (fun t k => Jvm.RoadKit.acmp (g := (mkF m 185 #[.val (.int p1), .val (.long q2), .second, .val (.int gr), .val (.int iw), .val (.ref r_3), .val ky, .val iv_, .val (.ref r_7), .val (.ref b8), .val (.int (1 : Int32)), .val (.int (0 : Int32)), .val (.int (0 : Int32))] [(.ref r_3), (.ref r_3)])) X26 hx rfl rfl rfl (pc0 := 185) (pc' := 188) (same := true) rfl (hb hby at_185) rfl (decide_eq_true rfl) (by decide) (by decide) k) ?_
          refine own_of (S' := T26.setTop (mkF m 189 #[.val (.int p1), .val (.long q2), .second, .val (.int gr), .val (.int iw), .val (.ref r_3), .val ky, .val iv_, .val (.ref r_7), .val (.ref b8), .val (.int (1 : Int32)), .val (.int (0 : Int32)), .val (.int (0 : Int32))] [(.int (1 : Int32))])) (fun t k => XS.iconst X26.here hx rfl (hb hby at_188) k) ?_
          refine own_of (S' := T26.setTop (mkF m 193 #[.val (.int p1), .val (.long q2), .second, .val (.int gr), .val (.int iw), .val (.ref r_3), .val ky, .val iv_, .val (.ref r_7), .val (.ref b8), .val (.int (1 : Int32)), .val (.int (0 : Int32)), .val (.int (0 : Int32))] [(.int (1 : Int32))])) (fun t k => XS.goto X26.here hx rfl (pc0 := 189) (pc' := 193) rfl (hb hby at_189) (by decide) (by decide) k) ?_
          obtain ⟨fs, hr, hrun, hended, hW, hsame⟩ := X26.leave (v := some (.int (1 : Int32))) (fun h => by rw [Bd.returns] at h; cases h)
          subst hKd
          exact ⟨_, _, retN X26 hx (t := .boolean) Bd.returns (by simp) (hb hby at_193) hr, hrun, hended, _, _, rfl, (by
            show Q0 Z p1 q2 w_SHARED w_EXCLUSIVE w_GAP w_INSERT_INTENTION wc fc ics h0 n0 _ T26.heap _
            rw [show T26.heap = T15.heap from (hh26)]
            exact ⟨rfl, N26⟩), ⟨_, rfl⟩, hW, hsame.mono (by decide) (by decide)⟩
        refine own_of (S' := T4.setTop (mkF m 54 #[.val (.int p1), .val (.long q2), .second, .val (.int gr), .val (.int iw), .val (.ref r_3), .val ky, .unset, .unset, .unset, .unset, .unset, .unset] [(.ref r_3)])) (fun t k => XS.aload X4.here hx rfl (hb hby at_52) rfl rfl k) ?_
        have S_INSERT_INTENTION_t27 : Sta Z T4.heap "com/example/versions_to_view/versionstoview/lock/LockMode" "INSERT_INTENTION" "Lcom/example/versions_to_view/versionstoview/lock/LockMode;" (.ref w_INSERT_INTENTION) := (own_staK S_INSERT_INTENTION K4 all0)
        obtain ⟨T28, X28, e28, st28⟩ := getS2 X4 hx hZ hown (host := "") (Or.inl (hw _ (List.mem_of_getElem? (i := 15) rfl))) Via.refl rfl S_INSERT_INTENTION_t27 (g := (mkF m 54 #[.val (.int p1), .val (.long q2), .second, .val (.int gr), .val (.int iw), .val (.ref r_3), .val ky, .unset, .unset, .unset, .unset, .unset, .unset] [(.ref r_3)])) rfl (hb hby at_54)
        refine own_of (S' := T28.setTop (mkF m 57 #[.val (.int p1), .val (.long q2), .second, .val (.int gr), .val (.int iw), .val (.ref r_3), .val ky, .unset, .unset, .unset, .unset, .unset, .unset] [(.ref w_INSERT_INTENTION), (.ref r_3)])) st28 ?_
        by_cases ha57_29 : r_3 = w_INSERT_INTENTION
        · refine own_of (S' := T28.setTop (mkF m 60 #[.val (.int p1), .val (.long q2), .second, .val (.int gr), .val (.int iw), .val (.ref r_3), .val ky, .unset, .unset, .unset, .unset, .unset, .unset] [])) (fun t k => Jvm.RoadKit.acmp (g := (mkF m 57 #[.val (.int p1), .val (.long q2), .second, .val (.int gr), .val (.int iw), .val (.ref r_3), .val ky, .unset, .unset, .unset, .unset, .unset, .unset] [(.ref w_INSERT_INTENTION), (.ref r_3)])) X28 hx rfl rfl rfl (pc0 := 57) (pc' := 60) (same := true) rfl (hb hby at_57) rfl (decide_eq_true (congrArg Value.ref ha57_29)) (by decide) (by decide) k) ?_
          refine own_of (S' := T28.setTop (mkF m 61 #[.val (.int p1), .val (.long q2), .second, .val (.int gr), .val (.int iw), .val (.ref r_3), .val ky, .unset, .unset, .unset, .unset, .unset, .unset] [(.long q2)])) (fun t k => XS.lloadN X28.here hx rfl (hb hby at_60) rfl k) ?_
          have S_cache_t30 : Sta Z T4.heap "java/lang/Long$LongCache" "cache" "[Ljava/lang/Long;" (.ref wc) := (own_staK S_cache K4 all0)
          have V_wc_t31 : own_Ar Z T4.heap wc (.object "java/lang/Long") 256 fc := (V_wc.keep K4 nin0)
          obtain ⟨_, _, ⟨T32, L32, k32, n32⟩, -, X32, ⟨Lc32, hQ32, l32, y32, z32⟩, st32⟩ := Jvm.LawKit.callS X28 hx (y := (⟨"java/lang/Long", "valueOf", "(J)Ljava/lang/Long;"⟩ : MethodName)) hown (mvT hZ (hw _ (List.mem_of_getElem? (i := 7) rfl))) (mvT hZ (hw _ (List.mem_of_getElem? (i := 8) rfl))) (mvT hZ (hw _ (List.mem_of_getElem? (i := 9) rfl))) (mvT hZ (hw _ (List.mem_of_getElem? (i := 10) rfl))) (by decide) (backOf (W := 0) (rm2 l Z a0 hw [] q2 wc fc T4.heap n0 (Nat.le_trans Z0 K4.1) S_cache_t30 V_wc_t31 hca) hZ (hw _ (List.mem_of_getElem? (i := 10) rfl)) (hw _ (List.mem_of_getElem? (i := 9) rfl)) (by decide) (by decide)) (g := (mkF m 61 #[.val (.int p1), .val (.long q2), .second, .val (.int gr), .val (.int iw), .val (.ref r_3), .val ky, .unset, .unset, .unset, .unset, .unset, .unset] [(.long q2)])) rfl (by rw [hml]; rfl) (argsL := [(.long q2)]) (rest := []) (lenOf pd0_6 rfl) rfl (by show 2 * 0 + _ ≤ _; exact Nat.le_of_eq rfl) (hb hby at_61) (fun _ _ => ⟨rfl, e28, (by decide : 1 + _ ≤ _), (by decide : 1 + _ ≤ _)⟩)
          dsimp only [Pt.U, Pt.locs, Pt.cells, Pt.slots] at X32 l32 y32 z32 st32 hQ32
          subst l32 y32 z32
          obtain ⟨r_32, rfl, N32q, K32⟩ := hQ32
          have N32 := Fr.app N4 N32q
          refine own_of (S' := T32.setTop (mkF m 64 #[.val (.int p1), .val (.long q2), .second, .val (.int gr), .val (.int iw), .val (.ref r_3), .val ky, .unset, .unset, .unset, .unset, .unset, .unset] [(.ref r_32)])) st32 ?_
          refine own_of (S' := T32.setTop (mkF m 68 #[.val (.int p1), .val (.long q2), .second, .val (.int gr), .val (.int iw), .val (.ref r_3), .val ky, .unset, .unset, .unset, .unset, .unset, .unset] [(.ref r_32)])) (fun t k => XS.goto X32.here hx rfl (pc0 := 64) (pc' := 68) rfl (hb hby at_64) (by decide) (by decide) k) ?_
          exact J68_5 T32 _ (X32.mono (by decide) (by decide)) ((Keep.refl T4.heap []).trans K32 all0) N32 (.ref r_32) rfl
        refine own_of (S' := T28.setTop (mkF m 67 #[.val (.int p1), .val (.long q2), .second, .val (.int gr), .val (.int iw), .val (.ref r_3), .val ky, .unset, .unset, .unset, .unset, .unset, .unset] [])) (fun t k => Jvm.RoadKit.acmp (g := (mkF m 57 #[.val (.int p1), .val (.long q2), .second, .val (.int gr), .val (.int iw), .val (.ref r_3), .val ky, .unset, .unset, .unset, .unset, .unset, .unset] [(.ref w_INSERT_INTENTION), (.ref r_3)])) X28 hx rfl rfl rfl (pc0 := 57) (pc' := 67) (same := false) rfl (hb hby at_57) rfl (decide_eq_false fun q => ha57_29 (Value.ref.inj q)) (by decide) (by decide) k) ?_
        refine own_of (S' := T28.setTop (mkF m 68 #[.val (.int p1), .val (.long q2), .second, .val (.int gr), .val (.int iw), .val (.ref r_3), .val ky, .unset, .unset, .unset, .unset, .unset, .unset] [.null])) (fun t k => XS.aconstNull X28.here hx rfl (hb hby at_67) k) ?_
        exact J68_5 T28 _ (X28.mono (by decide) (by decide)) (by rw [show T28.heap = T4.heap from e28]; exact (Keep.refl T4.heap [])) N4 .null rfl
      refine own_of (S' := T3.setTop (mkF m 36 #[.val (.int p1), .val (.long q2), .second, .val (.int gr), .val (.int iw), .val (.ref r_3), .unset, .unset, .unset, .unset, .unset, .unset, .unset] [(.int p1)])) (fun t k => XS.iloadN X3.here hx rfl (hb hby at_35) rfl k) ?_
      refine own_of (S' := T3.setTop (mkF m 38 #[.val (.int p1), .val (.long q2), .second, .val (.int gr), .val (.int iw), .val (.ref r_3), .unset, .unset, .unset, .unset, .unset, .unset, .unset] [(.int (16 : Int32)), (.int p1)])) (fun t k => XS.bipush X3.here hx rfl (hb hby at_36) k) ?_
      refine own_of (S' := T3.setTop (mkF m 39 #[.val (.int p1), .val (.long q2), .second, .val (.int gr), .val (.int iw), .val (.ref r_3), .unset, .unset, .unset, .unset, .unset, .unset, .unset] [(.int (p1 &&& (16 : Int32)))])) (fun t k => XS.iand X3.here hx rfl (hb hby at_38) rfl k) ?_
      by_cases hc39_33 : (p1 &&& (16 : Int32)) = (0 : Int32)
      · refine own_of (S' := T3.setTop (mkF m 46 #[.val (.int p1), .val (.long q2), .second, .val (.int gr), .val (.int iw), .val (.ref r_3), .unset, .unset, .unset, .unset, .unset, .unset, .unset] [])) (fun t k => XS.ifYes X3.here hx rfl (pc0 := 39) (pc' := 46) rfl (hb hby at_39) rfl ((if0 _ _).trans (teq hc39_33).1) (by decide) (by decide) k) ?_
        refine own_of (S' := T3.setTop (mkF m 47 #[.val (.int p1), .val (.long q2), .second, .val (.int gr), .val (.int iw), .val (.ref r_3), .unset, .unset, .unset, .unset, .unset, .unset, .unset] [(.long q2)])) (fun t k => XS.lloadN X3.here hx rfl (hb hby at_46) rfl k) ?_
        obtain ⟨_, _, ⟨T34, L34, k34, n34⟩, -, X34, ⟨Lc34, hQ34, l34, y34, z34⟩, st34⟩ := Jvm.LawKit.callS X3 hx (y := (⟨"java/lang/Long", "valueOf", "(J)Ljava/lang/Long;"⟩ : MethodName)) hown (mvT hZ (hw _ (List.mem_of_getElem? (i := 7) rfl))) (mvT hZ (hw _ (List.mem_of_getElem? (i := 8) rfl))) (mvT hZ (hw _ (List.mem_of_getElem? (i := 9) rfl))) (mvT hZ (hw _ (List.mem_of_getElem? (i := 10) rfl))) (by decide) (backOf (W := 0) (rm2 l Z a0 hw [] q2 wc fc h0 n0 Z0 S_cache V_wc hca) hZ (hw _ (List.mem_of_getElem? (i := 10) rfl)) (hw _ (List.mem_of_getElem? (i := 9) rfl)) (by decide) (by decide)) (g := (mkF m 47 #[.val (.int p1), .val (.long q2), .second, .val (.int gr), .val (.int iw), .val (.ref r_3), .unset, .unset, .unset, .unset, .unset, .unset, .unset] [(.long q2)])) rfl (by rw [hml]; rfl) (argsL := [(.long q2)]) (rest := []) (lenOf pd0_6 rfl) rfl (by show 2 * 0 + _ ≤ _; exact Nat.le_of_eq rfl) (hb hby at_47) (fun _ _ => ⟨rfl, (hh3), (by decide : (0 + 0) + _ ≤ _), (by decide : (0 + 0) + _ ≤ _)⟩)
        dsimp only [Pt.U, Pt.locs, Pt.cells, Pt.slots] at X34 l34 y34 z34 st34 hQ34
        subst l34 y34 z34
        obtain ⟨r_34, rfl, N34q, K34⟩ := hQ34
        have N34 := Fr.app N3 N34q
        refine own_of (S' := T34.setTop (mkF m 50 #[.val (.int p1), .val (.long q2), .second, .val (.int gr), .val (.int iw), .val (.ref r_3), .unset, .unset, .unset, .unset, .unset, .unset, .unset] [(.ref r_34)])) st34 ?_
        exact J50_4 T34 _ (X34.mono (by decide) (by decide)) ((Keep.refl h0 []).trans K34 all0) N34 (.ref r_34) rfl
      refine own_of (S' := T3.setTop (mkF m 42 #[.val (.int p1), .val (.long q2), .second, .val (.int gr), .val (.int iw), .val (.ref r_3), .unset, .unset, .unset, .unset, .unset, .unset, .unset] [])) (fun t k => XS.ifNo X3.here hx rfl (hb hby at_39) rfl ((if0 _ _).trans (feq hc39_33).1) k) ?_
      refine own_of (S' := T3.setTop (mkF m 43 #[.val (.int p1), .val (.long q2), .second, .val (.int gr), .val (.int iw), .val (.ref r_3), .unset, .unset, .unset, .unset, .unset, .unset, .unset] [.null])) (fun t k => XS.aconstNull X3.here hx rfl (hb hby at_42) k) ?_
      refine own_of (S' := T3.setTop (mkF m 50 #[.val (.int p1), .val (.long q2), .second, .val (.int gr), .val (.int iw), .val (.ref r_3), .unset, .unset, .unset, .unset, .unset, .unset, .unset] [.null])) (fun t k => XS.goto X3.here hx rfl (pc0 := 43) (pc' := 50) rfl (hb hby at_43) (by decide) (by decide) k) ?_
      exact J50_4 T3 _ (X3.mono (by decide) (by decide)) (by rw [show T3.heap = h0 from (hh3)]; exact (Keep.refl h0 [])) N3 .null rfl
    refine own_of (S' := s₁.setTop (mkF m 13 #[.val (.int p1), .val (.long q2), .second, .val (.int gr), .unset, .unset, .unset, .unset, .unset, .unset, .unset, .unset, .unset] [(.int p1)])) (fun t k => XS.iloadN X0.here hx rfl (hb hby at_12) rfl k) ?_
    refine own_of (S' := s₁.setTop (mkF m 14 #[.val (.int p1), .val (.long q2), .second, .val (.int gr), .unset, .unset, .unset, .unset, .unset, .unset, .unset, .unset, .unset] [(.int (2 : Int32)), (.int p1)])) (fun t k => XS.iconst X0.here hx rfl (hb hby at_13) k) ?_
    refine own_of (S' := s₁.setTop (mkF m 15 #[.val (.int p1), .val (.long q2), .second, .val (.int gr), .unset, .unset, .unset, .unset, .unset, .unset, .unset, .unset, .unset] [(.int (p1 &&& (2 : Int32)))])) (fun t k => XS.iand X0.here hx rfl (hb hby at_14) rfl k) ?_
    by_cases hc15_35 : (p1 &&& (2 : Int32)) = (0 : Int32)
    · refine own_of (S' := s₁.setTop (mkF m 22 #[.val (.int p1), .val (.long q2), .second, .val (.int gr), .unset, .unset, .unset, .unset, .unset, .unset, .unset, .unset, .unset] [])) (fun t k => XS.ifYes X0.here hx rfl (pc0 := 15) (pc' := 22) rfl (hb hby at_15) rfl ((if0 _ _).trans (teq hc15_35).1) (by decide) (by decide) k) ?_
      refine own_of (S' := s₁.setTop (mkF m 23 #[.val (.int p1), .val (.long q2), .second, .val (.int gr), .unset, .unset, .unset, .unset, .unset, .unset, .unset, .unset, .unset] [(.int (0 : Int32))])) (fun t k => XS.iconst X0.here hx rfl (hb hby at_22) k) ?_
      refine own_of (S' := s₁.setTop (mkF m 25 #[.val (.int p1), .val (.long q2), .second, .val (.int gr), .val (.int (0 : Int32)), .unset, .unset, .unset, .unset, .unset, .unset, .unset, .unset] [])) (fun t k => XS.istore X0.here hx rfl (hb hby at_23) rfl (l' := #[.val (.int p1), .val (.long q2), .second, .val (.int gr), .val (.int (0 : Int32)), .unset, .unset, .unset, .unset, .unset, .unset, .unset, .unset]) rfl k) ?_
      exact J25_2 (0 : Int32) (Or.inl rfl)
    refine own_of (S' := s₁.setTop (mkF m 18 #[.val (.int p1), .val (.long q2), .second, .val (.int gr), .unset, .unset, .unset, .unset, .unset, .unset, .unset, .unset, .unset] [])) (fun t k => XS.ifNo X0.here hx rfl (hb hby at_15) rfl ((if0 _ _).trans (feq hc15_35).1) k) ?_
    refine own_of (S' := s₁.setTop (mkF m 19 #[.val (.int p1), .val (.long q2), .second, .val (.int gr), .unset, .unset, .unset, .unset, .unset, .unset, .unset, .unset, .unset] [(.int (1 : Int32))])) (fun t k => XS.iconst X0.here hx rfl (hb hby at_18) k) ?_
    refine own_of (S' := s₁.setTop (mkF m 23 #[.val (.int p1), .val (.long q2), .second, .val (.int gr), .unset, .unset, .unset, .unset, .unset, .unset, .unset, .unset, .unset] [(.int (1 : Int32))])) (fun t k => XS.goto X0.here hx rfl (pc0 := 19) (pc' := 23) rfl (hb hby at_19) (by decide) (by decide) k) ?_
    refine own_of (S' := s₁.setTop (mkF m 25 #[.val (.int p1), .val (.long q2), .second, .val (.int gr), .val (.int (1 : Int32)), .unset, .unset, .unset, .unset, .unset, .unset, .unset, .unset] [])) (fun t k => XS.istore X0.here hx rfl (hb hby at_23) rfl (l' := #[.val (.int p1), .val (.long q2), .second, .val (.int gr), .val (.int (1 : Int32)), .unset, .unset, .unset, .unset, .unset, .unset, .unset, .unset]) rfl k) ?_
    exact J25_2 (1 : Int32) (Or.inr rfl)
  refine own_of (S' := s₁.setTop (mkF m 1 #[.val (.int p1), .val (.long q2), .second, .unset, .unset, .unset, .unset, .unset, .unset, .unset, .unset, .unset, .unset] [(.int p1)])) (fun t k => XS.iloadN X0.here hx rfl (hb hby at_0) rfl k) ?_
  refine own_of (S' := s₁.setTop (mkF m 2 #[.val (.int p1), .val (.long q2), .second, .unset, .unset, .unset, .unset, .unset, .unset, .unset, .unset, .unset, .unset] [(.int (1 : Int32)), (.int p1)])) (fun t k => XS.iconst X0.here hx rfl (hb hby at_1) k) ?_
  refine own_of (S' := s₁.setTop (mkF m 3 #[.val (.int p1), .val (.long q2), .second, .unset, .unset, .unset, .unset, .unset, .unset, .unset, .unset, .unset, .unset] [(.int (p1 &&& (1 : Int32)))])) (fun t k => XS.iand X0.here hx rfl (hb hby at_2) rfl k) ?_
  by_cases hc3_36 : (p1 &&& (1 : Int32)) = (0 : Int32)
  · refine own_of (S' := s₁.setTop (mkF m 10 #[.val (.int p1), .val (.long q2), .second, .unset, .unset, .unset, .unset, .unset, .unset, .unset, .unset, .unset, .unset] [])) (fun t k => XS.ifYes X0.here hx rfl (pc0 := 3) (pc' := 10) rfl (hb hby at_3) rfl ((if0 _ _).trans (teq hc3_36).1) (by decide) (by decide) k) ?_
    refine own_of (S' := s₁.setTop (mkF m 11 #[.val (.int p1), .val (.long q2), .second, .unset, .unset, .unset, .unset, .unset, .unset, .unset, .unset, .unset, .unset] [(.int (0 : Int32))])) (fun t k => XS.iconst X0.here hx rfl (hb hby at_10) k) ?_
    refine own_of (S' := s₁.setTop (mkF m 12 #[.val (.int p1), .val (.long q2), .second, .val (.int (0 : Int32)), .unset, .unset, .unset, .unset, .unset, .unset, .unset, .unset, .unset] [])) (fun t k => XS.istoreN X0.here hx rfl (hb hby at_11) rfl (l' := #[.val (.int p1), .val (.long q2), .second, .val (.int (0 : Int32)), .unset, .unset, .unset, .unset, .unset, .unset, .unset, .unset, .unset]) rfl k) ?_
    exact J12_1 (0 : Int32) (Or.inl rfl)
  refine own_of (S' := s₁.setTop (mkF m 6 #[.val (.int p1), .val (.long q2), .second, .unset, .unset, .unset, .unset, .unset, .unset, .unset, .unset, .unset, .unset] [])) (fun t k => XS.ifNo X0.here hx rfl (hb hby at_3) rfl ((if0 _ _).trans (feq hc3_36).1) k) ?_
  refine own_of (S' := s₁.setTop (mkF m 7 #[.val (.int p1), .val (.long q2), .second, .unset, .unset, .unset, .unset, .unset, .unset, .unset, .unset, .unset, .unset] [(.int (1 : Int32))])) (fun t k => XS.iconst X0.here hx rfl (hb hby at_6) k) ?_
  refine own_of (S' := s₁.setTop (mkF m 11 #[.val (.int p1), .val (.long q2), .second, .unset, .unset, .unset, .unset, .unset, .unset, .unset, .unset, .unset, .unset] [(.int (1 : Int32))])) (fun t k => XS.goto X0.here hx rfl (pc0 := 7) (pc' := 11) rfl (hb hby at_7) (by decide) (by decide) k) ?_
  refine own_of (S' := s₁.setTop (mkF m 12 #[.val (.int p1), .val (.long q2), .second, .val (.int (1 : Int32)), .unset, .unset, .unset, .unset, .unset, .unset, .unset, .unset, .unset] [])) (fun t k => XS.istoreN X0.here hx rfl (hb hby at_11) rfl (l' := #[.val (.int p1), .val (.long q2), .second, .val (.int (1 : Int32)), .unset, .unset, .unset, .unset, .unset, .unset, .unset, .unset, .unset]) rfl k) ?_
  exact J12_1 (1 : Int32) (Or.inr rfl)
set_option maxRecDepth 65536 in
set_option maxHeartbeats 40000000 in
theorem comes_1 {Post : Tables → Env → Array Value → State → Outcome → State → Prop} (hpost : ∀ tb e args s v u, (limb_1_1.after args s (.returned v) u = true ∧ limb_1_2.after args s (.returned v) u = true ∧ True) → FrameEnd s (.returned v) u (Jvm.fieldLocs frame_1_writes args s ++ Jvm.arrayLocs frame_1_arrays args s ++ Jvm.staticLocs frame_1_statics s) 24 128 → Post tb e args s (.returned v) u) :
    ArmFor flags0 classFile x code maxLocals ret World_1 tables_1 room_1 Calls_1 rest_1 Pre_1 Post := by
  intro l hfl _ _ p e ha hc hk s m args below hf hA hF happ hP
  obtain ⟨hcalls, hrest, hpre⟩ := hP
  obtain ⟨-, -, -, hnamed, -, -, -, hat⟩ := (Spec.applies_iff hf).mp happ
  obtain ⟨hg, hn⟩ := and_e (Cond.before_iff.mp (show (Jvm.Cond.and given_1 narrow_1).before args s = true from hpre))
  obtain ⟨g1a, g1b⟩ := and_e hg
  obtain ⟨g2a, g2b⟩ := and_e g1b
  obtain ⟨g3a, g3b⟩ := and_e hn
  obtain ⟨g4a, g4b⟩ := and_e g3b
  obtain ⟨g5a, g5b⟩ := and_e g4b
  obtain ⟨g6a, g6b⟩ := and_e g5b
  obtain ⟨g7a, g7b⟩ := and_e g6b
  obtain ⟨g8a, g8b⟩ := and_e g7b
  obtain ⟨g9a, g9b⟩ := and_e g8b
  obtain ⟨w0_, w1_, rfl⟩ : ∃ w0_ w1_ : Value, args = #[w0_, w1_] := by
    have hs : args.size = 2 := by simpa [Cond.value, given_1] using g1a
    obtain ⟨L⟩ := args
    match L, hs with
    | [w0_, w1_], _ => exact ⟨w0_, w1_, rfl⟩
  have hw := fun d (hd : d ∈ tables_1) => atoms_spec (ws := Jvm.Cond.code x code maxLocals ret :: tables_1) hat d (List.mem_cons_of_mem _ hd)
  have hfit : Fit s := fun {y c} hc i hi => by
    obtain ⟨ha, rfl⟩ := Array.getElem?_eq_some_iff.mp hc
    have q := List.all_eq_true.mp ((Array.all_eq_true_iff_forall_mem.mp hF) _ (Array.getElem_mem ha)) i (List.mem_range.mpr hi)
    simpa [Array.getElem?_eq_getElem hi] using q
  obtain ⟨hsets, hown0⟩ := atoms_of _ (rest_1_c_eq ▸ (show rest_1_c.before _ s = true from hrest))
  have hr0 := Cond.before_iff.mp hown0
  obtain ⟨p1, ei0⟩ := is_v g2a
  obtain rfl : w0_ = (.int p1) := Option.some.inj ei0
  obtain ⟨q2, ei1⟩ := isL_v g2b
  obtain rfl : w1_ = (.long q2) := Option.some.inj ei1
  obtain ⟨w_SHARED, ev_w_SHARED⟩ := exa_v g3a
  have S_SHARED : Sta s s.heap "com/example/versions_to_view/versionstoview/lock/LockMode" "SHARED" "Lcom/example/versions_to_view/versionstoview/lock/LockMode;" (.ref w_SHARED) := Sta.start ev_w_SHARED (Or.inr ⟨(hw _ (List.mem_of_getElem? (i := 5) rfl)), (hw _ (List.mem_of_getElem? (i := 6) rfl))⟩)
  have E_w_SHARED : Exa s s.heap w_SHARED "com/example/versions_to_view/versionstoview/lock/LockMode" := Exa.start ev_w_SHARED g3a
  obtain ⟨w_INSERT_INTENTION, ev_w_INSERT_INTENTION⟩ := exa_v g4a
  have S_INSERT_INTENTION : Sta s s.heap "com/example/versions_to_view/versionstoview/lock/LockMode" "INSERT_INTENTION" "Lcom/example/versions_to_view/versionstoview/lock/LockMode;" (.ref w_INSERT_INTENTION) := Sta.start ev_w_INSERT_INTENTION (Or.inr ⟨(hw _ (List.mem_of_getElem? (i := 5) rfl)), (hw _ (List.mem_of_getElem? (i := 16) rfl))⟩)
  have E_w_INSERT_INTENTION : Exa s s.heap w_INSERT_INTENTION "com/example/versions_to_view/versionstoview/lock/LockMode" := Exa.start ev_w_INSERT_INTENTION g4a
  obtain ⟨w_GAP, ev_w_GAP⟩ := exa_v g7a
  have S_GAP : Sta s s.heap "com/example/versions_to_view/versionstoview/lock/LockMode" "GAP" "Lcom/example/versions_to_view/versionstoview/lock/LockMode;" (.ref w_GAP) := Sta.start ev_w_GAP (Or.inr ⟨(hw _ (List.mem_of_getElem? (i := 5) rfl)), (hw _ (List.mem_of_getElem? (i := 114) rfl))⟩)
  have E_w_GAP : Exa s s.heap w_GAP "com/example/versions_to_view/versionstoview/lock/LockMode" := Exa.start ev_w_GAP g7a
  obtain ⟨w_EXCLUSIVE, ev_w_EXCLUSIVE⟩ := exa_v g9a
  have S_EXCLUSIVE : Sta s s.heap "com/example/versions_to_view/versionstoview/lock/LockMode" "EXCLUSIVE" "Lcom/example/versions_to_view/versionstoview/lock/LockMode;" (.ref w_EXCLUSIVE) := Sta.start ev_w_EXCLUSIVE (Or.inr ⟨(hw _ (List.mem_of_getElem? (i := 5) rfl)), (hw _ (List.mem_of_getElem? (i := 116) rfl))⟩)
  have E_w_EXCLUSIVE : Exa s s.heap w_EXCLUSIVE "com/example/versions_to_view/versionstoview/lock/LockMode" := Exa.start ev_w_EXCLUSIVE g9a
  have F_ordinal_w_SHARED : Fld s s.heap w_SHARED "java/lang/Enum" "ordinal" "I" (.int (0 : Int32)) := Fld.start ((fld_at ev_w_SHARED).symm.trans (own_eqI g5a))
  have F_ordinal_w_INSERT_INTENTION : Fld s s.heap w_INSERT_INTENTION "java/lang/Enum" "ordinal" "I" (.int (3 : Int32)) := Fld.start ((fld_at ev_w_INSERT_INTENTION).symm.trans (own_eqI g6a))
  have F_ordinal_w_GAP : Fld s s.heap w_GAP "java/lang/Enum" "ordinal" "I" (.int (2 : Int32)) := Fld.start ((fld_at ev_w_GAP).symm.trans (own_eqI g8a))
  have F_ordinal_w_EXCLUSIVE : Fld s s.heap w_EXCLUSIVE "java/lang/Enum" "ordinal" "I" (.int (1 : Int32)) := Fld.start ((fld_at ev_w_EXCLUSIVE).symm.trans (own_eqI g9b))
  obtain ⟨wc, ev_wc⟩ := arr_v (Cond.before_iff.mp (hsets _ (List.mem_of_getElem? (i := 2) rfl)))
  have S_cache : Sta s s.heap "java/lang/Long$LongCache" "cache" "[Ljava/lang/Long;" (.ref wc) := Sta.start ev_wc (Or.inl (hsets _ (List.mem_of_getElem? (i := 1) rfl)))
  obtain ⟨cwc, Awc⟩ := Arr.start ev_wc (Cond.before_iff.mp (hsets _ (List.mem_of_getElem? (i := 2) rfl)))
  have sz_wc : cwc.slots.size = 256 := own_size (own_eqI (Cond.before_iff.mp (hsets _ (List.mem_of_getElem? (i := 4) rfl)))) ev_wc Awc.1
  obtain ⟨fc, hfc⟩ : ∃ f : Nat → Value, f = fun i => (cwc.slots[i]?).getD .null := ⟨_, rfl⟩
  have V_wc : own_Ar s s.heap wc (.object "java/lang/Long") 256 fc := ⟨cwc, Awc, sz_wc, fun i hi => by
    rw [hfc]; show _ = some ((cwc.slots[i]?).getD .null); rw [Array.getElem?_eq_getElem (by omega : i < cwc.slots.size)]; rfl⟩
  have hca : ∀ i, i < 256 → ∃ a, fc i = .ref a := fun i hi => by
    have q := Cond.all_elim ev_wc (Arr.fin (Vm.Alike.refl _) Awc) (Cond.before_iff.mp (hsets _ (List.mem_of_getElem? (i := 5) rfl))) i (by omega)
    obtain ⟨q1, q2⟩ := and_e q
    obtain ⟨a, ea⟩ := exa_v q1
    have ez := (elem_in ea (idx := [i]) ev_wc (j := i.toInt32) rfl Awc.1).2
    rw [own_clamp (by omega)] at ez
    exact ⟨a, by rw [hfc]; show (cwc.slots[i]?).getD .null = _; rw [ez]; rfl⟩
  obtain ⟨ics, ev_ics⟩ := is_v (Cond.before_iff.mp (hsets _ (List.mem_of_getElem? (i := 7) rfl)))
  have S_COMPACT_STRINGS : Sta s s.heap "java/lang/String" "COMPACT_STRINGS" "Z" (.int ics) := Sta.start ev_ics (Or.inl (hsets _ (List.mem_of_getElem? (i := 6) rfl)))
  have hics : ¬ ics = (0 : Int32) := own_neI (Cond.before_iff.mp (hsets _ (List.mem_of_getElem? (i := 8) rfl))) ev_ics
  obtain ⟨n, o, h1, h2, h3, _, L, rfl, ⟨rfl, N⟩, hq⟩ := rm0 l s _ hw tables_1 p1 q2 w_SHARED w_EXCLUSIVE w_GAP w_INSERT_INTENTION wc fc ics s.heap s.heap.size (Nat.le_refl _) S_SHARED S_EXCLUSIVE S_GAP S_INSERT_INTENTION S_cache V_wc hca S_COMPACT_STRINGS hics p e ha hc hk s m _ below hf ((Spec.applies_iff_loose hf).mp happ).1 ⟨rfl, State.Warmed39.refl s, rfl⟩ trivial
  refine ⟨n, _, h1, h2, h3, hpost _ _ _ _ _ _ ⟨Cond.after_iff.mpr rfl, Cond.after_iff.mpr (eq_i res_at (Term.int_eval (1)) rfl), trivial⟩ ⟨hq.1, hq.2.1, (hq.2.2.sift fun y hy => Or.inr (N y hy)).mono (by decide) (by decide)⟩⟩
theorem main_1_1 : Claimed_1_1 := comes_1 fun _ _ _ _ _ _ h hF => ⟨h.1, hF⟩
theorem main_1_2 : Claimed_1_2 := comes_1 fun _ _ _ _ _ _ h hF => ⟨h.2.1, hF⟩
end Jvm.Pilot.@@N@@
namespace Jvm.Pilot.@@N@@
open Jvm Jvm.ClassFile Sem Op Lib Jvm.Free Jvm.Stand Jvm.Pilot.@@N@@.Jvm.D
/-! MADE BY PROGRAM (witnessworld.py) out of the Statement's table words and the real class files: 23 classes; the members and pool entries that the words name. The judged class is class 1, her method 2. -/
namespace start1
open Jvm.ClassFile
def u (s : String) : CpInfo := .utf8 (stringToUtf16 s)
/-- a pool by its gaps: so many unusable entries, then the entry; so many at the end -/
def gap : Nat → List CpInfo → List CpInfo
  | 0, r => r
  | n + 1, r => .unusable :: gap n r
def poolList (es : List (Nat × CpInfo)) (last : Nat) : List CpInfo := es.foldr (fun e r => gap e.1 (e.2 :: r)) (gap last [])
def pool (es : List (Nat × CpInfo)) (last : Nat) : Array CpInfo := ⟨poolList es last⟩
def fileOf (pool : Array CpInfo) (this : Nat) (attrs : Array Attribute := #[]) (ms : Array MethodInfo := #[]) (fl : Nat := 33) (sup : Nat := 0) (ifs : Array Nat := #[]) (fds : Array FieldInfo := #[]) : ClassFile where
  minorVersion := 0
  majorVersion := 65
  constantPool := pool
  accessFlags := fl
  thisClass := this
  superClass := sup
  interfaces := ifs
  fields := fds
  methods := ms
  attributes := attrs
def plain (name : String) (sup : Option ClassId) : Class where
  name := name
  kind := .ordinary
  loader := none
  accessFlags := 33
  super := sup
  interfaces := #[]
  cf := none
  fields := #[]
  methods := #[]
  instanceTypes := #[]
  staticTypes := #[]
  resolved := #[]
  callSites := []
  init := .initialized
  statics := none
  mirror := none

def pool0 : Array CpInfo := pool [(5, u "<init>"), (0, u "()V"), (1, .class_ 10), (1, u "java/lang/Object")] 113

def k0c0 : Code := { maxStack := 0, maxLocals := 1, code := object_method_1_code, exceptionTable := #[], attributes := #[] }
def k0m0 : Method := { name := "<init>", desc := "()V", sig := { parameters := [], returnType := none }, accessFlags := 1, code := some k0c0 }
/-- java/lang/Object -/
def k0 : Class := { plain "java/lang/Object" none with
  accessFlags := 33
  interfaces := #[]
  cf := some (fileOf pool0 8 #[] #[{ accessFlags := 1, nameIndex := 5, descriptorIndex := 6, attributes := #[] }] 33 0 #[] #[])
  fields := #[]
  methods := #[k0m0]
  instanceTypes := #[]
  staticTypes := #[]
  resolved := Array.replicate 124 none
  statics := none }

def pool1 : Array CpInfo := pool [(2, .class_ 4), (1, u "java/lang/Object"), (0, u "<init>"), (0, u "()V"), (0, .fieldref 8 9), (0, .class_ 10), (0, .nameAndType 11 12), (0, u "com/example/versions_to_view/versionstoview/lock/LockMode"), (0, u "SHARED"), (0, u "Lcom/example/versions_to_view/versionstoview/lock/LockMode;"), (0, .fieldref 8 14), (0, .nameAndType 15 12), (0, u "EXCLUSIVE"), (0, .fieldref 8 17), (0, .nameAndType 18 12), (0, u "GAP"), (0, .fieldref 8 20), (0, .nameAndType 21 12), (0, u "INSERT_INTENTION"), (0, .methodref 23 24), (0, .class_ 25), (0, .nameAndType 26 27), (0, u "com/example/versions_to_view/versionstoview/lock/LockRequestNoteKeptWaitingPinLaw"), (0, u "modeOf"), (0, u "(I)Lcom/example/versions_to_view/versionstoview/lock/LockMode;"), (0, .methodref 29 30), (0, .class_ 31), (0, .nameAndType 32 33), (0, u "java/lang/Long"), (0, u "valueOf"), (0, u "(J)Ljava/lang/Long;"), (0, .methodref 35 36), (0, .class_ 37), (0, .nameAndType 32 38), (0, u "java/lang/String"), (0, u "(C)Ljava/lang/String;"), (0, .class_ 40), (0, u "com/example/versions_to_view/versionstoview/lock/LockRequest"), (0, .methodref 39 42), (0, .nameAndType 5 43), (0, u "(Ljava/lang/String;Ljava/lang/Long;Ljava/lang/Long;Lcom/example/versions_to_view/versionstoview/transaction/Transaction;Lcom/example/versions_to_view/versionstoview/lock/LockMode;ZZ)V"), (0, .methodref 39 45), (0, .nameAndType 46 47), (0, u "noteKeptWaiting"), (0, u "()Z"), (0, .methodref 39 49), (0, .nameAndType 50 47), (0, u "isGranted"), (0, .methodref 39 52), (0, .nameAndType 53 47), (0, u "isRefused"), (0, .methodref 39 55), (0, .nameAndType 56 47), (0, u "standsForWord"), (0, .methodref 39 58), (0, .nameAndType 59 60), (0, u "getKey"), (0, u "()Ljava/lang/Long;"), (0, .methodref 39 62), (0, .nameAndType 63 64), (0, u "getMode"), (0, u "()Lcom/example/versions_to_view/versionstoview/lock/LockMode;"), (3, u "law"), (0, u "(IJ)Z")] 2

def k1m0 : Method := { name := "<init>", desc := "()V", sig := { parameters := [], returnType := none }, accessFlags := 2, code := none }
def k1c1 : Code := { maxStack := 2, maxLocals := 1, code := method_2_code, exceptionTable := #[], attributes := #[] }
def k1m1 : Method := { name := "modeOf", desc := "(I)Lcom/example/versions_to_view/versionstoview/lock/LockMode;", sig := { parameters := [.int], returnType := some (.object "com/example/versions_to_view/versionstoview/lock/LockMode") }, accessFlags := 10, code := some k1c1 }
def k1c2 : Code := { maxStack := 9, maxLocals := 13, code := code, exceptionTable := #[], attributes := #[] }
def k1m2 : Method := { name := "law", desc := "(IJ)Z", sig := { parameters := [.int, .long], returnType := some .boolean }, accessFlags := 9, code := some k1c2 }
/-- com/example/versions_to_view/versionstoview/lock/LockRequestNoteKeptWaitingPinLaw -/
def k1 : Class := { plain "com/example/versions_to_view/versionstoview/lock/LockRequestNoteKeptWaitingPinLaw" (some 0) with
  accessFlags := 49
  interfaces := #[]
  cf := some (fileOf pool1 23 #[] #[{ accessFlags := 2, nameIndex := 5, descriptorIndex := 6, attributes := #[] }, { accessFlags := 10, nameIndex := 26, descriptorIndex := 27, attributes := #[] }, { accessFlags := 9, nameIndex := 68, descriptorIndex := 69, attributes := #[] }] 49 2 #[] #[])
  fields := #[]
  methods := #[k1m0, k1m1, k1m2]
  instanceTypes := #[]
  staticTypes := #[]
  resolved := Array.replicate 72 none
  statics := none }

def pool2 : Array CpInfo := pool [(1, .class_ 2), (0, u "java/lang/constant/Constable"), (0, .class_ 4), (0, u "java/lang/Object")] 6

/-- java/lang/constant/Constable -/
def k2 : Class := { plain "java/lang/constant/Constable" (some 0) with
  accessFlags := 1537
  interfaces := #[]
  cf := some (fileOf pool2 1 #[] #[] 1537 3 #[] #[])
  fields := #[]
  methods := #[]
  instanceTypes := #[]
  staticTypes := #[]
  resolved := Array.replicate 11 none
  statics := none }

def pool3 : Array CpInfo := pool [(1, .class_ 2), (0, u "java/lang/Comparable"), (0, .class_ 4), (0, u "java/lang/Object")] 7

/-- java/lang/Comparable -/
def k3 : Class := { plain "java/lang/Comparable" (some 0) with
  accessFlags := 1537
  interfaces := #[]
  cf := some (fileOf pool3 1 #[] #[] 1537 3 #[] #[])
  fields := #[]
  methods := #[]
  instanceTypes := #[]
  staticTypes := #[]
  resolved := Array.replicate 12 none
  statics := none }

def pool4 : Array CpInfo := pool [(1, .class_ 2), (0, u "java/io/Serializable"), (0, .class_ 4), (0, u "java/lang/Object")] 2

/-- java/io/Serializable -/
def k4 : Class := { plain "java/io/Serializable" (some 0) with
  accessFlags := 1537
  interfaces := #[]
  cf := some (fileOf pool4 1 #[] #[] 1537 3 #[] #[])
  fields := #[]
  methods := #[]
  instanceTypes := #[]
  staticTypes := #[]
  resolved := Array.replicate 7 none
  statics := none }

def pool5 : Array CpInfo := pool [(2, .class_ 4), (1, u "java/lang/Enum"), (0, u "name"), (0, u "Ljava/lang/String;"), (2, u "ordinal"), (0, u "I"), (1, .class_ 14), (1, u "java/lang/Object"), (4, u "hash"), (86, .class_ 108), (1, u "java/lang/Enum$EnumDesc"), (2, .class_ 112), (0, u "java/lang/constant/Constable"), (0, .class_ 114), (0, u "java/lang/Comparable"), (0, .class_ 116), (0, u "java/io/Serializable")] 87

/-- java/lang/Enum -/
def k5 : Class := { plain "java/lang/Enum" (some 0) with
  accessFlags := 1057
  interfaces := #[2, 3, 4]
  cf := some (fileOf pool5 2 #[.nestMembers #[106]] #[] 1057 12 #[111, 113, 115] #[{ accessFlags := 18, nameIndex := 5, descriptorIndex := 6, attributes := #[] }, { accessFlags := 18, nameIndex := 9, descriptorIndex := 10, attributes := #[] }, { accessFlags := 2, nameIndex := 19, descriptorIndex := 10, attributes := #[] }])
  fields := #[{ name := "name", type := (.object "java/lang/String"), accessFlags := 18, slot := 0, constantValue := 0 }, { name := "ordinal", type := .int, accessFlags := 18, slot := 1, constantValue := 0 }, { name := "hash", type := .int, accessFlags := 2, slot := 2, constantValue := 0 }]
  methods := #[]
  instanceTypes := #[(.object "java/lang/String"), .int, .int]
  staticTypes := #[]
  resolved := Array.replicate 204 none
  statics := none }

def pool6 : Array CpInfo := pool [(1, .class_ 2), (0, u "com/example/versions_to_view/versionstoview/lock/LockMode"), (2, u "SHARED"), (0, u "Lcom/example/versions_to_view/versionstoview/lock/LockMode;"), (2, u "EXCLUSIVE"), (2, u "GAP"), (2, u "INSERT_INTENTION"), (2, u "$VALUES"), (0, u "[Lcom/example/versions_to_view/versionstoview/lock/LockMode;"), (6, .class_ 28), (1, u "java/lang/Enum")] 36

/-- com/example/versions_to_view/versionstoview/lock/LockMode -/
def k6 : Class := { plain "com/example/versions_to_view/versionstoview/lock/LockMode" (some 5) with
  accessFlags := 16433
  interfaces := #[]
  cf := some (fileOf pool6 1 #[] #[] 16433 26 #[] #[{ accessFlags := 16409, nameIndex := 5, descriptorIndex := 6, attributes := #[] }, { accessFlags := 16409, nameIndex := 9, descriptorIndex := 6, attributes := #[] }, { accessFlags := 16409, nameIndex := 12, descriptorIndex := 6, attributes := #[] }, { accessFlags := 16409, nameIndex := 15, descriptorIndex := 6, attributes := #[] }, { accessFlags := 4122, nameIndex := 18, descriptorIndex := 19, attributes := #[] }])
  fields := #[{ name := "SHARED", type := (.object "com/example/versions_to_view/versionstoview/lock/LockMode"), accessFlags := 16409, slot := 0, constantValue := 0 }, { name := "EXCLUSIVE", type := (.object "com/example/versions_to_view/versionstoview/lock/LockMode"), accessFlags := 16409, slot := 1, constantValue := 0 }, { name := "GAP", type := (.object "com/example/versions_to_view/versionstoview/lock/LockMode"), accessFlags := 16409, slot := 2, constantValue := 0 }, { name := "INSERT_INTENTION", type := (.object "com/example/versions_to_view/versionstoview/lock/LockMode"), accessFlags := 16409, slot := 3, constantValue := 0 }, { name := "$VALUES", type := (.array (.object "com/example/versions_to_view/versionstoview/lock/LockMode")), accessFlags := 4122, slot := 4, constantValue := 0 }]
  methods := #[]
  instanceTypes := #[(.object "java/lang/String"), .int, .int]
  staticTypes := #[(.object "com/example/versions_to_view/versionstoview/lock/LockMode"), (.object "com/example/versions_to_view/versionstoview/lock/LockMode"), (.object "com/example/versions_to_view/versionstoview/lock/LockMode"), (.object "com/example/versions_to_view/versionstoview/lock/LockMode"), (.array (.object "com/example/versions_to_view/versionstoview/lock/LockMode"))]
  resolved := Array.replicate 65 none
  statics := some 0 }

def pool7 : Array CpInfo := pool [(1, .methodref 2 3), (0, .class_ 4), (0, .nameAndType 5 6), (0, u "java/lang/Object"), (0, u "<init>"), (0, u "()V"), (1, .class_ 10), (1, u "java/lang/Number"), (2, .class_ 14), (0, u "java/io/Serializable"), (0, u "serialVersionUID"), (0, u "J")] 20

def k7c0 : Code := { maxStack := 1, maxLocals := 1, code := jdk_18_method_1_code, exceptionTable := #[], attributes := #[] }
def k7m0 : Method := { name := "<init>", desc := "()V", sig := { parameters := [], returnType := none }, accessFlags := 1, code := some k7c0 }
/-- java/lang/Number -/
def k7 : Class := { plain "java/lang/Number" (some 0) with
  accessFlags := 1057
  interfaces := #[4]
  cf := some (fileOf pool7 8 #[] #[{ accessFlags := 1, nameIndex := 5, descriptorIndex := 6, attributes := #[] }] 1057 2 #[13] #[{ accessFlags := 26, nameIndex := 15, descriptorIndex := 16, attributes := #[] }])
  fields := #[{ name := "serialVersionUID", type := .long, accessFlags := 26, slot := 0, constantValue := 0 }]
  methods := #[k7m0]
  instanceTypes := #[]
  staticTypes := #[.long]
  resolved := Array.replicate 37 none
  statics := none }

def pool8 : Array CpInfo := pool [(1, .class_ 2), (0, u "java/lang/constant/ConstantDesc"), (0, .class_ 4), (0, u "java/lang/Object")] 32

/-- java/lang/constant/ConstantDesc -/
def k8 : Class := { plain "java/lang/constant/ConstantDesc" (some 0) with
  accessFlags := 1537
  interfaces := #[]
  cf := some (fileOf pool8 1 #[] #[] 1537 3 #[] #[])
  fields := #[]
  methods := #[]
  instanceTypes := #[]
  staticTypes := #[]
  resolved := Array.replicate 37 none
  statics := none }

def pool9 : Array CpInfo := pool [(1, .class_ 2), (0, u "java/lang/Long"), (55, .nameAndType 59 60), (0, u "<init>"), (0, u "()V"), (24, u "valueOf"), (143, u "(J)Ljava/lang/Long;"), (0, .long 18446744073709551488), (1, .long 127), (1, .fieldref 235 236), (0, .class_ 237), (0, .nameAndType 238 239), (0, u "java/lang/Long$LongCache"), (0, u "cache"), (0, u "[Ljava/lang/Long;"), (0, .methodref 1 241), (0, .nameAndType 59 242), (0, u "(J)V"), (27, .methodref 271 58), (0, .class_ 272), (0, u "java/lang/Number"), (0, .fieldref 1 274), (0, .nameAndType 275 276), (0, u "value"), (0, u "J"), (84, u "TYPE"), (0, u "Ljava/lang/Class;"), (0, .class_ 364), (0, u "java/lang/Comparable"), (0, .class_ 366), (0, u "java/lang/constant/Constable"), (0, .class_ 368), (0, u "java/lang/constant/ConstantDesc"), (0, u "MIN_VALUE"), (1, u "MAX_VALUE"), (4, u "SIZE"), (0, u "I"), (1, u "BYTES"), (1, u "serialVersionUID")] 142

def k9c0 : Code := { maxStack := 4, maxLocals := 3, code := jdk_35_method_24_code, exceptionTable := #[], attributes := #[] }
def k9m0 : Method := { name := "valueOf", desc := "(J)Ljava/lang/Long;", sig := { parameters := [.long], returnType := some (.object "java/lang/Long") }, accessFlags := 9, code := some k9c0 }
def k9c1 : Code := { maxStack := 3, maxLocals := 3, code := jdk_35_method_26_code, exceptionTable := #[], attributes := #[] }
def k9m1 : Method := { name := "<init>", desc := "(J)V", sig := { parameters := [.long], returnType := none }, accessFlags := 1, code := some k9c1 }
/-- java/lang/Long -/
def k9 : Class := { plain "java/lang/Long" (some 7) with
  accessFlags := 49
  interfaces := #[3, 2, 8]
  cf := some (fileOf pool9 1 #[.nestMembers #[235]] #[{ accessFlags := 9, nameIndex := 85, descriptorIndex := 229, attributes := #[] }, { accessFlags := 1, nameIndex := 59, descriptorIndex := 242, attributes := #[] }] 49 271 #[363, 365, 367] #[{ accessFlags := 25, nameIndex := 369, descriptorIndex := 276, attributes := #[] }, { accessFlags := 25, nameIndex := 371, descriptorIndex := 276, attributes := #[] }, { accessFlags := 25, nameIndex := 361, descriptorIndex := 362, attributes := #[] }, { accessFlags := 18, nameIndex := 275, descriptorIndex := 276, attributes := #[] }, { accessFlags := 25, nameIndex := 376, descriptorIndex := 377, attributes := #[] }, { accessFlags := 25, nameIndex := 379, descriptorIndex := 377, attributes := #[] }, { accessFlags := 26, nameIndex := 381, descriptorIndex := 276, attributes := #[] }])
  fields := #[{ name := "MIN_VALUE", type := .long, accessFlags := 25, slot := 0, constantValue := 0 }, { name := "MAX_VALUE", type := .long, accessFlags := 25, slot := 1, constantValue := 0 }, { name := "TYPE", type := (.object "java/lang/Class"), accessFlags := 25, slot := 2, constantValue := 0 }, { name := "value", type := .long, accessFlags := 18, slot := 0, constantValue := 0 }, { name := "SIZE", type := .int, accessFlags := 25, slot := 3, constantValue := 0 }, { name := "BYTES", type := .int, accessFlags := 25, slot := 4, constantValue := 0 }, { name := "serialVersionUID", type := .long, accessFlags := 26, slot := 5, constantValue := 0 }]
  methods := #[k9m0, k9m1]
  instanceTypes := #[.long]
  staticTypes := #[.long, .long, (.object "java/lang/Class"), .int, .int, .long]
  resolved := Array.replicate 524 none
  statics := none }

def pool10 : Array CpInfo := pool [(2, .class_ 4), (1, u "java/lang/Object"), (0, u "<init>"), (0, u "()V"), (0, .class_ 8), (0, u "java/lang/Long"), (7, .class_ 18), (1, u "java/lang/Long$LongCache"), (0, u "$assertionsDisabled"), (0, u "Z"), (8, u "archivedCache"), (0, u "[Ljava/lang/Long;"), (7, u "cache")] 24

def k10m0 : Method := { name := "<init>", desc := "()V", sig := { parameters := [], returnType := none }, accessFlags := 2, code := none }
/-- java/lang/Long$LongCache -/
def k10 : Class := { plain "java/lang/Long$LongCache" (some 0) with
  accessFlags := 48
  interfaces := #[]
  cf := some (fileOf pool10 16 #[.nestHost 7] #[{ accessFlags := 2, nameIndex := 5, descriptorIndex := 6, attributes := #[] }] 48 2 #[] #[{ accessFlags := 24, nameIndex := 38, descriptorIndex := 30, attributes := #[] }, { accessFlags := 8, nameIndex := 29, descriptorIndex := 30, attributes := #[] }, { accessFlags := 4120, nameIndex := 19, descriptorIndex := 20, attributes := #[] }])
  fields := #[{ name := "cache", type := (.array (.object "java/lang/Long")), accessFlags := 24, slot := 0, constantValue := 0 }, { name := "archivedCache", type := (.array (.object "java/lang/Long")), accessFlags := 8, slot := 1, constantValue := 0 }, { name := "$assertionsDisabled", type := .boolean, accessFlags := 4120, slot := 2, constantValue := 0 }]
  methods := #[k10m0]
  instanceTypes := #[]
  staticTypes := #[(.array (.object "java/lang/Long")), (.array (.object "java/lang/Long")), .boolean]
  resolved := Array.replicate 63 none
  statics := some 1 }

def pool11 : Array CpInfo := pool [(2, .class_ 4), (1, u "java/lang/CharSequence"), (42, .class_ 48), (0, u "java/lang/CharSequence$1CodePointIterator"), (10, .class_ 60), (0, u "java/lang/CharSequence$1CharIterator"), (5, .class_ 67), (0, u "java/lang/Object")] 63

/-- java/lang/CharSequence -/
def k11 : Class := { plain "java/lang/CharSequence" (some 0) with
  accessFlags := 1537
  interfaces := #[]
  cf := some (fileOf pool11 2 #[.nestMembers #[47, 59]] #[] 1537 66 #[] #[])
  fields := #[]
  methods := #[]
  instanceTypes := #[]
  staticTypes := #[]
  resolved := Array.replicate 131 none
  statics := none }

def pool12 : Array CpInfo := pool [(1, .methodref 2 3), (0, .class_ 4), (0, .nameAndType 5 6), (0, u "java/lang/Object"), (0, u "<init>"), (0, u "()V"), (2, .fieldref 10 11), (0, .class_ 12), (0, .nameAndType 13 14), (0, u "java/lang/String"), (0, u "value"), (0, u "[B"), (0, .fieldref 10 16), (0, .nameAndType 17 18), (0, u "coder"), (0, u "B"), (2, u "hash"), (0, u "I"), (2, u "hashIsZero"), (0, u "Z"), (11, .fieldref 10 39), (0, .nameAndType 40 26), (0, u "COMPACT_STRINGS"), (12, u "toBytes"), (53, .class_ 109), (1, u "java/lang/StringLatin1"), (99, .methodref 10 210), (0, .nameAndType 5 211), (0, u "([BB)V"), (157, u "(C)Z"), (205, .class_ 576), (0, u "java/lang/CharSequence"), (22, u "CASE_INSENSITIVE_ORDER"), (0, u "Ljava/util/Comparator;"), (181, u "valueOf"), (0, u "(C)Ljava/lang/String;"), (231, .methodref 107 1016), (0, .nameAndType 1017 369), (0, u "canEncode"), (0, .methodref 107 1019), (0, .nameAndType 53 1020), (0, u "(C)[B"), (80, u "serialPersistentFields"), (0, u "[Ljava/io/ObjectStreamField;"), (0, .class_ 1104), (0, u "java/lang/String$CaseInsensitiveComparator"), (1, .class_ 1107), (0, u "java/io/Serializable"), (0, .class_ 1109), (0, u "java/lang/Comparable"), (0, .class_ 1111), (0, u "java/lang/constant/Constable"), (0, .class_ 1113), (0, u "java/lang/constant/ConstantDesc"), (2, u "serialVersionUID"), (0, u "J"), (3, u "REPL"), (0, u "C"), (2, u "LATIN1"), (1, u "UTF16")] 323

def k12m0 : Method := { name := "<init>", desc := "()V", sig := { parameters := [], returnType := none }, accessFlags := 1, code := none }
def k12c1 : Code := { maxStack := 4, maxLocals := 1, code := jdk_42_method_139_code, exceptionTable := #[], attributes := #[] }
def k12m1 : Method := { name := "valueOf", desc := "(C)Ljava/lang/String;", sig := { parameters := [.char], returnType := some (.object "java/lang/String") }, accessFlags := 9, code := some k12c1 }
def k12c2 : Code := { maxStack := 2, maxLocals := 3, code := jdk_42_method_151_code, exceptionTable := #[], attributes := #[] }
def k12m2 : Method := { name := "<init>", desc := "([BB)V", sig := { parameters := [(.array .byte), .byte], returnType := none }, accessFlags := 0, code := some k12c2 }
/-- java/lang/String -/
def k12 : Class := { plain "java/lang/String" (some 0) with
  accessFlags := 49
  interfaces := #[4, 3, 11, 2, 8]
  cf := some (fileOf pool12 10 #[.nestMembers #[1103]] #[{ accessFlags := 1, nameIndex := 5, descriptorIndex := 6, attributes := #[] }, { accessFlags := 9, nameIndex := 782, descriptorIndex := 783, attributes := #[] }, { accessFlags := 0, nameIndex := 5, descriptorIndex := 211, attributes := #[] }] 49 2 #[1106, 1108, 575, 1110, 1112] #[{ accessFlags := 18, nameIndex := 13, descriptorIndex := 14, attributes := #[] }, { accessFlags := 18, nameIndex := 17, descriptorIndex := 18, attributes := #[] }, { accessFlags := 2, nameIndex := 21, descriptorIndex := 22, attributes := #[] }, { accessFlags := 2, nameIndex := 25, descriptorIndex := 26, attributes := #[] }, { accessFlags := 26, nameIndex := 1116, descriptorIndex := 1117, attributes := #[] }, { accessFlags := 24, nameIndex := 40, descriptorIndex := 26, attributes := #[] }, { accessFlags := 26, nameIndex := 1101, descriptorIndex := 1102, attributes := #[] }, { accessFlags := 26, nameIndex := 1121, descriptorIndex := 1122, attributes := #[] }, { accessFlags := 25, nameIndex := 599, descriptorIndex := 600, attributes := #[] }, { accessFlags := 24, nameIndex := 1125, descriptorIndex := 18, attributes := #[] }, { accessFlags := 24, nameIndex := 1127, descriptorIndex := 18, attributes := #[] }])
  fields := #[{ name := "value", type := (.array .byte), accessFlags := 18, slot := 0, constantValue := 0 }, { name := "coder", type := .byte, accessFlags := 18, slot := 1, constantValue := 0 }, { name := "hash", type := .int, accessFlags := 2, slot := 2, constantValue := 0 }, { name := "hashIsZero", type := .boolean, accessFlags := 2, slot := 3, constantValue := 0 }, { name := "serialVersionUID", type := .long, accessFlags := 26, slot := 0, constantValue := 0 }, { name := "COMPACT_STRINGS", type := .boolean, accessFlags := 24, slot := 1, constantValue := 0 }, { name := "serialPersistentFields", type := (.array (.object "java/io/ObjectStreamField")), accessFlags := 26, slot := 2, constantValue := 0 }, { name := "REPL", type := .char, accessFlags := 26, slot := 3, constantValue := 0 }, { name := "CASE_INSENSITIVE_ORDER", type := (.object "java/util/Comparator"), accessFlags := 25, slot := 4, constantValue := 0 }, { name := "LATIN1", type := .byte, accessFlags := 24, slot := 5, constantValue := 0 }, { name := "UTF16", type := .byte, accessFlags := 24, slot := 6, constantValue := 0 }]
  methods := #[k12m0, k12m1, k12m2]
  instanceTypes := #[(.array .byte), .byte, .int, .boolean]
  staticTypes := #[.long, .boolean, (.array (.object "java/io/ObjectStreamField")), .char, (.object "java/util/Comparator"), .byte, .byte]
  resolved := Array.replicate 1451 none
  statics := some 2 }

def pool13 : Array CpInfo := pool [(4, .class_ 6), (1, u "java/lang/Object"), (0, u "<init>"), (0, u "()V"), (5, .class_ 16), (1, u "java/lang/StringLatin1"), (73, u "canEncode"), (14, u "(C)Z"), (15, u "$assertionsDisabled"), (0, u "Z"), (98, .class_ 223), (1, u "java/lang/StringLatin1$LinesSpliterator"), (156, u "toBytes"), (1, u "(C)[B"), (7, .class_ 391), (0, u "java/lang/StringLatin1$CharsSpliterator")] 3

def k13m0 : Method := { name := "<init>", desc := "()V", sig := { parameters := [], returnType := none }, accessFlags := 0, code := none }
def k13c1 : Code := { maxStack := 2, maxLocals := 1, code := jdk_43_method_3_code, exceptionTable := #[], attributes := #[] }
def k13m1 : Method := { name := "canEncode", desc := "(C)Z", sig := { parameters := [.char], returnType := some .boolean }, accessFlags := 9, code := some k13c1 }
def k13c2 : Code := { maxStack := 4, maxLocals := 1, code := jdk_43_method_46_code, exceptionTable := #[], attributes := #[] }
def k13m2 : Method := { name := "toBytes", desc := "(C)[B", sig := { parameters := [.char], returnType := some (.array .byte) }, accessFlags := 9, code := some k13c2 }
/-- java/lang/StringLatin1 -/
def k13 : Class := { plain "java/lang/StringLatin1" (some 0) with
  accessFlags := 48
  interfaces := #[]
  cf := some (fileOf pool13 14 #[.nestMembers #[390, 221]] #[{ accessFlags := 0, nameIndex := 7, descriptorIndex := 8, attributes := #[] }, { accessFlags := 9, nameIndex := 90, descriptorIndex := 105, attributes := #[] }, { accessFlags := 9, nameIndex := 380, descriptorIndex := 382, attributes := #[] }] 48 4 #[] #[{ accessFlags := 4120, nameIndex := 121, descriptorIndex := 122, attributes := #[] }])
  fields := #[{ name := "$assertionsDisabled", type := .boolean, accessFlags := 4120, slot := 0, constantValue := 0 }]
  methods := #[k13m0, k13m1, k13m2]
  instanceTypes := #[]
  staticTypes := #[.boolean]
  resolved := Array.replicate 395 none
  statics := none }

def pool14 : Array CpInfo := pool [(1, .methodref 2 3), (0, .class_ 4), (0, .nameAndType 5 6), (0, u "java/lang/Object"), (0, u "<init>"), (0, u "()V"), (0, .fieldref 8 9), (0, .class_ 10), (0, .nameAndType 11 12), (0, u "com/example/versions_to_view/versionstoview/lock/LockRequest"), (0, u "table"), (0, u "Ljava/lang/String;"), (0, .fieldref 8 14), (0, .nameAndType 15 16), (0, u "key"), (0, u "Ljava/lang/Long;"), (0, .fieldref 8 18), (0, .nameAndType 19 16), (0, u "inserted"), (0, .fieldref 8 21), (0, .nameAndType 22 23), (0, u "transaction"), (0, u "Lcom/example/versions_to_view/versionstoview/transaction/Transaction;"), (0, .fieldref 8 25), (0, .nameAndType 26 27), (0, u "mode"), (0, u "Lcom/example/versions_to_view/versionstoview/lock/LockMode;"), (0, .fieldref 8 29), (0, .nameAndType 30 31), (0, u "inWord"), (0, u "Z"), (0, .fieldref 8 33), (0, .nameAndType 34 31), (0, u "granted"), (0, .fieldref 8 36), (0, .nameAndType 37 31), (0, u "refused"), (6, .fieldref 8 45), (0, .nameAndType 46 31), (0, u "keptWaiting"), (0, u "(Ljava/lang/String;Ljava/lang/Long;Ljava/lang/Long;Lcom/example/versions_to_view/versionstoview/transaction/Transaction;Lcom/example/versions_to_view/versionstoview/lock/LockMode;ZZ)V"), (4, u "getKey"), (0, u "()Ljava/lang/Long;"), (3, u "getMode"), (0, u "()Lcom/example/versions_to_view/versionstoview/lock/LockMode;"), (0, u "isGranted"), (0, u "()Z"), (0, u "isRefused"), (0, u "standsForWord"), (5, u "noteKeptWaiting")] 4

def k14c0 : Code := { maxStack := 2, maxLocals := 8, code := prog_18_method_1_code, exceptionTable := #[], attributes := #[] }
def k14m0 : Method := { name := "<init>", desc := "(Ljava/lang/String;Ljava/lang/Long;Ljava/lang/Long;Lcom/example/versions_to_view/versionstoview/transaction/Transaction;Lcom/example/versions_to_view/versionstoview/lock/LockMode;ZZ)V", sig := { parameters := [(.object "java/lang/String"), (.object "java/lang/Long"), (.object "java/lang/Long"), (.object "com/example/versions_to_view/versionstoview/transaction/Transaction"), (.object "com/example/versions_to_view/versionstoview/lock/LockMode"), .boolean, .boolean], returnType := none }, accessFlags := 0, code := some k14c0 }
def k14c1 : Code := { maxStack := 1, maxLocals := 1, code := prog_18_method_3_code, exceptionTable := #[], attributes := #[] }
def k14m1 : Method := { name := "getKey", desc := "()Ljava/lang/Long;", sig := { parameters := [], returnType := some (.object "java/lang/Long") }, accessFlags := 1, code := some k14c1 }
def k14c2 : Code := { maxStack := 1, maxLocals := 1, code := prog_18_method_6_code, exceptionTable := #[], attributes := #[] }
def k14m2 : Method := { name := "getMode", desc := "()Lcom/example/versions_to_view/versionstoview/lock/LockMode;", sig := { parameters := [], returnType := some (.object "com/example/versions_to_view/versionstoview/lock/LockMode") }, accessFlags := 1, code := some k14c2 }
def k14c3 : Code := { maxStack := 1, maxLocals := 1, code := prog_18_method_7_code, exceptionTable := #[], attributes := #[] }
def k14m3 : Method := { name := "isGranted", desc := "()Z", sig := { parameters := [], returnType := some .boolean }, accessFlags := 1, code := some k14c3 }
def k14c4 : Code := { maxStack := 1, maxLocals := 1, code := prog_18_method_8_code, exceptionTable := #[], attributes := #[] }
def k14m4 : Method := { name := "isRefused", desc := "()Z", sig := { parameters := [], returnType := some .boolean }, accessFlags := 1, code := some k14c4 }
def k14c5 : Code := { maxStack := 1, maxLocals := 1, code := prog_18_method_9_code, exceptionTable := #[], attributes := #[] }
def k14m5 : Method := { name := "standsForWord", desc := "()Z", sig := { parameters := [], returnType := some .boolean }, accessFlags := 0, code := some k14c5 }
def k14c6 : Code := { maxStack := 2, maxLocals := 2, code := prog_18_method_13_code, exceptionTable := #[], attributes := #[] }
def k14m6 : Method := { name := "noteKeptWaiting", desc := "()Z", sig := { parameters := [], returnType := some .boolean }, accessFlags := 0, code := some k14c6 }
/-- com/example/versions_to_view/versionstoview/lock/LockRequest -/
def k14 : Class := { plain "com/example/versions_to_view/versionstoview/lock/LockRequest" (some 0) with
  accessFlags := 49
  interfaces := #[]
  cf := some (fileOf pool14 8 #[] #[{ accessFlags := 0, nameIndex := 5, descriptorIndex := 47, attributes := #[] }, { accessFlags := 1, nameIndex := 52, descriptorIndex := 53, attributes := #[] }, { accessFlags := 1, nameIndex := 57, descriptorIndex := 58, attributes := #[] }, { accessFlags := 1, nameIndex := 59, descriptorIndex := 60, attributes := #[] }, { accessFlags := 1, nameIndex := 61, descriptorIndex := 60, attributes := #[] }, { accessFlags := 0, nameIndex := 62, descriptorIndex := 60, attributes := #[] }, { accessFlags := 0, nameIndex := 68, descriptorIndex := 60, attributes := #[] }] 49 2 #[] #[{ accessFlags := 18, nameIndex := 11, descriptorIndex := 12, attributes := #[] }, { accessFlags := 2, nameIndex := 15, descriptorIndex := 16, attributes := #[] }, { accessFlags := 18, nameIndex := 19, descriptorIndex := 16, attributes := #[] }, { accessFlags := 18, nameIndex := 22, descriptorIndex := 23, attributes := #[] }, { accessFlags := 18, nameIndex := 26, descriptorIndex := 27, attributes := #[] }, { accessFlags := 18, nameIndex := 30, descriptorIndex := 31, attributes := #[] }, { accessFlags := 2, nameIndex := 34, descriptorIndex := 31, attributes := #[] }, { accessFlags := 2, nameIndex := 37, descriptorIndex := 31, attributes := #[] }, { accessFlags := 2, nameIndex := 46, descriptorIndex := 31, attributes := #[] }])
  fields := #[{ name := "table", type := (.object "java/lang/String"), accessFlags := 18, slot := 0, constantValue := 0 }, { name := "key", type := (.object "java/lang/Long"), accessFlags := 2, slot := 1, constantValue := 0 }, { name := "inserted", type := (.object "java/lang/Long"), accessFlags := 18, slot := 2, constantValue := 0 }, { name := "transaction", type := (.object "com/example/versions_to_view/versionstoview/transaction/Transaction"), accessFlags := 18, slot := 3, constantValue := 0 }, { name := "mode", type := (.object "com/example/versions_to_view/versionstoview/lock/LockMode"), accessFlags := 18, slot := 4, constantValue := 0 }, { name := "inWord", type := .boolean, accessFlags := 18, slot := 5, constantValue := 0 }, { name := "granted", type := .boolean, accessFlags := 2, slot := 6, constantValue := 0 }, { name := "refused", type := .boolean, accessFlags := 2, slot := 7, constantValue := 0 }, { name := "keptWaiting", type := .boolean, accessFlags := 2, slot := 8, constantValue := 0 }]
  methods := #[k14m0, k14m1, k14m2, k14m3, k14m4, k14m5, k14m6]
  instanceTypes := #[(.object "java/lang/String"), (.object "java/lang/Long"), (.object "java/lang/Long"), (.object "com/example/versions_to_view/versionstoview/transaction/Transaction"), (.object "com/example/versions_to_view/versionstoview/lock/LockMode"), .boolean, .boolean, .boolean, .boolean]
  staticTypes := #[]
  resolved := Array.replicate 73 none
  statics := none }

def pool15 : Array CpInfo := pool [(2, .class_ 4), (1, u "java/lang/Object"), (0, u "<init>"), (0, u "()V"), (17, .class_ 26), (1, u "jdk/internal/util/Preconditions"), (28, .class_ 56), (0, u "jdk/internal/util/Preconditions$4"), (57, .class_ 115), (0, u "jdk/internal/util/Preconditions$1"), (7, u "SIOOBE_FORMATTER"), (0, u "Ljava/util/function/BiFunction;"), (0, .class_ 126), (0, u "jdk/internal/util/Preconditions$2"), (3, u "AIOOBE_FORMATTER"), (0, .class_ 132), (0, u "jdk/internal/util/Preconditions$3"), (3, u "IOOBE_FORMATTER")] 57

def k15m0 : Method := { name := "<init>", desc := "()V", sig := { parameters := [], returnType := none }, accessFlags := 1, code := none }
/-- jdk/internal/util/Preconditions -/
def k15 : Class := { plain "jdk/internal/util/Preconditions" (some 0) with
  accessFlags := 33
  interfaces := #[]
  cf := some (fileOf pool15 24 #[.nestMembers #[55, 131, 125, 114]] #[{ accessFlags := 1, nameIndex := 5, descriptorIndex := 6, attributes := #[] }] 33 2 #[] #[{ accessFlags := 25, nameIndex := 123, descriptorIndex := 124, attributes := #[] }, { accessFlags := 25, nameIndex := 130, descriptorIndex := 124, attributes := #[] }, { accessFlags := 25, nameIndex := 136, descriptorIndex := 124, attributes := #[] }])
  fields := #[{ name := "SIOOBE_FORMATTER", type := (.object "java/util/function/BiFunction"), accessFlags := 25, slot := 0, constantValue := 0 }, { name := "AIOOBE_FORMATTER", type := (.object "java/util/function/BiFunction"), accessFlags := 25, slot := 1, constantValue := 0 }, { name := "IOOBE_FORMATTER", type := (.object "java/util/function/BiFunction"), accessFlags := 25, slot := 2, constantValue := 0 }]
  methods := #[k15m0]
  instanceTypes := #[]
  staticTypes := #[(.object "java/util/function/BiFunction"), (.object "java/util/function/BiFunction"), (.object "java/util/function/BiFunction")]
  resolved := Array.replicate 194 none
  statics := some 3 }

def pool16 : Array CpInfo := pool [(9, u "<init>"), (6, .class_ 18), (1, u "java/lang/Object"), (0, u "()V"), (1, .class_ 23), (1, u "jdk/internal/util/ArraysSupport"), (0, u "LOG2_ARRAY_LONG_INDEX_SCALE"), (0, u "I"), (2, u "U"), (0, u "Ljdk/internal/misc/Unsafe;"), (8, u "BIG_ENDIAN"), (0, u "Z"), (8, u "LOG2_BYTE_BIT_SIZE"), (4, u "LOG2_ARRAY_INT_INDEX_SCALE"), (54, u "JLA"), (0, u "Ljdk/internal/access/JavaLangAccess;"), (11, u "LOG2_ARRAY_BOOLEAN_INDEX_SCALE"), (9, u "LOG2_ARRAY_BYTE_INDEX_SCALE"), (5, u "LOG2_ARRAY_CHAR_INDEX_SCALE"), (5, u "LOG2_ARRAY_SHORT_INDEX_SCALE"), (18, u "LOG2_ARRAY_FLOAT_INDEX_SCALE"), (24, u "LOG2_ARRAY_DOUBLE_INDEX_SCALE"), (89, u "T_BOOLEAN"), (2, u "T_CHAR"), (1, u "T_FLOAT"), (1, u "T_DOUBLE"), (1, u "T_BYTE"), (1, u "T_SHORT"), (1, u "T_INT"), (1, u "T_LONG"), (1, u "SOFT_MAX_ARRAY_LENGTH")] 83

def k16m0 : Method := { name := "<init>", desc := "()V", sig := { parameters := [], returnType := none }, accessFlags := 2, code := none }
/-- jdk/internal/util/ArraysSupport -/
def k16 : Class := { plain "jdk/internal/util/ArraysSupport" (some 0) with
  accessFlags := 33
  interfaces := #[]
  cf := some (fileOf pool16 21 #[] #[{ accessFlags := 2, nameIndex := 9, descriptorIndex := 19, attributes := #[] }] 33 16 #[] #[{ accessFlags := 24, nameIndex := 28, descriptorIndex := 29, attributes := #[] }, { accessFlags := 26, nameIndex := 38, descriptorIndex := 39, attributes := #[] }, { accessFlags := 25, nameIndex := 121, descriptorIndex := 25, attributes := #[] }, { accessFlags := 25, nameIndex := 131, descriptorIndex := 25, attributes := #[] }, { accessFlags := 25, nameIndex := 137, descriptorIndex := 25, attributes := #[] }, { accessFlags := 25, nameIndex := 143, descriptorIndex := 25, attributes := #[] }, { accessFlags := 25, nameIndex := 53, descriptorIndex := 25, attributes := #[] }, { accessFlags := 25, nameIndex := 24, descriptorIndex := 25, attributes := #[] }, { accessFlags := 25, nameIndex := 162, descriptorIndex := 25, attributes := #[] }, { accessFlags := 25, nameIndex := 187, descriptorIndex := 25, attributes := #[] }, { accessFlags := 26, nameIndex := 48, descriptorIndex := 25, attributes := #[] }, { accessFlags := 25, nameIndex := 277, descriptorIndex := 25, attributes := #[] }, { accessFlags := 25, nameIndex := 280, descriptorIndex := 25, attributes := #[] }, { accessFlags := 25, nameIndex := 282, descriptorIndex := 25, attributes := #[] }, { accessFlags := 25, nameIndex := 284, descriptorIndex := 25, attributes := #[] }, { accessFlags := 25, nameIndex := 286, descriptorIndex := 25, attributes := #[] }, { accessFlags := 25, nameIndex := 288, descriptorIndex := 25, attributes := #[] }, { accessFlags := 25, nameIndex := 290, descriptorIndex := 25, attributes := #[] }, { accessFlags := 25, nameIndex := 292, descriptorIndex := 25, attributes := #[] }, { accessFlags := 26, nameIndex := 108, descriptorIndex := 109, attributes := #[] }, { accessFlags := 25, nameIndex := 294, descriptorIndex := 25, attributes := #[] }])
  fields := #[{ name := "U", type := (.object "jdk/internal/misc/Unsafe"), accessFlags := 24, slot := 0, constantValue := 0 }, { name := "BIG_ENDIAN", type := .boolean, accessFlags := 26, slot := 1, constantValue := 0 }, { name := "LOG2_ARRAY_BOOLEAN_INDEX_SCALE", type := .int, accessFlags := 25, slot := 2, constantValue := 0 }, { name := "LOG2_ARRAY_BYTE_INDEX_SCALE", type := .int, accessFlags := 25, slot := 3, constantValue := 0 }, { name := "LOG2_ARRAY_CHAR_INDEX_SCALE", type := .int, accessFlags := 25, slot := 4, constantValue := 0 }, { name := "LOG2_ARRAY_SHORT_INDEX_SCALE", type := .int, accessFlags := 25, slot := 5, constantValue := 0 }, { name := "LOG2_ARRAY_INT_INDEX_SCALE", type := .int, accessFlags := 25, slot := 6, constantValue := 0 }, { name := "LOG2_ARRAY_LONG_INDEX_SCALE", type := .int, accessFlags := 25, slot := 7, constantValue := 0 }, { name := "LOG2_ARRAY_FLOAT_INDEX_SCALE", type := .int, accessFlags := 25, slot := 8, constantValue := 0 }, { name := "LOG2_ARRAY_DOUBLE_INDEX_SCALE", type := .int, accessFlags := 25, slot := 9, constantValue := 0 }, { name := "LOG2_BYTE_BIT_SIZE", type := .int, accessFlags := 26, slot := 10, constantValue := 0 }, { name := "T_BOOLEAN", type := .int, accessFlags := 25, slot := 11, constantValue := 0 }, { name := "T_CHAR", type := .int, accessFlags := 25, slot := 12, constantValue := 0 }, { name := "T_FLOAT", type := .int, accessFlags := 25, slot := 13, constantValue := 0 }, { name := "T_DOUBLE", type := .int, accessFlags := 25, slot := 14, constantValue := 0 }, { name := "T_BYTE", type := .int, accessFlags := 25, slot := 15, constantValue := 0 }, { name := "T_SHORT", type := .int, accessFlags := 25, slot := 16, constantValue := 0 }, { name := "T_INT", type := .int, accessFlags := 25, slot := 17, constantValue := 0 }, { name := "T_LONG", type := .int, accessFlags := 25, slot := 18, constantValue := 0 }, { name := "JLA", type := (.object "jdk/internal/access/JavaLangAccess"), accessFlags := 26, slot := 19, constantValue := 0 }, { name := "SOFT_MAX_ARRAY_LENGTH", type := .int, accessFlags := 25, slot := 20, constantValue := 0 }]
  methods := #[k16m0]
  instanceTypes := #[]
  staticTypes := #[(.object "jdk/internal/misc/Unsafe"), .boolean, .int, .int, .int, .int, .int, .int, .int, .int, .int, .int, .int, .int, .int, .int, .int, .int, .int, (.object "jdk/internal/access/JavaLangAccess"), .int]
  resolved := Array.replicate 378 none
  statics := none }

def pool17 : Array CpInfo := pool [(1, u "java/lang/Cloneable"), (0, .class_ 1), (0, u "java/lang/Object"), (0, .class_ 3)] 3

/-- java/lang/Cloneable -/
def k17 : Class := { plain "java/lang/Cloneable" (some 0) with
  accessFlags := 1537
  interfaces := #[]
  cf := some (fileOf pool17 2 #[] #[] 1537 4 #[] #[])
  fields := #[]
  methods := #[]
  instanceTypes := #[]
  staticTypes := #[]
  resolved := Array.replicate 8 none
  statics := none }

/-- the primitive byte -/
def k18 : Class := { plain "byte" none with kind := .primitive 'B', accessFlags := 0x411 }
/-- [B -/
def k19 : Class := { plain "[B" (some 0) with kind := .array 18 .byte, interfaces := #[17, 4], accessFlags := 1041 }

/-- the primitive int -/
def k20 : Class := { plain "int" none with kind := .primitive 'I', accessFlags := 0x411 }
/-- [I -/
def k21 : Class := { plain "[I" (some 0) with kind := .array 20 .int, interfaces := #[17, 4], accessFlags := 1041 }

/-- [Ljava/lang/Long; -/
def k22 : Class := { plain "[Ljava/lang/Long;" (some 0) with kind := .array 9 (.object "java/lang/Long"), interfaces := #[17, 4], accessFlags := 1041 }

def heap : Heap := #[{ cls := 6, slots := #[.ref 5, .ref 8, .ref 7, .ref 6, .null], vm := .statics 6 },
  { cls := 10, slots := #[.ref 4, .null, .int 0], vm := .statics 10 },
  { cls := 12, slots := #[.long 0, .int 1, .null, .int 0, .null, .int 0, .int 0], vm := .statics 12 },
  { cls := 15, slots := #[.null, .null, .null], vm := .statics 15 },
  { cls := 22, slots := #[.ref 9, .ref 10, .ref 11, .ref 12, .ref 13, .ref 14, .ref 15, .ref 16, .ref 17, .ref 18, .ref 19, .ref 20, .ref 21, .ref 22, .ref 23, .ref 24, .ref 25, .ref 26, .ref 27, .ref 28, .ref 29, .ref 30, .ref 31, .ref 32, .ref 33, .ref 34, .ref 35, .ref 36, .ref 37, .ref 38, .ref 39, .ref 40, .ref 41, .ref 42, .ref 43, .ref 44, .ref 45, .ref 46, .ref 47, .ref 48, .ref 49, .ref 50, .ref 51, .ref 52, .ref 53, .ref 54, .ref 55, .ref 56, .ref 57, .ref 58, .ref 59, .ref 60, .ref 61, .ref 62, .ref 63, .ref 64, .ref 65, .ref 66, .ref 67, .ref 68, .ref 69, .ref 70, .ref 71, .ref 72, .ref 73, .ref 74, .ref 75, .ref 76, .ref 77, .ref 78, .ref 79, .ref 80, .ref 81, .ref 82, .ref 83, .ref 84, .ref 85, .ref 86, .ref 87, .ref 88, .ref 89, .ref 90, .ref 91, .ref 92, .ref 93, .ref 94, .ref 95, .ref 96, .ref 97, .ref 98, .ref 99, .ref 100, .ref 101, .ref 102, .ref 103, .ref 104, .ref 105, .ref 106, .ref 107, .ref 108, .ref 109, .ref 110, .ref 111, .ref 112, .ref 113, .ref 114, .ref 115, .ref 116, .ref 117, .ref 118, .ref 119, .ref 120, .ref 121, .ref 122, .ref 123, .ref 124, .ref 125, .ref 126, .ref 127, .ref 128, .ref 129, .ref 130, .ref 131, .ref 132, .ref 133, .ref 134, .ref 135, .ref 136, .ref 137, .ref 138, .ref 139, .ref 140, .ref 141, .ref 142, .ref 143, .ref 144, .ref 145, .ref 146, .ref 147, .ref 148, .ref 149, .ref 150, .ref 151, .ref 152, .ref 153, .ref 154, .ref 155, .ref 156, .ref 157, .ref 158, .ref 159, .ref 160, .ref 161, .ref 162, .ref 163, .ref 164, .ref 165, .ref 166, .ref 167, .ref 168, .ref 169, .ref 170, .ref 171, .ref 172, .ref 173, .ref 174, .ref 175, .ref 176, .ref 177, .ref 178, .ref 179, .ref 180, .ref 181, .ref 182, .ref 183, .ref 184, .ref 185, .ref 186, .ref 187, .ref 188, .ref 189, .ref 190, .ref 191, .ref 192, .ref 193, .ref 194, .ref 195, .ref 196, .ref 197, .ref 198, .ref 199, .ref 200, .ref 201, .ref 202, .ref 203, .ref 204, .ref 205, .ref 206, .ref 207, .ref 208, .ref 209, .ref 210, .ref 211, .ref 212, .ref 213, .ref 214, .ref 215, .ref 216, .ref 217, .ref 218, .ref 219, .ref 220, .ref 221, .ref 222, .ref 223, .ref 224, .ref 225, .ref 226, .ref 227, .ref 228, .ref 229, .ref 230, .ref 231, .ref 232, .ref 233, .ref 234, .ref 235, .ref 236, .ref 237, .ref 238, .ref 239, .ref 240, .ref 241, .ref 242, .ref 243, .ref 244, .ref 245, .ref 246, .ref 247, .ref 248, .ref 249, .ref 250, .ref 251, .ref 252, .ref 253, .ref 254, .ref 255, .ref 256, .ref 257, .ref 258, .ref 259, .ref 260, .ref 261, .ref 262, .ref 263, .ref 264], vm := .none },
  { cls := 6, slots := #[.null, .int 0, .int 0], vm := .none },
  { cls := 6, slots := #[.null, .int 3, .int 0], vm := .none },
  { cls := 6, slots := #[.null, .int 2, .int 0], vm := .none },
  { cls := 6, slots := #[.null, .int 1, .int 0], vm := .none },
  { cls := 9, slots := #[.long (-128)], vm := .none },
  { cls := 9, slots := #[.long (-127)], vm := .none },
  { cls := 9, slots := #[.long (-126)], vm := .none },
  { cls := 9, slots := #[.long (-125)], vm := .none },
  { cls := 9, slots := #[.long (-124)], vm := .none },
  { cls := 9, slots := #[.long (-123)], vm := .none },
  { cls := 9, slots := #[.long (-122)], vm := .none },
  { cls := 9, slots := #[.long (-121)], vm := .none },
  { cls := 9, slots := #[.long (-120)], vm := .none },
  { cls := 9, slots := #[.long (-119)], vm := .none },
  { cls := 9, slots := #[.long (-118)], vm := .none },
  { cls := 9, slots := #[.long (-117)], vm := .none },
  { cls := 9, slots := #[.long (-116)], vm := .none },
  { cls := 9, slots := #[.long (-115)], vm := .none },
  { cls := 9, slots := #[.long (-114)], vm := .none },
  { cls := 9, slots := #[.long (-113)], vm := .none },
  { cls := 9, slots := #[.long (-112)], vm := .none },
  { cls := 9, slots := #[.long (-111)], vm := .none },
  { cls := 9, slots := #[.long (-110)], vm := .none },
  { cls := 9, slots := #[.long (-109)], vm := .none },
  { cls := 9, slots := #[.long (-108)], vm := .none },
  { cls := 9, slots := #[.long (-107)], vm := .none },
  { cls := 9, slots := #[.long (-106)], vm := .none },
  { cls := 9, slots := #[.long (-105)], vm := .none },
  { cls := 9, slots := #[.long (-104)], vm := .none },
  { cls := 9, slots := #[.long (-103)], vm := .none },
  { cls := 9, slots := #[.long (-102)], vm := .none },
  { cls := 9, slots := #[.long (-101)], vm := .none },
  { cls := 9, slots := #[.long (-100)], vm := .none },
  { cls := 9, slots := #[.long (-99)], vm := .none },
  { cls := 9, slots := #[.long (-98)], vm := .none },
  { cls := 9, slots := #[.long (-97)], vm := .none },
  { cls := 9, slots := #[.long (-96)], vm := .none },
  { cls := 9, slots := #[.long (-95)], vm := .none },
  { cls := 9, slots := #[.long (-94)], vm := .none },
  { cls := 9, slots := #[.long (-93)], vm := .none },
  { cls := 9, slots := #[.long (-92)], vm := .none },
  { cls := 9, slots := #[.long (-91)], vm := .none },
  { cls := 9, slots := #[.long (-90)], vm := .none },
  { cls := 9, slots := #[.long (-89)], vm := .none },
  { cls := 9, slots := #[.long (-88)], vm := .none },
  { cls := 9, slots := #[.long (-87)], vm := .none },
  { cls := 9, slots := #[.long (-86)], vm := .none },
  { cls := 9, slots := #[.long (-85)], vm := .none },
  { cls := 9, slots := #[.long (-84)], vm := .none },
  { cls := 9, slots := #[.long (-83)], vm := .none },
  { cls := 9, slots := #[.long (-82)], vm := .none },
  { cls := 9, slots := #[.long (-81)], vm := .none },
  { cls := 9, slots := #[.long (-80)], vm := .none },
  { cls := 9, slots := #[.long (-79)], vm := .none },
  { cls := 9, slots := #[.long (-78)], vm := .none },
  { cls := 9, slots := #[.long (-77)], vm := .none },
  { cls := 9, slots := #[.long (-76)], vm := .none },
  { cls := 9, slots := #[.long (-75)], vm := .none },
  { cls := 9, slots := #[.long (-74)], vm := .none },
  { cls := 9, slots := #[.long (-73)], vm := .none },
  { cls := 9, slots := #[.long (-72)], vm := .none },
  { cls := 9, slots := #[.long (-71)], vm := .none },
  { cls := 9, slots := #[.long (-70)], vm := .none },
  { cls := 9, slots := #[.long (-69)], vm := .none },
  { cls := 9, slots := #[.long (-68)], vm := .none },
  { cls := 9, slots := #[.long (-67)], vm := .none },
  { cls := 9, slots := #[.long (-66)], vm := .none },
  { cls := 9, slots := #[.long (-65)], vm := .none },
  { cls := 9, slots := #[.long (-64)], vm := .none },
  { cls := 9, slots := #[.long (-63)], vm := .none },
  { cls := 9, slots := #[.long (-62)], vm := .none },
  { cls := 9, slots := #[.long (-61)], vm := .none },
  { cls := 9, slots := #[.long (-60)], vm := .none },
  { cls := 9, slots := #[.long (-59)], vm := .none },
  { cls := 9, slots := #[.long (-58)], vm := .none },
  { cls := 9, slots := #[.long (-57)], vm := .none },
  { cls := 9, slots := #[.long (-56)], vm := .none },
  { cls := 9, slots := #[.long (-55)], vm := .none },
  { cls := 9, slots := #[.long (-54)], vm := .none },
  { cls := 9, slots := #[.long (-53)], vm := .none },
  { cls := 9, slots := #[.long (-52)], vm := .none },
  { cls := 9, slots := #[.long (-51)], vm := .none },
  { cls := 9, slots := #[.long (-50)], vm := .none },
  { cls := 9, slots := #[.long (-49)], vm := .none },
  { cls := 9, slots := #[.long (-48)], vm := .none },
  { cls := 9, slots := #[.long (-47)], vm := .none },
  { cls := 9, slots := #[.long (-46)], vm := .none },
  { cls := 9, slots := #[.long (-45)], vm := .none },
  { cls := 9, slots := #[.long (-44)], vm := .none },
  { cls := 9, slots := #[.long (-43)], vm := .none },
  { cls := 9, slots := #[.long (-42)], vm := .none },
  { cls := 9, slots := #[.long (-41)], vm := .none },
  { cls := 9, slots := #[.long (-40)], vm := .none },
  { cls := 9, slots := #[.long (-39)], vm := .none },
  { cls := 9, slots := #[.long (-38)], vm := .none },
  { cls := 9, slots := #[.long (-37)], vm := .none },
  { cls := 9, slots := #[.long (-36)], vm := .none },
  { cls := 9, slots := #[.long (-35)], vm := .none },
  { cls := 9, slots := #[.long (-34)], vm := .none },
  { cls := 9, slots := #[.long (-33)], vm := .none },
  { cls := 9, slots := #[.long (-32)], vm := .none },
  { cls := 9, slots := #[.long (-31)], vm := .none },
  { cls := 9, slots := #[.long (-30)], vm := .none },
  { cls := 9, slots := #[.long (-29)], vm := .none },
  { cls := 9, slots := #[.long (-28)], vm := .none },
  { cls := 9, slots := #[.long (-27)], vm := .none },
  { cls := 9, slots := #[.long (-26)], vm := .none },
  { cls := 9, slots := #[.long (-25)], vm := .none },
  { cls := 9, slots := #[.long (-24)], vm := .none },
  { cls := 9, slots := #[.long (-23)], vm := .none },
  { cls := 9, slots := #[.long (-22)], vm := .none },
  { cls := 9, slots := #[.long (-21)], vm := .none },
  { cls := 9, slots := #[.long (-20)], vm := .none },
  { cls := 9, slots := #[.long (-19)], vm := .none },
  { cls := 9, slots := #[.long (-18)], vm := .none },
  { cls := 9, slots := #[.long (-17)], vm := .none },
  { cls := 9, slots := #[.long (-16)], vm := .none },
  { cls := 9, slots := #[.long (-15)], vm := .none },
  { cls := 9, slots := #[.long (-14)], vm := .none },
  { cls := 9, slots := #[.long (-13)], vm := .none },
  { cls := 9, slots := #[.long (-12)], vm := .none },
  { cls := 9, slots := #[.long (-11)], vm := .none },
  { cls := 9, slots := #[.long (-10)], vm := .none },
  { cls := 9, slots := #[.long (-9)], vm := .none },
  { cls := 9, slots := #[.long (-8)], vm := .none },
  { cls := 9, slots := #[.long (-7)], vm := .none },
  { cls := 9, slots := #[.long (-6)], vm := .none },
  { cls := 9, slots := #[.long (-5)], vm := .none },
  { cls := 9, slots := #[.long (-4)], vm := .none },
  { cls := 9, slots := #[.long (-3)], vm := .none },
  { cls := 9, slots := #[.long (-2)], vm := .none },
  { cls := 9, slots := #[.long (-1)], vm := .none },
  { cls := 9, slots := #[.long 0], vm := .none },
  { cls := 9, slots := #[.long 1], vm := .none },
  { cls := 9, slots := #[.long 2], vm := .none },
  { cls := 9, slots := #[.long 3], vm := .none },
  { cls := 9, slots := #[.long 4], vm := .none },
  { cls := 9, slots := #[.long 5], vm := .none },
  { cls := 9, slots := #[.long 6], vm := .none },
  { cls := 9, slots := #[.long 7], vm := .none },
  { cls := 9, slots := #[.long 8], vm := .none },
  { cls := 9, slots := #[.long 9], vm := .none },
  { cls := 9, slots := #[.long 10], vm := .none },
  { cls := 9, slots := #[.long 11], vm := .none },
  { cls := 9, slots := #[.long 12], vm := .none },
  { cls := 9, slots := #[.long 13], vm := .none },
  { cls := 9, slots := #[.long 14], vm := .none },
  { cls := 9, slots := #[.long 15], vm := .none },
  { cls := 9, slots := #[.long 16], vm := .none },
  { cls := 9, slots := #[.long 17], vm := .none },
  { cls := 9, slots := #[.long 18], vm := .none },
  { cls := 9, slots := #[.long 19], vm := .none },
  { cls := 9, slots := #[.long 20], vm := .none },
  { cls := 9, slots := #[.long 21], vm := .none },
  { cls := 9, slots := #[.long 22], vm := .none },
  { cls := 9, slots := #[.long 23], vm := .none },
  { cls := 9, slots := #[.long 24], vm := .none },
  { cls := 9, slots := #[.long 25], vm := .none },
  { cls := 9, slots := #[.long 26], vm := .none },
  { cls := 9, slots := #[.long 27], vm := .none },
  { cls := 9, slots := #[.long 28], vm := .none },
  { cls := 9, slots := #[.long 29], vm := .none },
  { cls := 9, slots := #[.long 30], vm := .none },
  { cls := 9, slots := #[.long 31], vm := .none },
  { cls := 9, slots := #[.long 32], vm := .none },
  { cls := 9, slots := #[.long 33], vm := .none },
  { cls := 9, slots := #[.long 34], vm := .none },
  { cls := 9, slots := #[.long 35], vm := .none },
  { cls := 9, slots := #[.long 36], vm := .none },
  { cls := 9, slots := #[.long 37], vm := .none },
  { cls := 9, slots := #[.long 38], vm := .none },
  { cls := 9, slots := #[.long 39], vm := .none },
  { cls := 9, slots := #[.long 40], vm := .none },
  { cls := 9, slots := #[.long 41], vm := .none },
  { cls := 9, slots := #[.long 42], vm := .none },
  { cls := 9, slots := #[.long 43], vm := .none },
  { cls := 9, slots := #[.long 44], vm := .none },
  { cls := 9, slots := #[.long 45], vm := .none },
  { cls := 9, slots := #[.long 46], vm := .none },
  { cls := 9, slots := #[.long 47], vm := .none },
  { cls := 9, slots := #[.long 48], vm := .none },
  { cls := 9, slots := #[.long 49], vm := .none },
  { cls := 9, slots := #[.long 50], vm := .none },
  { cls := 9, slots := #[.long 51], vm := .none },
  { cls := 9, slots := #[.long 52], vm := .none },
  { cls := 9, slots := #[.long 53], vm := .none },
  { cls := 9, slots := #[.long 54], vm := .none },
  { cls := 9, slots := #[.long 55], vm := .none },
  { cls := 9, slots := #[.long 56], vm := .none },
  { cls := 9, slots := #[.long 57], vm := .none },
  { cls := 9, slots := #[.long 58], vm := .none },
  { cls := 9, slots := #[.long 59], vm := .none },
  { cls := 9, slots := #[.long 60], vm := .none },
  { cls := 9, slots := #[.long 61], vm := .none },
  { cls := 9, slots := #[.long 62], vm := .none },
  { cls := 9, slots := #[.long 63], vm := .none },
  { cls := 9, slots := #[.long 64], vm := .none },
  { cls := 9, slots := #[.long 65], vm := .none },
  { cls := 9, slots := #[.long 66], vm := .none },
  { cls := 9, slots := #[.long 67], vm := .none },
  { cls := 9, slots := #[.long 68], vm := .none },
  { cls := 9, slots := #[.long 69], vm := .none },
  { cls := 9, slots := #[.long 70], vm := .none },
  { cls := 9, slots := #[.long 71], vm := .none },
  { cls := 9, slots := #[.long 72], vm := .none },
  { cls := 9, slots := #[.long 73], vm := .none },
  { cls := 9, slots := #[.long 74], vm := .none },
  { cls := 9, slots := #[.long 75], vm := .none },
  { cls := 9, slots := #[.long 76], vm := .none },
  { cls := 9, slots := #[.long 77], vm := .none },
  { cls := 9, slots := #[.long 78], vm := .none },
  { cls := 9, slots := #[.long 79], vm := .none },
  { cls := 9, slots := #[.long 80], vm := .none },
  { cls := 9, slots := #[.long 81], vm := .none },
  { cls := 9, slots := #[.long 82], vm := .none },
  { cls := 9, slots := #[.long 83], vm := .none },
  { cls := 9, slots := #[.long 84], vm := .none },
  { cls := 9, slots := #[.long 85], vm := .none },
  { cls := 9, slots := #[.long 86], vm := .none },
  { cls := 9, slots := #[.long 87], vm := .none },
  { cls := 9, slots := #[.long 88], vm := .none },
  { cls := 9, slots := #[.long 89], vm := .none },
  { cls := 9, slots := #[.long 90], vm := .none },
  { cls := 9, slots := #[.long 91], vm := .none },
  { cls := 9, slots := #[.long 92], vm := .none },
  { cls := 9, slots := #[.long 93], vm := .none },
  { cls := 9, slots := #[.long 94], vm := .none },
  { cls := 9, slots := #[.long 95], vm := .none },
  { cls := 9, slots := #[.long 96], vm := .none },
  { cls := 9, slots := #[.long 97], vm := .none },
  { cls := 9, slots := #[.long 98], vm := .none },
  { cls := 9, slots := #[.long 99], vm := .none },
  { cls := 9, slots := #[.long 100], vm := .none },
  { cls := 9, slots := #[.long 101], vm := .none },
  { cls := 9, slots := #[.long 102], vm := .none },
  { cls := 9, slots := #[.long 103], vm := .none },
  { cls := 9, slots := #[.long 104], vm := .none },
  { cls := 9, slots := #[.long 105], vm := .none },
  { cls := 9, slots := #[.long 106], vm := .none },
  { cls := 9, slots := #[.long 107], vm := .none },
  { cls := 9, slots := #[.long 108], vm := .none },
  { cls := 9, slots := #[.long 109], vm := .none },
  { cls := 9, slots := #[.long 110], vm := .none },
  { cls := 9, slots := #[.long 111], vm := .none },
  { cls := 9, slots := #[.long 112], vm := .none },
  { cls := 9, slots := #[.long 113], vm := .none },
  { cls := 9, slots := #[.long 114], vm := .none },
  { cls := 9, slots := #[.long 115], vm := .none },
  { cls := 9, slots := #[.long 116], vm := .none },
  { cls := 9, slots := #[.long 117], vm := .none },
  { cls := 9, slots := #[.long 118], vm := .none },
  { cls := 9, slots := #[.long 119], vm := .none },
  { cls := 9, slots := #[.long 120], vm := .none },
  { cls := 9, slots := #[.long 121], vm := .none },
  { cls := 9, slots := #[.long 122], vm := .none },
  { cls := 9, slots := #[.long 123], vm := .none },
  { cls := 9, slots := #[.long 124], vm := .none },
  { cls := 9, slots := #[.long 125], vm := .none },
  { cls := 9, slots := #[.long 126], vm := .none },
  { cls := 9, slots := #[.long 127], vm := .none }]
def classes : Array Class := #[k0, k1, k2, k3, k4, k5, k6, k7, k8, k9, k10, k11, k12, k13, k14, k15, k16, k17, k18, k19, k20, k21, k22]
def interned : List (Array UInt16 × Addr) := []
def slotsUsed : Nat := 542
def theMethod : MethodId := ⟨1, 2⟩
def args0 : Array Value := #[.int 0, .long 5]
def aboutOver (below : List Frame) : State where
  vm := { classes := classes, interned := interned.toArray }
  heap := heap
  slotsUsed := slotsUsed
  threads := #[{ frames := .invoking theMethod args0 :: below }]
def below0 : List Frame := [.native { method := ⟨0, 0⟩, args := #[] }]
def about1 : State := aboutOver below0
def p0 : Program := .bare "" "" ""
def e0 : Env := launch0.env 0 0 0
theorem w_frames : about1.frames = Frame.invoking theMethod args0 :: below0 := rfl
set_option maxRecDepth 65536 in
theorem w_args : argsFit about1.vm theMethod args0 = true := by decide +kernel
set_option maxRecDepth 65536 in
theorem w_heap : heapFits about1 = true := by decide +kernel
set_option maxRecDepth 65536 in
theorem w_runnable : about1.curStatus? = some .runnable := by decide +kernel
set_option maxRecDepth 65536 in
theorem w_alone : about1.alone = true := by decide +kernel
set_option maxRecDepth 65536 in
theorem w_named : about1.methodNamed? x = some theMethod := by decide +kernel
set_option maxRecDepth 65536 in
theorem w_hears : about1.hears theMethod below0 = true := by decide +kernel
set_option maxRecDepth 65536 in
theorem w_ripe : about1.ripe theMethod args0 below0 = true := by decide +kernel
theorem w_running : about1.status = .running := rfl
set_option maxRecDepth 65536 in
theorem w_room : about1.hasRoom e0.platform room_1 = true :=
  launch0.hasRoom_least _ room_1 (by decide +kernel) (by decide +kernel) (by decide +kernel) (by decide +kernel) (by decide +kernel) (by decide +kernel)
theorem allAtoms_all (ts : List Jvm.Cond) (a : Array Jvm.Value) (st : Jvm.State) : (allAtoms ts).before a st = ts.all (fun c => c.before a st) := by
  induction ts with
  | nil => rfl
  | cons c t ih =>
    show (Jvm.Cond.and c (allAtoms t)).before a st = _
    rw [Jvm.Cond.before_and, ih, List.all_cons]
def words1 : List Jvm.Cond := Jvm.Cond.code x code maxLocals ret :: tables_1
/-- a 'code' word, met by the world's own term for the bytes: nothing is compared byte by byte -/
theorem code_word {y : MethodName} {bytes : ByteArray} {mx : Nat} {rt : Option FieldType} {a : Array Value} {s : State} {m : MethodId} {meth : Method} {c : Code} (h1 : s.methodNamed? y = some m) (h2 : s.vm.method? m = some meth) (h3 : meth.code = some c) (h4 : c.code = bytes)
    (h5 : (c.maxLocals == mx && c.exceptionTable.isEmpty && decide (c.maxStack ≤ mostOperands) && decide (meth.sig.returnType = rt) && !meth.locks && decide (parseMethodDescriptor y.desc = some meth.sig)) = true) : (Jvm.Cond.code y bytes mx rt).before a s = true := by
  simp only [Bool.and_eq_true, beq_iff_eq, Bool.not_eq_true', decide_eq_true_eq] at h5
  obtain ⟨⟨⟨⟨⟨g1, g2⟩, g3⟩, g4⟩, g5⟩, g6⟩ := h5
  simp [Cond.before, Cond.holds, Cond.value, h1, h2, h3, h4, g1, g2, g3, g4, g5, g6]
def isCode : Jvm.Cond → Bool
  | .code _ _ _ _ => true
  | _ => false
theorem all_split {L : List Jvm.Cond} {P : Jvm.Cond → Bool} (h1 : L.all (fun c => isCode c || P c) = true) (h2 : ∀ c ∈ L.filter isCode, P c = true) : L.all P = true := by
  refine List.all_eq_true.mpr fun c hc => ?_
  have h := List.all_eq_true.mp h1 c hc
  rcases Bool.eq_false_or_eq_true (isCode c) with hi | hi
  · exact h2 c (List.mem_filter.mpr ⟨hc, hi⟩)
  · simpa [hi] using h
set_option maxRecDepth 65536 in
theorem w_c0 : (Jvm.Cond.code x code maxLocals ret).before args0 about1 = true := code_word (m := ⟨1, 2⟩) (meth := k1m2) (c := k1c2) (by decide +kernel) rfl rfl rfl (by decide +kernel)
set_option maxRecDepth 65536 in
theorem w_c1 : (Jvm.Cond.code ({ cls := "com/example/versions_to_view/versionstoview/lock/LockRequestNoteKeptWaitingPinLaw", name := "modeOf", desc := "(I)Lcom/example/versions_to_view/versionstoview/lock/LockMode;" } : Jvm.MethodName) method_2_code (1 : Nat) (Option.some (Jvm.ClassFile.FieldType.object "com/example/versions_to_view/versionstoview/lock/LockMode"))).before args0 about1 = true := code_word (m := ⟨1, 1⟩) (meth := k1m1) (c := k1c1) (by decide +kernel) rfl rfl rfl (by decide +kernel)
set_option maxRecDepth 65536 in
theorem w_c2 : (Jvm.Cond.code ({ cls := "java/lang/Long", name := "valueOf", desc := "(J)Ljava/lang/Long;" } : Jvm.MethodName) jdk_35_method_24_code (3 : Nat) (Option.some (Jvm.ClassFile.FieldType.object "java/lang/Long"))).before args0 about1 = true := code_word (m := ⟨9, 0⟩) (meth := k9m0) (c := k9c0) (by decide +kernel) rfl rfl rfl (by decide +kernel)
set_option maxRecDepth 65536 in
theorem w_c3 : (Jvm.Cond.code ({ cls := "java/lang/String", name := "valueOf", desc := "(C)Ljava/lang/String;" } : Jvm.MethodName) jdk_42_method_139_code (1 : Nat) (Option.some (Jvm.ClassFile.FieldType.object "java/lang/String"))).before args0 about1 = true := code_word (m := ⟨12, 1⟩) (meth := k12m1) (c := k12c1) (by decide +kernel) rfl rfl rfl (by decide +kernel)
set_option maxRecDepth 65536 in
theorem w_c4 : (Jvm.Cond.code ({ cls := "java/lang/StringLatin1", name := "canEncode", desc := "(C)Z" } : Jvm.MethodName) jdk_43_method_3_code (1 : Nat) (Option.some Jvm.ClassFile.FieldType.boolean)).before args0 about1 = true := code_word (m := ⟨13, 1⟩) (meth := k13m1) (c := k13c1) (by decide +kernel) rfl rfl rfl (by decide +kernel)
set_option maxRecDepth 65536 in
theorem w_c5 : (Jvm.Cond.code ({ cls := "java/lang/StringLatin1", name := "toBytes", desc := "(C)[B" } : Jvm.MethodName) jdk_43_method_46_code (1 : Nat) (Option.some (Jvm.ClassFile.FieldType.array Jvm.ClassFile.FieldType.byte))).before args0 about1 = true := code_word (m := ⟨13, 2⟩) (meth := k13m2) (c := k13c2) (by decide +kernel) rfl rfl rfl (by decide +kernel)
set_option maxRecDepth 65536 in
theorem w_c6 : (Jvm.Cond.code ({ cls := "java/lang/String", name := "<init>", desc := "([BB)V" } : Jvm.MethodName) jdk_42_method_151_code (3 : Nat) (Option.none : Option Jvm.ClassFile.FieldType)).before args0 about1 = true := code_word (m := ⟨12, 2⟩) (meth := k12m2) (c := k12c2) (by decide +kernel) rfl rfl rfl (by decide +kernel)
set_option maxRecDepth 65536 in
theorem w_c7 : (Jvm.Cond.code ({ cls := "java/lang/Object", name := "<init>", desc := "()V" } : Jvm.MethodName) object_method_1_code (1 : Nat) (Option.none : Option Jvm.ClassFile.FieldType)).before args0 about1 = true := code_word (m := ⟨0, 0⟩) (meth := k0m0) (c := k0c0) (by decide +kernel) rfl rfl rfl (by decide +kernel)
set_option maxRecDepth 65536 in
theorem w_c8 : (Jvm.Cond.code ({ cls := "com/example/versions_to_view/versionstoview/lock/LockRequest", name := "<init>", desc := "(Ljava/lang/String;Ljava/lang/Long;Ljava/lang/Long;Lcom/example/versions_to_view/versionstoview/transaction/Transaction;Lcom/example/versions_to_view/versionstoview/lock/LockMode;ZZ)V" } : Jvm.MethodName) prog_18_method_1_code (8 : Nat) (Option.none : Option Jvm.ClassFile.FieldType)).before args0 about1 = true := code_word (m := ⟨14, 0⟩) (meth := k14m0) (c := k14c0) (by decide +kernel) rfl rfl rfl (by decide +kernel)
set_option maxRecDepth 65536 in
theorem w_c9 : (Jvm.Cond.code ({ cls := "com/example/versions_to_view/versionstoview/lock/LockRequest", name := "noteKeptWaiting", desc := "()Z" } : Jvm.MethodName) prog_18_method_13_code (2 : Nat) (Option.some Jvm.ClassFile.FieldType.boolean)).before args0 about1 = true := code_word (m := ⟨14, 6⟩) (meth := k14m6) (c := k14c6) (by decide +kernel) rfl rfl rfl (by decide +kernel)
set_option maxRecDepth 65536 in
theorem w_c10 : (Jvm.Cond.code ({ cls := "com/example/versions_to_view/versionstoview/lock/LockRequest", name := "isGranted", desc := "()Z" } : Jvm.MethodName) prog_18_method_7_code (1 : Nat) (Option.some Jvm.ClassFile.FieldType.boolean)).before args0 about1 = true := code_word (m := ⟨14, 3⟩) (meth := k14m3) (c := k14c3) (by decide +kernel) rfl rfl rfl (by decide +kernel)
set_option maxRecDepth 65536 in
theorem w_c11 : (Jvm.Cond.code ({ cls := "com/example/versions_to_view/versionstoview/lock/LockRequest", name := "isRefused", desc := "()Z" } : Jvm.MethodName) prog_18_method_8_code (1 : Nat) (Option.some Jvm.ClassFile.FieldType.boolean)).before args0 about1 = true := code_word (m := ⟨14, 4⟩) (meth := k14m4) (c := k14c4) (by decide +kernel) rfl rfl rfl (by decide +kernel)
set_option maxRecDepth 65536 in
theorem w_c12 : (Jvm.Cond.code ({ cls := "com/example/versions_to_view/versionstoview/lock/LockRequest", name := "standsForWord", desc := "()Z" } : Jvm.MethodName) prog_18_method_9_code (1 : Nat) (Option.some Jvm.ClassFile.FieldType.boolean)).before args0 about1 = true := code_word (m := ⟨14, 5⟩) (meth := k14m5) (c := k14c5) (by decide +kernel) rfl rfl rfl (by decide +kernel)
set_option maxRecDepth 65536 in
theorem w_c13 : (Jvm.Cond.code ({ cls := "com/example/versions_to_view/versionstoview/lock/LockRequest", name := "getKey", desc := "()Ljava/lang/Long;" } : Jvm.MethodName) prog_18_method_3_code (1 : Nat) (Option.some (Jvm.ClassFile.FieldType.object "java/lang/Long"))).before args0 about1 = true := code_word (m := ⟨14, 1⟩) (meth := k14m1) (c := k14c1) (by decide +kernel) rfl rfl rfl (by decide +kernel)
set_option maxRecDepth 65536 in
theorem w_c14 : (Jvm.Cond.code ({ cls := "com/example/versions_to_view/versionstoview/lock/LockRequest", name := "getMode", desc := "()Lcom/example/versions_to_view/versionstoview/lock/LockMode;" } : Jvm.MethodName) prog_18_method_6_code (1 : Nat) (Option.some (Jvm.ClassFile.FieldType.object "com/example/versions_to_view/versionstoview/lock/LockMode"))).before args0 about1 = true := code_word (m := ⟨14, 2⟩) (meth := k14m2) (c := k14c2) (by decide +kernel) rfl rfl rfl (by decide +kernel)
set_option maxRecDepth 65536 in
theorem w_c15 : (Jvm.Cond.code ({ cls := "java/lang/Long", name := "<init>", desc := "(J)V" } : Jvm.MethodName) jdk_35_method_26_code (3 : Nat) (Option.none : Option Jvm.ClassFile.FieldType)).before args0 about1 = true := code_word (m := ⟨9, 1⟩) (meth := k9m1) (c := k9c1) (by decide +kernel) rfl rfl rfl (by decide +kernel)
set_option maxRecDepth 65536 in
theorem w_c16 : (Jvm.Cond.code ({ cls := "java/lang/Number", name := "<init>", desc := "()V" } : Jvm.MethodName) jdk_18_method_1_code (1 : Nat) (Option.none : Option Jvm.ClassFile.FieldType)).before args0 about1 = true := code_word (m := ⟨7, 0⟩) (meth := k7m0) (c := k7c0) (by decide +kernel) rfl rfl rfl (by decide +kernel)
def codes1 : List Jvm.Cond := [Jvm.Cond.code x code maxLocals ret, Jvm.Cond.code ({ cls := "com/example/versions_to_view/versionstoview/lock/LockRequestNoteKeptWaitingPinLaw", name := "modeOf", desc := "(I)Lcom/example/versions_to_view/versionstoview/lock/LockMode;" } : Jvm.MethodName) method_2_code (1 : Nat) (Option.some (Jvm.ClassFile.FieldType.object "com/example/versions_to_view/versionstoview/lock/LockMode")), Jvm.Cond.code ({ cls := "java/lang/Long", name := "valueOf", desc := "(J)Ljava/lang/Long;" } : Jvm.MethodName) jdk_35_method_24_code (3 : Nat) (Option.some (Jvm.ClassFile.FieldType.object "java/lang/Long")), Jvm.Cond.code ({ cls := "java/lang/String", name := "valueOf", desc := "(C)Ljava/lang/String;" } : Jvm.MethodName) jdk_42_method_139_code (1 : Nat) (Option.some (Jvm.ClassFile.FieldType.object "java/lang/String")), Jvm.Cond.code ({ cls := "java/lang/StringLatin1", name := "canEncode", desc := "(C)Z" } : Jvm.MethodName) jdk_43_method_3_code (1 : Nat) (Option.some Jvm.ClassFile.FieldType.boolean), Jvm.Cond.code ({ cls := "java/lang/StringLatin1", name := "toBytes", desc := "(C)[B" } : Jvm.MethodName) jdk_43_method_46_code (1 : Nat) (Option.some (Jvm.ClassFile.FieldType.array Jvm.ClassFile.FieldType.byte)), Jvm.Cond.code ({ cls := "java/lang/String", name := "<init>", desc := "([BB)V" } : Jvm.MethodName) jdk_42_method_151_code (3 : Nat) (Option.none : Option Jvm.ClassFile.FieldType), Jvm.Cond.code ({ cls := "java/lang/Object", name := "<init>", desc := "()V" } : Jvm.MethodName) object_method_1_code (1 : Nat) (Option.none : Option Jvm.ClassFile.FieldType), Jvm.Cond.code ({ cls := "com/example/versions_to_view/versionstoview/lock/LockRequest", name := "<init>", desc := "(Ljava/lang/String;Ljava/lang/Long;Ljava/lang/Long;Lcom/example/versions_to_view/versionstoview/transaction/Transaction;Lcom/example/versions_to_view/versionstoview/lock/LockMode;ZZ)V" } : Jvm.MethodName) prog_18_method_1_code (8 : Nat) (Option.none : Option Jvm.ClassFile.FieldType), Jvm.Cond.code ({ cls := "com/example/versions_to_view/versionstoview/lock/LockRequest", name := "noteKeptWaiting", desc := "()Z" } : Jvm.MethodName) prog_18_method_13_code (2 : Nat) (Option.some Jvm.ClassFile.FieldType.boolean), Jvm.Cond.code ({ cls := "com/example/versions_to_view/versionstoview/lock/LockRequest", name := "isGranted", desc := "()Z" } : Jvm.MethodName) prog_18_method_7_code (1 : Nat) (Option.some Jvm.ClassFile.FieldType.boolean), Jvm.Cond.code ({ cls := "com/example/versions_to_view/versionstoview/lock/LockRequest", name := "isRefused", desc := "()Z" } : Jvm.MethodName) prog_18_method_8_code (1 : Nat) (Option.some Jvm.ClassFile.FieldType.boolean), Jvm.Cond.code ({ cls := "com/example/versions_to_view/versionstoview/lock/LockRequest", name := "standsForWord", desc := "()Z" } : Jvm.MethodName) prog_18_method_9_code (1 : Nat) (Option.some Jvm.ClassFile.FieldType.boolean), Jvm.Cond.code ({ cls := "com/example/versions_to_view/versionstoview/lock/LockRequest", name := "getKey", desc := "()Ljava/lang/Long;" } : Jvm.MethodName) prog_18_method_3_code (1 : Nat) (Option.some (Jvm.ClassFile.FieldType.object "java/lang/Long")), Jvm.Cond.code ({ cls := "com/example/versions_to_view/versionstoview/lock/LockRequest", name := "getMode", desc := "()Lcom/example/versions_to_view/versionstoview/lock/LockMode;" } : Jvm.MethodName) prog_18_method_6_code (1 : Nat) (Option.some (Jvm.ClassFile.FieldType.object "com/example/versions_to_view/versionstoview/lock/LockMode")), Jvm.Cond.code ({ cls := "java/lang/Long", name := "<init>", desc := "(J)V" } : Jvm.MethodName) jdk_35_method_26_code (3 : Nat) (Option.none : Option Jvm.ClassFile.FieldType), Jvm.Cond.code ({ cls := "java/lang/Number", name := "<init>", desc := "()V" } : Jvm.MethodName) jdk_18_method_1_code (1 : Nat) (Option.none : Option Jvm.ClassFile.FieldType)]
set_option maxRecDepth 65536 in
theorem codes_eq : words1.filter isCode = codes1 := rfl
theorem w_codes : ∀ c ∈ words1.filter isCode, c.before args0 about1 = true := by
  rw [codes_eq]
  intro c hc
  simp only [codes1, List.mem_cons, List.not_mem_nil, or_false] at hc
  rcases hc with rfl | rfl | rfl | rfl | rfl | rfl | rfl | rfl | rfl | rfl | rfl | rfl | rfl | rfl | rfl | rfl | rfl
  · exact w_c0
  · exact w_c1
  · exact w_c2
  · exact w_c3
  · exact w_c4
  · exact w_c5
  · exact w_c6
  · exact w_c7
  · exact w_c8
  · exact w_c9
  · exact w_c10
  · exact w_c11
  · exact w_c12
  · exact w_c13
  · exact w_c14
  · exact w_c15
  · exact w_c16
set_option maxRecDepth 65536 in
theorem w_t1 : (words1.take 24).all (fun c => isCode c || c.before args0 about1) = true := by decide +kernel
set_option maxRecDepth 65536 in
theorem w_t2 : ((words1.drop 24).take 24).all (fun c => isCode c || c.before args0 about1) = true := by decide +kernel
set_option maxRecDepth 65536 in
theorem w_t3 : (((words1.drop 24).drop 24).take 24).all (fun c => isCode c || c.before args0 about1) = true := by decide +kernel
set_option maxRecDepth 65536 in
theorem w_t4 : ((((words1.drop 24).drop 24).drop 24).take 24).all (fun c => isCode c || c.before args0 about1) = true := by decide +kernel
set_option maxRecDepth 65536 in
theorem w_t5 : ((((words1.drop 24).drop 24).drop 24).drop 24).all (fun c => isCode c || c.before args0 about1) = true := by decide +kernel
theorem w_tables : (allAtoms (Jvm.Cond.code x code maxLocals ret :: tables_1)).before args0 about1 = true := by
  rw [allAtoms_all]
  show words1.all (fun c => c.before args0 about1) = true
  refine all_split ?_ w_codes
  rw [← List.take_append_drop 24 words1, List.all_append, w_t1, ← List.take_append_drop 24 (words1.drop 24), List.all_append, w_t2, ← List.take_append_drop 24 ((words1.drop 24).drop 24), List.all_append, w_t3, ← List.take_append_drop 24 (((words1.drop 24).drop 24).drop 24), List.all_append, w_t4, w_t5]
  rfl
set_option maxRecDepth 65536 in
theorem w_rest : rest_1_c.before args0 about1 = true := by decide +kernel
set_option maxRecDepth 65536 in
theorem w_case : (Jvm.Cond.and given_1 narrow_1).before args0 about1 = true := by decide +kernel
theorem w_applies : (headSpec (Jvm.Cond.code x code maxLocals ret :: tables_1) room_1).applies x e0.platform about1 = true :=
  (Spec.applies_iff w_frames).mpr ⟨w_running, w_runnable, w_alone, w_named, w_hears, w_ripe, w_room, w_tables⟩
theorem atStart : AtStart classFile x code maxLocals ret World_1 tables_1 room_1 Calls_1 rest_1 Pre_1 launch0 p0 e0 about1 theMethod args0 below0 :=
  ⟨lists_1, trivial, launch0.admits_env _ _ _, launch0.least_env, fairChoices_fair.cas, fairChoices_fair.clock, w_frames, w_args, w_heap, w_applies, trivial, w_rest, w_case⟩
end start1
theorem witness_1 : WitnessClaimed_1 := ⟨start1.p0, start1.e0, start1.about1, start1.theMethod, start1.args0, start1.below0, start1.atStart⟩
end Jvm.Pilot.@@N@@
