import JvmDerived
import JvmDerived.Pilot.@@N@@Statement
import JvmDerived.Pilot.@@N@@Code
set_option linter.unusedVariables false
set_option linter.unusedSimpArgs false
namespace Jvm.RoadKit
open Sem ClassFile Op Lib Jvm.Stand Jvm.Free Jvm.LawKit
section New
variable {p : Program} {l : Launch} {e : Env} {R : Room} {s : State} {m : MethodId} {args : Array Value} {below : List Frame} {meth : Method} {c : Code} {T : State} {locs : List Loc} {cells slots : Nat}
theorem retI (X : Stand p l e R s m args below meth c T locs cells slots) (hx : p.tables.exec = Jvm.exec) {pc : Nat} {Ls : Array Slot} {z : Int32} {rest : List Value} (hret : meth.sig.returnType = some .int) (hd : decode c.code pc = .ok (.ireturn, 1)) {fs : List Frame}
    (hl : ∀ (f : JFrame) (acts : List Action), f.method = m → f.locked = none → f.entered = [] → (doReturn e (T.setTop f) acts (some (.int z))).1 = T.setFrames fs) : Steps p.tables e below (T.setTop (mkF m pc Ls (.int z :: rest))) (T.setFrames fs) := by
  have hm' : T.vm.method? m = some meth := X.method'
  have hn : narrow .int (.int z) = .int z := rfl
  show Steps p.tables e below (T.setTop { method := m, pc := pc, locals := Ls, stack := _ :: rest, locked := none }) _
  jvm_step X.here [X.here.top, hx, hd, hm', hret, hn]
  first | (intro acts; rw [hl _ acts rfl rfl rfl]) | rw [hl _ _ rfl rfl rfl]
  exact Steps.refl _
end New
end Jvm.RoadKit
@@BLOCK:LamKit.lean.txt@@
namespace Jvm.Pilot.@@N@@
open Jvm Jvm.ClassFile Jvm.LamKit Sem Op Lib Jvm.Free Jvm.Stand Jvm.LawKit Jvm.RoadKit Bundle Jvm.Pilot.@@N@@.Jvm.D
def own_Goes (p : Program) (e : Env) (below : List Frame) (S : State) (K : State → Outcome → Prop) : Prop := ∃ s₂ o, Steps p.tables e below S s₂ ∧ s₂.status = .running ∧ Ended s₂ below o ∧ K s₂ o
theorem own_of {p : Program} {e : Env} {below : List Frame} {S S' : State} {K : State → Outcome → Prop} (k : ∀ t, Steps p.tables e below S' t → Steps p.tables e below S t) (h : own_Goes p e below S' K) : own_Goes p e below S K := by
  obtain ⟨t, o, h1, h2⟩ := h
  exact ⟨t, o, k t h1, h2⟩
theorem own_nameK {p : Program} {e : Env} {below : List Frame} {S : State} {K' : State → Outcome → Prop} (h : ∀ K, K = K' → own_Goes p e below S K) : own_Goes p e below S K' := h K' rfl
theorem own_nar {g : Int32} (h : g = (0 : Int32) ∨ g = (1 : Int32)) : nar .boolean g = g := by rcases h with rfl | rfl <;> rfl
theorem own_narV {g : Int32} (h : g = (0 : Int32) ∨ g = (1 : Int32)) : narrow .boolean (.int g) = .int g := by rcases h with rfl | rfl <;> rfl
theorem own_fitsZ {g : Int32} (h : g = (0 : Int32) ∨ g = (1 : Int32)) : fits .boolean (.int g) = true := by rcases h with rfl | rfl <;> rfl
theorem own_cat {v : Value} (h : v.isRef = true) : v.category = 1 := by
  rcases ref_cases h with rfl | ⟨a, rfl⟩ <;> rfl
theorem own_selP {Z : State} {a0 : Array Value} {y : MethodName} {n : Nat} (hy : y.cls ≠ "java/lang/invoke/MethodHandle" ∧ y.cls ≠ "java/lang/invoke/VarHandle") (hi : (Jvm.Cond.instanceMethod y).before a0 Z = true) (hp : (Jvm.Cond.privateMethod y).before a0 Z = true) (hk : (Jvm.Cond.instantiable y.cls n).before a0 Z = true) : (Jvm.Cond.selects y.cls y y).before a0 Z = true := by
  obtain ⟨mk, methM, hnamed, hmethM, hstM, habM⟩ := Cond.instanceMethod_spec hi
  have hc := findClass_of_methodNamed hnamed
  obtain ⟨cB, kB, i1, i2, i3, i4, -⟩ := Cond.instantiable_spec hk
  cases i1.symm.trans hc
  have hf := State.methodFound?_of_named hnamed hy
  have hs : selectMethod {} Z.vm mk.cls mk = .method mk := selectMethod_private hmethM (Cond.privateMethod_at hp mk methM hnamed hmethM)
  have hni : kB.isInterface = false := by simp only [Bool.or_eq_false_iff] at i4; exact i4.1
  simp [Cond.before, Cond.holds, Cond.value, hc, hf, hnamed, hs, i2, hni]
theorem own_eqI {args : Array Value} {s : State} {t : Term} {k : Int32} (h : (Jvm.Cond.eq t (.int k)).value args s none s [] = some true) : t.eval args s none [] s = some (.int k) := by
  simp only [Cond.value, Term.eval] at h
  cases ht : t.eval args s none [] s with
  | none => simp [ht] at h
  | some x => cases x <;> simp [ht] at h ⊢; exact h
theorem own_eqL {args : Array Value} {s : State} {t : Term} {k : Int64} (h : (Jvm.Cond.eq t (.long k)).value args s none s [] = some true) : t.eval args s none [] s = some (.long k) := by
  simp only [Cond.value, Term.eval] at h
  cases ht : t.eval args s none [] s with
  | none => simp [ht] at h
  | some x => cases x <;> simp [ht] at h ⊢; exact h
def own_Ar (Z : State) (h : Heap) (a : Addr) (ty : FieldType) (n : Nat) (f : Nat → Value) : Prop := ∃ c : Cell, Arr Z h a c ty ∧ c.slots.size = n ∧ ∀ i, i < n → c.slots[i]? = some (f i)
section OwnArr
variable {Z : State} {h h' : Heap} {a b : Addr} {ty : FieldType} {n sl : Nat} {f : Nat → Value} {v : Value} {ws : List Addr}
theorem own_Ar.lt (F : own_Ar Z h a ty n f) : a < h.size := by obtain ⟨c, A, -⟩ := F; exact A.lt
theorem own_Ar.ext (F : own_Ar Z h a ty n f) (E : Ext h h') : own_Ar Z h' a ty n f := by obtain ⟨c, A, r⟩ := F; exact ⟨c, A.ext E, r⟩
theorem own_Ar.other (F : own_Ar Z h b ty n f) (W : Wr h h' a sl v) (q : b ≠ a) : own_Ar Z h' b ty n f := by obtain ⟨c, A, r⟩ := F; exact ⟨c, A.other W q, r⟩
theorem own_Ar.keep (F : own_Ar Z h a ty n f) (K : Keep h h' ws) (q : a ∉ ws) : own_Ar Z h' a ty n f := by obtain ⟨c, A, r⟩ := F; exact ⟨c, ⟨K.2.1 a c A.1 q, A.2⟩, r⟩
theorem own_Ar.new {k : ClassId} {z : Int32} (A : Arr Z h a (newA k ty z) ty) (q : ¬ z < 0) (e : z.toNatClampNeg = n) : own_Ar Z h a ty n (fun _ => defaultValue ty) := by
  obtain ⟨c, A', r1, r2, r3, H, G⟩ := Arv.new A q
  refine ⟨c, A', r2.trans e, fun i hi => ?_⟩
  rw [H i (by rw [r2, e]; exact hi)]
  simp
theorem own_Ar.upd {c : Cell} (A : Arr Z h a c ty) (S : c.slots.size = n) (H : ∀ i, i < n → c.slots[i]? = some (f i)) (hj : sl < n) (W : Wr h h' a sl v) : own_Ar Z h' a ty n (fun i => if i = sl then v else f i) := by
  refine ⟨_, A.same W, by simp [Cell.setSlot, S], fun i hi => ?_⟩
  by_cases q : i = sl
  · subst q
    simp [Cell.setSlot, S, hj]
  · simp only [q, if_false]
    rw [← H i hi]
    show (c.slots.setIfInBounds sl v)[i]? = _
    rw [Array.getElem?_setIfInBounds_ne (fun e => q e.symm)]
def own_nst (h : Heap) (x : Addr) : Prop := ∃ c : Cell, h[x]? = some c ∧ c.vm.isStatics = false
theorem own_nstE {C : String} (E : Exa Z h a C) : own_nst h a := by obtain ⟨c, _, h1, -, -, h4, -⟩ := E; exact ⟨c, h1, h4⟩
theorem own_nstA (F : own_Ar Z h a ty n f) : own_nst h a := by obtain ⟨c, A, -⟩ := F; exact ⟨c, A.1, A.plain⟩
theorem own_staK {C k d : String} (F : Sta Z h C k d v) (K : Keep h h' ws) (q : ∀ x ∈ ws, own_nst h x) : Sta Z h' C k d v := by
  obtain ⟨cf, i, k, fd, st, cell, h1, h2, h3, h4, h5, h6, h7⟩ := F
  refine ⟨cf, i, k, fd, st, cell, h1, h2, h3, h4, K.2.1 _ _ h5 fun hm => ?_, h6, h7⟩
  obtain ⟨c, e1, e2⟩ := q _ hm
  cases h5.symm.trans e1
  rw [h6] at e2; cases e2
theorem own_since0 {s : State} : s.Since s.vm 0 := (State.WarmedH.refl s).since 0
theorem own_inb {c : Cell} {j : Int32} (S : c.slots.size = n) (q : ¬ j < 0) (r : j.toNatClampNeg < n) : ¬ (j < 0 ∨ c.slots.size ≤ j.toNatClampNeg) := fun u => u.elim q (fun w => by omega)
end OwnArr
section OwnSteps
variable {p : Program} {l : Launch} {e : Env} {R : Room} {s : State} {m : MethodId} {args : Array Value} {below : List Frame} {meth : Method} {c : Code} {T : State} {locs : List Loc} {cells slots : Nat} {Z : State} {h : Heap}
theorem own_stI (X : Stand p l e R s m args below meth c T locs cells slots) (hx : p.tables.exec = Jvm.exec) (hZ : Z.Warmed39 s.vm) (eT : T.heap = h) {a : Addr} {n : Nat} {f : Nat → Value} (F : own_Ar Z h a .int n f) {j x : Int32} (q : ¬ j < 0) (r : j.toNatClampNeg < n) {g : JFrame} (hg : g.method = m) {rest : List Value} (hs : g.stack = .int x :: .int j :: .ref a :: rest) (hd : decode c.code g.pc = .ok (.iastore, 1)) :
    ∃ T' h' L', Stand p l e R s m args below meth c T' L' cells slots ∧ T'.heap = h' ∧ Wr h h' a j.toNatClampNeg (.int x) ∧ own_Ar Z h' a .int n (fun i => if i = j.toNatClampNeg then .int x else f i) ∧ (∀ k, Fr k locs → k ≤ a → Fr k L') ∧ ∀ target, Steps p.tables e below (T'.setTop { g with pc := g.pc + 1, stack := rest }) target → Steps p.tables e below (T.setTop g) target := by
  obtain ⟨cl, A, S, H⟩ := F
  obtain ⟨T', h', X', e', W, st⟩ := stI X hx hZ eT A (j := j) (own_inb S q r) hg hs hd
  exact ⟨T', h', _, X', e', W, own_Ar.upd A S H r W, fun k N q => Fr.snoc X' N q, st⟩
theorem own_stB (X : Stand p l e R s m args below meth c T locs cells slots) (hx : p.tables.exec = Jvm.exec) (hZ : Z.Warmed39 s.vm) (eT : T.heap = h) {a : Addr} {n : Nat} {f : Nat → Value} (F : own_Ar Z h a .byte n f) {j x : Int32} (q : ¬ j < 0) (r : j.toNatClampNeg < n) {g : JFrame} (hg : g.method = m) {rest : List Value} (hs : g.stack = .int x :: .int j :: .ref a :: rest) (hd : decode c.code g.pc = .ok (.bastore, 1)) :
    ∃ T' h' L', Stand p l e R s m args below meth c T' L' cells slots ∧ T'.heap = h' ∧ Wr h h' a j.toNatClampNeg (.int (nar .byte x)) ∧ own_Ar Z h' a .byte n (fun i => if i = j.toNatClampNeg then .int (nar .byte x) else f i) ∧ (∀ k, Fr k locs → k ≤ a → Fr k L') ∧ ∀ target, Steps p.tables e below (T'.setTop { g with pc := g.pc + 1, stack := rest }) target → Steps p.tables e below (T.setTop g) target := by
  obtain ⟨cl, A, S, H⟩ := F
  obtain ⟨T', h', X', e', W, st⟩ := stB X hx hZ eT A (j := j) (own_inb S q r) hg hs hd
  exact ⟨T', h', _, X', e', W, own_Ar.upd A S H r W, fun k N q => Fr.snoc X' N q, st⟩
theorem own_ldI (X : Stand p l e R s m args below meth c T locs cells slots) (hx : p.tables.exec = Jvm.exec) (hZ : Z.Warmed39 s.vm) (eT : T.heap = h) {a : Addr} {n : Nat} {f : Nat → Value} (F : own_Ar Z h a .int n f) {j y : Int32} (q : ¬ j < 0) (r : j.toNatClampNeg < n) (hy : f j.toNatClampNeg = .int y) {g : JFrame} (hg : g.method = m) {rest : List Value} (hs : g.stack = .int j :: .ref a :: rest) (hd : decode c.code g.pc = .ok (.iaload, 1)) (target : State) (k : Steps p.tables e below (T.setTop { g with pc := g.pc + 1, stack := .int y :: rest }) target) : Steps p.tables e below (T.setTop g) target := by
  obtain ⟨cl, A, S, H⟩ := F
  exact X.iaload hx (j := j) (v := .int y) (by rw [eT]; exact A.1) (State.isArrayOf_alike hZ.alike A.2.1) A.2.2 (own_inb S q r) (by rw [H _ r, hy]) hg hs hd _ k
theorem own_ldB (X : Stand p l e R s m args below meth c T locs cells slots) (hx : p.tables.exec = Jvm.exec) (hZ : Z.Warmed39 s.vm) (eT : T.heap = h) {a : Addr} {n : Nat} {f : Nat → Value} (F : own_Ar Z h a .byte n f) {j y : Int32} (q : ¬ j < 0) (r : j.toNatClampNeg < n) (hy : f j.toNatClampNeg = .int y) {g : JFrame} (hg : g.method = m) {rest : List Value} (hs : g.stack = .int j :: .ref a :: rest) (hd : decode c.code g.pc = .ok (.baload, 1)) (target : State) (k : Steps p.tables e below (T.setTop { g with pc := g.pc + 1, stack := .int y :: rest }) target) : Steps p.tables e below (T.setTop g) target := by
  obtain ⟨cl, A, S, H⟩ := F
  exact X.baloadBytes hx (j := j) (v := .int y) (by rw [eT]; exact A.1) (State.isArrayOf_alike hZ.alike A.2.1) A.2.2 (own_inb S q r) (by rw [H _ r, hy]) hg hs hd _ k
theorem own_ldA (X : Stand p l e R s m args below meth c T locs cells slots) (hx : p.tables.exec = Jvm.exec) (hZ : Z.Warmed39 s.vm) (eT : T.heap = h) {a : Addr} {n : Nat} {ty : FieldType} {f : Nat → Value} (F : own_Ar Z h a ty n f) (ht : ty.isReference = true) {j : Int32} {y : Value} (q : ¬ j < 0) (r : j.toNatClampNeg < n) (hy : f j.toNatClampNeg = y) {g : JFrame} (hg : g.method = m) {rest : List Value} (hs : g.stack = .int j :: .ref a :: rest) (hd : decode c.code g.pc = .ok (.aaload, 1)) (target : State) (k : Steps p.tables e below (T.setTop { g with pc := g.pc + 1, stack := y :: rest }) target) : Steps p.tables e below (T.setTop g) target := by
  obtain ⟨cl, A, S, H⟩ := F
  exact X.aaload hx (j := j) (v := y) (by rw [eT]; exact A.1) (State.isArrayOf_alike hZ.alike A.2.1) ht A.2.2 (own_inb S q r) (by rw [H _ r, hy]) hg hs hd _ k
theorem own_len (X : Stand p l e R s m args below meth c T locs cells slots) (hx : p.tables.exec = Jvm.exec) (hZ : Z.Warmed39 s.vm) (eT : T.heap = h) {a : Addr} {n : Nat} {ty : FieldType} {f : Nat → Value} (F : own_Ar Z h a ty n f) {z : Int32} (hz : n.toInt32 = z) {g : JFrame} (hg : g.method = m) {rest : List Value} (hs : g.stack = .ref a :: rest) (hd : decode c.code g.pc = .ok (.arraylength, 1)) (target : State) (k : Steps p.tables e below (T.setTop { g with pc := g.pc + 1, stack := .int z :: rest }) target) : Steps p.tables e below (T.setTop g) target := by
  obtain ⟨cl, A, S, H⟩ := F
  exact X.arraylength hx (by rw [eT]; exact A.1) (State.isArrayOf_alike hZ.alike A.2.1) hg hs hd _ (by rw [S, hz]; exact k)
end OwnSteps
def own_lt (p q : Int32) : Int32 := if p < q then 1 else 0
theorem own_hit {f f' : Nat → Value} {j : Nat} {v : Value} (q : f' = (fun i => if i = j then v else f i)) : f' j = v := by rw [q]; exact if_pos rfl
theorem own_miss {f f' : Nat → Value} {i j : Nat} {v : Value} (q : f' = (fun i => if i = j then v else f i)) (h : ¬ i = j) : f' i = f i := by rw [q]; exact if_neg h
theorem own_r7 (p : Int32) : ∃ i : Fin 7, ((p &&& (2147483647 : Int32)) % (7 : Int32)) = Int32.ofNat i.1 := by
  have h1 := c_and p (2147483647 : Int32) (by decide)
  have h2 := c_irem (p &&& (2147483647 : Int32)) (7 : Int32) 7 (by decide)
  generalize (p &&& (2147483647 : Int32)) = x at h1 h2 ⊢
  have h3 := h2.1 h1.1
  have r : (x % (7 : Int32)).toInt = 0 ∨ (x % (7 : Int32)).toInt = 1 ∨ (x % (7 : Int32)).toInt = 2 ∨ (x % (7 : Int32)).toInt = 3 ∨ (x % (7 : Int32)).toInt = 4 ∨ (x % (7 : Int32)).toInt = 5 ∨ (x % (7 : Int32)).toInt = 6 := by omega
  rcases r with r | r | r | r | r | r | r
  · exact ⟨0, Int32.toInt_inj.mp (r.trans (by decide))⟩
  · exact ⟨1, Int32.toInt_inj.mp (r.trans (by decide))⟩
  · exact ⟨2, Int32.toInt_inj.mp (r.trans (by decide))⟩
  · exact ⟨3, Int32.toInt_inj.mp (r.trans (by decide))⟩
  · exact ⟨4, Int32.toInt_inj.mp (r.trans (by decide))⟩
  · exact ⟨5, Int32.toInt_inj.mp (r.trans (by decide))⟩
  · exact ⟨6, Int32.toInt_inj.mp (r.trans (by decide))⟩
theorem own_all : ∀ i : Fin 7, ¬ (6 : Int32) < ((nar .byte ((Int32.ofNat i.1).toInt8.toInt32)) &&& (255 : Int32)) ∧ ¬ ((nar .byte ((Int32.ofNat i.1).toInt8.toInt32)) &&& (255 : Int32)) < (0 : Int32) ∧ ((nar .byte ((Int32.ofNat i.1).toInt8.toInt32)) &&& (255 : Int32)) < (128 : Int32) ∧ ((Int32.ofNat i.1) < (6 : Int32) → (own_lt ((2 : Int32) + ((nar .byte ((Int32.ofNat i.1).toInt8.toInt32)) &&& (255 : Int32))) (8 : Int32)) = (1 : Int32)) ∧ (¬ (Int32.ofNat i.1) < (6 : Int32) → (own_lt ((2 : Int32) + ((nar .byte ((Int32.ofNat i.1).toInt8.toInt32)) &&& (255 : Int32))) (8 : Int32)) = (0 : Int32)) ∧ ((0 : Int32) < (Int32.ofNat i.1) → (own_lt (2 : Int32) ((2 : Int32) + ((nar .byte ((Int32.ofNat i.1).toInt8.toInt32)) &&& (255 : Int32)))) = (1 : Int32)) ∧ (¬ (0 : Int32) < (Int32.ofNat i.1) → (own_lt (2 : Int32) ((2 : Int32) + ((nar .byte ((Int32.ofNat i.1).toInt8.toInt32)) &&& (255 : Int32)))) = (0 : Int32)) := by decide +kernel
theorem own_key (p : Int32) : ¬ (6 : Int32) < ((nar .byte (((p &&& (2147483647 : Int32)) % (7 : Int32)).toInt8.toInt32)) &&& (255 : Int32)) ∧ ¬ ((nar .byte (((p &&& (2147483647 : Int32)) % (7 : Int32)).toInt8.toInt32)) &&& (255 : Int32)) < (0 : Int32) ∧ ((nar .byte (((p &&& (2147483647 : Int32)) % (7 : Int32)).toInt8.toInt32)) &&& (255 : Int32)) < (128 : Int32) ∧ (((p &&& (2147483647 : Int32)) % (7 : Int32)) < (6 : Int32) → (own_lt ((2 : Int32) + ((nar .byte (((p &&& (2147483647 : Int32)) % (7 : Int32)).toInt8.toInt32)) &&& (255 : Int32))) (8 : Int32)) = (1 : Int32)) ∧ (¬ ((p &&& (2147483647 : Int32)) % (7 : Int32)) < (6 : Int32) → (own_lt ((2 : Int32) + ((nar .byte (((p &&& (2147483647 : Int32)) % (7 : Int32)).toInt8.toInt32)) &&& (255 : Int32))) (8 : Int32)) = (0 : Int32)) ∧ ((0 : Int32) < ((p &&& (2147483647 : Int32)) % (7 : Int32)) → (own_lt (2 : Int32) ((2 : Int32) + ((nar .byte (((p &&& (2147483647 : Int32)) % (7 : Int32)).toInt8.toInt32)) &&& (255 : Int32)))) = (1 : Int32)) ∧ (¬ (0 : Int32) < ((p &&& (2147483647 : Int32)) % (7 : Int32)) → (own_lt (2 : Int32) ((2 : Int32) + ((nar .byte (((p &&& (2147483647 : Int32)) % (7 : Int32)).toInt8.toInt32)) &&& (255 : Int32)))) = (0 : Int32)) := by
  obtain ⟨i, hi⟩ := own_r7 p
  rw [hi]
  exact own_all i
def own_sg : Lambda.Shape := Lambda.Shape.mk "com/example/waypost/waypost/ber/BerReader$ByteSource" "next" (MethodDescriptor.mk [] (some .int)) [(FieldType.object "com/example/waypost/waypost/ber/BerReader")] 5 "com/example/waypost/waypost/ber/BerReader" "lambda$readHeader$0" (MethodDescriptor.mk [] (some .int)) false (MethodDescriptor.mk [] (some .int))
def own_rh : MethodName := ⟨"com/example/waypost/waypost/ber/BerReader", "readHeader", "(I)I"⟩
def own_ln : MethodName := ⟨"com/example/waypost/waypost/ber/BerReader", "lambda$readHeader$0", "()I"⟩
def own_xi : MethodName := ⟨"com/example/waypost/waypost/ber/BerReader$ByteSource", "next", "()I"⟩
def own_fc : ByteArray := ⟨#[0x2a, 0xb4, 0x00, 0x0f, 0xb6, 0x00, 0x16, 0xac]⟩
theorem own_f0 : decode own_fc 0 = .ok (.aload_n 0, 1) := by decide +kernel
theorem own_f1 : decode own_fc 1 = .ok (.getfield 15, 3) := by decide +kernel
theorem own_f4 : decode own_fc 4 = .ok (.invokevirtual 22, 3) := by decide +kernel
theorem own_f7 : decode own_fc 7 = .ok (.ireturn, 1) := by decide +kernel
theorem own_fwd : fwdOK own_sg "com/example/waypost/waypost/ber/BerReader" own_fc 1 (some .int) 22 19 = true := by decide +kernel
theorem own_cap : capOK own_sg "com/example/waypost/waypost/ber/BerReader" 15 0 = true := by decide +kernel
section OwnLam
variable {p : Program} {l : Launch} {e : Env} {R : Room} {s : State} {m : MethodId} {args : Array Value} {below : List Frame} {meth : Method} {c : Code} {T : State} {locs : List Loc} {cells slots : Nat} {Z : State} {a0 : Array Value} {h : Heap}
theorem own_madeS {cK : ClassId} (hW : Z.WarmedH s.vm) (hmd : LamKit.Made Z "com/example/waypost/waypost/ber/BerReader" own_sg cK) : LamKit.Made s "com/example/waypost/waypost/ber/BerReader" own_sg cK := by
  obtain ⟨d, dk, h1, h2, h3, h4⟩ := hmd
  obtain ⟨dk', k1, k2⟩ := hW.alike.2.2 _ _ h1
  refine ⟨d, dk', k1, by rw [k2]; exact h2, Lambda.isMade_warmer hW h3, ?_⟩
  obtain ⟨i, q1, q2, q3⟩ := State.lambdaCallable_spec h4
  have r1 : s.vm.findClass own_sg.iface = some i := by rw [hW.alike.findClass]; exact q1
  have r2 : s.vm.assignable cK i = true := by rw [hW.alike.assignable]; exact q2
  have r3 : ((cK :: s.vm.superclasses cK).any fun k => (declaredIn s.vm own_sg.name own_sg.sam.toString k).any fun (_, x) => x.isPrivate || x.isStatic) = false := by
    rw [hW.alike.superclasses41]
    simp only [hW.alike.declaredIn]
    exact q3
  simp [State.lambdaCallable, r1, r2, r3]
theorem own_backH {y : MethodName} {bytes : ByteArray} {maxL : Nat} {ret : Option FieldType} {rm : Room} {len W : Nat} {as' : Array Value} {Q : Option Value → Heap → List Loc → Prop}
    (hM : MetFree l y (head1 [Cond.code y bytes maxL ret] rm) (fun a U => a = as' ∧ Z.WarmedH U.vm ∧ U.heap = h) (fun _ _ _ _ _ => True) (fun _ U o U' => ∃ v L, o = .returned v ∧ Q v U'.heap L ∧ FrameEnd U o U' L rm.cells rm.slots))
    (hZ : Z.WarmedH s.vm) (wc : (Cond.code y bytes maxL ret).before a0 Z = true) (wz : (Cond.initialized y.cls).before a0 Z = true) (hf : rm.frames + 1 ≤ R.frames) (hl : W + (maxL + 11) + rm.locals ≤ R.locals) :
    Back l R p e below s args y len W (fun A a => a = as' ∧ A.U.heap = h ∧ A.cells + rm.cells ≤ R.cells ∧ A.slots + rm.slots ≤ R.slots)
      (fun A _ v B => ∃ L, Q v B.U.heap L ∧ B.locs = A.locs ++ L ∧ B.cells = A.cells + rm.cells ∧ B.slots = A.slots + rm.slots) := by
  refine Back.of_free (bytes := bytes) (maxL := maxL) (ret := ret) (E := fun _ _ o t L k n => k = rm.cells ∧ n = rm.slots ∧ ∃ v, o = .returned v ∧ Q v t.heap L) hM hf hl ?_ ?_ ?_ ?_ ?_
  · intro m meth c A a Y hp
    have hU : Z.Warmed39 A.U.vm := (State.WarmedH.trans hZ Y.warmed).wide
    refine ⟨?_, mv hU wc, mv hU wz, hp.2.2.1, hp.2.2.2⟩
    show (Cond.and _ .tt).before a A.U = true
    rw [Cond.before_and, mv hU wc]; rfl
  · intro m meth c A a g mk Y hp
    exact ⟨hp.1, State.WarmedH.trans hZ Y.warmed, hp.2.1⟩
  · intros; trivial
  · intro _ _ _ _ hq
    obtain ⟨v, L, h1, h2, h3⟩ := hq
    exact ⟨L, _, _, h3, rfl, rfl, v, h1, h2⟩
  · intro m meth c A a g mk v t L k n Y hp _ _ hq
    obtain ⟨e1, e2, v', e3, e4⟩ := hq
    cases e3; subst e1 e2
    exact ⟨L, e4, rfl, rfl, rfl⟩
theorem own_lam (X : Stand p l e R s m args below meth c T locs cells slots) (hexec : p.tables.exec = Jvm.exec) (hWZ : Z.WarmedH s.vm) (hw : ∀ d ∈ tables_1, d.before a0 Z = true) (hown : s.vm.findClass "com/example/waypost/waypost/ber/BerReader" = some m.cls)
    {cK : ClassId} (hmd : LamKit.Made Z "com/example/waypost/waypost/ber/BerReader" own_sg cK) {a b : Addr} {cell : Cell} (hcell : T.heap[a]? = some cell) (hcls : cell.cls = cK) (hvmc : cell.vm = .none) (hsl : cell.slots[0]? = some (.ref b)) (eT : T.heap = h) (Eb : Exa Z h b "com/example/waypost/waypost/ber/BerReader")
    {rm : Room} {Q : Option Value → Heap → List Loc → Prop}
    (hM : MetFree l own_ln (head1 [Cond.code own_ln prog_31_method_16_code 1 (some .int)] rm) (fun a U => a = #[.ref b] ∧ Z.WarmedH U.vm ∧ U.heap = h) (fun _ _ _ _ _ => True) (fun _ U o U' => ∃ v L, o = .returned v ∧ Q v U'.heap L ∧ FrameEnd U o U' L rm.cells rm.slots))
    (hout : ∀ v h' L, Q v h' L → ∃ z : Int32, v = some (.int z))
    {g : JFrame} (hg : g.method = m) (hsize : g.locals.size = c.maxLocals) {rest : List Value} (hstack : g.stack = .ref a :: rest) (hdg : decode c.code g.pc = .ok (.invokeinterface 79 1, 5))
    (hfr : rm.frames + 2 ≤ R.frames) (hlo : 2 * g.monitorRoom + (rest.map fun v => v.category).sum + 12 + (12 + rm.locals) ≤ R.locals) (hcells : cells + rm.cells ≤ R.cells) (hslots : slots + rm.slots ≤ R.slots) :
    ∃ (z : Int32) (T' : State) (L : List Loc), Stand p l e R s m args below meth c T' (locs ++ L) (cells + rm.cells) (slots + rm.slots) ∧ Q (some (.int z)) T'.heap L ∧
      ∀ target, Steps p.tables e below (T'.setTop { g with pc := g.pc + 5, stack := .int z :: rest }) target → Steps p.tables e below (T.setTop g) target := by
  have hZ : Z.Warmed39 s.vm := hWZ.wide
  subst hcls
  have hms := own_madeS hWZ hmd
  have hface : (Cond.interfaceMethod own_xi.cls own_xi.cls own_xi.name own_xi.desc).before args s = true := mv hZ (hw _ (List.mem_of_getElem? (i := 49) rfl))
  obtain ⟨kK, methk, hkK, hmk, hpub, habs, hsel⟩ := LamKit.madeSelects hms own_fwd hface ⟨rfl, rfl, by decide⟩
  obtain ⟨r0, r, hn, hrm, hstR, hsigR⟩ := Cond.declares_spec (s := s) (args := args) (mv hZ (hw _ (List.mem_of_getElem? (i := 48) rfl)) : (Cond.declares own_xi).before args s = true)
  obtain ⟨cL, kL, r1, hcL, hkL, hiL, -, -⟩ := Cond.interfaceMethod_spec hface
  have hr0cls : r0.cls = cL := Option.some.inj ((findClass_of_methodNamed hn).symm.trans hcL)
  obtain ⟨hasg, hsel', hway⟩ := hsel r0 r hn hrm
  have hlen0 : ([] : List Value).length = r.sig.parameters.length := by
    have q : parseMethodDescriptor "()I" = some ⟨[], some .int⟩ := by decide +kernel
    rw [← Option.some.inj (q.symm.trans hsigR)]; rfl
  obtain ⟨vm₁, X₁, hstep₁⟩ := X.invokeinterface hexec hown (mv hZ (hw _ (List.mem_of_getElem? (i := 47) rfl)) : (Cond.methodLink "com/example/waypost/waypost/ber/BerReader" 79 own_xi).before args s = true) hn hrm hstR (by rw [hr0cls]; exact hkL) hiL (by decide) (a := a) (cell := cell) (kcell := kK) hcell (fun z h => by rw [hvmc] at h; cases h) hkK hasg
    (m' := ⟨cell.cls, 1⟩) (meth' := methk) (by rw [Launch.admits_selectMethod X.admits]; exact hsel') hmk hway hpub habs hg (argsL := []) (rest := rest) hlen0 hstack hdg
  -- the forwarder
  have hW₁ : Z.WarmedH vm₁ := State.WarmedH.trans hWZ X₁.warmed
  have hmd0 := hmd
  obtain ⟨d, dk, hd, hdn, hmade, -⟩ := hmd
  obtain ⟨kD₁, hkD₁, heD₁⟩ := hW₁.alike.2.2 _ _ hd
  obtain ⟨kF, tk, file, mF, cF, toy, t, nt, hkF, hpn, hfile, hidx, hnt, hmF, hcF, hbF, hmlF, hlkF, -, hretF, htoy, htk, hlook, hready, hclsR⟩ := LamKit.made_static own_fwd hkD₁ (by rw [heD₁]; exact hdn) (Lambda.isMade_warmer hW₁ hmade)
  -- the target
  obtain ⟨mT, methT, hmT, hmethT, hstT, habT⟩ := Cond.instanceMethod_spec (s := Z) (args := a0) ((hw _ (List.mem_of_getElem? (i := 50) rfl)) : (Cond.instanceMethod own_ln).before a0 Z = true)
  have hprT := Cond.privateMethod_at (s := Z) (args := a0) ((hw _ (List.mem_of_getElem? (i := 51) rfl)) : (Cond.privateMethod own_ln).before a0 Z = true) mT methT hmT hmethT
  have hcodeT : (Cond.code own_ln prog_31_method_16_code 1 (some .int)).before a0 Z = true := (hw _ (List.mem_of_getElem? (i := 52) rfl))
  obtain ⟨methT', cT, hmethT', hcT, -, hlocT, -, -, -, hsigT⟩ := Cond.code_spec hmT hcodeT
  cases hmethT.symm.trans hmethT'
  obtain ⟨cB, kB, i1, i2, i3, i4, -⟩ := Cond.instantiable_spec (s := Z) (args := a0) ((hw _ (List.mem_of_getElem? (i := 1) rfl)) : (Cond.instantiable "com/example/waypost/waypost/ber/BerReader" 3).before a0 Z = true)
  have hfT : Z.vm.findClass "com/example/waypost/waypost/ber/BerReader" = some mT.cls := findClass_of_methodNamed hmT
  cases i1.symm.trans hfT
  have hfT₁ : vm₁.findClass own_sg.implClass = some mT.cls := by rw [hW₁.alike.findClass]; exact hfT
  cases htoy.symm.trans hfT₁
  obtain ⟨kB₁, hkB₁, heB₁⟩ := hW₁.alike.2.2 _ _ i2
  cases htk.symm.trans hkB₁
  have hitf : tk.isInterface = false := by
    have q : tk.isInterface = kB.isInterface := by rw [heB₁]; rfl
    rw [q]; simp only [Bool.or_eq_false_iff] at i4; exact i4.1
  have ht : t = mT := by
    have h1 : (Z.setVm vm₁).methodFound? own_ln.cls own_ln.name own_ln.desc = some mT := by rw [State.methodFound?_setVm hW₁.alike]; exact State.methodFound?_of_named hmT (by decide)
    have e1 : own_sg.implDesc.toString = "()I" := by decide
    have e2 : vm₁.findClass own_ln.cls = some mT.cls := hfT₁
    simp only [State.methodFound?, State.vm_setVm, e2, htk, Option.bind_eq_bind, Option.bind_some] at h1
    rw [e1] at hlook
    have e3 : ((methodIn mT.cls own_ln.name own_ln.desc tk.isInterface none).ask { classPath := fun _ => none } vm₁).1 = .ok t := hlook
    rw [e3] at h1
    exact Option.some.inj h1
  subst ht
  have hmethT₁ : vm₁.method? t = some methT := by rw [hW₁.alike.method?]; exact hmethT
  have hsp : signaturePolymorphic tk methT = false := by
    have q : tk.name = "com/example/waypost/waypost/ber/BerReader" := by
      obtain ⟨kz, z1, z2⟩ := Vm.findClass_spec hfT
      cases i2.symm.trans z1
      rw [heB₁]; exact z2
    simp [signaturePolymorphic, q]
  have hpk : (T.setVm vm₁).plainMethod ⟨cell.cls, 1⟩ := State.plainMethod.of_name (fun k' hk' => by cases hkF.symm.trans hk'; exact hpn)
  obtain ⟨Y₀, hin⟩ := X₁.into (g := { g with stack := rest }) hg hsize hdg #[.ref a] (R' := { frames := rm.frames + 1, cells := rm.cells, slots := rm.slots, locals := 12 + rm.locals }) hmF hcF hlkF hpk (by show rm.frames + 1 + 1 ≤ _; exact hfr) (by rw [hmlF]; exact hlo) hcells hslots
  have hef : entryFrame ⟨cell.cls, 1⟩ #[.ref a] cF.maxLocals = mkF ⟨cell.cls, 1⟩ 0 #[.val (.ref a)] [] := by rw [hmlF]; rfl
  rw [hef] at Y₀ hin
  generalize hU : ((T.setVm vm₁).setTop { g with stack := rest }).pushFrame (.java (mkF ⟨cell.cls, 1⟩ 0 #[.val (.ref a)] [])) = U at Y₀ hin
  have hvmU : U.vm = vm₁ := by rw [← hU]; rfl
  have hheapU : U.heap = T.heap := by rw [← hU]; rfl
  generalize hs' : (T.setVm vm₁).calling { g with stack := rest } ⟨cell.cls, 1⟩ #[.ref a] = s' at Y₀
  have hvm' : s'.vm = vm₁ := by rw [← hs']; rfl
  have hK := own_backH (p := p) (e := e) (below := .java { g with stack := rest } :: below) (args := #[.ref a]) (len := 3) (W := 0) (R := { frames := rm.frames + 1, cells := rm.cells, slots := rm.slots, locals := 12 + rm.locals }) (s := s') hM (by rw [hvm']; exact hW₁) hcodeT (hw _ (List.mem_of_getElem? (i := 2) rfl)) (Nat.le_refl _) (by show 0 + 12 + rm.locals ≤ 12 + rm.locals; omega)
  have hnamedU : U.methodNamed? own_ln = some t := by
    have q : (Z.setVm vm₁).methodNamed? own_ln = some t := by rw [State.methodNamed?_setVm hW₁.alike]; exact hmT
    rw [← hU]; exact q
  obtain ⟨v, ⟨U', ls, cc, sl⟩, Y₁, ⟨L, hq, hl, hc, hs⟩, hsteps⟩ := hK ⟨cell.cls, 1⟩ mF cF ⟨U, [], 0, 0⟩ (mkF ⟨cell.cls, 1⟩ 4 #[.val (.ref a)] []) (.invokevirtual 22) t #[.ref b] Y₀ rfl (by rw [hmlF]; rfl) (by rw [hbF]; exact own_f4) (Nat.le_refl _) hnamedU
    ⟨rfl, hheapU.trans eT, Nat.le_of_eq (Nat.zero_add _), Nat.le_of_eq (Nat.zero_add _)⟩
  dsimp only [Pt.U, Pt.locs, Pt.cells, Pt.slots] at Y₁ hq hl hc hs hsteps
  subst hl; subst hc; subst hs
  obtain ⟨z, rfl⟩ := hout _ _ _ hq
  obtain ⟨fs, hleave, -, hended, hWe, hsame⟩ := Y₁.leave (v := some (.int z)) (fun h => by rw [hretF] at h; cases h) hlkF
  subst hs'
  obtain ⟨T', X', -, -, ht⟩ := X₁.outOf (g := { g with stack := rest }) hg hdg hended hWe hsame
  have hheap' : T'.heap = U'.heap := by
    have q : (U'.setFrames fs).heap = (T'.setTop { g with pc := g.pc + 5, stack := (some (Value.int z)).toList ++ rest }).heap := congrArg State.heap ht
    exact (show T'.heap = U'.heap from q.symm)
  refine ⟨z, T', ls, by simpa using X', by rw [hheap']; exact hq, fun target k => hstep₁ _ fun acts => ?_⟩
  rw [hin acts]
  refine Steps.trans ?_ k
  show Steps p.tables e below _ (T'.setTop { g with pc := g.pc + 5, stack := (some (Value.int z)).toList ++ rest })
  rw [← ht]
  refine Steps.weaken (mid := [.java { g with stack := rest }]) ?_
  refine XS.aloadN Y₀.here hexec rfl (hb hbF own_f0) rfl rfl ?_
  have hWU : Z.WarmedH U.vm := by rw [hvmU]; exact hW₁
  refine LamKit.getCap (s := Z) (args := a0) (fi := 15) (i := 0) hexec Y₀.here hWU hmd0 own_cap (hw _ (List.mem_of_getElem? (i := 43) rfl)) (a := a) (cell := cell) (v := .ref b) (by rw [hheapU]; exact hcell) hvmc hsl (g := mkF ⟨cell.cls, 1⟩ 1 #[.val (.ref a)] [.ref a]) rfl (rest := []) rfl (hb hbF own_f1) ?_
  obtain ⟨cellB, kcB, b1, b2, b3, b4, -⟩ := Eb
  have hpar : ([] : List Value).length = methT.sig.parameters.length := by
    have q : parseMethodDescriptor "()I" = some ⟨[], some .int⟩ := by decide +kernel
    rw [← Option.some.inj (q.symm.trans hsigT)]; rfl
  have hsU : U.topJava?.isSome := Y₀.here.top
  have hd4 : decode cF.code 4 = .ok (.invokevirtual 22, 3) := hb hbF own_f4
  show Steps p.tables e (.java { g with stack := rest } :: below) (U.setTop (mkF ⟨cell.cls, 1⟩ 4 #[.val (.ref a)] [.ref b])) _
  jvm_step Y₀.here [hexec, hd4, invokevirtual.wp_ready (e := e) (s := U) (r := t) (m := t) (k := tk) (mk := tk) (rmeth := methT) (meth := methT) (a := b) (args := []) (rest := []) (cell := cellB)
    (f := mkF ⟨cell.cls, 1⟩ 4 #[.val (.ref a)] [.ref b]) hsU ⟨kF, file, 19, nt, t.cls, tk, by rw [hvmU]; exact hkF, hfile, hidx, by rw [hvmU]; exact hclsR, by rw [hvmU]; exact htk, hitf⟩ (by rw [hvmU]; exact hready) (by rw [hvmU]; exact htk) (by rw [hvmU]; exact hmethT₁) hsp hstT hpar rfl
    (by rw [hheapU, eT]; exact b1) (fun q h => by rw [h] at b4; cases b4) (by rw [hvmU]; exact selectMethod_private hmethT₁ hprT) (by rw [hvmU]; exact hmethT₁) habT (by rw [hvmU]; exact htk) hitf]
  intro acts'
  rw [doInvoke_state]
  refine hsteps.trans ?_
  exact retI Y₁ hexec hretF (hb hbF own_f7) hleave
theorem own_make (X : Stand p l e R s m args below meth c T locs cells slots) (hexec : p.tables.exec = Jvm.exec) (hWZ : Z.WarmedH s.vm) (hw : ∀ d ∈ tables_1, d.before a0 Z = true) (hnamed : s.methodNamed? own_rh = some m)
    {g : JFrame} (hg : g.method = m) (hpc : g.pc = 27) (hsize : g.locals.size = c.maxLocals) (hdg : decode c.code g.pc = .ok (.invokedynamic 132, 5)) {b : Addr} {rest : List Value} (hstack : g.stack = .ref b :: rest)
    (hwords : 2 * g.monitorRoom + (g.stack.map fun v => v.category).sum + 3072 ≤ R.locals) (hcells : cells + 1 ≤ R.cells) (hslots : slots + 1 ≤ R.slots) (eT : T.heap = h) :
    ∃ (cK : ClassId) (T' : State) (h' : Heap), LamKit.Made Z "com/example/waypost/waypost/ber/BerReader" own_sg cK ∧ Stand p l e R s m args below meth c T' locs (cells + 1) (slots + 1) ∧ T'.heap = h' ∧ Ext h h' ∧ (∃ cell : Cell, h'[h.size]? = some cell ∧ cell.cls = cK ∧ cell.vm = .none ∧ cell.slots[0]? = some (.ref b)) ∧
      ∀ target, Steps p.tables e below (T'.setTop { g with pc := g.pc + 5, stack := .ref h.size :: rest }) target → Steps p.tables e below (T.setTop g) target := by
  obtain ⟨cK, one, hat⟩ := Cond.lambdaSite_spec (s := Z) (args := a0) ((hw _ (List.mem_of_getElem? (i := 40) rfl)) : (Cond.lambdaSite own_rh 27 132 own_sg).before a0 Z = true)
  obtain ⟨mD, kD, cfD, i0, p0, lk, hmD, hkD, hcfD, hsh, -, hfind, hmade, hcan, hl⟩ := State.lambdaAt?_spec hat
  have hmD' : s.methodNamed? own_rh = some mD := by
    have q : (Z.setVm s.vm).methodNamed? own_rh = some mD := by rw [State.methodNamed?_setVm hWZ.alike]; exact hmD
    exact q
  cases hnamed.symm.trans hmD'
  obtain ⟨kz, z1, z2⟩ := className_of_methodNamed hmD
  cases hkD.symm.trans z1
  obtain ⟨kS, hkS, heS⟩ := hWZ.alike.2.2 _ _ hkD
  have hmd : LamKit.Made Z "com/example/waypost/waypost/ber/BerReader" own_sg cK := ⟨_, kD, hkD, z2, hmade, hcan⟩
  rcases hl with ⟨a, cell, -, -, hc0, -⟩ | ⟨rfl, -, -⟩
  · exact absurd hc0 (by decide)
  obtain ⟨bs, nt, desc, site, h1, h2, h3, h4⟩ := Lambda.shapeOf?_site hsh
  have hnameS : kS.name = "com/example/waypost/waypost/ber/BerReader" := by rw [heS]; exact z2
  obtain ⟨kc, f, hkc, hkind, hty, -⟩ := LamKit.made_cap own_cap hkS hnameS (Lambda.isMade_warmer hWZ hmade) (LamKit.noFields (hw _ (List.mem_of_getElem? (i := 43) rfl)) hWZ)
  have hz : ((kc.instanceTypes.toList.zip [Value.ref b]).map fun (t, v) => narrow t v) = [.ref b] := by rw [hty]; rfl
  have hww : e.platform.lambdaLinkWords = 3072 := by rw [X.admits.platform]
  have q := X.lambdaMakes hexec hg hsize hdg (vals := [.ref b]) (rest := rest) hkS (i0 := i0) (p0 := p0) (cK := cK) (by rw [hpc, heS]; exact hfind) (by rw [heS]; exact hcfD) h1 h2 (parseLong_of_parse h3) (by rw [h4]; rfl) hstack hkc (by rw [hww]; exact hwords) hcells (by rw [hz]; exact hslots)
    (fun i v hv => by
      rw [hz] at hv
      match i, hv with
      | 0, hv =>
        have e : v = .ref b := by simpa using hv.symm
        subst e
        simp [State.fitsSlot, State.slotType?, hkc, hkind, hty, own_sg, fits]
      | n + 1, hv => simp at hv)
  rw [hz] at q
  subst eT
  refine ⟨cK, _, _, hmd, q.1, rfl, ⟨by show T.heap.size ≤ (T.heap.push _).size; simp, fun a c h => ?_⟩, ⟨{ cls := cK, slots := #[.ref b], vm := .none }, by show (T.heap.push _)[T.heap.size]? = _; simp, rfl, rfl, rfl⟩, q.2⟩
  show (T.heap.push _)[a]? = _
  rw [Array.getElem?_push_lt (Array.getElem?_eq_some_iff.mp h).1]; exact (Array.getElem?_eq_getElem _).symm.trans h
end OwnLam
theorem d2_0 : decode prog_31_method_2_code 0 = .ok (.aload_n 0, 1) := by decide +kernel
theorem d2_1 : decode prog_31_method_2_code 1 = .ok (.invokespecial 7, 3) := by decide +kernel
theorem d2_4 : decode prog_31_method_2_code 4 = .ok (.aload_n 0, 1) := by decide +kernel
theorem d2_5 : decode prog_31_method_2_code 5 = .ok (.aload_n 1, 1) := by decide +kernel
theorem d2_6 : decode prog_31_method_2_code 6 = .ok (.putfield 12, 3) := by decide +kernel
theorem d2_9 : decode prog_31_method_2_code 9 = .ok (.aload_n 0, 1) := by decide +kernel
theorem d2_10 : decode prog_31_method_2_code 10 = .ok (.iload_n 2, 1) := by decide +kernel
theorem d2_11 : decode prog_31_method_2_code 11 = .ok (.putfield 16, 3) := by decide +kernel
theorem d2_14 : decode prog_31_method_2_code 14 = .ok (.aload_n 0, 1) := by decide +kernel
theorem d2_15 : decode prog_31_method_2_code 15 = .ok (.iload_n 3, 1) := by decide +kernel
theorem d2_16 : decode prog_31_method_2_code 16 = .ok (.putfield 20, 3) := by decide +kernel
theorem d2_19 : decode prog_31_method_2_code 19 = .ok (.return_, 1) := by decide +kernel
theorem pn_2 : plainName "com/example/waypost/waypost/ber/BerReader" = true := by first | (simp [plainName, overriddenIn]; done) | decide +kernel
theorem ef_2 (m : MethodId) (a1 : Addr) (a2 : Addr) (p3 : Int32) (p4 : Int32) : entryFrame m #[(.ref a1), (.ref a2), (.int p3), (.int p4)] 4 = mkF m 0 #[.val (.ref a1), .val (.ref a2), .val (.int p3), .val (.int p4)] [] := by first | (simp [entryFrame, mkF, argsToLocals, Value.category]; done) | rfl
def Q2 (Z : State) (a1 : Addr) (a2 : Addr) (p3 : Int32) (p4 : Int32) (h0 : Heap) (n0 : Nat) (v : Option Value) (h : Heap) (L : List Loc) : Prop := (v = none) ∧ (Fr n0 L) ∧ (Keep h0 h [a1]) ∧ (Fld Z h a1 "com/example/waypost/waypost/ber/BerReader" "buffer" "[B" (.ref a2)) ∧ (Fld Z h a1 "com/example/waypost/waypost/ber/BerReader" "position" "I" (.int p3)) ∧ (Fld Z h a1 "com/example/waypost/waypost/ber/BerReader" "end" "I" (.int p4))
set_option maxRecDepth 65536 in
set_option maxHeartbeats 40000000 in
theorem rm2 (l : Launch) (Z : State) (a0 : Array Value) (hw : ∀ d ∈ tables_1, d.before a0 Z = true) (ws : List Jvm.Cond) (a1 : Addr) (a2 : Addr) (p3 : Int32) (p4 : Int32) (h0 : Heap) (n0 : Nat) (Z0 : n0 ≤ h0.size) (E_a1 : Exa Z h0 a1 "com/example/waypost/waypost/ber/BerReader") (F_buffer_a1 : Fld Z h0 a1 "com/example/waypost/waypost/ber/BerReader" "buffer" "[B" .null) (F_position_a1 : Fld Z h0 a1 "com/example/waypost/waypost/ber/BerReader" "position" "I" (.int (0 : Int32))) (F_end_a1 : Fld Z h0 a1 "com/example/waypost/waypost/ber/BerReader" "end" "I" (.int (0 : Int32))) (g_a1 : n0 ≤ a1) :
    MetFree l (⟨"com/example/waypost/waypost/ber/BerReader", "<init>", "([BII)V"⟩ : MethodName) (head1 (Jvm.Cond.code (⟨"com/example/waypost/waypost/ber/BerReader", "<init>", "([BII)V"⟩ : MethodName) prog_31_method_2_code 4 none :: ws) ({ frames := 1, cells := 0, slots := 0, locals := 12 } : Room)) (fun a U => a = #[(.ref a1), (.ref a2), (.int p3), (.int p4)] ∧ Z.WarmedH U.vm ∧ U.heap = h0) (fun _ _ _ _ _ => True) (fun _ U o U' => ∃ v L, o = .returned v ∧ Q2 Z a1 a2 p3 p4 h0 n0 v U'.heap L ∧ FrameEnd U o U' L ({ frames := 1, cells := 0, slots := 0, locals := 12 } : Room).cells ({ frames := 1, cells := 0, slots := 0, locals := 12 } : Room).slots) := by
  refine MetFree.of_bodySF (plainFor_of_name pn_2) hisR ?_
  intro p e s m args below meth c s₁ Bd hml0 hP hK
  obtain ⟨rfl, hZH, hh⟩ := hP
  have hZ := hZH.wide
  have hx := Bd.exec
  have hby := Bd.bytes
  have hml : c.maxLocals = 4 := hml0
  have hown : s.vm.findClass "com/example/waypost/waypost/ber/BerReader" = some m.cls := findClass_of_methodNamed Bd.named
  have hnm := (name_of_methodNamed Bd.named Bd.method).1
  have X0 : Stand p l e ({ frames := 1, cells := 0, slots := 0, locals := 12 } : Room) s m #[(.ref a1), (.ref a2), (.int p3), (.int p4)] below meth c s₁ [] 0 0 := Stand.of_body Bd
  have e0 : s₁.heap = h0 := by rw [← hh, Bd.state]; rfl
  have N0 := Fr.nil n0
  refine own_of (S := s₁.setTop (entryFrame m #[(.ref a1), (.ref a2), (.int p3), (.int p4)] 4)) (S' := s₁.setTop (mkF m 0 #[.val (.ref a1), .val (.ref a2), .val (.int p3), .val (.int p4)] [])) (K := fun s₂ o => ∃ v L, o = .returned v ∧ Q2 Z a1 a2 p3 p4 h0 n0 v s₂.heap L ∧ FrameEnd s o s₂ L ({ frames := 1, cells := 0, slots := 0, locals := 12 } : Room).cells ({ frames := 1, cells := 0, slots := 0, locals := 12 } : Room).slots) (fun t k => castTop (ef_2 m a1 a2 p3 p4) k) ?_
  refine own_nameK fun K hKd => ?_
  refine own_of (S' := s₁.setTop (mkF m 1 #[.val (.ref a1), .val (.ref a2), .val (.int p3), .val (.int p4)] [(.ref a1)])) (fun t k => XS.aloadN X0.here hx rfl (hb hby d2_0) rfl rfl k) ?_
  obtain ⟨T1, X1, e1, st1⟩ := initO X0 hx hZ hown (hw _ (List.mem_of_getElem? (i := 10) rfl)) (hw _ (List.mem_of_getElem? (i := 11) rfl)) (hw _ (List.mem_of_getElem? (i := 12) rfl)) e0 (g := (mkF m 1 #[.val (.ref a1), .val (.ref a2), .val (.int p3), .val (.int p4)] [(.ref a1)])) rfl (by rw [hml]; rfl) rfl (hb hby d2_1) (by decide) (W := 0) (by show 2 * 0 + _ ≤ _; exact Nat.le_of_eq rfl) (by decide)
  refine own_of (S' := T1.setTop (mkF m 4 #[.val (.ref a1), .val (.ref a2), .val (.int p3), .val (.int p4)] [])) st1 ?_
  refine own_of (S' := T1.setTop (mkF m 5 #[.val (.ref a1), .val (.ref a2), .val (.int p3), .val (.int p4)] [(.ref a1)])) (fun t k => XS.aloadN X1.here hx rfl (hb hby d2_4) rfl rfl k) ?_
  refine own_of (S' := T1.setTop (mkF m 6 #[.val (.ref a1), .val (.ref a2), .val (.int p3), .val (.int p4)] [(.ref a2), (.ref a1)])) (fun t k => XS.aloadN X1.here hx rfl (hb hby d2_5) rfl rfl k) ?_
  obtain ⟨T2, h2, X2, e2, W2, st2⟩ := putF X1 hx hZ hown (host := "") (Or.inl (hw _ (List.mem_of_getElem? (i := 13) rfl))) Via.refl e1 F_buffer_a1 E_a1 (Or.inr ⟨(hw _ (List.mem_of_getElem? (i := 14) rfl)), rfl, hnm⟩) (hw _ (List.mem_of_getElem? (i := 1) rfl)) (ty := (.array .byte)) (by decide) rfl rfl (g := (mkF m 6 #[.val (.ref a1), .val (.ref a2), .val (.int p3), .val (.int p4)] [(.ref a2), (.ref a1)])) rfl rfl (hb hby d2_6)
  have N2 := Fr.snoc X2 N0 g_a1
  have Fw_buffer_2 : Fld Z h2 a1 "com/example/waypost/waypost/ber/BerReader" "buffer" "[B" (.ref a2) := F_buffer_a1.same W2
  refine own_of (S' := T2.setTop (mkF m 9 #[.val (.ref a1), .val (.ref a2), .val (.int p3), .val (.int p4)] [])) st2 ?_
  refine own_of (S' := T2.setTop (mkF m 10 #[.val (.ref a1), .val (.ref a2), .val (.int p3), .val (.int p4)] [(.ref a1)])) (fun t k => XS.aloadN X2.here hx rfl (hb hby d2_9) rfl rfl k) ?_
  refine own_of (S' := T2.setTop (mkF m 11 #[.val (.ref a1), .val (.ref a2), .val (.int p3), .val (.int p4)] [(.int p3), (.ref a1)])) (fun t k => XS.iloadN X2.here hx rfl (hb hby d2_10) rfl k) ?_
  have E_a1_t3 : Exa Z h2 a1 "com/example/waypost/waypost/ber/BerReader" := (E_a1.wr W2)
  have F_position_a1_t4 : Fld Z h2 a1 "com/example/waypost/waypost/ber/BerReader" "position" "I" (.int (0 : Int32)) := (F_position_a1.other W2 (Or.inr (slot_ne (Or.inl (hw _ (List.mem_of_getElem? (i := 16) rfl))) (Or.inr (hw _ (List.mem_of_getElem? (i := 14) rfl))) (by decide) (t := .int) (t' := (.array .byte)) (by decide) (by decide))))
  obtain ⟨T5, h5, X5, e5, W5, st5⟩ := putF X2 hx hZ hown (host := "") (Or.inl (hw _ (List.mem_of_getElem? (i := 15) rfl))) Via.refl e2 F_position_a1_t4 E_a1_t3 (Or.inl (hw _ (List.mem_of_getElem? (i := 16) rfl))) (hw _ (List.mem_of_getElem? (i := 1) rfl)) (ty := .int) (by decide) rfl rfl (g := (mkF m 11 #[.val (.ref a1), .val (.ref a2), .val (.int p3), .val (.int p4)] [(.int p3), (.ref a1)])) rfl rfl (hb hby d2_11)
  have N5 := Fr.snoc X5 N2 g_a1
  have Fw_position_5 : Fld Z h5 a1 "com/example/waypost/waypost/ber/BerReader" "position" "I" (.int p3) := F_position_a1_t4.same W5
  refine own_of (S' := T5.setTop (mkF m 14 #[.val (.ref a1), .val (.ref a2), .val (.int p3), .val (.int p4)] [])) st5 ?_
  refine own_of (S' := T5.setTop (mkF m 15 #[.val (.ref a1), .val (.ref a2), .val (.int p3), .val (.int p4)] [(.ref a1)])) (fun t k => XS.aloadN X5.here hx rfl (hb hby d2_14) rfl rfl k) ?_
  refine own_of (S' := T5.setTop (mkF m 16 #[.val (.ref a1), .val (.ref a2), .val (.int p3), .val (.int p4)] [(.int p4), (.ref a1)])) (fun t k => XS.iloadN X5.here hx rfl (hb hby d2_15) rfl k) ?_
  have E_a1_t6 : Exa Z h5 a1 "com/example/waypost/waypost/ber/BerReader" := (E_a1_t3.wr W5)
  have F_end_a1_t7 : Fld Z h2 a1 "com/example/waypost/waypost/ber/BerReader" "end" "I" (.int (0 : Int32)) := (F_end_a1.other W2 (Or.inr (slot_ne (Or.inr (hw _ (List.mem_of_getElem? (i := 18) rfl))) (Or.inr (hw _ (List.mem_of_getElem? (i := 14) rfl))) (by decide) (t := .int) (t' := (.array .byte)) (by decide) (by decide))))
  have F_end_a1_t8 : Fld Z h5 a1 "com/example/waypost/waypost/ber/BerReader" "end" "I" (.int (0 : Int32)) := (F_end_a1_t7.other W5 (Or.inr (slot_ne (Or.inr (hw _ (List.mem_of_getElem? (i := 18) rfl))) (Or.inl (hw _ (List.mem_of_getElem? (i := 16) rfl))) (by decide) (t := .int) (t' := .int) (by decide) (by decide))))
  obtain ⟨T9, h9, X9, e9, W9, st9⟩ := putF X5 hx hZ hown (host := "") (Or.inl (hw _ (List.mem_of_getElem? (i := 17) rfl))) Via.refl e5 F_end_a1_t8 E_a1_t6 (Or.inr ⟨(hw _ (List.mem_of_getElem? (i := 18) rfl)), rfl, hnm⟩) (hw _ (List.mem_of_getElem? (i := 1) rfl)) (ty := .int) (by decide) rfl rfl (g := (mkF m 16 #[.val (.ref a1), .val (.ref a2), .val (.int p3), .val (.int p4)] [(.int p4), (.ref a1)])) rfl rfl (hb hby d2_16)
  have N9 := Fr.snoc X9 N5 g_a1
  have Fw_end_9 : Fld Z h9 a1 "com/example/waypost/waypost/ber/BerReader" "end" "I" (.int p4) := F_end_a1_t8.same W9
  refine own_of (S' := T9.setTop (mkF m 19 #[.val (.ref a1), .val (.ref a2), .val (.int p3), .val (.int p4)] [])) st9 ?_
  obtain ⟨fs, hr, hrun, hended, hW, hsame⟩ := X9.leave (v := none) (fun _ => rfl)
  have KK10 : Keep h0 h0 [a1] := Keep.refl _ _
  have KK11 : Keep h0 h2 [a1] := KK10.wr W2 (Or.inl (List.mem_of_getElem? (i := 0) rfl))
  have KK12 : Keep h0 h5 [a1] := KK11.wr W5 (Or.inl (List.mem_of_getElem? (i := 0) rfl))
  have KK13 : Keep h0 h9 [a1] := KK12.wr W9 (Or.inl (List.mem_of_getElem? (i := 0) rfl))
  have Fw_buffer_2_t14 : Fld Z h5 a1 "com/example/waypost/waypost/ber/BerReader" "buffer" "[B" (.ref a2) := (Fw_buffer_2.other W5 (Or.inr (slot_ne (Or.inr (hw _ (List.mem_of_getElem? (i := 14) rfl))) (Or.inl (hw _ (List.mem_of_getElem? (i := 16) rfl))) (by decide) (t := (.array .byte)) (t' := .int) (by decide) (by decide))))
  have Fw_buffer_2_t15 : Fld Z h9 a1 "com/example/waypost/waypost/ber/BerReader" "buffer" "[B" (.ref a2) := (Fw_buffer_2_t14.other W9 (Or.inr (slot_ne (Or.inr (hw _ (List.mem_of_getElem? (i := 14) rfl))) (Or.inr (hw _ (List.mem_of_getElem? (i := 18) rfl))) (by decide) (t := (.array .byte)) (t' := .int) (by decide) (by decide))))
  have Fw_position_5_t16 : Fld Z h9 a1 "com/example/waypost/waypost/ber/BerReader" "position" "I" (.int p3) := (Fw_position_5.other W9 (Or.inr (slot_ne (Or.inl (hw _ (List.mem_of_getElem? (i := 16) rfl))) (Or.inr (hw _ (List.mem_of_getElem? (i := 18) rfl))) (by decide) (t := .int) (t' := .int) (by decide) (by decide))))
  subst hKd
  exact ⟨_, _, X9.returnOut hx Bd.returns (hb hby d2_19) hr, hrun, hended, _, _, rfl, (by
    show Q2 Z a1 a2 p3 p4 h0 n0 _ T9.heap _
    rw [show T9.heap = h9 from e9]
    exact ⟨rfl, N9, KK13, Fw_buffer_2_t15, Fw_position_5_t16, Fw_end_9⟩), ⟨_, rfl⟩, hW, hsame.mono (by decide) (by decide)⟩
theorem d1_0 : decode prog_31_method_1_code 0 = .ok (.aload_n 0, 1) := by decide +kernel
theorem d1_1 : decode prog_31_method_1_code 1 = .ok (.aload_n 1, 1) := by decide +kernel
theorem d1_2 : decode prog_31_method_1_code 2 = .ok (.iconst 0, 1) := by decide +kernel
theorem d1_3 : decode prog_31_method_1_code 3 = .ok (.aload_n 1, 1) := by decide +kernel
theorem d1_4 : decode prog_31_method_1_code 4 = .ok (.arraylength, 1) := by decide +kernel
theorem d1_5 : decode prog_31_method_1_code 5 = .ok (.invokespecial 1, 3) := by decide +kernel
theorem d1_8 : decode prog_31_method_1_code 8 = .ok (.return_, 1) := by decide +kernel
theorem pn_1 : plainName "com/example/waypost/waypost/ber/BerReader" = true := by first | (simp [plainName, overriddenIn]; done) | decide +kernel
theorem pd1_0 : parseMethodDescriptor "([BII)V" = some ⟨[(.array .byte), .int, .int], none⟩ := by decide +kernel
theorem ef_1 (m : MethodId) (a1 : Addr) (a2 : Addr) : entryFrame m #[(.ref a1), (.ref a2)] 2 = mkF m 0 #[.val (.ref a1), .val (.ref a2)] [] := by first | (simp [entryFrame, mkF, argsToLocals, Value.category]; done) | rfl
def Q1 (Z : State) (a1 : Addr) (a2 : Addr) (n : Nat) (z : Int32) (fb : Nat → Value) (h0 : Heap) (n0 : Nat) (v : Option Value) (h : Heap) (L : List Loc) : Prop := (v = none) ∧ (Fr n0 L) ∧ (Keep h0 h [a1]) ∧ (Fld Z h a1 "com/example/waypost/waypost/ber/BerReader" "buffer" "[B" (.ref a2)) ∧ (Fld Z h a1 "com/example/waypost/waypost/ber/BerReader" "position" "I" (.int (0 : Int32))) ∧ (Fld Z h a1 "com/example/waypost/waypost/ber/BerReader" "end" "I" (.int z))
set_option maxRecDepth 65536 in
set_option maxHeartbeats 40000000 in
theorem rm1 (l : Launch) (Z : State) (a0 : Array Value) (hw : ∀ d ∈ tables_1, d.before a0 Z = true) (ws : List Jvm.Cond) (a1 : Addr) (a2 : Addr) (n : Nat) (z : Int32) (fb : Nat → Value) (h0 : Heap) (n0 : Nat) (Z0 : n0 ≤ h0.size) (E_a1 : Exa Z h0 a1 "com/example/waypost/waypost/ber/BerReader") (F_buffer_a1 : Fld Z h0 a1 "com/example/waypost/waypost/ber/BerReader" "buffer" "[B" .null) (F_position_a1 : Fld Z h0 a1 "com/example/waypost/waypost/ber/BerReader" "position" "I" (.int (0 : Int32))) (F_end_a1 : Fld Z h0 a1 "com/example/waypost/waypost/ber/BerReader" "end" "I" (.int (0 : Int32))) (g_a1 : n0 ≤ a1) (V_a2 : own_Ar Z h0 a2 .byte n fb) (hz : Nat.toInt32 n = z) :
    MetFree l (⟨"com/example/waypost/waypost/ber/BerReader", "<init>", "([B)V"⟩ : MethodName) (head1 (Jvm.Cond.code (⟨"com/example/waypost/waypost/ber/BerReader", "<init>", "([B)V"⟩ : MethodName) prog_31_method_1_code 2 none :: ws) ({ frames := 2, cells := 0, slots := 0, locals := 27 } : Room)) (fun a U => a = #[(.ref a1), (.ref a2)] ∧ Z.WarmedH U.vm ∧ U.heap = h0) (fun _ _ _ _ _ => True) (fun _ U o U' => ∃ v L, o = .returned v ∧ Q1 Z a1 a2 n z fb h0 n0 v U'.heap L ∧ FrameEnd U o U' L ({ frames := 2, cells := 0, slots := 0, locals := 27 } : Room).cells ({ frames := 2, cells := 0, slots := 0, locals := 27 } : Room).slots) := by
  refine MetFree.of_bodySF (plainFor_of_name pn_1) hisR ?_
  intro p e s m args below meth c s₁ Bd hml0 hP hK
  obtain ⟨rfl, hZH, hh⟩ := hP
  have hZ := hZH.wide
  have hx := Bd.exec
  have hby := Bd.bytes
  have hml : c.maxLocals = 2 := hml0
  have hown : s.vm.findClass "com/example/waypost/waypost/ber/BerReader" = some m.cls := findClass_of_methodNamed Bd.named
  have hnm := (name_of_methodNamed Bd.named Bd.method).1
  have X0 : Stand p l e ({ frames := 2, cells := 0, slots := 0, locals := 27 } : Room) s m #[(.ref a1), (.ref a2)] below meth c s₁ [] 0 0 := Stand.of_body Bd
  have e0 : s₁.heap = h0 := by rw [← hh, Bd.state]; rfl
  have N0 := Fr.nil n0
  refine own_of (S := s₁.setTop (entryFrame m #[(.ref a1), (.ref a2)] 2)) (S' := s₁.setTop (mkF m 0 #[.val (.ref a1), .val (.ref a2)] [])) (K := fun s₂ o => ∃ v L, o = .returned v ∧ Q1 Z a1 a2 n z fb h0 n0 v s₂.heap L ∧ FrameEnd s o s₂ L ({ frames := 2, cells := 0, slots := 0, locals := 27 } : Room).cells ({ frames := 2, cells := 0, slots := 0, locals := 27 } : Room).slots) (fun t k => castTop (ef_1 m a1 a2) k) ?_
  refine own_nameK fun K hKd => ?_
  refine own_of (S' := s₁.setTop (mkF m 1 #[.val (.ref a1), .val (.ref a2)] [(.ref a1)])) (fun t k => XS.aloadN X0.here hx rfl (hb hby d1_0) rfl rfl k) ?_
  refine own_of (S' := s₁.setTop (mkF m 2 #[.val (.ref a1), .val (.ref a2)] [(.ref a2), (.ref a1)])) (fun t k => XS.aloadN X0.here hx rfl (hb hby d1_1) rfl rfl k) ?_
  refine own_of (S' := s₁.setTop (mkF m 3 #[.val (.ref a1), .val (.ref a2)] [(.int (0 : Int32)), (.ref a2), (.ref a1)])) (fun t k => XS.iconst X0.here hx rfl (hb hby d1_2) k) ?_
  refine own_of (S' := s₁.setTop (mkF m 4 #[.val (.ref a1), .val (.ref a2)] [(.ref a2), (.int (0 : Int32)), (.ref a2), (.ref a1)])) (fun t k => XS.aloadN X0.here hx rfl (hb hby d1_3) rfl rfl k) ?_
  refine own_of (S' := s₁.setTop (mkF m 5 #[.val (.ref a1), .val (.ref a2)] [(.int z), (.int (0 : Int32)), (.ref a2), (.ref a1)])) (own_len X0 hx hZ e0 V_a2 (z := z) hz (g := (mkF m 4 #[.val (.ref a1), .val (.ref a2)] [(.ref a2), (.int (0 : Int32)), (.ref a2), (.ref a1)])) rfl rfl (hb hby d1_4)) ?_
  obtain ⟨_, _, ⟨T1, L1, k1, n1⟩, -, X1, ⟨Lc1, hQ1, l1, y1, z1⟩, st1⟩ := X0.specialBack hx (y := (⟨"com/example/waypost/waypost/ber/BerReader", "<init>", "([BII)V"⟩ : MethodName)) rfl hown (mvT hZ (hw _ (List.mem_of_getElem? (i := 7) rfl))) (mvT hZ (hw _ (List.mem_of_getElem? (i := 8) rfl))) (mvT hZ (hw _ (List.mem_of_getElem? (i := 9) rfl))) (by decide) (own_backH (W := 0) (rm2 l Z a0 hw [] a1 a2 (0 : Int32) z h0 n0 Z0 E_a1 F_buffer_a1 F_position_a1 F_end_a1 g_a1) hZH (hw _ (List.mem_of_getElem? (i := 9) rfl)) (hw _ (List.mem_of_getElem? (i := 2) rfl)) (by decide) (by decide)) (g := (mkF m 5 #[.val (.ref a1), .val (.ref a2)] [(.int z), (.int (0 : Int32)), (.ref a2), (.ref a1)])) rfl (by rw [hml]; rfl) (Steps.refl _) (a := a1) (argsL := [(.ref a2), (.int (0 : Int32)), (.int z)]) (rest := []) (lenOf pd1_0 rfl) rfl (by show 2 * 0 + _ ≤ _; exact Nat.le_of_eq rfl) (hb hby d1_5) (fun _ _ => ⟨rfl, e0, (by decide : 0 + _ ≤ _), (by decide : 0 + _ ≤ _)⟩)
  dsimp only [Pt.U, Pt.locs, Pt.cells, Pt.slots] at X1 l1 y1 z1 st1 hQ1
  subst l1 y1 z1
  obtain ⟨rfl, N1q, K1, F_buffer_q1_0, F_position_q1_1, F_end_q1_2⟩ := hQ1
  have N1 := Fr.app N0 N1q
  refine own_of (S' := T1.setTop (mkF m 8 #[.val (.ref a1), .val (.ref a2)] [])) (fun t k => st1.trans k) ?_
  obtain ⟨fs, hr, hrun, hended, hW, hsame⟩ := X1.leave (v := none) (fun _ => rfl)
  have KK2 : Keep h0 h0 [a1] := Keep.refl _ _
  have KK3 : Keep h0 T1.heap [a1] := KK2.trans K1 (allS (Or.inl (List.mem_of_getElem? (i := 0) rfl)) all0)
  subst hKd
  exact ⟨_, _, X1.returnOut hx Bd.returns (hb hby d1_8) hr, hrun, hended, _, _, rfl, (by
    show Q1 Z a1 a2 n z fb h0 n0 _ T1.heap _
    exact ⟨rfl, N1, KK3, F_buffer_q1_0, F_position_q1_1, F_end_q1_2⟩), ⟨_, rfl⟩, hW, hsame.mono (by decide) (by decide)⟩
theorem d4_0 : decode prog_31_method_6_code 0 = .ok (.aload_n 0, 1) := by decide +kernel
theorem d4_1 : decode prog_31_method_6_code 1 = .ok (.getfield 16, 3) := by decide +kernel
theorem d4_4 : decode prog_31_method_6_code 4 = .ok (.aload_n 0, 1) := by decide +kernel
theorem d4_5 : decode prog_31_method_6_code 5 = .ok (.getfield 20, 3) := by decide +kernel
theorem d4_8 : decode prog_31_method_6_code 8 = .ok (.if_icmp .ge 7, 3) := by decide +kernel
theorem d4_11 : decode prog_31_method_6_code 11 = .ok (.iconst 1, 1) := by decide +kernel
theorem d4_12 : decode prog_31_method_6_code 12 = .ok (.goto 4, 3) := by decide +kernel
theorem d4_16 : decode prog_31_method_6_code 16 = .ok (.ireturn, 1) := by decide +kernel
theorem pn_4a : plainName "com/example/waypost/waypost/ber/BerReader" = true := by first | (simp [plainName, overriddenIn]; done) | decide +kernel
theorem ef_4a (m : MethodId) (a1 : Addr) : entryFrame m #[(.ref a1)] 1 = mkF m 0 #[.val (.ref a1)] [] := by first | (simp [entryFrame, mkF, argsToLocals, Value.category]; done) | rfl
def Q4a (Z : State) (a1 : Addr) (px : Int32) (qx : Int32) (h0 : Heap) (n0 : Nat) (v : Option Value) (h : Heap) (L : List Loc) : Prop := (v = some (.int (1 : Int32))) ∧ (Fr n0 L) ∧ (h = h0)
set_option maxRecDepth 65536 in
set_option maxHeartbeats 40000000 in
theorem rm4a (l : Launch) (Z : State) (a0 : Array Value) (hw : ∀ d ∈ tables_1, d.before a0 Z = true) (ws : List Jvm.Cond) (a1 : Addr) (px : Int32) (qx : Int32) (h0 : Heap) (n0 : Nat) (Z0 : n0 ≤ h0.size) (F_position_a1 : Fld Z h0 a1 "com/example/waypost/waypost/ber/BerReader" "position" "I" (.int px)) (F_end_a1 : Fld Z h0 a1 "com/example/waypost/waypost/ber/BerReader" "end" "I" (.int qx)) (hlt : px < qx) :
    MetFree l (⟨"com/example/waypost/waypost/ber/BerReader", "hasRemaining", "()Z"⟩ : MethodName) (head1 (Jvm.Cond.code (⟨"com/example/waypost/waypost/ber/BerReader", "hasRemaining", "()Z"⟩ : MethodName) prog_31_method_6_code 1 (some .boolean) :: ws) ({ frames := 0, cells := 0, slots := 0, locals := 0 } : Room)) (fun a U => a = #[(.ref a1)] ∧ Z.WarmedH U.vm ∧ U.heap = h0) (fun _ _ _ _ _ => True) (fun _ U o U' => ∃ v L, o = .returned v ∧ Q4a Z a1 px qx h0 n0 v U'.heap L ∧ FrameEnd U o U' L ({ frames := 0, cells := 0, slots := 0, locals := 0 } : Room).cells ({ frames := 0, cells := 0, slots := 0, locals := 0 } : Room).slots) := by
  refine MetFree.of_bodySF (plainFor_of_name pn_4a) hisR ?_
  intro p e s m args below meth c s₁ Bd hml0 hP hK
  obtain ⟨rfl, hZH, hh⟩ := hP
  have hZ := hZH.wide
  have hx := Bd.exec
  have hby := Bd.bytes
  have hml : c.maxLocals = 1 := hml0
  have hown : s.vm.findClass "com/example/waypost/waypost/ber/BerReader" = some m.cls := findClass_of_methodNamed Bd.named
  have hnm := (name_of_methodNamed Bd.named Bd.method).1
  have X0 : Stand p l e ({ frames := 0, cells := 0, slots := 0, locals := 0 } : Room) s m #[(.ref a1)] below meth c s₁ [] 0 0 := Stand.of_body Bd
  have e0 : s₁.heap = h0 := by rw [← hh, Bd.state]; rfl
  have N0 := Fr.nil n0
  refine own_of (S := s₁.setTop (entryFrame m #[(.ref a1)] 1)) (S' := s₁.setTop (mkF m 0 #[.val (.ref a1)] [])) (K := fun s₂ o => ∃ v L, o = .returned v ∧ Q4a Z a1 px qx h0 n0 v s₂.heap L ∧ FrameEnd s o s₂ L ({ frames := 0, cells := 0, slots := 0, locals := 0 } : Room).cells ({ frames := 0, cells := 0, slots := 0, locals := 0 } : Room).slots) (fun t k => castTop (ef_4a m a1) k) ?_
  refine own_nameK fun K hKd => ?_
  refine own_of (S' := s₁.setTop (mkF m 1 #[.val (.ref a1)] [(.ref a1)])) (fun t k => XS.aloadN X0.here hx rfl (hb hby d4_0) rfl rfl k) ?_
  obtain ⟨T1, X1, e1, st1⟩ := getF X0 hx hZ hown (host := "") (Or.inl (hw _ (List.mem_of_getElem? (i := 15) rfl))) Via.refl e0 F_position_a1 (g := (mkF m 1 #[.val (.ref a1)] [(.ref a1)])) rfl rfl (hb hby d4_1)
  refine own_of (S' := T1.setTop (mkF m 4 #[.val (.ref a1)] [(.int px)])) st1 ?_
  refine own_of (S' := T1.setTop (mkF m 5 #[.val (.ref a1)] [(.ref a1), (.int px)])) (fun t k => XS.aloadN X1.here hx rfl (hb hby d4_4) rfl rfl k) ?_
  obtain ⟨T2, X2, e2, st2⟩ := getF X1 hx hZ hown (host := "") (Or.inl (hw _ (List.mem_of_getElem? (i := 17) rfl))) Via.refl e1 F_end_a1 (g := (mkF m 5 #[.val (.ref a1)] [(.ref a1), (.int px)])) rfl rfl (hb hby d4_5)
  refine own_of (S' := T2.setTop (mkF m 8 #[.val (.ref a1)] [(.int qx), (.int px)])) st2 ?_
  refine own_of (S' := T2.setTop (mkF m 11 #[.val (.ref a1)] [])) (fun t k => XS.icmpNo X2.here hx rfl (hb hby d4_8) rfl (tlt hlt).2.1 k) ?_
  refine own_of (S' := T2.setTop (mkF m 12 #[.val (.ref a1)] [(.int (1 : Int32))])) (fun t k => XS.iconst X2.here hx rfl (hb hby d4_11) k) ?_
  refine own_of (S' := T2.setTop (mkF m 16 #[.val (.ref a1)] [(.int (1 : Int32))])) (fun t k => XS.goto X2.here hx rfl (pc0 := 12) (pc' := 16) rfl (hb hby d4_12) (by decide) (by decide) k) ?_
  obtain ⟨fs, hr, hrun, hended, hW, hsame⟩ := X2.leave (v := some (.int (1 : Int32))) (fun h => by rw [Bd.returns] at h; cases h)
  subst hKd
  exact ⟨_, _, retN X2 hx (t := .boolean) Bd.returns (by simp) (hb hby d4_16) hr, hrun, hended, _, _, rfl, (by
    show Q4a Z a1 px qx h0 n0 _ T2.heap _
    rw [show T2.heap = h0 from e2]
    exact ⟨rfl, N0, rfl⟩), ⟨_, rfl⟩, hW, hsame.mono (by decide) (by decide)⟩
theorem d4_15 : decode prog_31_method_6_code 15 = .ok (.iconst 0, 1) := by decide +kernel
theorem pn_4b : plainName "com/example/waypost/waypost/ber/BerReader" = true := by first | (simp [plainName, overriddenIn]; done) | decide +kernel
theorem ef_4b (m : MethodId) (a1 : Addr) : entryFrame m #[(.ref a1)] 1 = mkF m 0 #[.val (.ref a1)] [] := by first | (simp [entryFrame, mkF, argsToLocals, Value.category]; done) | rfl
def Q4b (Z : State) (a1 : Addr) (px : Int32) (qx : Int32) (h0 : Heap) (n0 : Nat) (v : Option Value) (h : Heap) (L : List Loc) : Prop := (v = some (.int (0 : Int32))) ∧ (Fr n0 L) ∧ (h = h0)
set_option maxRecDepth 65536 in
set_option maxHeartbeats 40000000 in
theorem rm4b (l : Launch) (Z : State) (a0 : Array Value) (hw : ∀ d ∈ tables_1, d.before a0 Z = true) (ws : List Jvm.Cond) (a1 : Addr) (px : Int32) (qx : Int32) (h0 : Heap) (n0 : Nat) (Z0 : n0 ≤ h0.size) (F_position_a1 : Fld Z h0 a1 "com/example/waypost/waypost/ber/BerReader" "position" "I" (.int px)) (F_end_a1 : Fld Z h0 a1 "com/example/waypost/waypost/ber/BerReader" "end" "I" (.int qx)) (hge : ¬ px < qx) :
    MetFree l (⟨"com/example/waypost/waypost/ber/BerReader", "hasRemaining", "()Z"⟩ : MethodName) (head1 (Jvm.Cond.code (⟨"com/example/waypost/waypost/ber/BerReader", "hasRemaining", "()Z"⟩ : MethodName) prog_31_method_6_code 1 (some .boolean) :: ws) ({ frames := 0, cells := 0, slots := 0, locals := 0 } : Room)) (fun a U => a = #[(.ref a1)] ∧ Z.WarmedH U.vm ∧ U.heap = h0) (fun _ _ _ _ _ => True) (fun _ U o U' => ∃ v L, o = .returned v ∧ Q4b Z a1 px qx h0 n0 v U'.heap L ∧ FrameEnd U o U' L ({ frames := 0, cells := 0, slots := 0, locals := 0 } : Room).cells ({ frames := 0, cells := 0, slots := 0, locals := 0 } : Room).slots) := by
  refine MetFree.of_bodySF (plainFor_of_name pn_4b) hisR ?_
  intro p e s m args below meth c s₁ Bd hml0 hP hK
  obtain ⟨rfl, hZH, hh⟩ := hP
  have hZ := hZH.wide
  have hx := Bd.exec
  have hby := Bd.bytes
  have hml : c.maxLocals = 1 := hml0
  have hown : s.vm.findClass "com/example/waypost/waypost/ber/BerReader" = some m.cls := findClass_of_methodNamed Bd.named
  have hnm := (name_of_methodNamed Bd.named Bd.method).1
  have X0 : Stand p l e ({ frames := 0, cells := 0, slots := 0, locals := 0 } : Room) s m #[(.ref a1)] below meth c s₁ [] 0 0 := Stand.of_body Bd
  have e0 : s₁.heap = h0 := by rw [← hh, Bd.state]; rfl
  have N0 := Fr.nil n0
  refine own_of (S := s₁.setTop (entryFrame m #[(.ref a1)] 1)) (S' := s₁.setTop (mkF m 0 #[.val (.ref a1)] [])) (K := fun s₂ o => ∃ v L, o = .returned v ∧ Q4b Z a1 px qx h0 n0 v s₂.heap L ∧ FrameEnd s o s₂ L ({ frames := 0, cells := 0, slots := 0, locals := 0 } : Room).cells ({ frames := 0, cells := 0, slots := 0, locals := 0 } : Room).slots) (fun t k => castTop (ef_4b m a1) k) ?_
  refine own_nameK fun K hKd => ?_
  refine own_of (S' := s₁.setTop (mkF m 1 #[.val (.ref a1)] [(.ref a1)])) (fun t k => XS.aloadN X0.here hx rfl (hb hby d4_0) rfl rfl k) ?_
  obtain ⟨T1, X1, e1, st1⟩ := getF X0 hx hZ hown (host := "") (Or.inl (hw _ (List.mem_of_getElem? (i := 15) rfl))) Via.refl e0 F_position_a1 (g := (mkF m 1 #[.val (.ref a1)] [(.ref a1)])) rfl rfl (hb hby d4_1)
  refine own_of (S' := T1.setTop (mkF m 4 #[.val (.ref a1)] [(.int px)])) st1 ?_
  refine own_of (S' := T1.setTop (mkF m 5 #[.val (.ref a1)] [(.ref a1), (.int px)])) (fun t k => XS.aloadN X1.here hx rfl (hb hby d4_4) rfl rfl k) ?_
  obtain ⟨T2, X2, e2, st2⟩ := getF X1 hx hZ hown (host := "") (Or.inl (hw _ (List.mem_of_getElem? (i := 17) rfl))) Via.refl e1 F_end_a1 (g := (mkF m 5 #[.val (.ref a1)] [(.ref a1), (.int px)])) rfl rfl (hb hby d4_5)
  refine own_of (S' := T2.setTop (mkF m 8 #[.val (.ref a1)] [(.int qx), (.int px)])) st2 ?_
  refine own_of (S' := T2.setTop (mkF m 15 #[.val (.ref a1)] [])) (fun t k => XS.icmpYes X2.here hx rfl (pc0 := 8) (pc' := 15) rfl (hb hby d4_8) rfl (flt hge).2.1 (by decide) (by decide) k) ?_
  refine own_of (S' := T2.setTop (mkF m 16 #[.val (.ref a1)] [(.int (0 : Int32))])) (fun t k => XS.iconst X2.here hx rfl (hb hby d4_15) k) ?_
  obtain ⟨fs, hr, hrun, hended, hW, hsame⟩ := X2.leave (v := some (.int (0 : Int32))) (fun h => by rw [Bd.returns] at h; cases h)
  subst hKd
  exact ⟨_, _, retN X2 hx (t := .boolean) Bd.returns (by simp) (hb hby d4_16) hr, hrun, hended, _, _, rfl, (by
    show Q4b Z a1 px qx h0 n0 _ T2.heap _
    rw [show T2.heap = h0 from e2]
    exact ⟨rfl, N0, rfl⟩), ⟨_, rfl⟩, hW, hsame.mono (by decide) (by decide)⟩
theorem pn_4c : plainName "com/example/waypost/waypost/ber/BerReader" = true := by first | (simp [plainName, overriddenIn]; done) | decide +kernel
theorem ef_4c (m : MethodId) (a1 : Addr) : entryFrame m #[(.ref a1)] 1 = mkF m 0 #[.val (.ref a1)] [] := by first | (simp [entryFrame, mkF, argsToLocals, Value.category]; done) | rfl
def Q4c (Z : State) (a1 : Addr) (px : Int32) (qx : Int32) (h0 : Heap) (n0 : Nat) (v : Option Value) (h : Heap) (L : List Loc) : Prop := (v = some (.int (own_lt px qx))) ∧ (Fr n0 L) ∧ (h = h0)
set_option maxRecDepth 65536 in
set_option maxHeartbeats 40000000 in
theorem rm4c (l : Launch) (Z : State) (a0 : Array Value) (hw : ∀ d ∈ tables_1, d.before a0 Z = true) (ws : List Jvm.Cond) (a1 : Addr) (px : Int32) (qx : Int32) (h0 : Heap) (n0 : Nat) (Z0 : n0 ≤ h0.size) (F_position_a1 : Fld Z h0 a1 "com/example/waypost/waypost/ber/BerReader" "position" "I" (.int px)) (F_end_a1 : Fld Z h0 a1 "com/example/waypost/waypost/ber/BerReader" "end" "I" (.int qx)) :
    MetFree l (⟨"com/example/waypost/waypost/ber/BerReader", "hasRemaining", "()Z"⟩ : MethodName) (head1 (Jvm.Cond.code (⟨"com/example/waypost/waypost/ber/BerReader", "hasRemaining", "()Z"⟩ : MethodName) prog_31_method_6_code 1 (some .boolean) :: ws) ({ frames := 0, cells := 0, slots := 0, locals := 0 } : Room)) (fun a U => a = #[(.ref a1)] ∧ Z.WarmedH U.vm ∧ U.heap = h0) (fun _ _ _ _ _ => True) (fun _ U o U' => ∃ v L, o = .returned v ∧ Q4c Z a1 px qx h0 n0 v U'.heap L ∧ FrameEnd U o U' L ({ frames := 0, cells := 0, slots := 0, locals := 0 } : Room).cells ({ frames := 0, cells := 0, slots := 0, locals := 0 } : Room).slots) := by
  refine MetFree.of_bodySF (plainFor_of_name pn_4c) hisR ?_
  intro p e s m args below meth c s₁ Bd hml0 hP hK
  obtain ⟨rfl, hZH, hh⟩ := hP
  have hZ := hZH.wide
  have hx := Bd.exec
  have hby := Bd.bytes
  have hml : c.maxLocals = 1 := hml0
  have hown : s.vm.findClass "com/example/waypost/waypost/ber/BerReader" = some m.cls := findClass_of_methodNamed Bd.named
  have hnm := (name_of_methodNamed Bd.named Bd.method).1
  have X0 : Stand p l e ({ frames := 0, cells := 0, slots := 0, locals := 0 } : Room) s m #[(.ref a1)] below meth c s₁ [] 0 0 := Stand.of_body Bd
  have e0 : s₁.heap = h0 := by rw [← hh, Bd.state]; rfl
  have N0 := Fr.nil n0
  refine own_of (S := s₁.setTop (entryFrame m #[(.ref a1)] 1)) (S' := s₁.setTop (mkF m 0 #[.val (.ref a1)] [])) (K := fun s₂ o => ∃ v L, o = .returned v ∧ Q4c Z a1 px qx h0 n0 v s₂.heap L ∧ FrameEnd s o s₂ L ({ frames := 0, cells := 0, slots := 0, locals := 0 } : Room).cells ({ frames := 0, cells := 0, slots := 0, locals := 0 } : Room).slots) (fun t k => castTop (ef_4c m a1) k) ?_
  refine own_nameK fun K hKd => ?_
  refine own_of (S' := s₁.setTop (mkF m 1 #[.val (.ref a1)] [(.ref a1)])) (fun t k => XS.aloadN X0.here hx rfl (hb hby d4_0) rfl rfl k) ?_
  obtain ⟨T1, X1, e1, st1⟩ := getF X0 hx hZ hown (host := "") (Or.inl (hw _ (List.mem_of_getElem? (i := 15) rfl))) Via.refl e0 F_position_a1 (g := (mkF m 1 #[.val (.ref a1)] [(.ref a1)])) rfl rfl (hb hby d4_1)
  refine own_of (S' := T1.setTop (mkF m 4 #[.val (.ref a1)] [(.int px)])) st1 ?_
  refine own_of (S' := T1.setTop (mkF m 5 #[.val (.ref a1)] [(.ref a1), (.int px)])) (fun t k => XS.aloadN X1.here hx rfl (hb hby d4_4) rfl rfl k) ?_
  obtain ⟨T2, X2, e2, st2⟩ := getF X1 hx hZ hown (host := "") (Or.inl (hw _ (List.mem_of_getElem? (i := 17) rfl))) Via.refl e1 F_end_a1 (g := (mkF m 5 #[.val (.ref a1)] [(.ref a1), (.int px)])) rfl rfl (hb hby d4_5)
  refine own_of (S' := T2.setTop (mkF m 8 #[.val (.ref a1)] [(.int qx), (.int px)])) st2 ?_
  by_cases hc8_3 : px < qx
  · refine own_of (S' := T2.setTop (mkF m 11 #[.val (.ref a1)] [])) (fun t k => XS.icmpNo X2.here hx rfl (hb hby d4_8) rfl (tlt hc8_3).2.1 k) ?_
    refine own_of (S' := T2.setTop (mkF m 12 #[.val (.ref a1)] [(.int (1 : Int32))])) (fun t k => XS.iconst X2.here hx rfl (hb hby d4_11) k) ?_
    refine own_of (S' := T2.setTop (mkF m 16 #[.val (.ref a1)] [(.int (1 : Int32))])) (fun t k => XS.goto X2.here hx rfl (pc0 := 12) (pc' := 16) rfl (hb hby d4_12) (by decide) (by decide) k) ?_
    obtain ⟨fs, hr, hrun, hended, hW, hsame⟩ := X2.leave (v := some (.int (1 : Int32))) (fun h => by rw [Bd.returns] at h; cases h)
    subst hKd
    exact ⟨_, _, retN X2 hx (t := .boolean) Bd.returns (by simp) (hb hby d4_16) hr, hrun, hended, _, _, rfl, (by
      show Q4c Z a1 px qx h0 n0 _ T2.heap _
      rw [show T2.heap = h0 from e2]
      exact ⟨(by rw [own_lt, if_pos hc8_3]), N0, rfl⟩), ⟨_, rfl⟩, hW, hsame.mono (by decide) (by decide)⟩
  refine own_of (S' := T2.setTop (mkF m 15 #[.val (.ref a1)] [])) (fun t k => XS.icmpYes X2.here hx rfl (pc0 := 8) (pc' := 15) rfl (hb hby d4_8) rfl (flt hc8_3).2.1 (by decide) (by decide) k) ?_
  refine own_of (S' := T2.setTop (mkF m 16 #[.val (.ref a1)] [(.int (0 : Int32))])) (fun t k => XS.iconst X2.here hx rfl (hb hby d4_15) k) ?_
  obtain ⟨fs, hr, hrun, hended, hW, hsame⟩ := X2.leave (v := some (.int (0 : Int32))) (fun h => by rw [Bd.returns] at h; cases h)
  subst hKd
  exact ⟨_, _, retN X2 hx (t := .boolean) Bd.returns (by simp) (hb hby d4_16) hr, hrun, hended, _, _, rfl, (by
    show Q4c Z a1 px qx h0 n0 _ T2.heap _
    rw [show T2.heap = h0 from e2]
    exact ⟨(by rw [own_lt, if_neg hc8_3]), N0, rfl⟩), ⟨_, rfl⟩, hW, hsame.mono (by decide) (by decide)⟩
theorem d7_0 : decode prog_31_method_8_code 0 = .ok (.aload_n 0, 1) := by decide +kernel
theorem d7_1 : decode prog_31_method_8_code 1 = .ok (.invokevirtual 97, 3) := by decide +kernel
theorem d7_4 : decode prog_31_method_8_code 4 = .ok (.ifCond .ne 13, 3) := by decide +kernel
theorem d7_17 : decode prog_31_method_8_code 17 = .ok (.aload_n 0, 1) := by decide +kernel
theorem d7_18 : decode prog_31_method_8_code 18 = .ok (.getfield 12, 3) := by decide +kernel
theorem d7_21 : decode prog_31_method_8_code 21 = .ok (.aload_n 0, 1) := by decide +kernel
theorem d7_22 : decode prog_31_method_8_code 22 = .ok (.getfield 16, 3) := by decide +kernel
theorem d7_25 : decode prog_31_method_8_code 25 = .ok (.baload, 1) := by decide +kernel
theorem d7_26 : decode prog_31_method_8_code 26 = .ok (.sipush 255, 3) := by decide +kernel
theorem d7_29 : decode prog_31_method_8_code 29 = .ok (.iand, 1) := by decide +kernel
theorem d7_30 : decode prog_31_method_8_code 30 = .ok (.istore_n 1, 1) := by decide +kernel
theorem d7_31 : decode prog_31_method_8_code 31 = .ok (.iload_n 1, 1) := by decide +kernel
theorem d7_32 : decode prog_31_method_8_code 32 = .ok (.bipush 31, 2) := by decide +kernel
theorem d7_34 : decode prog_31_method_8_code 34 = .ok (.iand, 1) := by decide +kernel
theorem d7_35 : decode prog_31_method_8_code 35 = .ok (.bipush 31, 2) := by decide +kernel
theorem d7_37 : decode prog_31_method_8_code 37 = .ok (.if_icmp .ne 13, 3) := by decide +kernel
theorem d7_50 : decode prog_31_method_8_code 50 = .ok (.iload_n 1, 1) := by decide +kernel
theorem d7_51 : decode prog_31_method_8_code 51 = .ok (.ireturn, 1) := by decide +kernel
theorem pn_7 : plainName "com/example/waypost/waypost/ber/BerReader" = true := by first | (simp [plainName, overriddenIn]; done) | decide +kernel
theorem pd7_0 : parseMethodDescriptor "()Z" = some ⟨[], some .boolean⟩ := by decide +kernel
theorem ef_7 (m : MethodId) (a1 : Addr) : entryFrame m #[(.ref a1)] 2 = mkF m 0 #[.val (.ref a1), .unset] [] := by first | (simp [entryFrame, mkF, argsToLocals, Value.category]; done) | rfl
def Q7 (Z : State) (a1 : Addr) (bu : Addr) (fb : Nat → Value) (y0 : Int32) (h0 : Heap) (n0 : Nat) (v : Option Value) (h : Heap) (L : List Loc) : Prop := (v = some (.int (y0 &&& (255 : Int32)))) ∧ (Fr n0 L) ∧ (h = h0)
set_option maxRecDepth 65536 in
set_option maxHeartbeats 40000000 in
theorem rm7 (l : Launch) (Z : State) (a0 : Array Value) (hw : ∀ d ∈ tables_1, d.before a0 Z = true) (ws : List Jvm.Cond) (a1 : Addr) (bu : Addr) (fb : Nat → Value) (y0 : Int32) (h0 : Heap) (n0 : Nat) (Z0 : n0 ≤ h0.size) (E_a1 : Exa Z h0 a1 "com/example/waypost/waypost/ber/BerReader") (F_buffer_a1 : Fld Z h0 a1 "com/example/waypost/waypost/ber/BerReader" "buffer" "[B" (.ref bu)) (F_position_a1 : Fld Z h0 a1 "com/example/waypost/waypost/ber/BerReader" "position" "I" (.int (0 : Int32))) (F_end_a1 : Fld Z h0 a1 "com/example/waypost/waypost/ber/BerReader" "end" "I" (.int (8 : Int32))) (V_bu : own_Ar Z h0 bu .byte 8 fb) (hy0 : fb 0 = .int y0) (hne : ¬ ((y0 &&& (255 : Int32)) &&& (31 : Int32)) = (31 : Int32)) :
    MetFree l (⟨"com/example/waypost/waypost/ber/BerReader", "peekTag", "()I"⟩ : MethodName) (head1 (Jvm.Cond.code (⟨"com/example/waypost/waypost/ber/BerReader", "peekTag", "()I"⟩ : MethodName) prog_31_method_8_code 2 (some .int) :: ws) ({ frames := 1, cells := 0, slots := 0, locals := 12 } : Room)) (fun a U => a = #[(.ref a1)] ∧ Z.WarmedH U.vm ∧ U.heap = h0) (fun _ _ _ _ _ => True) (fun _ U o U' => ∃ v L, o = .returned v ∧ Q7 Z a1 bu fb y0 h0 n0 v U'.heap L ∧ FrameEnd U o U' L ({ frames := 1, cells := 0, slots := 0, locals := 12 } : Room).cells ({ frames := 1, cells := 0, slots := 0, locals := 12 } : Room).slots) := by
  refine MetFree.of_bodySF (plainFor_of_name pn_7) hisR ?_
  intro p e s m args below meth c s₁ Bd hml0 hP hK
  obtain ⟨rfl, hZH, hh⟩ := hP
  have hZ := hZH.wide
  have hx := Bd.exec
  have hby := Bd.bytes
  have hml : c.maxLocals = 2 := hml0
  have hown : s.vm.findClass "com/example/waypost/waypost/ber/BerReader" = some m.cls := findClass_of_methodNamed Bd.named
  have hnm := (name_of_methodNamed Bd.named Bd.method).1
  have X0 : Stand p l e ({ frames := 1, cells := 0, slots := 0, locals := 12 } : Room) s m #[(.ref a1)] below meth c s₁ [] 0 0 := Stand.of_body Bd
  have e0 : s₁.heap = h0 := by rw [← hh, Bd.state]; rfl
  have N0 := Fr.nil n0
  refine own_of (S := s₁.setTop (entryFrame m #[(.ref a1)] 2)) (S' := s₁.setTop (mkF m 0 #[.val (.ref a1), .unset] [])) (K := fun s₂ o => ∃ v L, o = .returned v ∧ Q7 Z a1 bu fb y0 h0 n0 v s₂.heap L ∧ FrameEnd s o s₂ L ({ frames := 1, cells := 0, slots := 0, locals := 12 } : Room).cells ({ frames := 1, cells := 0, slots := 0, locals := 12 } : Room).slots) (fun t k => castTop (ef_7 m a1) k) ?_
  refine own_nameK fun K hKd => ?_
  refine own_of (S' := s₁.setTop (mkF m 1 #[.val (.ref a1), .unset] [(.ref a1)])) (fun t k => XS.aloadN X0.here hx rfl (hb hby d7_0) rfl rfl k) ?_
  obtain ⟨cq1, kq1, q1a, q1b, q1c⟩ := isOf hZ e0 E_a1
  obtain ⟨_, _, ⟨T1, L1, k1, n1⟩, -, X1, ⟨Lc1, hQ1, l1, y1, z1⟩, st1⟩ := X0.virtualBack hx (y := (⟨"com/example/waypost/waypost/ber/BerReader", "hasRemaining", "()Z"⟩ : MethodName)) (z := (⟨"com/example/waypost/waypost/ber/BerReader", "hasRemaining", "()Z"⟩ : MethodName)) hown (mvT hZ (hw _ (List.mem_of_getElem? (i := 39) rfl))) (mvT hZ (hw _ (List.mem_of_getElem? (i := 20) rfl))) (notFace_of_selects (args := #[]) (mvT hZ (hw _ (List.mem_of_getElem? (i := 22) rfl)))) (mvT hZ (hw _ (List.mem_of_getElem? (i := 22) rfl))) (mvT hZ (hw _ (List.mem_of_getElem? (i := 21) rfl))) (by decide) (own_backH (W := 0) (rm4a l Z a0 hw [] a1 (0 : Int32) (8 : Int32) h0 n0 Z0 F_position_a1 F_end_a1 (by decide)) hZH (hw _ (List.mem_of_getElem? (i := 23) rfl)) (hw _ (List.mem_of_getElem? (i := 2) rfl)) (by decide) (by decide)) q1a q1c (g := (mkF m 1 #[.val (.ref a1), .unset] [(.ref a1)])) rfl (by rw [hml]; rfl) (Steps.refl _) (argsL := []) (rest := []) (lenOf pd7_0 rfl) rfl (by show 2 * 0 + _ ≤ _; exact Nat.le_of_eq rfl) (hb hby d7_1) (fun _ _ => ⟨rfl, e0, (by decide : 0 + _ ≤ _), (by decide : 0 + _ ≤ _)⟩)
  dsimp only [Pt.U, Pt.locs, Pt.cells, Pt.slots] at X1 l1 y1 z1 st1 hQ1
  subst l1 y1 z1
  obtain ⟨rfl, N1q, hh1⟩ := hQ1
  have N1 := Fr.app N0 N1q
  refine own_of (S' := T1.setTop (mkF m 4 #[.val (.ref a1), .unset] [(.int (1 : Int32))])) (fun t k => st1.trans k) ?_
  refine own_of (S' := T1.setTop (mkF m 17 #[.val (.ref a1), .unset] [])) (fun t k => XS.ifYes X1.here hx rfl (pc0 := 4) (pc' := 17) rfl (hb hby d7_4) rfl ((if0 _ _).trans (feq (by decide : ¬ ((1 : Int32) = (0 : Int32)))).2) (by decide) (by decide) k) ?_
  refine own_of (S' := T1.setTop (mkF m 18 #[.val (.ref a1), .unset] [(.ref a1)])) (fun t k => XS.aloadN X1.here hx rfl (hb hby d7_17) rfl rfl k) ?_
  obtain ⟨T2, X2, e2, st2⟩ := getF X1 hx hZ hown (host := "") (Or.inl (hw _ (List.mem_of_getElem? (i := 13) rfl))) Via.refl (hh1) F_buffer_a1 (g := (mkF m 18 #[.val (.ref a1), .unset] [(.ref a1)])) rfl rfl (hb hby d7_18)
  refine own_of (S' := T2.setTop (mkF m 21 #[.val (.ref a1), .unset] [(.ref bu)])) st2 ?_
  refine own_of (S' := T2.setTop (mkF m 22 #[.val (.ref a1), .unset] [(.ref a1), (.ref bu)])) (fun t k => XS.aloadN X2.here hx rfl (hb hby d7_21) rfl rfl k) ?_
  obtain ⟨T3, X3, e3, st3⟩ := getF X2 hx hZ hown (host := "") (Or.inl (hw _ (List.mem_of_getElem? (i := 15) rfl))) Via.refl e2 F_position_a1 (g := (mkF m 22 #[.val (.ref a1), .unset] [(.ref a1), (.ref bu)])) rfl rfl (hb hby d7_22)
  refine own_of (S' := T3.setTop (mkF m 25 #[.val (.ref a1), .unset] [(.int (0 : Int32)), (.ref bu)])) st3 ?_
  refine own_of (S' := T3.setTop (mkF m 26 #[.val (.ref a1), .unset] [(.int y0)])) (own_ldB X3 hx hZ e3 V_bu (j := (0 : Int32)) (y := y0) (by decide) (by decide) hy0 (g := (mkF m 25 #[.val (.ref a1), .unset] [(.int (0 : Int32)), (.ref bu)])) rfl rfl (hb hby d7_25)) ?_
  refine own_of (S' := T3.setTop (mkF m 29 #[.val (.ref a1), .unset] [(.int (255 : Int32)), (.int y0)])) (fun t k => XS.sipush X3.here hx rfl (hb hby d7_26) k) ?_
  refine own_of (S' := T3.setTop (mkF m 30 #[.val (.ref a1), .unset] [(.int (y0 &&& (255 : Int32)))])) (fun t k => XS.iand X3.here hx rfl (hb hby d7_29) rfl k) ?_
  refine own_of (S' := T3.setTop (mkF m 31 #[.val (.ref a1), .val (.int (y0 &&& (255 : Int32)))] [])) (fun t k => XS.istoreN X3.here hx rfl (hb hby d7_30) rfl (l' := #[.val (.ref a1), .val (.int (y0 &&& (255 : Int32)))]) rfl k) ?_
  refine own_of (S' := T3.setTop (mkF m 32 #[.val (.ref a1), .val (.int (y0 &&& (255 : Int32)))] [(.int (y0 &&& (255 : Int32)))])) (fun t k => XS.iloadN X3.here hx rfl (hb hby d7_31) rfl k) ?_
  refine own_of (S' := T3.setTop (mkF m 34 #[.val (.ref a1), .val (.int (y0 &&& (255 : Int32)))] [(.int (31 : Int32)), (.int (y0 &&& (255 : Int32)))])) (fun t k => XS.bipush X3.here hx rfl (hb hby d7_32) k) ?_
  refine own_of (S' := T3.setTop (mkF m 35 #[.val (.ref a1), .val (.int (y0 &&& (255 : Int32)))] [(.int ((y0 &&& (255 : Int32)) &&& (31 : Int32)))])) (fun t k => XS.iand X3.here hx rfl (hb hby d7_34) rfl k) ?_
  refine own_of (S' := T3.setTop (mkF m 37 #[.val (.ref a1), .val (.int (y0 &&& (255 : Int32)))] [(.int (31 : Int32)), (.int ((y0 &&& (255 : Int32)) &&& (31 : Int32)))])) (fun t k => XS.bipush X3.here hx rfl (hb hby d7_35) k) ?_
  refine own_of (S' := T3.setTop (mkF m 50 #[.val (.ref a1), .val (.int (y0 &&& (255 : Int32)))] [])) (fun t k => XS.icmpYes X3.here hx rfl (pc0 := 37) (pc' := 50) rfl (hb hby d7_37) rfl (feq hne).2 (by decide) (by decide) k) ?_
  refine own_of (S' := T3.setTop (mkF m 51 #[.val (.ref a1), .val (.int (y0 &&& (255 : Int32)))] [(.int (y0 &&& (255 : Int32)))])) (fun t k => XS.iloadN X3.here hx rfl (hb hby d7_50) rfl k) ?_
  obtain ⟨fs, hr, hrun, hended, hW, hsame⟩ := X3.leave (v := some (.int (y0 &&& (255 : Int32)))) (fun h => by rw [Bd.returns] at h; cases h)
  subst hKd
  exact ⟨_, _, retI X3 hx Bd.returns (hb hby d7_51) hr, hrun, hended, _, _, rfl, (by
    show Q7 Z a1 bu fb y0 h0 n0 _ T3.heap _
    rw [show T3.heap = h0 from e3]
    exact ⟨rfl, N1, rfl⟩), ⟨_, rfl⟩, hW, hsame.mono (by decide) (by decide)⟩
theorem d9_0 : decode prog_31_method_16_code 0 = .ok (.aload_n 0, 1) := by decide +kernel
theorem d9_1 : decode prog_31_method_16_code 1 = .ok (.getfield 16, 3) := by decide +kernel
theorem d9_4 : decode prog_31_method_16_code 4 = .ok (.aload_n 0, 1) := by decide +kernel
theorem d9_5 : decode prog_31_method_16_code 5 = .ok (.getfield 20, 3) := by decide +kernel
theorem d9_8 : decode prog_31_method_16_code 8 = .ok (.if_icmp .ge 26, 3) := by decide +kernel
theorem d9_11 : decode prog_31_method_16_code 11 = .ok (.aload_n 0, 1) := by decide +kernel
theorem d9_12 : decode prog_31_method_16_code 12 = .ok (.getfield 12, 3) := by decide +kernel
theorem d9_15 : decode prog_31_method_16_code 15 = .ok (.aload_n 0, 1) := by decide +kernel
theorem d9_16 : decode prog_31_method_16_code 16 = .ok (.dup, 1) := by decide +kernel
theorem d9_17 : decode prog_31_method_16_code 17 = .ok (.getfield 16, 3) := by decide +kernel
theorem d9_20 : decode prog_31_method_16_code 20 = .ok (.dup_x1, 1) := by decide +kernel
theorem d9_21 : decode prog_31_method_16_code 21 = .ok (.iconst 1, 1) := by decide +kernel
theorem d9_22 : decode prog_31_method_16_code 22 = .ok (.iadd, 1) := by decide +kernel
theorem d9_23 : decode prog_31_method_16_code 23 = .ok (.putfield 16, 3) := by decide +kernel
theorem d9_26 : decode prog_31_method_16_code 26 = .ok (.baload, 1) := by decide +kernel
theorem d9_27 : decode prog_31_method_16_code 27 = .ok (.sipush 255, 3) := by decide +kernel
theorem d9_30 : decode prog_31_method_16_code 30 = .ok (.iand, 1) := by decide +kernel
theorem d9_31 : decode prog_31_method_16_code 31 = .ok (.goto 4, 3) := by decide +kernel
theorem d9_35 : decode prog_31_method_16_code 35 = .ok (.ireturn, 1) := by decide +kernel
theorem pn_9 : plainName "com/example/waypost/waypost/ber/BerReader" = true := by first | (simp [plainName, overriddenIn]; done) | decide +kernel
theorem ef_9 (m : MethodId) (a1 : Addr) : entryFrame m #[(.ref a1)] 1 = mkF m 0 #[.val (.ref a1)] [] := by first | (simp [entryFrame, mkF, argsToLocals, Value.category]; done) | rfl
def Q9 (Z : State) (a1 : Addr) (bu : Addr) (fb : Nat → Value) (y1 : Int32) (h0 : Heap) (n0 : Nat) (v : Option Value) (h : Heap) (L : List Loc) : Prop := (v = some (.int (y1 &&& (255 : Int32)))) ∧ (Fr n0 L) ∧ (Wr h0 h a1 (Jvm.RoadKit.slotOf Z "com/example/waypost/waypost/ber/BerReader" "position" "I") (.int (2 : Int32)))
set_option maxRecDepth 65536 in
set_option maxHeartbeats 40000000 in
theorem rm9 (l : Launch) (Z : State) (a0 : Array Value) (hw : ∀ d ∈ tables_1, d.before a0 Z = true) (ws : List Jvm.Cond) (a1 : Addr) (bu : Addr) (fb : Nat → Value) (y1 : Int32) (h0 : Heap) (n0 : Nat) (Z0 : n0 ≤ h0.size) (E_a1 : Exa Z h0 a1 "com/example/waypost/waypost/ber/BerReader") (F_buffer_a1 : Fld Z h0 a1 "com/example/waypost/waypost/ber/BerReader" "buffer" "[B" (.ref bu)) (F_position_a1 : Fld Z h0 a1 "com/example/waypost/waypost/ber/BerReader" "position" "I" (.int (1 : Int32))) (F_end_a1 : Fld Z h0 a1 "com/example/waypost/waypost/ber/BerReader" "end" "I" (.int (8 : Int32))) (V_bu : own_Ar Z h0 bu .byte 8 fb) (hy1 : fb 1 = .int y1) (g_a1 : n0 ≤ a1) (hbr : bu ≠ a1) :
    MetFree l (⟨"com/example/waypost/waypost/ber/BerReader", "lambda$readHeader$0", "()I"⟩ : MethodName) (head1 (Jvm.Cond.code (⟨"com/example/waypost/waypost/ber/BerReader", "lambda$readHeader$0", "()I"⟩ : MethodName) prog_31_method_16_code 1 (some .int) :: ws) ({ frames := 0, cells := 0, slots := 0, locals := 0 } : Room)) (fun a U => a = #[(.ref a1)] ∧ Z.WarmedH U.vm ∧ U.heap = h0) (fun _ _ _ _ _ => True) (fun _ U o U' => ∃ v L, o = .returned v ∧ Q9 Z a1 bu fb y1 h0 n0 v U'.heap L ∧ FrameEnd U o U' L ({ frames := 0, cells := 0, slots := 0, locals := 0 } : Room).cells ({ frames := 0, cells := 0, slots := 0, locals := 0 } : Room).slots) := by
  refine MetFree.of_bodySF (plainFor_of_name pn_9) hisR ?_
  intro p e s m args below meth c s₁ Bd hml0 hP hK
  obtain ⟨rfl, hZH, hh⟩ := hP
  have hZ := hZH.wide
  have hx := Bd.exec
  have hby := Bd.bytes
  have hml : c.maxLocals = 1 := hml0
  have hown : s.vm.findClass "com/example/waypost/waypost/ber/BerReader" = some m.cls := findClass_of_methodNamed Bd.named
  have hnm := (name_of_methodNamed Bd.named Bd.method).1
  have X0 : Stand p l e ({ frames := 0, cells := 0, slots := 0, locals := 0 } : Room) s m #[(.ref a1)] below meth c s₁ [] 0 0 := Stand.of_body Bd
  have e0 : s₁.heap = h0 := by rw [← hh, Bd.state]; rfl
  have N0 := Fr.nil n0
  refine own_of (S := s₁.setTop (entryFrame m #[(.ref a1)] 1)) (S' := s₁.setTop (mkF m 0 #[.val (.ref a1)] [])) (K := fun s₂ o => ∃ v L, o = .returned v ∧ Q9 Z a1 bu fb y1 h0 n0 v s₂.heap L ∧ FrameEnd s o s₂ L ({ frames := 0, cells := 0, slots := 0, locals := 0 } : Room).cells ({ frames := 0, cells := 0, slots := 0, locals := 0 } : Room).slots) (fun t k => castTop (ef_9 m a1) k) ?_
  refine own_nameK fun K hKd => ?_
  refine own_of (S' := s₁.setTop (mkF m 1 #[.val (.ref a1)] [(.ref a1)])) (fun t k => XS.aloadN X0.here hx rfl (hb hby d9_0) rfl rfl k) ?_
  obtain ⟨T1, X1, e1, st1⟩ := getF X0 hx hZ hown (host := "") (Or.inl (hw _ (List.mem_of_getElem? (i := 15) rfl))) Via.refl e0 F_position_a1 (g := (mkF m 1 #[.val (.ref a1)] [(.ref a1)])) rfl rfl (hb hby d9_1)
  refine own_of (S' := T1.setTop (mkF m 4 #[.val (.ref a1)] [(.int (1 : Int32))])) st1 ?_
  refine own_of (S' := T1.setTop (mkF m 5 #[.val (.ref a1)] [(.ref a1), (.int (1 : Int32))])) (fun t k => XS.aloadN X1.here hx rfl (hb hby d9_4) rfl rfl k) ?_
  obtain ⟨T2, X2, e2, st2⟩ := getF X1 hx hZ hown (host := "") (Or.inl (hw _ (List.mem_of_getElem? (i := 17) rfl))) Via.refl e1 F_end_a1 (g := (mkF m 5 #[.val (.ref a1)] [(.ref a1), (.int (1 : Int32))])) rfl rfl (hb hby d9_5)
  refine own_of (S' := T2.setTop (mkF m 8 #[.val (.ref a1)] [(.int (8 : Int32)), (.int (1 : Int32))])) st2 ?_
  refine own_of (S' := T2.setTop (mkF m 11 #[.val (.ref a1)] [])) (fun t k => XS.icmpNo X2.here hx rfl (hb hby d9_8) rfl (tlt (by decide : (1 : Int32) < (8 : Int32))).2.1 k) ?_
  refine own_of (S' := T2.setTop (mkF m 12 #[.val (.ref a1)] [(.ref a1)])) (fun t k => XS.aloadN X2.here hx rfl (hb hby d9_11) rfl rfl k) ?_
  obtain ⟨T3, X3, e3, st3⟩ := getF X2 hx hZ hown (host := "") (Or.inl (hw _ (List.mem_of_getElem? (i := 13) rfl))) Via.refl e2 F_buffer_a1 (g := (mkF m 12 #[.val (.ref a1)] [(.ref a1)])) rfl rfl (hb hby d9_12)
  refine own_of (S' := T3.setTop (mkF m 15 #[.val (.ref a1)] [(.ref bu)])) st3 ?_
  refine own_of (S' := T3.setTop (mkF m 16 #[.val (.ref a1)] [(.ref a1), (.ref bu)])) (fun t k => XS.aloadN X3.here hx rfl (hb hby d9_15) rfl rfl k) ?_
  refine own_of (S' := T3.setTop (mkF m 17 #[.val (.ref a1)] [(.ref a1), (.ref a1), (.ref bu)])) (fun t k => XS.dup X3.here hx rfl (hb hby d9_16) rfl rfl k) ?_
  obtain ⟨T4, X4, e4, st4⟩ := getF X3 hx hZ hown (host := "") (Or.inl (hw _ (List.mem_of_getElem? (i := 15) rfl))) Via.refl e3 F_position_a1 (g := (mkF m 17 #[.val (.ref a1)] [(.ref a1), (.ref a1), (.ref bu)])) rfl rfl (hb hby d9_17)
  refine own_of (S' := T4.setTop (mkF m 20 #[.val (.ref a1)] [(.int (1 : Int32)), (.ref a1), (.ref bu)])) st4 ?_
  refine own_of (S' := T4.setTop (mkF m 21 #[.val (.ref a1)] [(.int (1 : Int32)), (.ref a1), (.int (1 : Int32)), (.ref bu)])) (fun t k => XS.dupX1 X4.here hx rfl (hb hby d9_20) rfl rfl rfl k) ?_
  refine own_of (S' := T4.setTop (mkF m 22 #[.val (.ref a1)] [(.int (1 : Int32)), (.int (1 : Int32)), (.ref a1), (.int (1 : Int32)), (.ref bu)])) (fun t k => XS.iconst X4.here hx rfl (hb hby d9_21) k) ?_
  refine own_of (S' := T4.setTop (mkF m 23 #[.val (.ref a1)] [(.int (2 : Int32)), (.ref a1), (.int (1 : Int32)), (.ref bu)])) (fun t k => XS.iadd X4.here hx rfl (hb hby d9_22) rfl k) ?_
  obtain ⟨T5, h5, X5, e5, W5, st5⟩ := putF X4 hx hZ hown (host := "") (Or.inl (hw _ (List.mem_of_getElem? (i := 15) rfl))) Via.refl e4 F_position_a1 E_a1 (Or.inl (hw _ (List.mem_of_getElem? (i := 16) rfl))) (hw _ (List.mem_of_getElem? (i := 1) rfl)) (ty := .int) (by decide) rfl rfl (g := (mkF m 23 #[.val (.ref a1)] [(.int (2 : Int32)), (.ref a1), (.int (1 : Int32)), (.ref bu)])) rfl rfl (hb hby d9_23)
  have N5 := Fr.snoc X5 N0 g_a1
  have Fw_position_5 : Fld Z h5 a1 "com/example/waypost/waypost/ber/BerReader" "position" "I" (.int (2 : Int32)) := F_position_a1.same W5
  refine own_of (S' := T5.setTop (mkF m 26 #[.val (.ref a1)] [(.int (1 : Int32)), (.ref bu)])) st5 ?_
  have V_bu_t6 : own_Ar Z h5 bu .byte 8 fb := (V_bu.other W5 hbr)
  refine own_of (S' := T5.setTop (mkF m 27 #[.val (.ref a1)] [(.int y1)])) (own_ldB X5 hx hZ e5 V_bu_t6 (j := (1 : Int32)) (y := y1) (by decide) (by decide) hy1 (g := (mkF m 26 #[.val (.ref a1)] [(.int (1 : Int32)), (.ref bu)])) rfl rfl (hb hby d9_26)) ?_
  refine own_of (S' := T5.setTop (mkF m 30 #[.val (.ref a1)] [(.int (255 : Int32)), (.int y1)])) (fun t k => XS.sipush X5.here hx rfl (hb hby d9_27) k) ?_
  refine own_of (S' := T5.setTop (mkF m 31 #[.val (.ref a1)] [(.int (y1 &&& (255 : Int32)))])) (fun t k => XS.iand X5.here hx rfl (hb hby d9_30) rfl k) ?_
  refine own_of (S' := T5.setTop (mkF m 35 #[.val (.ref a1)] [(.int (y1 &&& (255 : Int32)))])) (fun t k => XS.goto X5.here hx rfl (pc0 := 31) (pc' := 35) rfl (hb hby d9_31) (by decide) (by decide) k) ?_
  obtain ⟨fs, hr, hrun, hended, hW, hsame⟩ := X5.leave (v := some (.int (y1 &&& (255 : Int32)))) (fun h => by rw [Bd.returns] at h; cases h)
  subst hKd
  exact ⟨_, _, retI X5 hx Bd.returns (hb hby d9_35) hr, hrun, hended, _, _, rfl, (by
    show Q9 Z a1 bu fb y1 h0 n0 _ T5.heap _
    rw [show T5.heap = h5 from e5]
    exact ⟨rfl, N5, W5⟩), ⟨_, rfl⟩, hW, hsame.mono (by decide) (by decide)⟩
theorem d8_0 : decode prog_31_method_5_code 0 = .ok (.aload_n 0, 1) := by decide +kernel
theorem d8_1 : decode prog_31_method_5_code 1 = .ok (.invokeinterface 79 1, 5) := by decide +kernel
theorem d8_6 : decode prog_31_method_5_code 6 = .ok (.istore_n 1, 1) := by decide +kernel
theorem d8_7 : decode prog_31_method_5_code 7 = .ok (.iload_n 1, 1) := by decide +kernel
theorem d8_8 : decode prog_31_method_5_code 8 = .ok (.ifCond .ge 13, 3) := by decide +kernel
theorem d8_21 : decode prog_31_method_5_code 21 = .ok (.iload_n 1, 1) := by decide +kernel
theorem d8_22 : decode prog_31_method_5_code 22 = .ok (.sipush 128, 3) := by decide +kernel
theorem d8_25 : decode prog_31_method_5_code 25 = .ok (.if_icmp .ge 5, 3) := by decide +kernel
theorem d8_28 : decode prog_31_method_5_code 28 = .ok (.iload_n 1, 1) := by decide +kernel
theorem d8_29 : decode prog_31_method_5_code 29 = .ok (.ireturn, 1) := by decide +kernel
theorem pn_8 : plainName "com/example/waypost/waypost/ber/BerReader" = true := by first | (simp [plainName, overriddenIn]; done) | decide +kernel
theorem ef_8 (m : MethodId) (fo : Addr) : entryFrame m #[(.ref fo)] 7 = mkF m 0 #[.val (.ref fo), .unset, .unset, .unset, .unset, .unset, .unset] [] := by first | (simp [entryFrame, mkF, argsToLocals, Value.category]; done) | rfl
def Q8 (Z : State) (fo : Addr) (cK : ClassId) (rd : Addr) (bu : Addr) (fb : Nat → Value) (y1 : Int32) (h0 : Heap) (n0 : Nat) (v : Option Value) (h : Heap) (L : List Loc) : Prop := (v = some (.int (y1 &&& (255 : Int32)))) ∧ (Fr n0 L) ∧ (Wr h0 h rd (Jvm.RoadKit.slotOf Z "com/example/waypost/waypost/ber/BerReader" "position" "I") (.int (2 : Int32)))
set_option maxRecDepth 65536 in
set_option maxHeartbeats 40000000 in
theorem rm8 (l : Launch) (Z : State) (a0 : Array Value) (hw : ∀ d ∈ tables_1, d.before a0 Z = true) (ws : List Jvm.Cond) (fo : Addr) (cK : ClassId) (rd : Addr) (bu : Addr) (fb : Nat → Value) (y1 : Int32) (h0 : Heap) (n0 : Nat) (Z0 : n0 ≤ h0.size) (E_rd : Exa Z h0 rd "com/example/waypost/waypost/ber/BerReader") (F_buffer_rd : Fld Z h0 rd "com/example/waypost/waypost/ber/BerReader" "buffer" "[B" (.ref bu)) (F_position_rd : Fld Z h0 rd "com/example/waypost/waypost/ber/BerReader" "position" "I" (.int (1 : Int32))) (F_end_rd : Fld Z h0 rd "com/example/waypost/waypost/ber/BerReader" "end" "I" (.int (8 : Int32))) (V_bu : own_Ar Z h0 bu .byte 8 fb) (hy1 : fb 1 = .int y1) (g_rd : n0 ≤ rd) (hbr : bu ≠ rd) (hmd : LamKit.Made Z "com/example/waypost/waypost/ber/BerReader" own_sg cK) (hfo : ∃ cell : Cell, h0[fo]? = some cell ∧ cell.cls = cK ∧ cell.vm = .none ∧ cell.slots[0]? = some (.ref rd)) (hr0 : ¬ (y1 &&& (255 : Int32)) < (0 : Int32)) (hr1 : (y1 &&& (255 : Int32)) < (128 : Int32)) :
    MetFree l (⟨"com/example/waypost/waypost/ber/BerReader", "readLength", "(Lcom/example/waypost/waypost/ber/BerReader$ByteSource;)I"⟩ : MethodName) (head1 (Jvm.Cond.code (⟨"com/example/waypost/waypost/ber/BerReader", "readLength", "(Lcom/example/waypost/waypost/ber/BerReader$ByteSource;)I"⟩ : MethodName) prog_31_method_5_code 7 (some .int) :: ws) ({ frames := 2, cells := 0, slots := 0, locals := 24 } : Room)) (fun a U => a = #[(.ref fo)] ∧ Z.WarmedH U.vm ∧ U.heap = h0) (fun _ _ _ _ _ => True) (fun _ U o U' => ∃ v L, o = .returned v ∧ Q8 Z fo cK rd bu fb y1 h0 n0 v U'.heap L ∧ FrameEnd U o U' L ({ frames := 2, cells := 0, slots := 0, locals := 24 } : Room).cells ({ frames := 2, cells := 0, slots := 0, locals := 24 } : Room).slots) := by
  refine MetFree.of_bodySF (plainFor_of_name pn_8) hisR ?_
  intro p e s m args below meth c s₁ Bd hml0 hP hK
  obtain ⟨rfl, hZH, hh⟩ := hP
  have hZ := hZH.wide
  have hx := Bd.exec
  have hby := Bd.bytes
  have hml : c.maxLocals = 7 := hml0
  have hown : s.vm.findClass "com/example/waypost/waypost/ber/BerReader" = some m.cls := findClass_of_methodNamed Bd.named
  have hnm := (name_of_methodNamed Bd.named Bd.method).1
  have X0 : Stand p l e ({ frames := 2, cells := 0, slots := 0, locals := 24 } : Room) s m #[(.ref fo)] below meth c s₁ [] 0 0 := Stand.of_body Bd
  have e0 : s₁.heap = h0 := by rw [← hh, Bd.state]; rfl
  have N0 := Fr.nil n0
  refine own_of (S := s₁.setTop (entryFrame m #[(.ref fo)] 7)) (S' := s₁.setTop (mkF m 0 #[.val (.ref fo), .unset, .unset, .unset, .unset, .unset, .unset] [])) (K := fun s₂ o => ∃ v L, o = .returned v ∧ Q8 Z fo cK rd bu fb y1 h0 n0 v s₂.heap L ∧ FrameEnd s o s₂ L ({ frames := 2, cells := 0, slots := 0, locals := 24 } : Room).cells ({ frames := 2, cells := 0, slots := 0, locals := 24 } : Room).slots) (fun t k => castTop (ef_8 m fo) k) ?_
  refine own_nameK fun K hKd => ?_
  refine own_of (S' := s₁.setTop (mkF m 1 #[.val (.ref fo), .unset, .unset, .unset, .unset, .unset, .unset] [(.ref fo)])) (fun t k => XS.aloadN X0.here hx rfl (hb hby d8_0) rfl rfl k) ?_
  obtain ⟨cl1, hc1, hc2, hc3, hc4⟩ := hfo
  obtain ⟨z1, T1, L1, X1, hQ1, st1⟩ := own_lam X0 hx hZH hw hown hmd (by rw [e0]; exact hc1) hc2 hc3 hc4 e0 E_rd (rm9 l Z a0 hw [] rd bu fb y1 h0 n0 Z0 E_rd F_buffer_rd F_position_rd F_end_rd V_bu hy1 g_rd hbr) (fun v h' L q => ⟨_, q.1⟩) (g := (mkF m 1 #[.val (.ref fo), .unset, .unset, .unset, .unset, .unset, .unset] [(.ref fo)])) rfl (by rw [hml]; rfl) rfl (hb hby d8_1) (by decide) (Nat.le_of_ble_eq_true rfl) (by decide) (by decide)
  obtain ⟨ez1, Nq1, K1⟩ := hQ1
  have hz1 : z1 = (y1 &&& (255 : Int32)) := Value.int.inj (Option.some.inj ez1)
  rw [hz1] at st1
  have N1 := Fr.app N0 Nq1
  have Fw1 : Fld Z T1.heap rd "com/example/waypost/waypost/ber/BerReader" "position" "I" (.int (2 : Int32)) := F_position_rd.same K1
  refine own_of (S' := T1.setTop (mkF m 6 #[.val (.ref fo), .unset, .unset, .unset, .unset, .unset, .unset] [(.int (y1 &&& (255 : Int32)))])) st1 ?_
  refine own_of (S' := T1.setTop (mkF m 7 #[.val (.ref fo), .val (.int (y1 &&& (255 : Int32))), .unset, .unset, .unset, .unset, .unset] [])) (fun t k => XS.istoreN X1.here hx rfl (hb hby d8_6) rfl (l' := #[.val (.ref fo), .val (.int (y1 &&& (255 : Int32))), .unset, .unset, .unset, .unset, .unset]) rfl k) ?_
  refine own_of (S' := T1.setTop (mkF m 8 #[.val (.ref fo), .val (.int (y1 &&& (255 : Int32))), .unset, .unset, .unset, .unset, .unset] [(.int (y1 &&& (255 : Int32)))])) (fun t k => XS.iloadN X1.here hx rfl (hb hby d8_7) rfl k) ?_
  refine own_of (S' := T1.setTop (mkF m 21 #[.val (.ref fo), .val (.int (y1 &&& (255 : Int32))), .unset, .unset, .unset, .unset, .unset] [])) (fun t k => XS.ifYes X1.here hx rfl (pc0 := 8) (pc' := 21) rfl (hb hby d8_8) rfl ((if0 _ _).trans (flt hr0).2.1) (by decide) (by decide) k) ?_
  refine own_of (S' := T1.setTop (mkF m 22 #[.val (.ref fo), .val (.int (y1 &&& (255 : Int32))), .unset, .unset, .unset, .unset, .unset] [(.int (y1 &&& (255 : Int32)))])) (fun t k => XS.iloadN X1.here hx rfl (hb hby d8_21) rfl k) ?_
  refine own_of (S' := T1.setTop (mkF m 25 #[.val (.ref fo), .val (.int (y1 &&& (255 : Int32))), .unset, .unset, .unset, .unset, .unset] [(.int (128 : Int32)), (.int (y1 &&& (255 : Int32)))])) (fun t k => XS.sipush X1.here hx rfl (hb hby d8_22) k) ?_
  refine own_of (S' := T1.setTop (mkF m 28 #[.val (.ref fo), .val (.int (y1 &&& (255 : Int32))), .unset, .unset, .unset, .unset, .unset] [])) (fun t k => XS.icmpNo X1.here hx rfl (hb hby d8_25) rfl (tlt hr1).2.1 k) ?_
  refine own_of (S' := T1.setTop (mkF m 29 #[.val (.ref fo), .val (.int (y1 &&& (255 : Int32))), .unset, .unset, .unset, .unset, .unset] [(.int (y1 &&& (255 : Int32)))])) (fun t k => XS.iloadN X1.here hx rfl (hb hby d8_28) rfl k) ?_
  obtain ⟨fs, hr, hrun, hended, hW, hsame⟩ := X1.leave (v := some (.int (y1 &&& (255 : Int32)))) (fun h => by rw [Bd.returns] at h; cases h)
  subst hKd
  exact ⟨_, _, retI X1 hx Bd.returns (hb hby d8_29) hr, hrun, hended, _, _, rfl, (by
    show Q8 Z fo cK rd bu fb y1 h0 n0 _ T1.heap _
    exact ⟨rfl, N1, K1⟩), ⟨_, rfl⟩, hW, hsame.mono (by decide) (by decide)⟩
theorem d6_0 : decode prog_31_method_15_code 0 = .ok (.aload_n 0, 1) := by decide +kernel
theorem d6_1 : decode prog_31_method_15_code 1 = .ok (.invokevirtual 129, 3) := by decide +kernel
theorem d6_4 : decode prog_31_method_15_code 4 = .ok (.istore_n 2, 1) := by decide +kernel
theorem d6_5 : decode prog_31_method_15_code 5 = .ok (.iload_n 2, 1) := by decide +kernel
theorem d6_6 : decode prog_31_method_15_code 6 = .ok (.iload_n 1, 1) := by decide +kernel
theorem d6_7 : decode prog_31_method_15_code 7 = .ok (.if_icmp .eq 9, 3) := by decide +kernel
theorem d6_16 : decode prog_31_method_15_code 16 = .ok (.aload_n 0, 1) := by decide +kernel
theorem d6_17 : decode prog_31_method_15_code 17 = .ok (.dup, 1) := by decide +kernel
theorem d6_18 : decode prog_31_method_15_code 18 = .ok (.getfield 16, 3) := by decide +kernel
theorem d6_21 : decode prog_31_method_15_code 21 = .ok (.iconst 1, 1) := by decide +kernel
theorem d6_22 : decode prog_31_method_15_code 22 = .ok (.iadd, 1) := by decide +kernel
theorem d6_23 : decode prog_31_method_15_code 23 = .ok (.putfield 16, 3) := by decide +kernel
theorem d6_26 : decode prog_31_method_15_code 26 = .ok (.aload_n 0, 1) := by decide +kernel
theorem d6_27 : decode prog_31_method_15_code 27 = .ok (.invokedynamic 132, 5) := by decide +kernel
theorem d6_32 : decode prog_31_method_15_code 32 = .ok (.invokestatic 43, 3) := by decide +kernel
theorem d6_35 : decode prog_31_method_15_code 35 = .ok (.istore_n 3, 1) := by decide +kernel
theorem d6_36 : decode prog_31_method_15_code 36 = .ok (.iload_n 3, 1) := by decide +kernel
theorem d6_37 : decode prog_31_method_15_code 37 = .ok (.aload_n 0, 1) := by decide +kernel
theorem d6_38 : decode prog_31_method_15_code 38 = .ok (.getfield 20, 3) := by decide +kernel
theorem d6_41 : decode prog_31_method_15_code 41 = .ok (.aload_n 0, 1) := by decide +kernel
theorem d6_42 : decode prog_31_method_15_code 42 = .ok (.getfield 16, 3) := by decide +kernel
theorem d6_45 : decode prog_31_method_15_code 45 = .ok (.isub, 1) := by decide +kernel
theorem d6_46 : decode prog_31_method_15_code 46 = .ok (.if_icmp .le 26, 3) := by decide +kernel
theorem d6_72 : decode prog_31_method_15_code 72 = .ok (.iload_n 3, 1) := by decide +kernel
theorem d6_73 : decode prog_31_method_15_code 73 = .ok (.ireturn, 1) := by decide +kernel
theorem pn_6 : plainName "com/example/waypost/waypost/ber/BerReader" = true := by first | (simp [plainName, overriddenIn]; done) | decide +kernel
theorem pd6_0 : parseMethodDescriptor "()I" = some ⟨[], some .int⟩ := by decide +kernel
theorem pd6_1 : parseMethodDescriptor "(Lcom/example/waypost/waypost/ber/BerReader$ByteSource;)I" = some ⟨[(.object "com/example/waypost/waypost/ber/BerReader$ByteSource")], some .int⟩ := by decide +kernel
theorem ef_6 (m : MethodId) (a1 : Addr) (p2 : Int32) : entryFrame m #[(.ref a1), (.int p2)] 4 = mkF m 0 #[.val (.ref a1), .val (.int p2), .unset, .unset] [] := by first | (simp [entryFrame, mkF, argsToLocals, Value.category]; done) | rfl
def Q6 (Z : State) (a1 : Addr) (p2 : Int32) (bu : Addr) (fb : Nat → Value) (y0 : Int32) (y1 : Int32) (h0 : Heap) (n0 : Nat) (v : Option Value) (h : Heap) (L : List Loc) : Prop := (v = some (.int (y1 &&& (255 : Int32)))) ∧ (Fr n0 L) ∧ (Keep h0 h [a1]) ∧ (Fld Z h a1 "com/example/waypost/waypost/ber/BerReader" "buffer" "[B" (.ref bu)) ∧ (Fld Z h a1 "com/example/waypost/waypost/ber/BerReader" "position" "I" (.int (2 : Int32))) ∧ (Fld Z h a1 "com/example/waypost/waypost/ber/BerReader" "end" "I" (.int (8 : Int32)))
set_option maxRecDepth 65536 in
set_option maxHeartbeats 40000000 in
theorem rm6 (l : Launch) (Z : State) (a0 : Array Value) (hw : ∀ d ∈ tables_1, d.before a0 Z = true) (ws : List Jvm.Cond) (a1 : Addr) (p2 : Int32) (bu : Addr) (fb : Nat → Value) (y0 : Int32) (y1 : Int32) (h0 : Heap) (n0 : Nat) (Z0 : n0 ≤ h0.size) (E_a1 : Exa Z h0 a1 "com/example/waypost/waypost/ber/BerReader") (F_buffer_a1 : Fld Z h0 a1 "com/example/waypost/waypost/ber/BerReader" "buffer" "[B" (.ref bu)) (F_position_a1 : Fld Z h0 a1 "com/example/waypost/waypost/ber/BerReader" "position" "I" (.int (0 : Int32))) (F_end_a1 : Fld Z h0 a1 "com/example/waypost/waypost/ber/BerReader" "end" "I" (.int (8 : Int32))) (V_bu : own_Ar Z h0 bu .byte 8 fb) (hy0 : fb 0 = .int y0) (hy1 : fb 1 = .int y1) (g_a1 : n0 ≤ a1) (hbr : bu ≠ a1) (heq : (y0 &&& (255 : Int32)) = p2) (hne : ¬ ((y0 &&& (255 : Int32)) &&& (31 : Int32)) = (31 : Int32)) (hle : ¬ (6 : Int32) < (y1 &&& (255 : Int32))) (hr0 : ¬ (y1 &&& (255 : Int32)) < (0 : Int32)) (hr1 : (y1 &&& (255 : Int32)) < (128 : Int32)) :
    MetFree l (⟨"com/example/waypost/waypost/ber/BerReader", "readHeader", "(I)I"⟩ : MethodName) (head1 (Jvm.Cond.code (⟨"com/example/waypost/waypost/ber/BerReader", "readHeader", "(I)I"⟩ : MethodName) prog_31_method_15_code 4 (some .int) :: ws) ({ frames := 3, cells := 1, slots := 1, locals := 3073 } : Room)) (fun a U => a = #[(.ref a1), (.int p2)] ∧ Z.WarmedH U.vm ∧ U.heap = h0) (fun _ _ _ _ _ => True) (fun _ U o U' => ∃ v L, o = .returned v ∧ Q6 Z a1 p2 bu fb y0 y1 h0 n0 v U'.heap L ∧ FrameEnd U o U' L ({ frames := 3, cells := 1, slots := 1, locals := 3073 } : Room).cells ({ frames := 3, cells := 1, slots := 1, locals := 3073 } : Room).slots) := by
  refine MetFree.of_bodySF (plainFor_of_name pn_6) hisR ?_
  intro p e s m args below meth c s₁ Bd hml0 hP hK
  obtain ⟨rfl, hZH, hh⟩ := hP
  have hZ := hZH.wide
  have hx := Bd.exec
  have hby := Bd.bytes
  have hml : c.maxLocals = 4 := hml0
  have hown : s.vm.findClass "com/example/waypost/waypost/ber/BerReader" = some m.cls := findClass_of_methodNamed Bd.named
  have hnm := (name_of_methodNamed Bd.named Bd.method).1
  have X0 : Stand p l e ({ frames := 3, cells := 1, slots := 1, locals := 3073 } : Room) s m #[(.ref a1), (.int p2)] below meth c s₁ [] 0 0 := Stand.of_body Bd
  have e0 : s₁.heap = h0 := by rw [← hh, Bd.state]; rfl
  have N0 := Fr.nil n0
  refine own_of (S := s₁.setTop (entryFrame m #[(.ref a1), (.int p2)] 4)) (S' := s₁.setTop (mkF m 0 #[.val (.ref a1), .val (.int p2), .unset, .unset] [])) (K := fun s₂ o => ∃ v L, o = .returned v ∧ Q6 Z a1 p2 bu fb y0 y1 h0 n0 v s₂.heap L ∧ FrameEnd s o s₂ L ({ frames := 3, cells := 1, slots := 1, locals := 3073 } : Room).cells ({ frames := 3, cells := 1, slots := 1, locals := 3073 } : Room).slots) (fun t k => castTop (ef_6 m a1 p2) k) ?_
  refine own_nameK fun K hKd => ?_
  refine own_of (S' := s₁.setTop (mkF m 1 #[.val (.ref a1), .val (.int p2), .unset, .unset] [(.ref a1)])) (fun t k => XS.aloadN X0.here hx rfl (hb hby d6_0) rfl rfl k) ?_
  obtain ⟨cq1, kq1, q1a, q1b, q1c⟩ := isOf hZ e0 E_a1
  obtain ⟨_, _, ⟨T1, L1, k1, n1⟩, -, X1, ⟨Lc1, hQ1, l1, y1, z1⟩, st1⟩ := X0.virtualBack hx (y := (⟨"com/example/waypost/waypost/ber/BerReader", "peekTag", "()I"⟩ : MethodName)) (z := (⟨"com/example/waypost/waypost/ber/BerReader", "peekTag", "()I"⟩ : MethodName)) hown (mvT hZ (hw _ (List.mem_of_getElem? (i := 34) rfl))) (mvT hZ (hw _ (List.mem_of_getElem? (i := 35) rfl))) (notFace_of_selects (args := #[]) (mvT hZ (hw _ (List.mem_of_getElem? (i := 37) rfl)))) (mvT hZ (hw _ (List.mem_of_getElem? (i := 37) rfl))) (mvT hZ (hw _ (List.mem_of_getElem? (i := 36) rfl))) (by decide) (own_backH (W := 0) (rm7 l Z a0 hw [] a1 bu fb y0 h0 n0 Z0 E_a1 F_buffer_a1 F_position_a1 F_end_a1 V_bu hy0 hne) hZH (hw _ (List.mem_of_getElem? (i := 38) rfl)) (hw _ (List.mem_of_getElem? (i := 2) rfl)) (by decide) (by decide)) q1a q1c (g := (mkF m 1 #[.val (.ref a1), .val (.int p2), .unset, .unset] [(.ref a1)])) rfl (by rw [hml]; rfl) (Steps.refl _) (argsL := []) (rest := []) (lenOf pd6_0 rfl) rfl (by show 2 * 0 + _ ≤ _; exact Nat.le_of_eq rfl) (hb hby d6_1) (fun _ _ => ⟨rfl, e0, (by decide : 0 + _ ≤ _), (by decide : 0 + _ ≤ _)⟩)
  dsimp only [Pt.U, Pt.locs, Pt.cells, Pt.slots] at X1 l1 y1 z1 st1 hQ1
  subst l1 y1 z1
  obtain ⟨rfl, N1q, hh1⟩ := hQ1
  have N1 := Fr.app N0 N1q
  refine own_of (S' := T1.setTop (mkF m 4 #[.val (.ref a1), .val (.int p2), .unset, .unset] [(.int (y0 &&& (255 : Int32)))])) (fun t k => st1.trans k) ?_
  refine own_of (S' := T1.setTop (mkF m 5 #[.val (.ref a1), .val (.int p2), .val (.int (y0 &&& (255 : Int32))), .unset] [])) (fun t k => XS.istoreN X1.here hx rfl (hb hby d6_4) rfl (l' := #[.val (.ref a1), .val (.int p2), .val (.int (y0 &&& (255 : Int32))), .unset]) rfl k) ?_
  refine own_of (S' := T1.setTop (mkF m 6 #[.val (.ref a1), .val (.int p2), .val (.int (y0 &&& (255 : Int32))), .unset] [(.int (y0 &&& (255 : Int32)))])) (fun t k => XS.iloadN X1.here hx rfl (hb hby d6_5) rfl k) ?_
  refine own_of (S' := T1.setTop (mkF m 7 #[.val (.ref a1), .val (.int p2), .val (.int (y0 &&& (255 : Int32))), .unset] [(.int p2), (.int (y0 &&& (255 : Int32)))])) (fun t k => XS.iloadN X1.here hx rfl (hb hby d6_6) rfl k) ?_
  refine own_of (S' := T1.setTop (mkF m 16 #[.val (.ref a1), .val (.int p2), .val (.int (y0 &&& (255 : Int32))), .unset] [])) (fun t k => XS.icmpYes X1.here hx rfl (pc0 := 7) (pc' := 16) rfl (hb hby d6_7) rfl (teq heq).1 (by decide) (by decide) k) ?_
  refine own_of (S' := T1.setTop (mkF m 17 #[.val (.ref a1), .val (.int p2), .val (.int (y0 &&& (255 : Int32))), .unset] [(.ref a1)])) (fun t k => XS.aloadN X1.here hx rfl (hb hby d6_16) rfl rfl k) ?_
  refine own_of (S' := T1.setTop (mkF m 18 #[.val (.ref a1), .val (.int p2), .val (.int (y0 &&& (255 : Int32))), .unset] [(.ref a1), (.ref a1)])) (fun t k => XS.dup X1.here hx rfl (hb hby d6_17) rfl rfl k) ?_
  obtain ⟨T2, X2, e2, st2⟩ := getF X1 hx hZ hown (host := "") (Or.inl (hw _ (List.mem_of_getElem? (i := 15) rfl))) Via.refl (hh1) F_position_a1 (g := (mkF m 18 #[.val (.ref a1), .val (.int p2), .val (.int (y0 &&& (255 : Int32))), .unset] [(.ref a1), (.ref a1)])) rfl rfl (hb hby d6_18)
  refine own_of (S' := T2.setTop (mkF m 21 #[.val (.ref a1), .val (.int p2), .val (.int (y0 &&& (255 : Int32))), .unset] [(.int (0 : Int32)), (.ref a1)])) st2 ?_
  refine own_of (S' := T2.setTop (mkF m 22 #[.val (.ref a1), .val (.int p2), .val (.int (y0 &&& (255 : Int32))), .unset] [(.int (1 : Int32)), (.int (0 : Int32)), (.ref a1)])) (fun t k => XS.iconst X2.here hx rfl (hb hby d6_21) k) ?_
  refine own_of (S' := T2.setTop (mkF m 23 #[.val (.ref a1), .val (.int p2), .val (.int (y0 &&& (255 : Int32))), .unset] [(.int (1 : Int32)), (.ref a1)])) (fun t k => XS.iadd X2.here hx rfl (hb hby d6_22) rfl k) ?_
  obtain ⟨T3, h3, X3, e3, W3, st3⟩ := putF X2 hx hZ hown (host := "") (Or.inl (hw _ (List.mem_of_getElem? (i := 15) rfl))) Via.refl e2 F_position_a1 E_a1 (Or.inl (hw _ (List.mem_of_getElem? (i := 16) rfl))) (hw _ (List.mem_of_getElem? (i := 1) rfl)) (ty := .int) (by decide) rfl rfl (g := (mkF m 23 #[.val (.ref a1), .val (.int p2), .val (.int (y0 &&& (255 : Int32))), .unset] [(.int (1 : Int32)), (.ref a1)])) rfl rfl (hb hby d6_23)
  have N3 := Fr.snoc X3 N1 g_a1
  have Fw_position_3 : Fld Z h3 a1 "com/example/waypost/waypost/ber/BerReader" "position" "I" (.int (1 : Int32)) := F_position_a1.same W3
  refine own_of (S' := T3.setTop (mkF m 26 #[.val (.ref a1), .val (.int p2), .val (.int (y0 &&& (255 : Int32))), .unset] [])) st3 ?_
  refine own_of (S' := T3.setTop (mkF m 27 #[.val (.ref a1), .val (.int p2), .val (.int (y0 &&& (255 : Int32))), .unset] [(.ref a1)])) (fun t k => XS.aloadN X3.here hx rfl (hb hby d6_26) rfl rfl k) ?_
  obtain ⟨cK4, T4, h4, hmd4, X4, e4, E4, hfo4, st4⟩ := own_make X3 hx hZH hw Bd.named (g := (mkF m 27 #[.val (.ref a1), .val (.int p2), .val (.int (y0 &&& (255 : Int32))), .unset] [(.ref a1)])) rfl rfl (by rw [hml]; rfl) (hb hby d6_27) (b := a1) (rest := []) rfl (Nat.le_of_ble_eq_true rfl) (by decide) (by decide) e3
  obtain ⟨b4, g4⟩ : ∃ z, z = h3.size := ⟨_, rfl⟩
  rw [← g4] at hfo4 st4
  have KK5 : Keep h0 h0 [a1] := Keep.refl _ _
  have KK6 : Keep h0 h3 [a1] := KK5.wr W3 (Or.inl (List.mem_of_getElem? (i := 0) rfl))
  have g_b4 : n0 ≤ b4 := Nat.le_trans Z0 (Nat.le_trans KK6.1 (Nat.le_of_eq g4.symm))
  refine own_of (S' := T4.setTop (mkF m 32 #[.val (.ref a1), .val (.int p2), .val (.int (y0 &&& (255 : Int32))), .unset] [(.ref b4)])) st4 ?_
  have E_a1_t7 : Exa Z h3 a1 "com/example/waypost/waypost/ber/BerReader" := (E_a1.wr W3)
  have E_a1_t8 : Exa Z h4 a1 "com/example/waypost/waypost/ber/BerReader" := (E_a1_t7.ext E4)
  have F_buffer_a1_t9 : Fld Z h3 a1 "com/example/waypost/waypost/ber/BerReader" "buffer" "[B" (.ref bu) := (F_buffer_a1.other W3 (Or.inr (slot_ne (Or.inr (hw _ (List.mem_of_getElem? (i := 14) rfl))) (Or.inl (hw _ (List.mem_of_getElem? (i := 16) rfl))) (by decide) (t := (.array .byte)) (t' := .int) (by decide) (by decide))))
  have F_buffer_a1_t10 : Fld Z h4 a1 "com/example/waypost/waypost/ber/BerReader" "buffer" "[B" (.ref bu) := (F_buffer_a1_t9.ext E4)
  have Fw_position_3_t11 : Fld Z h4 a1 "com/example/waypost/waypost/ber/BerReader" "position" "I" (.int (1 : Int32)) := (Fw_position_3.ext E4)
  have F_end_a1_t12 : Fld Z h3 a1 "com/example/waypost/waypost/ber/BerReader" "end" "I" (.int (8 : Int32)) := (F_end_a1.other W3 (Or.inr (slot_ne (Or.inr (hw _ (List.mem_of_getElem? (i := 18) rfl))) (Or.inl (hw _ (List.mem_of_getElem? (i := 16) rfl))) (by decide) (t := .int) (t' := .int) (by decide) (by decide))))
  have F_end_a1_t13 : Fld Z h4 a1 "com/example/waypost/waypost/ber/BerReader" "end" "I" (.int (8 : Int32)) := (F_end_a1_t12.ext E4)
  have V_bu_t14 : own_Ar Z h3 bu .byte 8 fb := (V_bu.other W3 hbr)
  have V_bu_t15 : own_Ar Z h4 bu .byte 8 fb := (V_bu_t14.ext E4)
  have KK16 : Keep h0 h4 [a1] := KK6.ext E4
  obtain ⟨_, _, ⟨T17, L17, k17, n17⟩, -, X17, ⟨Lc17, hQ17, l17, y17, z17⟩, st17⟩ := Jvm.LawKit.callS X4 hx (y := (⟨"com/example/waypost/waypost/ber/BerReader", "readLength", "(Lcom/example/waypost/waypost/ber/BerReader$ByteSource;)I"⟩ : MethodName)) hown (mvT hZ (hw _ (List.mem_of_getElem? (i := 44) rfl))) (mvT hZ (hw _ (List.mem_of_getElem? (i := 45) rfl))) (mvT hZ (hw _ (List.mem_of_getElem? (i := 2) rfl))) (mvT hZ (hw _ (List.mem_of_getElem? (i := 46) rfl))) (by decide) (own_backH (W := 0) (rm8 l Z a0 hw [] b4 cK4 a1 bu fb y1 h4 n0 (Nat.le_trans Z0 KK16.1) E_a1_t8 F_buffer_a1_t10 Fw_position_3_t11 F_end_a1_t13 V_bu_t15 hy1 g_a1 hbr hmd4 hfo4 hr0 hr1) hZH (hw _ (List.mem_of_getElem? (i := 46) rfl)) (hw _ (List.mem_of_getElem? (i := 2) rfl)) (by decide) (by decide)) (g := (mkF m 32 #[.val (.ref a1), .val (.int p2), .val (.int (y0 &&& (255 : Int32))), .unset] [(.ref b4)])) rfl (by rw [hml]; rfl) (argsL := [(.ref b4)]) (rest := []) (lenOf pd6_1 rfl) rfl (by show 2 * 0 + _ ≤ _; exact Nat.le_of_eq rfl) (hb hby d6_32) (fun _ _ => ⟨rfl, e4, (by decide : ((0 + 0) + 1) + _ ≤ _), (by decide : ((0 + 0) + 1) + _ ≤ _)⟩)
  dsimp only [Pt.U, Pt.locs, Pt.cells, Pt.slots] at X17 l17 y17 z17 st17 hQ17
  subst l17 y17 z17
  obtain ⟨rfl, N17q, K17⟩ := hQ17
  have N17 := Fr.app N3 N17q
  have Fw_position_17 : Fld Z T17.heap a1 "com/example/waypost/waypost/ber/BerReader" "position" "I" (.int (2 : Int32)) := Fw_position_3_t11.same K17
  refine own_of (S' := T17.setTop (mkF m 35 #[.val (.ref a1), .val (.int p2), .val (.int (y0 &&& (255 : Int32))), .unset] [(.int (y1 &&& (255 : Int32)))])) st17 ?_
  refine own_of (S' := T17.setTop (mkF m 36 #[.val (.ref a1), .val (.int p2), .val (.int (y0 &&& (255 : Int32))), .val (.int (y1 &&& (255 : Int32)))] [])) (fun t k => XS.istoreN X17.here hx rfl (hb hby d6_35) rfl (l' := #[.val (.ref a1), .val (.int p2), .val (.int (y0 &&& (255 : Int32))), .val (.int (y1 &&& (255 : Int32)))]) rfl k) ?_
  refine own_of (S' := T17.setTop (mkF m 37 #[.val (.ref a1), .val (.int p2), .val (.int (y0 &&& (255 : Int32))), .val (.int (y1 &&& (255 : Int32)))] [(.int (y1 &&& (255 : Int32)))])) (fun t k => XS.iloadN X17.here hx rfl (hb hby d6_36) rfl k) ?_
  refine own_of (S' := T17.setTop (mkF m 38 #[.val (.ref a1), .val (.int p2), .val (.int (y0 &&& (255 : Int32))), .val (.int (y1 &&& (255 : Int32)))] [(.ref a1), (.int (y1 &&& (255 : Int32)))])) (fun t k => XS.aloadN X17.here hx rfl (hb hby d6_37) rfl rfl k) ?_
  have F_end_a1_t18 : Fld Z T17.heap a1 "com/example/waypost/waypost/ber/BerReader" "end" "I" (.int (8 : Int32)) := (F_end_a1_t13.other K17 (Or.inr (slot_ne (Or.inr (hw _ (List.mem_of_getElem? (i := 18) rfl))) (Or.inl (hw _ (List.mem_of_getElem? (i := 16) rfl))) (by decide) (t := .int) (t' := .int) (by decide) (by decide))))
  obtain ⟨T19, X19, e19, st19⟩ := getF X17 hx hZ hown (host := "") (Or.inl (hw _ (List.mem_of_getElem? (i := 17) rfl))) Via.refl rfl F_end_a1_t18 (g := (mkF m 38 #[.val (.ref a1), .val (.int p2), .val (.int (y0 &&& (255 : Int32))), .val (.int (y1 &&& (255 : Int32)))] [(.ref a1), (.int (y1 &&& (255 : Int32)))])) rfl rfl (hb hby d6_38)
  refine own_of (S' := T19.setTop (mkF m 41 #[.val (.ref a1), .val (.int p2), .val (.int (y0 &&& (255 : Int32))), .val (.int (y1 &&& (255 : Int32)))] [(.int (8 : Int32)), (.int (y1 &&& (255 : Int32)))])) st19 ?_
  refine own_of (S' := T19.setTop (mkF m 42 #[.val (.ref a1), .val (.int p2), .val (.int (y0 &&& (255 : Int32))), .val (.int (y1 &&& (255 : Int32)))] [(.ref a1), (.int (8 : Int32)), (.int (y1 &&& (255 : Int32)))])) (fun t k => XS.aloadN X19.here hx rfl (hb hby d6_41) rfl rfl k) ?_
  obtain ⟨T20, X20, e20, st20⟩ := getF X19 hx hZ hown (host := "") (Or.inl (hw _ (List.mem_of_getElem? (i := 15) rfl))) Via.refl e19 Fw_position_17 (g := (mkF m 42 #[.val (.ref a1), .val (.int p2), .val (.int (y0 &&& (255 : Int32))), .val (.int (y1 &&& (255 : Int32)))] [(.ref a1), (.int (8 : Int32)), (.int (y1 &&& (255 : Int32)))])) rfl rfl (hb hby d6_42)
  refine own_of (S' := T20.setTop (mkF m 45 #[.val (.ref a1), .val (.int p2), .val (.int (y0 &&& (255 : Int32))), .val (.int (y1 &&& (255 : Int32)))] [(.int (2 : Int32)), (.int (8 : Int32)), (.int (y1 &&& (255 : Int32)))])) st20 ?_
  refine own_of (S' := T20.setTop (mkF m 46 #[.val (.ref a1), .val (.int p2), .val (.int (y0 &&& (255 : Int32))), .val (.int (y1 &&& (255 : Int32)))] [(.int (6 : Int32)), (.int (y1 &&& (255 : Int32)))])) (fun t k => XS.isub X20.here hx rfl (hb hby d6_45) rfl k) ?_
  refine own_of (S' := T20.setTop (mkF m 72 #[.val (.ref a1), .val (.int p2), .val (.int (y0 &&& (255 : Int32))), .val (.int (y1 &&& (255 : Int32)))] [])) (fun t k => XS.icmpYes X20.here hx rfl (pc0 := 46) (pc' := 72) rfl (hb hby d6_46) rfl (flt hle).2.2.2 (by decide) (by decide) k) ?_
  refine own_of (S' := T20.setTop (mkF m 73 #[.val (.ref a1), .val (.int p2), .val (.int (y0 &&& (255 : Int32))), .val (.int (y1 &&& (255 : Int32)))] [(.int (y1 &&& (255 : Int32)))])) (fun t k => XS.iloadN X20.here hx rfl (hb hby d6_72) rfl k) ?_
  obtain ⟨fs, hr, hrun, hended, hW, hsame⟩ := X20.leave (v := some (.int (y1 &&& (255 : Int32)))) (fun h => by rw [Bd.returns] at h; cases h)
  have KK21 : Keep h0 T17.heap [a1] := KK16.wr K17 (Or.inl (List.mem_of_getElem? (i := 0) rfl))
  have F_buffer_a1_t22 : Fld Z T17.heap a1 "com/example/waypost/waypost/ber/BerReader" "buffer" "[B" (.ref bu) := (F_buffer_a1_t10.other K17 (Or.inr (slot_ne (Or.inr (hw _ (List.mem_of_getElem? (i := 14) rfl))) (Or.inl (hw _ (List.mem_of_getElem? (i := 16) rfl))) (by decide) (t := (.array .byte)) (t' := .int) (by decide) (by decide))))
  subst hKd
  exact ⟨_, _, retI X20 hx Bd.returns (hb hby d6_73) hr, hrun, hended, _, _, rfl, (by
    show Q6 Z a1 p2 bu fb y0 y1 h0 n0 _ T20.heap _
    rw [show T20.heap = T17.heap from e20]
    exact ⟨rfl, N17, KK21, F_buffer_a1_t22, Fw_position_17, F_end_a1_t18⟩), ⟨_, rfl⟩, hW, hsame.mono (by decide) (by decide)⟩
theorem d5_0 : decode prog_31_method_9_code 0 = .ok (.aload_n 0, 1) := by decide +kernel
theorem d5_1 : decode prog_31_method_9_code 1 = .ok (.iload_n 1, 1) := by decide +kernel
theorem d5_2 : decode prog_31_method_9_code 2 = .ok (.invokevirtual 106, 3) := by decide +kernel
theorem d5_5 : decode prog_31_method_9_code 5 = .ok (.istore_n 2, 1) := by decide +kernel
theorem d5_6 : decode prog_31_method_9_code 6 = .ok (.new 2, 3) := by decide +kernel
theorem d5_9 : decode prog_31_method_9_code 9 = .ok (.dup, 1) := by decide +kernel
theorem d5_10 : decode prog_31_method_9_code 10 = .ok (.aload_n 0, 1) := by decide +kernel
theorem d5_11 : decode prog_31_method_9_code 11 = .ok (.getfield 12, 3) := by decide +kernel
theorem d5_14 : decode prog_31_method_9_code 14 = .ok (.aload_n 0, 1) := by decide +kernel
theorem d5_15 : decode prog_31_method_9_code 15 = .ok (.getfield 16, 3) := by decide +kernel
theorem d5_18 : decode prog_31_method_9_code 18 = .ok (.aload_n 0, 1) := by decide +kernel
theorem d5_19 : decode prog_31_method_9_code 19 = .ok (.getfield 16, 3) := by decide +kernel
theorem d5_22 : decode prog_31_method_9_code 22 = .ok (.iload_n 2, 1) := by decide +kernel
theorem d5_23 : decode prog_31_method_9_code 23 = .ok (.iadd, 1) := by decide +kernel
theorem d5_24 : decode prog_31_method_9_code 24 = .ok (.invokespecial 1, 3) := by decide +kernel
theorem d5_27 : decode prog_31_method_9_code 27 = .ok (.astore_n 3, 1) := by decide +kernel
theorem d5_28 : decode prog_31_method_9_code 28 = .ok (.aload_n 0, 1) := by decide +kernel
theorem d5_29 : decode prog_31_method_9_code 29 = .ok (.dup, 1) := by decide +kernel
theorem d5_30 : decode prog_31_method_9_code 30 = .ok (.getfield 16, 3) := by decide +kernel
theorem d5_33 : decode prog_31_method_9_code 33 = .ok (.iload_n 2, 1) := by decide +kernel
theorem d5_34 : decode prog_31_method_9_code 34 = .ok (.iadd, 1) := by decide +kernel
theorem d5_35 : decode prog_31_method_9_code 35 = .ok (.putfield 16, 3) := by decide +kernel
theorem d5_38 : decode prog_31_method_9_code 38 = .ok (.aload_n 3, 1) := by decide +kernel
theorem d5_39 : decode prog_31_method_9_code 39 = .ok (.areturn, 1) := by decide +kernel
theorem pn_5 : plainName "com/example/waypost/waypost/ber/BerReader" = true := by first | (simp [plainName, overriddenIn]; done) | decide +kernel
theorem pd5_0 : parseMethodDescriptor "(I)I" = some ⟨[.int], some .int⟩ := by decide +kernel
theorem pd5_1 : parseMethodDescriptor "([BII)V" = some ⟨[(.array .byte), .int, .int], none⟩ := by decide +kernel
theorem ef_5 (m : MethodId) (a1 : Addr) (p2 : Int32) : entryFrame m #[(.ref a1), (.int p2)] 4 = mkF m 0 #[.val (.ref a1), .val (.int p2), .unset, .unset] [] := by first | (simp [entryFrame, mkF, argsToLocals, Value.category]; done) | rfl
def Q5 (Z : State) (a1 : Addr) (p2 : Int32) (bu : Addr) (fb : Nat → Value) (y0 : Int32) (y1 : Int32) (h0 : Heap) (n0 : Nat) (v : Option Value) (h : Heap) (L : List Loc) : Prop := ∃ r : Addr, (v = some (.ref r)) ∧ (Fr n0 L) ∧ (Keep h0 h [a1]) ∧ (h0.size ≤ r) ∧ (Exa Z h r "com/example/waypost/waypost/ber/BerReader") ∧ (Fld Z h r "com/example/waypost/waypost/ber/BerReader" "position" "I" (.int (2 : Int32))) ∧ (Fld Z h r "com/example/waypost/waypost/ber/BerReader" "end" "I" (.int ((2 : Int32) + (y1 &&& (255 : Int32))))) ∧ (Fld Z h a1 "com/example/waypost/waypost/ber/BerReader" "position" "I" (.int ((2 : Int32) + (y1 &&& (255 : Int32))))) ∧ (Fld Z h a1 "com/example/waypost/waypost/ber/BerReader" "end" "I" (.int (8 : Int32)))
set_option maxRecDepth 65536 in
set_option maxHeartbeats 40000000 in
theorem rm5 (l : Launch) (Z : State) (a0 : Array Value) (hw : ∀ d ∈ tables_1, d.before a0 Z = true) (ws : List Jvm.Cond) (a1 : Addr) (p2 : Int32) (bu : Addr) (fb : Nat → Value) (y0 : Int32) (y1 : Int32) (h0 : Heap) (n0 : Nat) (Z0 : n0 ≤ h0.size) (E_a1 : Exa Z h0 a1 "com/example/waypost/waypost/ber/BerReader") (F_buffer_a1 : Fld Z h0 a1 "com/example/waypost/waypost/ber/BerReader" "buffer" "[B" (.ref bu)) (F_position_a1 : Fld Z h0 a1 "com/example/waypost/waypost/ber/BerReader" "position" "I" (.int (0 : Int32))) (F_end_a1 : Fld Z h0 a1 "com/example/waypost/waypost/ber/BerReader" "end" "I" (.int (8 : Int32))) (V_bu : own_Ar Z h0 bu .byte 8 fb) (hy0 : fb 0 = .int y0) (hy1 : fb 1 = .int y1) (g_a1 : n0 ≤ a1) (hbr : bu ≠ a1) (heq : (y0 &&& (255 : Int32)) = p2) (hne : ¬ ((y0 &&& (255 : Int32)) &&& (31 : Int32)) = (31 : Int32)) (hle : ¬ (6 : Int32) < (y1 &&& (255 : Int32))) (hr0 : ¬ (y1 &&& (255 : Int32)) < (0 : Int32)) (hr1 : (y1 &&& (255 : Int32)) < (128 : Int32)) :
    MetFree l (⟨"com/example/waypost/waypost/ber/BerReader", "readConstructed", "(I)Lcom/example/waypost/waypost/ber/BerReader;"⟩ : MethodName) (head1 (Jvm.Cond.code (⟨"com/example/waypost/waypost/ber/BerReader", "readConstructed", "(I)Lcom/example/waypost/waypost/ber/BerReader;"⟩ : MethodName) prog_31_method_9_code 4 (some (.object "com/example/waypost/waypost/ber/BerReader")) :: ws) ({ frames := 4, cells := 2, slots := 4, locals := 3088 } : Room)) (fun a U => a = #[(.ref a1), (.int p2)] ∧ Z.WarmedH U.vm ∧ U.heap = h0) (fun _ _ _ _ _ => True) (fun _ U o U' => ∃ v L, o = .returned v ∧ Q5 Z a1 p2 bu fb y0 y1 h0 n0 v U'.heap L ∧ FrameEnd U o U' L ({ frames := 4, cells := 2, slots := 4, locals := 3088 } : Room).cells ({ frames := 4, cells := 2, slots := 4, locals := 3088 } : Room).slots) := by
  refine MetFree.of_bodySF (plainFor_of_name pn_5) hisR ?_
  intro p e s m args below meth c s₁ Bd hml0 hP hK
  obtain ⟨rfl, hZH, hh⟩ := hP
  have hZ := hZH.wide
  have hx := Bd.exec
  have hby := Bd.bytes
  have hml : c.maxLocals = 4 := hml0
  have hown : s.vm.findClass "com/example/waypost/waypost/ber/BerReader" = some m.cls := findClass_of_methodNamed Bd.named
  have hnm := (name_of_methodNamed Bd.named Bd.method).1
  have X0 : Stand p l e ({ frames := 4, cells := 2, slots := 4, locals := 3088 } : Room) s m #[(.ref a1), (.int p2)] below meth c s₁ [] 0 0 := Stand.of_body Bd
  have e0 : s₁.heap = h0 := by rw [← hh, Bd.state]; rfl
  have N0 := Fr.nil n0
  refine own_of (S := s₁.setTop (entryFrame m #[(.ref a1), (.int p2)] 4)) (S' := s₁.setTop (mkF m 0 #[.val (.ref a1), .val (.int p2), .unset, .unset] [])) (K := fun s₂ o => ∃ v L, o = .returned v ∧ Q5 Z a1 p2 bu fb y0 y1 h0 n0 v s₂.heap L ∧ FrameEnd s o s₂ L ({ frames := 4, cells := 2, slots := 4, locals := 3088 } : Room).cells ({ frames := 4, cells := 2, slots := 4, locals := 3088 } : Room).slots) (fun t k => castTop (ef_5 m a1 p2) k) ?_
  refine own_nameK fun K hKd => ?_
  refine own_of (S' := s₁.setTop (mkF m 1 #[.val (.ref a1), .val (.int p2), .unset, .unset] [(.ref a1)])) (fun t k => XS.aloadN X0.here hx rfl (hb hby d5_0) rfl rfl k) ?_
  refine own_of (S' := s₁.setTop (mkF m 2 #[.val (.ref a1), .val (.int p2), .unset, .unset] [(.int p2), (.ref a1)])) (fun t k => XS.iloadN X0.here hx rfl (hb hby d5_1) rfl k) ?_
  obtain ⟨cq1, q1, q1'⟩ := E_a1.cell
  obtain ⟨_, _, ⟨T1, L1, k1, n1⟩, -, X1, ⟨Lc1, hQ1, l1, y1, z1⟩, st1⟩ := X0.privateBack hx (y := (⟨"com/example/waypost/waypost/ber/BerReader", "readHeader", "(I)I"⟩ : MethodName)) hown (mvT hZ (hw _ (List.mem_of_getElem? (i := 30) rfl))) (mvT hZ (hw _ (List.mem_of_getElem? (i := 31) rfl))) (mvT hZ (own_selP (by decide) (hw _ (List.mem_of_getElem? (i := 31) rfl)) (hw _ (List.mem_of_getElem? (i := 32) rfl)) (hw _ (List.mem_of_getElem? (i := 1) rfl)))) (Cond.privateMethod_at (mvP hZ (hw _ (List.mem_of_getElem? (i := 32) rfl)) (args := #[]))) (mvT hZ (hw _ (List.mem_of_getElem? (i := 33) rfl))) (by decide) (own_backH (W := 0) (rm6 l Z a0 hw [] a1 p2 bu fb y0 y1 h0 n0 Z0 E_a1 F_buffer_a1 F_position_a1 F_end_a1 V_bu hy0 hy1 g_a1 hbr heq hne hle hr0 hr1) hZH (hw _ (List.mem_of_getElem? (i := 33) rfl)) (hw _ (List.mem_of_getElem? (i := 2) rfl)) (by decide) (by decide)) (g := (mkF m 2 #[.val (.ref a1), .val (.int p2), .unset, .unset] [(.int p2), (.ref a1)])) rfl (by rw [hml]; rfl) (Steps.refl _) (a := a1) (by rw [e0]; exact q1) q1' (argsL := [(.int p2)]) (rest := []) (lenOf pd5_0 rfl) rfl (by show 2 * 0 + _ ≤ _; exact Nat.le_of_eq rfl) (hb hby d5_2) (fun _ _ => ⟨rfl, e0, (by decide : 0 + _ ≤ _), (by decide : 0 + _ ≤ _)⟩)
  dsimp only [Pt.U, Pt.locs, Pt.cells, Pt.slots] at X1 l1 y1 z1 st1 hQ1
  subst l1 y1 z1
  obtain ⟨rfl, N1q, K1, F_buffer_q1_0, F_position_q1_1, F_end_q1_2⟩ := hQ1
  have N1 := Fr.app N0 N1q
  refine own_of (S' := T1.setTop (mkF m 5 #[.val (.ref a1), .val (.int p2), .unset, .unset] [(.int (y1 &&& (255 : Int32)))])) (fun t k => st1.trans k) ?_
  refine own_of (S' := T1.setTop (mkF m 6 #[.val (.ref a1), .val (.int p2), .val (.int (y1 &&& (255 : Int32))), .unset] [])) (fun t k => XS.istoreN X1.here hx rfl (hb hby d5_5) rfl (l' := #[.val (.ref a1), .val (.int p2), .val (.int (y1 &&& (255 : Int32))), .unset]) rfl k) ?_
  obtain ⟨T2, h2, X2, e2, E2, A2, D2, -, st2⟩ := newO X1 hx hZ hown (hw _ (List.mem_of_getElem? (i := 53) rfl)) (hw _ (List.mem_of_getElem? (i := 1) rfl)) (hw _ (List.mem_of_getElem? (i := 2) rfl)) rfl (g := (mkF m 6 #[.val (.ref a1), .val (.int p2), .val (.int (y1 &&& (255 : Int32))), .unset] [])) rfl (hb hby d5_6) (by decide) (by decide)
  obtain ⟨b2, g2⟩ : ∃ z, z = T1.heap.size := ⟨_, rfl⟩
  rw [← g2] at A2 D2 st2
  have KK3 : Keep h0 h0 [a1] := Keep.refl _ _
  have KK4 : Keep h0 T1.heap [a1] := KK3.trans K1 (allS (Or.inl (List.mem_of_getElem? (i := 0) rfl)) all0)
  have g_b2 : n0 ≤ b2 := Nat.le_trans Z0 (Nat.le_trans KK4.1 (Nat.le_of_eq g2.symm))
  have F_buffer_b2 : Fld Z h2 b2 "com/example/waypost/waypost/ber/BerReader" "buffer" "[B" .null := D2 (Or.inr (hw _ (List.mem_of_getElem? (i := 14) rfl))) (ty := (.array .byte)) (by decide)
  have F_position_b2 : Fld Z h2 b2 "com/example/waypost/waypost/ber/BerReader" "position" "I" (.int (0 : Int32)) := D2 (Or.inl (hw _ (List.mem_of_getElem? (i := 16) rfl))) (ty := .int) (by decide)
  have F_end_b2 : Fld Z h2 b2 "com/example/waypost/waypost/ber/BerReader" "end" "I" (.int (0 : Int32)) := D2 (Or.inr (hw _ (List.mem_of_getElem? (i := 18) rfl))) (ty := .int) (by decide)
  refine own_of (S' := T2.setTop (mkF m 9 #[.val (.ref a1), .val (.int p2), .val (.int (y1 &&& (255 : Int32))), .unset] [(.ref b2)])) st2 ?_
  refine own_of (S' := T2.setTop (mkF m 10 #[.val (.ref a1), .val (.int p2), .val (.int (y1 &&& (255 : Int32))), .unset] [(.ref b2), (.ref b2)])) (fun t k => XS.dup X2.here hx rfl (hb hby d5_9) rfl rfl k) ?_
  refine own_of (S' := T2.setTop (mkF m 11 #[.val (.ref a1), .val (.int p2), .val (.int (y1 &&& (255 : Int32))), .unset] [(.ref a1), (.ref b2), (.ref b2)])) (fun t k => XS.aloadN X2.here hx rfl (hb hby d5_10) rfl rfl k) ?_
  have F_buffer_q1_0_t5 : Fld Z h2 a1 "com/example/waypost/waypost/ber/BerReader" "buffer" "[B" (.ref bu) := (F_buffer_q1_0.ext E2)
  obtain ⟨T6, X6, e6, st6⟩ := getF X2 hx hZ hown (host := "") (Or.inl (hw _ (List.mem_of_getElem? (i := 13) rfl))) Via.refl e2 F_buffer_q1_0_t5 (g := (mkF m 11 #[.val (.ref a1), .val (.int p2), .val (.int (y1 &&& (255 : Int32))), .unset] [(.ref a1), (.ref b2), (.ref b2)])) rfl rfl (hb hby d5_11)
  refine own_of (S' := T6.setTop (mkF m 14 #[.val (.ref a1), .val (.int p2), .val (.int (y1 &&& (255 : Int32))), .unset] [(.ref bu), (.ref b2), (.ref b2)])) st6 ?_
  refine own_of (S' := T6.setTop (mkF m 15 #[.val (.ref a1), .val (.int p2), .val (.int (y1 &&& (255 : Int32))), .unset] [(.ref a1), (.ref bu), (.ref b2), (.ref b2)])) (fun t k => XS.aloadN X6.here hx rfl (hb hby d5_14) rfl rfl k) ?_
  have F_position_q1_1_t7 : Fld Z h2 a1 "com/example/waypost/waypost/ber/BerReader" "position" "I" (.int (2 : Int32)) := (F_position_q1_1.ext E2)
  obtain ⟨T8, X8, e8, st8⟩ := getF X6 hx hZ hown (host := "") (Or.inl (hw _ (List.mem_of_getElem? (i := 15) rfl))) Via.refl e6 F_position_q1_1_t7 (g := (mkF m 15 #[.val (.ref a1), .val (.int p2), .val (.int (y1 &&& (255 : Int32))), .unset] [(.ref a1), (.ref bu), (.ref b2), (.ref b2)])) rfl rfl (hb hby d5_15)
  refine own_of (S' := T8.setTop (mkF m 18 #[.val (.ref a1), .val (.int p2), .val (.int (y1 &&& (255 : Int32))), .unset] [(.int (2 : Int32)), (.ref bu), (.ref b2), (.ref b2)])) st8 ?_
  refine own_of (S' := T8.setTop (mkF m 19 #[.val (.ref a1), .val (.int p2), .val (.int (y1 &&& (255 : Int32))), .unset] [(.ref a1), (.int (2 : Int32)), (.ref bu), (.ref b2), (.ref b2)])) (fun t k => XS.aloadN X8.here hx rfl (hb hby d5_18) rfl rfl k) ?_
  obtain ⟨T9, X9, e9, st9⟩ := getF X8 hx hZ hown (host := "") (Or.inl (hw _ (List.mem_of_getElem? (i := 15) rfl))) Via.refl e8 F_position_q1_1_t7 (g := (mkF m 19 #[.val (.ref a1), .val (.int p2), .val (.int (y1 &&& (255 : Int32))), .unset] [(.ref a1), (.int (2 : Int32)), (.ref bu), (.ref b2), (.ref b2)])) rfl rfl (hb hby d5_19)
  refine own_of (S' := T9.setTop (mkF m 22 #[.val (.ref a1), .val (.int p2), .val (.int (y1 &&& (255 : Int32))), .unset] [(.int (2 : Int32)), (.int (2 : Int32)), (.ref bu), (.ref b2), (.ref b2)])) st9 ?_
  refine own_of (S' := T9.setTop (mkF m 23 #[.val (.ref a1), .val (.int p2), .val (.int (y1 &&& (255 : Int32))), .unset] [(.int (y1 &&& (255 : Int32))), (.int (2 : Int32)), (.int (2 : Int32)), (.ref bu), (.ref b2), (.ref b2)])) (fun t k => XS.iloadN X9.here hx rfl (hb hby d5_22) rfl k) ?_
  refine own_of (S' := T9.setTop (mkF m 24 #[.val (.ref a1), .val (.int p2), .val (.int (y1 &&& (255 : Int32))), .unset] [(.int ((2 : Int32) + (y1 &&& (255 : Int32)))), (.int (2 : Int32)), (.ref bu), (.ref b2), (.ref b2)])) (fun t k => XS.iadd X9.here hx rfl (hb hby d5_23) rfl k) ?_
  have KK10 : Keep h0 h2 [a1] := KK4.ext E2
  obtain ⟨_, _, ⟨T11, L11, k11, n11⟩, -, X11, ⟨Lc11, hQ11, l11, y11, z11⟩, st11⟩ := X9.specialBack hx (y := (⟨"com/example/waypost/waypost/ber/BerReader", "<init>", "([BII)V"⟩ : MethodName)) rfl hown (mvT hZ (hw _ (List.mem_of_getElem? (i := 7) rfl))) (mvT hZ (hw _ (List.mem_of_getElem? (i := 8) rfl))) (mvT hZ (hw _ (List.mem_of_getElem? (i := 9) rfl))) (by decide) (own_backH (W := 1) (rm2 l Z a0 hw [] b2 bu (2 : Int32) ((2 : Int32) + (y1 &&& (255 : Int32))) h2 n0 (Nat.le_trans Z0 KK10.1) A2 F_buffer_b2 F_position_b2 F_end_b2 g_b2) hZH (hw _ (List.mem_of_getElem? (i := 9) rfl)) (hw _ (List.mem_of_getElem? (i := 2) rfl)) (by decide) (by decide)) (g := (mkF m 24 #[.val (.ref a1), .val (.int p2), .val (.int (y1 &&& (255 : Int32))), .unset] [(.int ((2 : Int32) + (y1 &&& (255 : Int32)))), (.int (2 : Int32)), (.ref bu), (.ref b2), (.ref b2)])) rfl (by rw [hml]; rfl) (Steps.refl _) (a := b2) (argsL := [(.ref bu), (.int (2 : Int32)), (.int ((2 : Int32) + (y1 &&& (255 : Int32))))]) (rest := [(.ref b2)]) (lenOf pd5_1 rfl) rfl (by show 2 * 0 + _ ≤ _; exact Nat.le_of_eq rfl) (hb hby d5_24) (fun _ _ => ⟨rfl, e9, (by decide : ((0 + 1) + 1) + _ ≤ _), (by decide : ((0 + 1) + 3) + _ ≤ _)⟩)
  dsimp only [Pt.U, Pt.locs, Pt.cells, Pt.slots] at X11 l11 y11 z11 st11 hQ11
  subst l11 y11 z11
  obtain ⟨rfl, N11q, K11, F_buffer_q11_0, F_position_q11_1, F_end_q11_2⟩ := hQ11
  have N11 := Fr.app N1 N11q
  refine own_of (S' := T11.setTop (mkF m 27 #[.val (.ref a1), .val (.int p2), .val (.int (y1 &&& (255 : Int32))), .unset] [(.ref b2)])) (fun t k => st11.trans k) ?_
  refine own_of (S' := T11.setTop (mkF m 28 #[.val (.ref a1), .val (.int p2), .val (.int (y1 &&& (255 : Int32))), .val (.ref b2)] [])) (fun t k => XS.astoreN X11.here hx rfl (hb hby d5_27) rfl rfl (l' := #[.val (.ref a1), .val (.int p2), .val (.int (y1 &&& (255 : Int32))), .val (.ref b2)]) rfl k) ?_
  refine own_of (S' := T11.setTop (mkF m 29 #[.val (.ref a1), .val (.int p2), .val (.int (y1 &&& (255 : Int32))), .val (.ref b2)] [(.ref a1)])) (fun t k => XS.aloadN X11.here hx rfl (hb hby d5_28) rfl rfl k) ?_
  refine own_of (S' := T11.setTop (mkF m 30 #[.val (.ref a1), .val (.int p2), .val (.int (y1 &&& (255 : Int32))), .val (.ref b2)] [(.ref a1), (.ref a1)])) (fun t k => XS.dup X11.here hx rfl (hb hby d5_29) rfl rfl k) ?_
  have F_position_q1_1_t12 : Fld Z T11.heap a1 "com/example/waypost/waypost/ber/BerReader" "position" "I" (.int (2 : Int32)) := (F_position_q1_1_t7.keep K11 (ninS (Nat.ne_of_lt (Nat.lt_of_lt_of_le (Nat.lt_of_lt_of_le E_a1.lt KK4.1) (Nat.le_of_eq g2.symm))) nin0))
  obtain ⟨T13, X13, e13, st13⟩ := getF X11 hx hZ hown (host := "") (Or.inl (hw _ (List.mem_of_getElem? (i := 15) rfl))) Via.refl rfl F_position_q1_1_t12 (g := (mkF m 30 #[.val (.ref a1), .val (.int p2), .val (.int (y1 &&& (255 : Int32))), .val (.ref b2)] [(.ref a1), (.ref a1)])) rfl rfl (hb hby d5_30)
  refine own_of (S' := T13.setTop (mkF m 33 #[.val (.ref a1), .val (.int p2), .val (.int (y1 &&& (255 : Int32))), .val (.ref b2)] [(.int (2 : Int32)), (.ref a1)])) st13 ?_
  refine own_of (S' := T13.setTop (mkF m 34 #[.val (.ref a1), .val (.int p2), .val (.int (y1 &&& (255 : Int32))), .val (.ref b2)] [(.int (y1 &&& (255 : Int32))), (.int (2 : Int32)), (.ref a1)])) (fun t k => XS.iloadN X13.here hx rfl (hb hby d5_33) rfl k) ?_
  refine own_of (S' := T13.setTop (mkF m 35 #[.val (.ref a1), .val (.int p2), .val (.int (y1 &&& (255 : Int32))), .val (.ref b2)] [(.int ((2 : Int32) + (y1 &&& (255 : Int32)))), (.ref a1)])) (fun t k => XS.iadd X13.here hx rfl (hb hby d5_34) rfl k) ?_
  have KK14 : Keep h0 T11.heap [a1] := KK10.trans K11 (allS (Or.inr (Nat.le_trans KK4.1 (Nat.le_of_eq g2.symm))) all0)
  have E_a1_t15 : Exa Z T11.heap a1 "com/example/waypost/waypost/ber/BerReader" := E_a1.keep KK14
  obtain ⟨T16, h16, X16, e16, W16, st16⟩ := putF X13 hx hZ hown (host := "") (Or.inl (hw _ (List.mem_of_getElem? (i := 15) rfl))) Via.refl e13 F_position_q1_1_t12 E_a1_t15 (Or.inl (hw _ (List.mem_of_getElem? (i := 16) rfl))) (hw _ (List.mem_of_getElem? (i := 1) rfl)) (ty := .int) (by decide) rfl rfl (g := (mkF m 35 #[.val (.ref a1), .val (.int p2), .val (.int (y1 &&& (255 : Int32))), .val (.ref b2)] [(.int ((2 : Int32) + (y1 &&& (255 : Int32)))), (.ref a1)])) rfl rfl (hb hby d5_35)
  have N16 := Fr.snoc X16 N11 g_a1
  have Fw_position_16 : Fld Z h16 a1 "com/example/waypost/waypost/ber/BerReader" "position" "I" (.int ((2 : Int32) + (y1 &&& (255 : Int32)))) := F_position_q1_1_t12.same W16
  refine own_of (S' := T16.setTop (mkF m 38 #[.val (.ref a1), .val (.int p2), .val (.int (y1 &&& (255 : Int32))), .val (.ref b2)] [])) st16 ?_
  refine own_of (S' := T16.setTop (mkF m 39 #[.val (.ref a1), .val (.int p2), .val (.int (y1 &&& (255 : Int32))), .val (.ref b2)] [(.ref b2)])) (fun t k => XS.aloadN X16.here hx rfl (hb hby d5_38) rfl rfl k) ?_
  obtain ⟨fs, hr, hrun, hended, hW, hsame⟩ := X16.leave (v := some (.ref b2)) (fun h => by rw [Bd.returns] at h; cases h)
  have KK17 : Keep h0 h16 [a1] := KK14.wr W16 (Or.inl (List.mem_of_getElem? (i := 0) rfl))
  have A2_t18 : Exa Z T11.heap b2 "com/example/waypost/waypost/ber/BerReader" := (A2.keep K11)
  have A2_t19 : Exa Z h16 b2 "com/example/waypost/waypost/ber/BerReader" := (A2_t18.wr W16)
  have F_position_q11_1_t20 : Fld Z h16 b2 "com/example/waypost/waypost/ber/BerReader" "position" "I" (.int (2 : Int32)) := (F_position_q11_1.other W16 (Or.inl (Ne.symm (Nat.ne_of_lt (Nat.lt_of_lt_of_le (Nat.lt_of_lt_of_le E_a1.lt KK4.1) (Nat.le_of_eq g2.symm))))))
  have F_end_q11_2_t21 : Fld Z h16 b2 "com/example/waypost/waypost/ber/BerReader" "end" "I" (.int ((2 : Int32) + (y1 &&& (255 : Int32)))) := (F_end_q11_2.other W16 (Or.inl (Ne.symm (Nat.ne_of_lt (Nat.lt_of_lt_of_le (Nat.lt_of_lt_of_le E_a1.lt KK4.1) (Nat.le_of_eq g2.symm))))))
  have F_end_q1_2_t22 : Fld Z h2 a1 "com/example/waypost/waypost/ber/BerReader" "end" "I" (.int (8 : Int32)) := (F_end_q1_2.ext E2)
  have F_end_q1_2_t23 : Fld Z T11.heap a1 "com/example/waypost/waypost/ber/BerReader" "end" "I" (.int (8 : Int32)) := (F_end_q1_2_t22.keep K11 (ninS (Nat.ne_of_lt (Nat.lt_of_lt_of_le (Nat.lt_of_lt_of_le E_a1.lt KK4.1) (Nat.le_of_eq g2.symm))) nin0))
  have F_end_q1_2_t24 : Fld Z h16 a1 "com/example/waypost/waypost/ber/BerReader" "end" "I" (.int (8 : Int32)) := (F_end_q1_2_t23.other W16 (Or.inr (slot_ne (Or.inr (hw _ (List.mem_of_getElem? (i := 18) rfl))) (Or.inl (hw _ (List.mem_of_getElem? (i := 16) rfl))) (by decide) (t := .int) (t' := .int) (by decide) (by decide))))
  subst hKd
  exact ⟨_, _, (retOut X16 hx Bd.returns rfl (Or.inr (Or.inr (Or.inr (Or.inr ⟨rfl, rfl, rfl⟩)))) (hb hby d5_39) hr), hrun, hended, _, _, rfl, (by
    show Q5 Z a1 p2 bu fb y0 y1 h0 n0 _ T16.heap _
    rw [show T16.heap = h16 from e16]
    exact ⟨b2, rfl, N16, KK17, (Nat.le_trans KK4.1 (Nat.le_of_eq g2.symm)), A2_t19, F_position_q11_1_t20, F_end_q11_2_t21, Fw_position_16, F_end_q1_2_t24⟩), ⟨_, rfl⟩, hW, hsame.mono (by decide) (by decide)⟩
theorem pn_0 : plainName "com/example/waypost/waypost/ber/BerReaderHasRemainingPinLaw" = true := by first | (simp [plainName, overriddenIn]; done) | decide +kernel
theorem pd0_0 : parseMethodDescriptor "([B)V" = some ⟨[(.array .byte)], none⟩ := by decide +kernel
theorem pd0_1 : parseMethodDescriptor "()Z" = some ⟨[], some .boolean⟩ := by decide +kernel
theorem pd0_2 : parseMethodDescriptor "(I)Lcom/example/waypost/waypost/ber/BerReader;" = some ⟨[.int], some (.object "com/example/waypost/waypost/ber/BerReader")⟩ := by decide +kernel
theorem ef_0 (m : MethodId) (p1 : Int32) (q2 : Int64) : entryFrame m #[(.int p1), (.long q2)] maxLocals = mkF m 0 #[.val (.int p1), .val (.long q2), .second, .unset, .unset, .unset, .unset, .unset, .unset, .unset, .unset, .unset] [] := by first | (simp [entryFrame, mkF, argsToLocals, Value.category, maxLocals]; done) | rfl
def Q0 (Z : State) (p1 : Int32) (q2 : Int64) (h0 : Heap) (n0 : Nat) (v : Option Value) (h : Heap) (L : List Loc) : Prop := (v = some (.int (1 : Int32))) ∧ (Fr n0 L)
set_option maxRecDepth 65536 in
set_option maxHeartbeats 40000000 in
theorem rm0 (l : Launch) (Z : State) (a0 : Array Value) (hw : ∀ d ∈ tables_1, d.before a0 Z = true) (ws : List Jvm.Cond) (p1 : Int32) (q2 : Int64) (h0 : Heap) (n0 : Nat) (Z0 : n0 ≤ h0.size) :
    MetFree l x (head1 (Jvm.Cond.code x code maxLocals ret :: ws) room_1) (fun a U => a = #[(.int p1), (.long q2)] ∧ Z.WarmedH U.vm ∧ U.heap = h0) (fun _ _ _ _ _ => True) (fun _ U o U' => ∃ v L, o = .returned v ∧ Q0 Z p1 q2 h0 n0 v U'.heap L ∧ FrameEnd U o U' L room_1.cells room_1.slots) := by
  refine MetFree.of_bodySF (plainFor_of_name pn_0) hisR ?_
  intro p e s m args below meth c s₁ Bd hml0 hP hK
  obtain ⟨rfl, hZH, hh⟩ := hP
  have hZ := hZH.wide
  have hx := Bd.exec
  have hby := Bd.bytes
  have hml : c.maxLocals = 12 := hml0
  have hown : s.vm.findClass "com/example/waypost/waypost/ber/BerReaderHasRemainingPinLaw" = some m.cls := findClass_of_methodNamed Bd.named
  have hnm := (name_of_methodNamed Bd.named Bd.method).1
  have X0 : Stand p l e room_1 s m #[(.int p1), (.long q2)] below meth c s₁ [] 0 0 := Stand.of_body Bd
  have e0 : s₁.heap = h0 := by rw [← hh, Bd.state]; rfl
  have N0 := Fr.nil n0
  refine own_of (S := s₁.setTop (entryFrame m #[(.int p1), (.long q2)] maxLocals)) (S' := s₁.setTop (mkF m 0 #[.val (.int p1), .val (.long q2), .second, .unset, .unset, .unset, .unset, .unset, .unset, .unset, .unset, .unset] [])) (K := fun s₂ o => ∃ v L, o = .returned v ∧ Q0 Z p1 q2 h0 n0 v s₂.heap L ∧ FrameEnd s o s₂ L room_1.cells room_1.slots) (fun t k => castTop (ef_0 m p1 q2) k) ?_
  refine own_nameK fun K hKd => ?_
  obtain ⟨T1, h1, X1, e1, E1, A1, D1, -, st1⟩ := newO X0 hx hZ hown (hw _ (List.mem_of_getElem? (i := 0) rfl)) (hw _ (List.mem_of_getElem? (i := 1) rfl)) (hw _ (List.mem_of_getElem? (i := 2) rfl)) e0 (g := (mkF m 0 #[.val (.int p1), .val (.long q2), .second, .unset, .unset, .unset, .unset, .unset, .unset, .unset, .unset, .unset] [])) rfl (hb hby at_0) (by decide) (by decide)
  obtain ⟨b1, g1⟩ : ∃ z, z = h0.size := ⟨_, rfl⟩
  rw [← g1] at A1 D1 st1
  have KK2 : Keep h0 h0 [] := Keep.refl _ _
  have g_b1 : n0 ≤ b1 := Nat.le_trans Z0 (Nat.le_trans KK2.1 (Nat.le_of_eq g1.symm))
  have F_buffer_b1 : Fld Z h1 b1 "com/example/waypost/waypost/ber/BerReader" "buffer" "[B" .null := D1 (Or.inr (hw _ (List.mem_of_getElem? (i := 14) rfl))) (ty := (.array .byte)) (by decide)
  have F_position_b1 : Fld Z h1 b1 "com/example/waypost/waypost/ber/BerReader" "position" "I" (.int (0 : Int32)) := D1 (Or.inl (hw _ (List.mem_of_getElem? (i := 16) rfl))) (ty := .int) (by decide)
  have F_end_b1 : Fld Z h1 b1 "com/example/waypost/waypost/ber/BerReader" "end" "I" (.int (0 : Int32)) := D1 (Or.inr (hw _ (List.mem_of_getElem? (i := 18) rfl))) (ty := .int) (by decide)
  refine own_of (S' := T1.setTop (mkF m 3 #[.val (.int p1), .val (.long q2), .second, .unset, .unset, .unset, .unset, .unset, .unset, .unset, .unset, .unset] [(.ref b1)])) st1 ?_
  refine own_of (S' := T1.setTop (mkF m 4 #[.val (.int p1), .val (.long q2), .second, .unset, .unset, .unset, .unset, .unset, .unset, .unset, .unset, .unset] [(.ref b1), (.ref b1)])) (fun t k => XS.dup X1.here hx rfl (hb hby at_3) rfl rfl k) ?_
  refine own_of (S' := T1.setTop (mkF m 5 #[.val (.int p1), .val (.long q2), .second, .unset, .unset, .unset, .unset, .unset, .unset, .unset, .unset, .unset] [(.int (0 : Int32)), (.ref b1), (.ref b1)])) (fun t k => XS.iconst X1.here hx rfl (hb hby at_4) k) ?_
  obtain ⟨T3, h3, k3, X3, e3, E3, A3, st3⟩ := newP X1 hx hZ (hw _ (List.mem_of_getElem? (i := 3) rfl)) e1 (g := (mkF m 5 #[.val (.int p1), .val (.long q2), .second, .unset, .unset, .unset, .unset, .unset, .unset, .unset, .unset, .unset] [(.int (0 : Int32)), (.ref b1), (.ref b1)])) rfl (hb hby at_5) rfl (by decide) (cap := 0) (by decide) (by decide) (by decide) (by decide)
  obtain ⟨b3, g3⟩ : ∃ z, z = h1.size := ⟨_, rfl⟩
  rw [← g3] at A3 st3
  have KK4 : Keep h0 h1 [] := KK2.ext E1
  have g_b3 : n0 ≤ b3 := Nat.le_trans Z0 (Nat.le_trans KK4.1 (Nat.le_of_eq g3.symm))
  have V_b3 : own_Ar Z h3 b3 .byte 0 (fun _ => defaultValue .byte) := own_Ar.new A3 (by decide) (by decide)
  refine own_of (S' := T3.setTop (mkF m 7 #[.val (.int p1), .val (.long q2), .second, .unset, .unset, .unset, .unset, .unset, .unset, .unset, .unset, .unset] [(.ref b3), (.ref b1), (.ref b1)])) st3 ?_
  have A1_t5 : Exa Z h3 b1 "com/example/waypost/waypost/ber/BerReader" := (A1.ext E3)
  have F_buffer_b1_t6 : Fld Z h3 b1 "com/example/waypost/waypost/ber/BerReader" "buffer" "[B" .null := (F_buffer_b1.ext E3)
  have F_position_b1_t7 : Fld Z h3 b1 "com/example/waypost/waypost/ber/BerReader" "position" "I" (.int (0 : Int32)) := (F_position_b1.ext E3)
  have F_end_b1_t8 : Fld Z h3 b1 "com/example/waypost/waypost/ber/BerReader" "end" "I" (.int (0 : Int32)) := (F_end_b1.ext E3)
  have KK9 : Keep h0 h3 [] := KK4.ext E3
  obtain ⟨_, _, ⟨T10, L10, k10, n10⟩, -, X10, ⟨Lc10, hQ10, l10, y10, z10⟩, st10⟩ := X3.specialBack hx (y := (⟨"com/example/waypost/waypost/ber/BerReader", "<init>", "([B)V"⟩ : MethodName)) rfl hown (mvT hZ (hw _ (List.mem_of_getElem? (i := 4) rfl))) (mvT hZ (hw _ (List.mem_of_getElem? (i := 5) rfl))) (mvT hZ (hw _ (List.mem_of_getElem? (i := 6) rfl))) (by decide) (own_backH (W := 1) (rm1 l Z a0 hw [] b1 b3 0 (0 : Int32) (fun _ => defaultValue .byte) h3 n0 (Nat.le_trans Z0 KK9.1) A1_t5 F_buffer_b1_t6 F_position_b1_t7 F_end_b1_t8 g_b1 V_b3 (by decide)) hZH (hw _ (List.mem_of_getElem? (i := 6) rfl)) (hw _ (List.mem_of_getElem? (i := 2) rfl)) (by decide) (by decide)) (g := (mkF m 7 #[.val (.int p1), .val (.long q2), .second, .unset, .unset, .unset, .unset, .unset, .unset, .unset, .unset, .unset] [(.ref b3), (.ref b1), (.ref b1)])) rfl (by rw [hml]; rfl) (Steps.refl _) (a := b1) (argsL := [(.ref b3)]) (rest := [(.ref b1)]) (lenOf pd0_0 rfl) rfl (by show 2 * 0 + _ ≤ _; exact Nat.le_of_eq rfl) (hb hby at_7) (fun _ _ => ⟨rfl, e3, (by decide : ((0 + 1) + 1) + _ ≤ _), (by decide : ((0 + 3) + 0) + _ ≤ _)⟩)
  dsimp only [Pt.U, Pt.locs, Pt.cells, Pt.slots] at X10 l10 y10 z10 st10 hQ10
  subst l10 y10 z10
  obtain ⟨rfl, N10q, K10, F_buffer_q10_0, F_position_q10_1, F_end_q10_2⟩ := hQ10
  have N10 := Fr.app N0 N10q
  refine own_of (S' := T10.setTop (mkF m 10 #[.val (.int p1), .val (.long q2), .second, .unset, .unset, .unset, .unset, .unset, .unset, .unset, .unset, .unset] [(.ref b1)])) (fun t k => st10.trans k) ?_
  refine own_of (S' := T10.setTop (mkF m 11 #[.val (.int p1), .val (.long q2), .second, .val (.ref b1), .unset, .unset, .unset, .unset, .unset, .unset, .unset, .unset] [])) (fun t k => XS.astoreN X10.here hx rfl (hb hby at_10) rfl rfl (l' := #[.val (.int p1), .val (.long q2), .second, .val (.ref b1), .unset, .unset, .unset, .unset, .unset, .unset, .unset, .unset]) rfl k) ?_
  refine own_of (S' := T10.setTop (mkF m 12 #[.val (.int p1), .val (.long q2), .second, .val (.ref b1), .unset, .unset, .unset, .unset, .unset, .unset, .unset, .unset] [(.ref b1)])) (fun t k => XS.aloadN X10.here hx rfl (hb hby at_11) rfl rfl k) ?_
  have KK11 : Keep h0 T10.heap [] := KK9.trans K10 (allS (Or.inr (Nat.le_trans KK2.1 (Nat.le_of_eq g1.symm))) all0)
  have A1_t13 : Exa Z T10.heap b1 "com/example/waypost/waypost/ber/BerReader" := (A1_t5.keep K10)
  obtain ⟨cq12, kq12, q12a, q12b, q12c⟩ := isOf hZ rfl A1_t13
  obtain ⟨_, _, ⟨T12, L12, k12, n12⟩, -, X12, ⟨Lc12, hQ12, l12, y12, z12⟩, st12⟩ := X10.virtualBack hx (y := (⟨"com/example/waypost/waypost/ber/BerReader", "hasRemaining", "()Z"⟩ : MethodName)) (z := (⟨"com/example/waypost/waypost/ber/BerReader", "hasRemaining", "()Z"⟩ : MethodName)) hown (mvT hZ (hw _ (List.mem_of_getElem? (i := 19) rfl))) (mvT hZ (hw _ (List.mem_of_getElem? (i := 20) rfl))) (notFace_of_selects (args := #[]) (mvT hZ (hw _ (List.mem_of_getElem? (i := 22) rfl)))) (mvT hZ (hw _ (List.mem_of_getElem? (i := 22) rfl))) (mvT hZ (hw _ (List.mem_of_getElem? (i := 21) rfl))) (by decide) (own_backH (W := 0) (rm4b l Z a0 hw [] b1 (0 : Int32) (0 : Int32) T10.heap n0 (Nat.le_trans Z0 KK11.1) F_position_q10_1 F_end_q10_2 (by decide)) hZH (hw _ (List.mem_of_getElem? (i := 23) rfl)) (hw _ (List.mem_of_getElem? (i := 2) rfl)) (by decide) (by decide)) q12a q12c (g := (mkF m 12 #[.val (.int p1), .val (.long q2), .second, .val (.ref b1), .unset, .unset, .unset, .unset, .unset, .unset, .unset, .unset] [(.ref b1)])) rfl (by rw [hml]; rfl) (Steps.refl _) (argsL := []) (rest := []) (lenOf pd0_1 rfl) rfl (by show 2 * 0 + _ ≤ _; exact Nat.le_of_eq rfl) (hb hby at_12) (fun _ _ => ⟨rfl, rfl, (by decide : (((0 + 1) + 1) + 0) + _ ≤ _), (by decide : (((0 + 3) + 0) + 0) + _ ≤ _)⟩)
  dsimp only [Pt.U, Pt.locs, Pt.cells, Pt.slots] at X12 l12 y12 z12 st12 hQ12
  subst l12 y12 z12
  obtain ⟨rfl, N12q, hh12⟩ := hQ12
  have N12 := Fr.app N10 N12q
  refine own_of (S' := T12.setTop (mkF m 15 #[.val (.int p1), .val (.long q2), .second, .val (.ref b1), .unset, .unset, .unset, .unset, .unset, .unset, .unset, .unset] [(.int (0 : Int32))])) (fun t k => st12.trans k) ?_
  refine own_of (S' := T12.setTop (mkF m 20 #[.val (.int p1), .val (.long q2), .second, .val (.ref b1), .unset, .unset, .unset, .unset, .unset, .unset, .unset, .unset] [])) (fun t k => XS.ifYes X12.here hx rfl (pc0 := 15) (pc' := 20) rfl (hb hby at_15) rfl ((if0 _ _).trans (teq (by decide : (0 : Int32) = (0 : Int32))).1) (by decide) (by decide) k) ?_
  refine own_of (S' := T12.setTop (mkF m 21 #[.val (.int p1), .val (.long q2), .second, .val (.ref b1), .unset, .unset, .unset, .unset, .unset, .unset, .unset, .unset] [(.int p1)])) (fun t k => XS.iloadN X12.here hx rfl (hb hby at_20) rfl k) ?_
  refine own_of (S' := T12.setTop (mkF m 23 #[.val (.int p1), .val (.long q2), .second, .val (.ref b1), .unset, .unset, .unset, .unset, .unset, .unset, .unset, .unset] [(.int (2147483647 : Int32)), (.int p1)])) (X12.ldcInt hx hown (mvT hZ (hw _ (List.mem_of_getElem? (i := 24) rfl))) (g := (mkF m 21 #[.val (.int p1), .val (.long q2), .second, .val (.ref b1), .unset, .unset, .unset, .unset, .unset, .unset, .unset, .unset] [(.int p1)])) rfl (hb hby at_21)) ?_
  refine own_of (S' := T12.setTop (mkF m 24 #[.val (.int p1), .val (.long q2), .second, .val (.ref b1), .unset, .unset, .unset, .unset, .unset, .unset, .unset, .unset] [(.int (p1 &&& (2147483647 : Int32)))])) (fun t k => XS.iand X12.here hx rfl (hb hby at_23) rfl k) ?_
  refine own_of (S' := T12.setTop (mkF m 26 #[.val (.int p1), .val (.long q2), .second, .val (.ref b1), .unset, .unset, .unset, .unset, .unset, .unset, .unset, .unset] [(.int (7 : Int32)), (.int (p1 &&& (2147483647 : Int32)))])) (fun t k => XS.bipush X12.here hx rfl (hb hby at_24) k) ?_
  refine own_of (S' := T12.setTop (mkF m 27 #[.val (.int p1), .val (.long q2), .second, .val (.ref b1), .unset, .unset, .unset, .unset, .unset, .unset, .unset, .unset] [(.int ((p1 &&& (2147483647 : Int32)) % (7 : Int32)))])) (fun t k => iremM X12 hx rfl (hb hby at_26) rfl (by decide) k) ?_
  refine own_of (S' := T12.setTop (mkF m 29 #[.val (.int p1), .val (.long q2), .second, .val (.ref b1), .val (.int ((p1 &&& (2147483647 : Int32)) % (7 : Int32))), .unset, .unset, .unset, .unset, .unset, .unset, .unset] [])) (fun t k => XS.istore X12.here hx rfl (hb hby at_27) rfl (l' := #[.val (.int p1), .val (.long q2), .second, .val (.ref b1), .val (.int ((p1 &&& (2147483647 : Int32)) % (7 : Int32))), .unset, .unset, .unset, .unset, .unset, .unset, .unset]) rfl k) ?_
  refine own_of (S' := T12.setTop (mkF m 31 #[.val (.int p1), .val (.long q2), .second, .val (.ref b1), .val (.int ((p1 &&& (2147483647 : Int32)) % (7 : Int32))), .unset, .unset, .unset, .unset, .unset, .unset, .unset] [(.int (8 : Int32))])) (fun t k => XS.bipush X12.here hx rfl (hb hby at_29) k) ?_
  obtain ⟨T14, h14, k14, X14, e14, E14, A14, st14⟩ := newP X12 hx hZ (hw _ (List.mem_of_getElem? (i := 3) rfl)) (hh12) (g := (mkF m 31 #[.val (.int p1), .val (.long q2), .second, .val (.ref b1), .val (.int ((p1 &&& (2147483647 : Int32)) % (7 : Int32))), .unset, .unset, .unset, .unset, .unset, .unset, .unset] [(.int (8 : Int32))])) rfl (hb hby at_31) rfl (by decide) (cap := 8) (by decide) (by decide) (by decide) (by decide)
  obtain ⟨b14, g14⟩ : ∃ z, z = T10.heap.size := ⟨_, rfl⟩
  rw [← g14] at A14 st14
  have KK15 : Keep h3 h3 [b1] := Keep.refl _ _
  have KK16 : Keep h3 T10.heap [b1] := KK15.trans K10 (allS (Or.inl (List.mem_of_getElem? (i := 0) rfl)) all0)
  have g_b14 : n0 ≤ b14 := Nat.le_trans Z0 (Nat.le_trans KK11.1 (Nat.le_of_eq g14.symm))
  have V_b14 : own_Ar Z h14 b14 .byte 8 (fun _ => defaultValue .byte) := own_Ar.new A14 (by decide) (by decide)
  refine own_of (S' := T14.setTop (mkF m 33 #[.val (.int p1), .val (.long q2), .second, .val (.ref b1), .val (.int ((p1 &&& (2147483647 : Int32)) % (7 : Int32))), .unset, .unset, .unset, .unset, .unset, .unset, .unset] [(.ref b14)])) st14 ?_
  refine own_of (S' := T14.setTop (mkF m 35 #[.val (.int p1), .val (.long q2), .second, .val (.ref b1), .val (.int ((p1 &&& (2147483647 : Int32)) % (7 : Int32))), .val (.ref b14), .unset, .unset, .unset, .unset, .unset, .unset] [])) (fun t k => XS.astore X14.here hx rfl (hb hby at_33) rfl rfl (l' := #[.val (.int p1), .val (.long q2), .second, .val (.ref b1), .val (.int ((p1 &&& (2147483647 : Int32)) % (7 : Int32))), .val (.ref b14), .unset, .unset, .unset, .unset, .unset, .unset]) rfl k) ?_
  refine own_of (S' := T14.setTop (mkF m 37 #[.val (.int p1), .val (.long q2), .second, .val (.ref b1), .val (.int ((p1 &&& (2147483647 : Int32)) % (7 : Int32))), .val (.ref b14), .unset, .unset, .unset, .unset, .unset, .unset] [(.ref b14)])) (fun t k => XS.aload X14.here hx rfl (hb hby at_35) rfl rfl k) ?_
  refine own_of (S' := T14.setTop (mkF m 38 #[.val (.int p1), .val (.long q2), .second, .val (.ref b1), .val (.int ((p1 &&& (2147483647 : Int32)) % (7 : Int32))), .val (.ref b14), .unset, .unset, .unset, .unset, .unset, .unset] [(.int (0 : Int32)), (.ref b14)])) (fun t k => XS.iconst X14.here hx rfl (hb hby at_37) k) ?_
  refine own_of (S' := T14.setTop (mkF m 40 #[.val (.int p1), .val (.long q2), .second, .val (.ref b1), .val (.int ((p1 &&& (2147483647 : Int32)) % (7 : Int32))), .val (.ref b14), .unset, .unset, .unset, .unset, .unset, .unset] [(.int (48 : Int32)), (.int (0 : Int32)), (.ref b14)])) (fun t k => XS.bipush X14.here hx rfl (hb hby at_38) k) ?_
  obtain ⟨T17, h17, L17, X17, e17, W17, V17, hN17, st17⟩ := own_stB X14 hx hZ e14 V_b14 (j := (0 : Int32)) (by decide) (by decide) (g := (mkF m 40 #[.val (.int p1), .val (.long q2), .second, .val (.ref b1), .val (.int ((p1 &&& (2147483647 : Int32)) % (7 : Int32))), .val (.ref b14), .unset, .unset, .unset, .unset, .unset, .unset] [(.int (48 : Int32)), (.int (0 : Int32)), (.ref b14)])) rfl rfl (hb hby at_40)
  have N17 := hN17 _ N12 g_b14
  obtain ⟨fn17, q17⟩ : ∃ y : Nat → Value, y = (fun i => if i = ((0 : Int32)).toNatClampNeg then .int (nar .byte (48 : Int32)) else (fun _ => defaultValue .byte) i) := ⟨_, rfl⟩
  rw [← q17] at V17
  refine own_of (S' := T17.setTop (mkF m 41 #[.val (.int p1), .val (.long q2), .second, .val (.ref b1), .val (.int ((p1 &&& (2147483647 : Int32)) % (7 : Int32))), .val (.ref b14), .unset, .unset, .unset, .unset, .unset, .unset] [])) st17 ?_
  refine own_of (S' := T17.setTop (mkF m 43 #[.val (.int p1), .val (.long q2), .second, .val (.ref b1), .val (.int ((p1 &&& (2147483647 : Int32)) % (7 : Int32))), .val (.ref b14), .unset, .unset, .unset, .unset, .unset, .unset] [(.ref b14)])) (fun t k => XS.aload X17.here hx rfl (hb hby at_41) rfl rfl k) ?_
  refine own_of (S' := T17.setTop (mkF m 44 #[.val (.int p1), .val (.long q2), .second, .val (.ref b1), .val (.int ((p1 &&& (2147483647 : Int32)) % (7 : Int32))), .val (.ref b14), .unset, .unset, .unset, .unset, .unset, .unset] [(.int (1 : Int32)), (.ref b14)])) (fun t k => XS.iconst X17.here hx rfl (hb hby at_43) k) ?_
  refine own_of (S' := T17.setTop (mkF m 46 #[.val (.int p1), .val (.long q2), .second, .val (.ref b1), .val (.int ((p1 &&& (2147483647 : Int32)) % (7 : Int32))), .val (.ref b14), .unset, .unset, .unset, .unset, .unset, .unset] [(.int ((p1 &&& (2147483647 : Int32)) % (7 : Int32))), (.int (1 : Int32)), (.ref b14)])) (fun t k => XS.iload X17.here hx rfl (hb hby at_44) rfl k) ?_
  refine own_of (S' := T17.setTop (mkF m 47 #[.val (.int p1), .val (.long q2), .second, .val (.ref b1), .val (.int ((p1 &&& (2147483647 : Int32)) % (7 : Int32))), .val (.ref b14), .unset, .unset, .unset, .unset, .unset, .unset] [(.int (((p1 &&& (2147483647 : Int32)) % (7 : Int32)).toInt8.toInt32)), (.int (1 : Int32)), (.ref b14)])) (fun t k => XS.i2b X17.here hx rfl (hb hby at_46) rfl k) ?_
  obtain ⟨T18, h18, L18, X18, e18, W18, V18, hN18, st18⟩ := own_stB X17 hx hZ e17 V17 (j := (1 : Int32)) (by decide) (by decide) (g := (mkF m 47 #[.val (.int p1), .val (.long q2), .second, .val (.ref b1), .val (.int ((p1 &&& (2147483647 : Int32)) % (7 : Int32))), .val (.ref b14), .unset, .unset, .unset, .unset, .unset, .unset] [(.int (((p1 &&& (2147483647 : Int32)) % (7 : Int32)).toInt8.toInt32)), (.int (1 : Int32)), (.ref b14)])) rfl rfl (hb hby at_47)
  have N18 := hN18 _ N17 g_b14
  obtain ⟨fn18, q18⟩ : ∃ y : Nat → Value, y = (fun i => if i = ((1 : Int32)).toNatClampNeg then .int (nar .byte (((p1 &&& (2147483647 : Int32)) % (7 : Int32)).toInt8.toInt32)) else fn17 i) := ⟨_, rfl⟩
  rw [← q18] at V18
  refine own_of (S' := T18.setTop (mkF m 48 #[.val (.int p1), .val (.long q2), .second, .val (.ref b1), .val (.int ((p1 &&& (2147483647 : Int32)) % (7 : Int32))), .val (.ref b14), .unset, .unset, .unset, .unset, .unset, .unset] [])) st18 ?_
  refine own_of (S' := T18.setTop (mkF m 50 #[.val (.int p1), .val (.long q2), .second, .val (.ref b1), .val (.int ((p1 &&& (2147483647 : Int32)) % (7 : Int32))), .val (.ref b14), .unset, .unset, .unset, .unset, .unset, .unset] [(.ref b14)])) (fun t k => XS.aload X18.here hx rfl (hb hby at_48) rfl rfl k) ?_
  refine own_of (S' := T18.setTop (mkF m 51 #[.val (.int p1), .val (.long q2), .second, .val (.ref b1), .val (.int ((p1 &&& (2147483647 : Int32)) % (7 : Int32))), .val (.ref b14), .unset, .unset, .unset, .unset, .unset, .unset] [(.int (2 : Int32)), (.ref b14)])) (fun t k => XS.iconst X18.here hx rfl (hb hby at_50) k) ?_
  refine own_of (S' := T18.setTop (mkF m 52 #[.val (.int p1), .val (.long q2), .second, .val (.ref b1), .val (.int ((p1 &&& (2147483647 : Int32)) % (7 : Int32))), .val (.ref b14), .unset, .unset, .unset, .unset, .unset, .unset] [(.long q2), (.int (2 : Int32)), (.ref b14)])) (fun t k => XS.lloadN X18.here hx rfl (hb hby at_51) rfl k) ?_
  refine own_of (S' := T18.setTop (mkF m 53 #[.val (.int p1), .val (.long q2), .second, .val (.ref b1), .val (.int ((p1 &&& (2147483647 : Int32)) % (7 : Int32))), .val (.ref b14), .unset, .unset, .unset, .unset, .unset, .unset] [(.int (q2.toInt32)), (.int (2 : Int32)), (.ref b14)])) (fun t k => XS.l2i X18.here hx rfl (hb hby at_52) rfl k) ?_
  refine own_of (S' := T18.setTop (mkF m 54 #[.val (.int p1), .val (.long q2), .second, .val (.ref b1), .val (.int ((p1 &&& (2147483647 : Int32)) % (7 : Int32))), .val (.ref b14), .unset, .unset, .unset, .unset, .unset, .unset] [(.int ((q2.toInt32).toInt8.toInt32)), (.int (2 : Int32)), (.ref b14)])) (fun t k => XS.i2b X18.here hx rfl (hb hby at_53) rfl k) ?_
  obtain ⟨T19, h19, L19, X19, e19, W19, V19, hN19, st19⟩ := own_stB X18 hx hZ e18 V18 (j := (2 : Int32)) (by decide) (by decide) (g := (mkF m 54 #[.val (.int p1), .val (.long q2), .second, .val (.ref b1), .val (.int ((p1 &&& (2147483647 : Int32)) % (7 : Int32))), .val (.ref b14), .unset, .unset, .unset, .unset, .unset, .unset] [(.int ((q2.toInt32).toInt8.toInt32)), (.int (2 : Int32)), (.ref b14)])) rfl rfl (hb hby at_54)
  have N19 := hN19 _ N18 g_b14
  obtain ⟨fn19, q19⟩ : ∃ y : Nat → Value, y = (fun i => if i = ((2 : Int32)).toNatClampNeg then .int (nar .byte ((q2.toInt32).toInt8.toInt32)) else fn18 i) := ⟨_, rfl⟩
  rw [← q19] at V19
  refine own_of (S' := T19.setTop (mkF m 55 #[.val (.int p1), .val (.long q2), .second, .val (.ref b1), .val (.int ((p1 &&& (2147483647 : Int32)) % (7 : Int32))), .val (.ref b14), .unset, .unset, .unset, .unset, .unset, .unset] [])) st19 ?_
  refine own_of (S' := T19.setTop (mkF m 57 #[.val (.int p1), .val (.long q2), .second, .val (.ref b1), .val (.int ((p1 &&& (2147483647 : Int32)) % (7 : Int32))), .val (.ref b14), .unset, .unset, .unset, .unset, .unset, .unset] [(.ref b14)])) (fun t k => XS.aload X19.here hx rfl (hb hby at_55) rfl rfl k) ?_
  refine own_of (S' := T19.setTop (mkF m 58 #[.val (.int p1), .val (.long q2), .second, .val (.ref b1), .val (.int ((p1 &&& (2147483647 : Int32)) % (7 : Int32))), .val (.ref b14), .unset, .unset, .unset, .unset, .unset, .unset] [(.int (3 : Int32)), (.ref b14)])) (fun t k => XS.iconst X19.here hx rfl (hb hby at_57) k) ?_
  refine own_of (S' := T19.setTop (mkF m 59 #[.val (.int p1), .val (.long q2), .second, .val (.ref b1), .val (.int ((p1 &&& (2147483647 : Int32)) % (7 : Int32))), .val (.ref b14), .unset, .unset, .unset, .unset, .unset, .unset] [(.long q2), (.int (3 : Int32)), (.ref b14)])) (fun t k => XS.lloadN X19.here hx rfl (hb hby at_58) rfl k) ?_
  refine own_of (S' := T19.setTop (mkF m 61 #[.val (.int p1), .val (.long q2), .second, .val (.ref b1), .val (.int ((p1 &&& (2147483647 : Int32)) % (7 : Int32))), .val (.ref b14), .unset, .unset, .unset, .unset, .unset, .unset] [(.int (8 : Int32)), (.long q2), (.int (3 : Int32)), (.ref b14)])) (fun t k => XS.bipush X19.here hx rfl (hb hby at_59) k) ?_
  refine own_of (S' := T19.setTop (mkF m 62 #[.val (.int p1), .val (.long q2), .second, .val (.ref b1), .val (.int ((p1 &&& (2147483647 : Int32)) % (7 : Int32))), .val (.ref b14), .unset, .unset, .unset, .unset, .unset, .unset] [(.long ((q2.toUInt64 >>> ((8 : Int32) &&& 0x3f).toInt64.toUInt64).toInt64)), (.int (3 : Int32)), (.ref b14)])) (fun t k => XS.lushr X19.here hx rfl (hb hby at_61) rfl k) ?_
  refine own_of (S' := T19.setTop (mkF m 63 #[.val (.int p1), .val (.long q2), .second, .val (.ref b1), .val (.int ((p1 &&& (2147483647 : Int32)) % (7 : Int32))), .val (.ref b14), .unset, .unset, .unset, .unset, .unset, .unset] [(.int (((q2.toUInt64 >>> ((8 : Int32) &&& 0x3f).toInt64.toUInt64).toInt64).toInt32)), (.int (3 : Int32)), (.ref b14)])) (fun t k => XS.l2i X19.here hx rfl (hb hby at_62) rfl k) ?_
  refine own_of (S' := T19.setTop (mkF m 64 #[.val (.int p1), .val (.long q2), .second, .val (.ref b1), .val (.int ((p1 &&& (2147483647 : Int32)) % (7 : Int32))), .val (.ref b14), .unset, .unset, .unset, .unset, .unset, .unset] [(.int ((((q2.toUInt64 >>> ((8 : Int32) &&& 0x3f).toInt64.toUInt64).toInt64).toInt32).toInt8.toInt32)), (.int (3 : Int32)), (.ref b14)])) (fun t k => XS.i2b X19.here hx rfl (hb hby at_63) rfl k) ?_
  obtain ⟨T20, h20, L20, X20, e20, W20, V20, hN20, st20⟩ := own_stB X19 hx hZ e19 V19 (j := (3 : Int32)) (by decide) (by decide) (g := (mkF m 64 #[.val (.int p1), .val (.long q2), .second, .val (.ref b1), .val (.int ((p1 &&& (2147483647 : Int32)) % (7 : Int32))), .val (.ref b14), .unset, .unset, .unset, .unset, .unset, .unset] [(.int ((((q2.toUInt64 >>> ((8 : Int32) &&& 0x3f).toInt64.toUInt64).toInt64).toInt32).toInt8.toInt32)), (.int (3 : Int32)), (.ref b14)])) rfl rfl (hb hby at_64)
  have N20 := hN20 _ N19 g_b14
  obtain ⟨fn20, q20⟩ : ∃ y : Nat → Value, y = (fun i => if i = ((3 : Int32)).toNatClampNeg then .int (nar .byte ((((q2.toUInt64 >>> ((8 : Int32) &&& 0x3f).toInt64.toUInt64).toInt64).toInt32).toInt8.toInt32)) else fn19 i) := ⟨_, rfl⟩
  rw [← q20] at V20
  refine own_of (S' := T20.setTop (mkF m 65 #[.val (.int p1), .val (.long q2), .second, .val (.ref b1), .val (.int ((p1 &&& (2147483647 : Int32)) % (7 : Int32))), .val (.ref b14), .unset, .unset, .unset, .unset, .unset, .unset] [])) st20 ?_
  refine own_of (S' := T20.setTop (mkF m 67 #[.val (.int p1), .val (.long q2), .second, .val (.ref b1), .val (.int ((p1 &&& (2147483647 : Int32)) % (7 : Int32))), .val (.ref b14), .unset, .unset, .unset, .unset, .unset, .unset] [(.ref b14)])) (fun t k => XS.aload X20.here hx rfl (hb hby at_65) rfl rfl k) ?_
  refine own_of (S' := T20.setTop (mkF m 68 #[.val (.int p1), .val (.long q2), .second, .val (.ref b1), .val (.int ((p1 &&& (2147483647 : Int32)) % (7 : Int32))), .val (.ref b14), .unset, .unset, .unset, .unset, .unset, .unset] [(.int (4 : Int32)), (.ref b14)])) (fun t k => XS.iconst X20.here hx rfl (hb hby at_67) k) ?_
  refine own_of (S' := T20.setTop (mkF m 69 #[.val (.int p1), .val (.long q2), .second, .val (.ref b1), .val (.int ((p1 &&& (2147483647 : Int32)) % (7 : Int32))), .val (.ref b14), .unset, .unset, .unset, .unset, .unset, .unset] [(.long q2), (.int (4 : Int32)), (.ref b14)])) (fun t k => XS.lloadN X20.here hx rfl (hb hby at_68) rfl k) ?_
  refine own_of (S' := T20.setTop (mkF m 71 #[.val (.int p1), .val (.long q2), .second, .val (.ref b1), .val (.int ((p1 &&& (2147483647 : Int32)) % (7 : Int32))), .val (.ref b14), .unset, .unset, .unset, .unset, .unset, .unset] [(.int (16 : Int32)), (.long q2), (.int (4 : Int32)), (.ref b14)])) (fun t k => XS.bipush X20.here hx rfl (hb hby at_69) k) ?_
  refine own_of (S' := T20.setTop (mkF m 72 #[.val (.int p1), .val (.long q2), .second, .val (.ref b1), .val (.int ((p1 &&& (2147483647 : Int32)) % (7 : Int32))), .val (.ref b14), .unset, .unset, .unset, .unset, .unset, .unset] [(.long ((q2.toUInt64 >>> ((16 : Int32) &&& 0x3f).toInt64.toUInt64).toInt64)), (.int (4 : Int32)), (.ref b14)])) (fun t k => XS.lushr X20.here hx rfl (hb hby at_71) rfl k) ?_
  refine own_of (S' := T20.setTop (mkF m 73 #[.val (.int p1), .val (.long q2), .second, .val (.ref b1), .val (.int ((p1 &&& (2147483647 : Int32)) % (7 : Int32))), .val (.ref b14), .unset, .unset, .unset, .unset, .unset, .unset] [(.int (((q2.toUInt64 >>> ((16 : Int32) &&& 0x3f).toInt64.toUInt64).toInt64).toInt32)), (.int (4 : Int32)), (.ref b14)])) (fun t k => XS.l2i X20.here hx rfl (hb hby at_72) rfl k) ?_
  refine own_of (S' := T20.setTop (mkF m 74 #[.val (.int p1), .val (.long q2), .second, .val (.ref b1), .val (.int ((p1 &&& (2147483647 : Int32)) % (7 : Int32))), .val (.ref b14), .unset, .unset, .unset, .unset, .unset, .unset] [(.int ((((q2.toUInt64 >>> ((16 : Int32) &&& 0x3f).toInt64.toUInt64).toInt64).toInt32).toInt8.toInt32)), (.int (4 : Int32)), (.ref b14)])) (fun t k => XS.i2b X20.here hx rfl (hb hby at_73) rfl k) ?_
  obtain ⟨T21, h21, L21, X21, e21, W21, V21, hN21, st21⟩ := own_stB X20 hx hZ e20 V20 (j := (4 : Int32)) (by decide) (by decide) (g := (mkF m 74 #[.val (.int p1), .val (.long q2), .second, .val (.ref b1), .val (.int ((p1 &&& (2147483647 : Int32)) % (7 : Int32))), .val (.ref b14), .unset, .unset, .unset, .unset, .unset, .unset] [(.int ((((q2.toUInt64 >>> ((16 : Int32) &&& 0x3f).toInt64.toUInt64).toInt64).toInt32).toInt8.toInt32)), (.int (4 : Int32)), (.ref b14)])) rfl rfl (hb hby at_74)
  have N21 := hN21 _ N20 g_b14
  obtain ⟨fn21, q21⟩ : ∃ y : Nat → Value, y = (fun i => if i = ((4 : Int32)).toNatClampNeg then .int (nar .byte ((((q2.toUInt64 >>> ((16 : Int32) &&& 0x3f).toInt64.toUInt64).toInt64).toInt32).toInt8.toInt32)) else fn20 i) := ⟨_, rfl⟩
  rw [← q21] at V21
  refine own_of (S' := T21.setTop (mkF m 75 #[.val (.int p1), .val (.long q2), .second, .val (.ref b1), .val (.int ((p1 &&& (2147483647 : Int32)) % (7 : Int32))), .val (.ref b14), .unset, .unset, .unset, .unset, .unset, .unset] [])) st21 ?_
  refine own_of (S' := T21.setTop (mkF m 77 #[.val (.int p1), .val (.long q2), .second, .val (.ref b1), .val (.int ((p1 &&& (2147483647 : Int32)) % (7 : Int32))), .val (.ref b14), .unset, .unset, .unset, .unset, .unset, .unset] [(.ref b14)])) (fun t k => XS.aload X21.here hx rfl (hb hby at_75) rfl rfl k) ?_
  refine own_of (S' := T21.setTop (mkF m 78 #[.val (.int p1), .val (.long q2), .second, .val (.ref b1), .val (.int ((p1 &&& (2147483647 : Int32)) % (7 : Int32))), .val (.ref b14), .unset, .unset, .unset, .unset, .unset, .unset] [(.int (5 : Int32)), (.ref b14)])) (fun t k => XS.iconst X21.here hx rfl (hb hby at_77) k) ?_
  refine own_of (S' := T21.setTop (mkF m 79 #[.val (.int p1), .val (.long q2), .second, .val (.ref b1), .val (.int ((p1 &&& (2147483647 : Int32)) % (7 : Int32))), .val (.ref b14), .unset, .unset, .unset, .unset, .unset, .unset] [(.long q2), (.int (5 : Int32)), (.ref b14)])) (fun t k => XS.lloadN X21.here hx rfl (hb hby at_78) rfl k) ?_
  refine own_of (S' := T21.setTop (mkF m 81 #[.val (.int p1), .val (.long q2), .second, .val (.ref b1), .val (.int ((p1 &&& (2147483647 : Int32)) % (7 : Int32))), .val (.ref b14), .unset, .unset, .unset, .unset, .unset, .unset] [(.int (24 : Int32)), (.long q2), (.int (5 : Int32)), (.ref b14)])) (fun t k => XS.bipush X21.here hx rfl (hb hby at_79) k) ?_
  refine own_of (S' := T21.setTop (mkF m 82 #[.val (.int p1), .val (.long q2), .second, .val (.ref b1), .val (.int ((p1 &&& (2147483647 : Int32)) % (7 : Int32))), .val (.ref b14), .unset, .unset, .unset, .unset, .unset, .unset] [(.long ((q2.toUInt64 >>> ((24 : Int32) &&& 0x3f).toInt64.toUInt64).toInt64)), (.int (5 : Int32)), (.ref b14)])) (fun t k => XS.lushr X21.here hx rfl (hb hby at_81) rfl k) ?_
  refine own_of (S' := T21.setTop (mkF m 83 #[.val (.int p1), .val (.long q2), .second, .val (.ref b1), .val (.int ((p1 &&& (2147483647 : Int32)) % (7 : Int32))), .val (.ref b14), .unset, .unset, .unset, .unset, .unset, .unset] [(.int (((q2.toUInt64 >>> ((24 : Int32) &&& 0x3f).toInt64.toUInt64).toInt64).toInt32)), (.int (5 : Int32)), (.ref b14)])) (fun t k => XS.l2i X21.here hx rfl (hb hby at_82) rfl k) ?_
  refine own_of (S' := T21.setTop (mkF m 84 #[.val (.int p1), .val (.long q2), .second, .val (.ref b1), .val (.int ((p1 &&& (2147483647 : Int32)) % (7 : Int32))), .val (.ref b14), .unset, .unset, .unset, .unset, .unset, .unset] [(.int ((((q2.toUInt64 >>> ((24 : Int32) &&& 0x3f).toInt64.toUInt64).toInt64).toInt32).toInt8.toInt32)), (.int (5 : Int32)), (.ref b14)])) (fun t k => XS.i2b X21.here hx rfl (hb hby at_83) rfl k) ?_
  obtain ⟨T22, h22, L22, X22, e22, W22, V22, hN22, st22⟩ := own_stB X21 hx hZ e21 V21 (j := (5 : Int32)) (by decide) (by decide) (g := (mkF m 84 #[.val (.int p1), .val (.long q2), .second, .val (.ref b1), .val (.int ((p1 &&& (2147483647 : Int32)) % (7 : Int32))), .val (.ref b14), .unset, .unset, .unset, .unset, .unset, .unset] [(.int ((((q2.toUInt64 >>> ((24 : Int32) &&& 0x3f).toInt64.toUInt64).toInt64).toInt32).toInt8.toInt32)), (.int (5 : Int32)), (.ref b14)])) rfl rfl (hb hby at_84)
  have N22 := hN22 _ N21 g_b14
  obtain ⟨fn22, q22⟩ : ∃ y : Nat → Value, y = (fun i => if i = ((5 : Int32)).toNatClampNeg then .int (nar .byte ((((q2.toUInt64 >>> ((24 : Int32) &&& 0x3f).toInt64.toUInt64).toInt64).toInt32).toInt8.toInt32)) else fn21 i) := ⟨_, rfl⟩
  rw [← q22] at V22
  refine own_of (S' := T22.setTop (mkF m 85 #[.val (.int p1), .val (.long q2), .second, .val (.ref b1), .val (.int ((p1 &&& (2147483647 : Int32)) % (7 : Int32))), .val (.ref b14), .unset, .unset, .unset, .unset, .unset, .unset] [])) st22 ?_
  refine own_of (S' := T22.setTop (mkF m 87 #[.val (.int p1), .val (.long q2), .second, .val (.ref b1), .val (.int ((p1 &&& (2147483647 : Int32)) % (7 : Int32))), .val (.ref b14), .unset, .unset, .unset, .unset, .unset, .unset] [(.ref b14)])) (fun t k => XS.aload X22.here hx rfl (hb hby at_85) rfl rfl k) ?_
  refine own_of (S' := T22.setTop (mkF m 89 #[.val (.int p1), .val (.long q2), .second, .val (.ref b1), .val (.int ((p1 &&& (2147483647 : Int32)) % (7 : Int32))), .val (.ref b14), .unset, .unset, .unset, .unset, .unset, .unset] [(.int (6 : Int32)), (.ref b14)])) (fun t k => XS.bipush X22.here hx rfl (hb hby at_87) k) ?_
  refine own_of (S' := T22.setTop (mkF m 90 #[.val (.int p1), .val (.long q2), .second, .val (.ref b1), .val (.int ((p1 &&& (2147483647 : Int32)) % (7 : Int32))), .val (.ref b14), .unset, .unset, .unset, .unset, .unset, .unset] [(.long q2), (.int (6 : Int32)), (.ref b14)])) (fun t k => XS.lloadN X22.here hx rfl (hb hby at_89) rfl k) ?_
  refine own_of (S' := T22.setTop (mkF m 92 #[.val (.int p1), .val (.long q2), .second, .val (.ref b1), .val (.int ((p1 &&& (2147483647 : Int32)) % (7 : Int32))), .val (.ref b14), .unset, .unset, .unset, .unset, .unset, .unset] [(.int (32 : Int32)), (.long q2), (.int (6 : Int32)), (.ref b14)])) (fun t k => XS.bipush X22.here hx rfl (hb hby at_90) k) ?_
  refine own_of (S' := T22.setTop (mkF m 93 #[.val (.int p1), .val (.long q2), .second, .val (.ref b1), .val (.int ((p1 &&& (2147483647 : Int32)) % (7 : Int32))), .val (.ref b14), .unset, .unset, .unset, .unset, .unset, .unset] [(.long ((q2.toUInt64 >>> ((32 : Int32) &&& 0x3f).toInt64.toUInt64).toInt64)), (.int (6 : Int32)), (.ref b14)])) (fun t k => XS.lushr X22.here hx rfl (hb hby at_92) rfl k) ?_
  refine own_of (S' := T22.setTop (mkF m 94 #[.val (.int p1), .val (.long q2), .second, .val (.ref b1), .val (.int ((p1 &&& (2147483647 : Int32)) % (7 : Int32))), .val (.ref b14), .unset, .unset, .unset, .unset, .unset, .unset] [(.int (((q2.toUInt64 >>> ((32 : Int32) &&& 0x3f).toInt64.toUInt64).toInt64).toInt32)), (.int (6 : Int32)), (.ref b14)])) (fun t k => XS.l2i X22.here hx rfl (hb hby at_93) rfl k) ?_
  refine own_of (S' := T22.setTop (mkF m 95 #[.val (.int p1), .val (.long q2), .second, .val (.ref b1), .val (.int ((p1 &&& (2147483647 : Int32)) % (7 : Int32))), .val (.ref b14), .unset, .unset, .unset, .unset, .unset, .unset] [(.int ((((q2.toUInt64 >>> ((32 : Int32) &&& 0x3f).toInt64.toUInt64).toInt64).toInt32).toInt8.toInt32)), (.int (6 : Int32)), (.ref b14)])) (fun t k => XS.i2b X22.here hx rfl (hb hby at_94) rfl k) ?_
  obtain ⟨T23, h23, L23, X23, e23, W23, V23, hN23, st23⟩ := own_stB X22 hx hZ e22 V22 (j := (6 : Int32)) (by decide) (by decide) (g := (mkF m 95 #[.val (.int p1), .val (.long q2), .second, .val (.ref b1), .val (.int ((p1 &&& (2147483647 : Int32)) % (7 : Int32))), .val (.ref b14), .unset, .unset, .unset, .unset, .unset, .unset] [(.int ((((q2.toUInt64 >>> ((32 : Int32) &&& 0x3f).toInt64.toUInt64).toInt64).toInt32).toInt8.toInt32)), (.int (6 : Int32)), (.ref b14)])) rfl rfl (hb hby at_95)
  have N23 := hN23 _ N22 g_b14
  obtain ⟨fn23, q23⟩ : ∃ y : Nat → Value, y = (fun i => if i = ((6 : Int32)).toNatClampNeg then .int (nar .byte ((((q2.toUInt64 >>> ((32 : Int32) &&& 0x3f).toInt64.toUInt64).toInt64).toInt32).toInt8.toInt32)) else fn22 i) := ⟨_, rfl⟩
  rw [← q23] at V23
  refine own_of (S' := T23.setTop (mkF m 96 #[.val (.int p1), .val (.long q2), .second, .val (.ref b1), .val (.int ((p1 &&& (2147483647 : Int32)) % (7 : Int32))), .val (.ref b14), .unset, .unset, .unset, .unset, .unset, .unset] [])) st23 ?_
  refine own_of (S' := T23.setTop (mkF m 98 #[.val (.int p1), .val (.long q2), .second, .val (.ref b1), .val (.int ((p1 &&& (2147483647 : Int32)) % (7 : Int32))), .val (.ref b14), .unset, .unset, .unset, .unset, .unset, .unset] [(.ref b14)])) (fun t k => XS.aload X23.here hx rfl (hb hby at_96) rfl rfl k) ?_
  refine own_of (S' := T23.setTop (mkF m 100 #[.val (.int p1), .val (.long q2), .second, .val (.ref b1), .val (.int ((p1 &&& (2147483647 : Int32)) % (7 : Int32))), .val (.ref b14), .unset, .unset, .unset, .unset, .unset, .unset] [(.int (7 : Int32)), (.ref b14)])) (fun t k => XS.bipush X23.here hx rfl (hb hby at_98) k) ?_
  refine own_of (S' := T23.setTop (mkF m 101 #[.val (.int p1), .val (.long q2), .second, .val (.ref b1), .val (.int ((p1 &&& (2147483647 : Int32)) % (7 : Int32))), .val (.ref b14), .unset, .unset, .unset, .unset, .unset, .unset] [(.long q2), (.int (7 : Int32)), (.ref b14)])) (fun t k => XS.lloadN X23.here hx rfl (hb hby at_100) rfl k) ?_
  refine own_of (S' := T23.setTop (mkF m 103 #[.val (.int p1), .val (.long q2), .second, .val (.ref b1), .val (.int ((p1 &&& (2147483647 : Int32)) % (7 : Int32))), .val (.ref b14), .unset, .unset, .unset, .unset, .unset, .unset] [(.int (40 : Int32)), (.long q2), (.int (7 : Int32)), (.ref b14)])) (fun t k => XS.bipush X23.here hx rfl (hb hby at_101) k) ?_
  refine own_of (S' := T23.setTop (mkF m 104 #[.val (.int p1), .val (.long q2), .second, .val (.ref b1), .val (.int ((p1 &&& (2147483647 : Int32)) % (7 : Int32))), .val (.ref b14), .unset, .unset, .unset, .unset, .unset, .unset] [(.long ((q2.toUInt64 >>> ((40 : Int32) &&& 0x3f).toInt64.toUInt64).toInt64)), (.int (7 : Int32)), (.ref b14)])) (fun t k => XS.lushr X23.here hx rfl (hb hby at_103) rfl k) ?_
  refine own_of (S' := T23.setTop (mkF m 105 #[.val (.int p1), .val (.long q2), .second, .val (.ref b1), .val (.int ((p1 &&& (2147483647 : Int32)) % (7 : Int32))), .val (.ref b14), .unset, .unset, .unset, .unset, .unset, .unset] [(.int (((q2.toUInt64 >>> ((40 : Int32) &&& 0x3f).toInt64.toUInt64).toInt64).toInt32)), (.int (7 : Int32)), (.ref b14)])) (fun t k => XS.l2i X23.here hx rfl (hb hby at_104) rfl k) ?_
  refine own_of (S' := T23.setTop (mkF m 106 #[.val (.int p1), .val (.long q2), .second, .val (.ref b1), .val (.int ((p1 &&& (2147483647 : Int32)) % (7 : Int32))), .val (.ref b14), .unset, .unset, .unset, .unset, .unset, .unset] [(.int ((((q2.toUInt64 >>> ((40 : Int32) &&& 0x3f).toInt64.toUInt64).toInt64).toInt32).toInt8.toInt32)), (.int (7 : Int32)), (.ref b14)])) (fun t k => XS.i2b X23.here hx rfl (hb hby at_105) rfl k) ?_
  obtain ⟨T24, h24, L24, X24, e24, W24, V24, hN24, st24⟩ := own_stB X23 hx hZ e23 V23 (j := (7 : Int32)) (by decide) (by decide) (g := (mkF m 106 #[.val (.int p1), .val (.long q2), .second, .val (.ref b1), .val (.int ((p1 &&& (2147483647 : Int32)) % (7 : Int32))), .val (.ref b14), .unset, .unset, .unset, .unset, .unset, .unset] [(.int ((((q2.toUInt64 >>> ((40 : Int32) &&& 0x3f).toInt64.toUInt64).toInt64).toInt32).toInt8.toInt32)), (.int (7 : Int32)), (.ref b14)])) rfl rfl (hb hby at_106)
  have N24 := hN24 _ N23 g_b14
  obtain ⟨fn24, q24⟩ : ∃ y : Nat → Value, y = (fun i => if i = ((7 : Int32)).toNatClampNeg then .int (nar .byte ((((q2.toUInt64 >>> ((40 : Int32) &&& 0x3f).toInt64.toUInt64).toInt64).toInt32).toInt8.toInt32)) else fn23 i) := ⟨_, rfl⟩
  rw [← q24] at V24
  refine own_of (S' := T24.setTop (mkF m 107 #[.val (.int p1), .val (.long q2), .second, .val (.ref b1), .val (.int ((p1 &&& (2147483647 : Int32)) % (7 : Int32))), .val (.ref b14), .unset, .unset, .unset, .unset, .unset, .unset] [])) st24 ?_
  obtain ⟨T25, h25, X25, e25, E25, A25, D25, -, st25⟩ := newO X24 hx hZ hown (hw _ (List.mem_of_getElem? (i := 0) rfl)) (hw _ (List.mem_of_getElem? (i := 1) rfl)) (hw _ (List.mem_of_getElem? (i := 2) rfl)) e24 (g := (mkF m 107 #[.val (.int p1), .val (.long q2), .second, .val (.ref b1), .val (.int ((p1 &&& (2147483647 : Int32)) % (7 : Int32))), .val (.ref b14), .unset, .unset, .unset, .unset, .unset, .unset] [])) rfl (hb hby at_107) (by decide) (by decide)
  obtain ⟨b25, g25⟩ : ∃ z, z = h24.size := ⟨_, rfl⟩
  rw [← g25] at A25 D25 st25
  have KK26 : Keep T10.heap T10.heap [] := Keep.refl _ _
  have KK27 : Keep T10.heap h14 [] := KK26.ext E14
  have KK28 : Keep T10.heap h17 [] := KK27.wr W17 (Or.inr (Nat.le_trans KK26.1 (Nat.le_of_eq g14.symm)))
  have KK29 : Keep T10.heap h18 [] := KK28.wr W18 (Or.inr (Nat.le_trans KK26.1 (Nat.le_of_eq g14.symm)))
  have KK30 : Keep T10.heap h19 [] := KK29.wr W19 (Or.inr (Nat.le_trans KK26.1 (Nat.le_of_eq g14.symm)))
  have KK31 : Keep T10.heap h20 [] := KK30.wr W20 (Or.inr (Nat.le_trans KK26.1 (Nat.le_of_eq g14.symm)))
  have KK32 : Keep T10.heap h21 [] := KK31.wr W21 (Or.inr (Nat.le_trans KK26.1 (Nat.le_of_eq g14.symm)))
  have KK33 : Keep T10.heap h22 [] := KK32.wr W22 (Or.inr (Nat.le_trans KK26.1 (Nat.le_of_eq g14.symm)))
  have KK34 : Keep T10.heap h23 [] := KK33.wr W23 (Or.inr (Nat.le_trans KK26.1 (Nat.le_of_eq g14.symm)))
  have KK35 : Keep T10.heap h24 [] := KK34.wr W24 (Or.inr (Nat.le_trans KK26.1 (Nat.le_of_eq g14.symm)))
  have KK36 : Keep h3 h14 [b1] := KK16.ext E14
  have KK37 : Keep h3 h17 [b1] := KK36.wr W17 (Or.inr (Nat.le_trans KK16.1 (Nat.le_of_eq g14.symm)))
  have KK38 : Keep h3 h18 [b1] := KK37.wr W18 (Or.inr (Nat.le_trans KK16.1 (Nat.le_of_eq g14.symm)))
  have KK39 : Keep h3 h19 [b1] := KK38.wr W19 (Or.inr (Nat.le_trans KK16.1 (Nat.le_of_eq g14.symm)))
  have KK40 : Keep h3 h20 [b1] := KK39.wr W20 (Or.inr (Nat.le_trans KK16.1 (Nat.le_of_eq g14.symm)))
  have KK41 : Keep h3 h21 [b1] := KK40.wr W21 (Or.inr (Nat.le_trans KK16.1 (Nat.le_of_eq g14.symm)))
  have KK42 : Keep h3 h22 [b1] := KK41.wr W22 (Or.inr (Nat.le_trans KK16.1 (Nat.le_of_eq g14.symm)))
  have KK43 : Keep h3 h23 [b1] := KK42.wr W23 (Or.inr (Nat.le_trans KK16.1 (Nat.le_of_eq g14.symm)))
  have KK44 : Keep h3 h24 [b1] := KK43.wr W24 (Or.inr (Nat.le_trans KK16.1 (Nat.le_of_eq g14.symm)))
  have KK45 : Keep h0 h14 [] := KK11.ext E14
  have KK46 : Keep h0 h17 [] := KK45.wr W17 (Or.inr (Nat.le_trans KK11.1 (Nat.le_of_eq g14.symm)))
  have KK47 : Keep h0 h18 [] := KK46.wr W18 (Or.inr (Nat.le_trans KK11.1 (Nat.le_of_eq g14.symm)))
  have KK48 : Keep h0 h19 [] := KK47.wr W19 (Or.inr (Nat.le_trans KK11.1 (Nat.le_of_eq g14.symm)))
  have KK49 : Keep h0 h20 [] := KK48.wr W20 (Or.inr (Nat.le_trans KK11.1 (Nat.le_of_eq g14.symm)))
  have KK50 : Keep h0 h21 [] := KK49.wr W21 (Or.inr (Nat.le_trans KK11.1 (Nat.le_of_eq g14.symm)))
  have KK51 : Keep h0 h22 [] := KK50.wr W22 (Or.inr (Nat.le_trans KK11.1 (Nat.le_of_eq g14.symm)))
  have KK52 : Keep h0 h23 [] := KK51.wr W23 (Or.inr (Nat.le_trans KK11.1 (Nat.le_of_eq g14.symm)))
  have KK53 : Keep h0 h24 [] := KK52.wr W24 (Or.inr (Nat.le_trans KK11.1 (Nat.le_of_eq g14.symm)))
  have g_b25 : n0 ≤ b25 := Nat.le_trans Z0 (Nat.le_trans KK53.1 (Nat.le_of_eq g25.symm))
  have F_buffer_b25 : Fld Z h25 b25 "com/example/waypost/waypost/ber/BerReader" "buffer" "[B" .null := D25 (Or.inr (hw _ (List.mem_of_getElem? (i := 14) rfl))) (ty := (.array .byte)) (by decide)
  have F_position_b25 : Fld Z h25 b25 "com/example/waypost/waypost/ber/BerReader" "position" "I" (.int (0 : Int32)) := D25 (Or.inl (hw _ (List.mem_of_getElem? (i := 16) rfl))) (ty := .int) (by decide)
  have F_end_b25 : Fld Z h25 b25 "com/example/waypost/waypost/ber/BerReader" "end" "I" (.int (0 : Int32)) := D25 (Or.inr (hw _ (List.mem_of_getElem? (i := 18) rfl))) (ty := .int) (by decide)
  refine own_of (S' := T25.setTop (mkF m 110 #[.val (.int p1), .val (.long q2), .second, .val (.ref b1), .val (.int ((p1 &&& (2147483647 : Int32)) % (7 : Int32))), .val (.ref b14), .unset, .unset, .unset, .unset, .unset, .unset] [(.ref b25)])) st25 ?_
  refine own_of (S' := T25.setTop (mkF m 111 #[.val (.int p1), .val (.long q2), .second, .val (.ref b1), .val (.int ((p1 &&& (2147483647 : Int32)) % (7 : Int32))), .val (.ref b14), .unset, .unset, .unset, .unset, .unset, .unset] [(.ref b25), (.ref b25)])) (fun t k => XS.dup X25.here hx rfl (hb hby at_110) rfl rfl k) ?_
  refine own_of (S' := T25.setTop (mkF m 113 #[.val (.int p1), .val (.long q2), .second, .val (.ref b1), .val (.int ((p1 &&& (2147483647 : Int32)) % (7 : Int32))), .val (.ref b14), .unset, .unset, .unset, .unset, .unset, .unset] [(.ref b14), (.ref b25), (.ref b25)])) (fun t k => XS.aload X25.here hx rfl (hb hby at_111) rfl rfl k) ?_
  have V24_t54 : own_Ar Z h25 b14 .byte 8 fn24 := (V24.ext E25)
  have KK55 : Keep h0 h25 [] := KK53.ext E25
  obtain ⟨_, _, ⟨T56, L56, k56, n56⟩, -, X56, ⟨Lc56, hQ56, l56, y56, z56⟩, st56⟩ := X25.specialBack hx (y := (⟨"com/example/waypost/waypost/ber/BerReader", "<init>", "([B)V"⟩ : MethodName)) rfl hown (mvT hZ (hw _ (List.mem_of_getElem? (i := 4) rfl))) (mvT hZ (hw _ (List.mem_of_getElem? (i := 5) rfl))) (mvT hZ (hw _ (List.mem_of_getElem? (i := 6) rfl))) (by decide) (own_backH (W := 1) (rm1 l Z a0 hw [] b25 b14 8 (8 : Int32) fn24 h25 n0 (Nat.le_trans Z0 KK55.1) A25 F_buffer_b25 F_position_b25 F_end_b25 g_b25 V24_t54 (by decide)) hZH (hw _ (List.mem_of_getElem? (i := 6) rfl)) (hw _ (List.mem_of_getElem? (i := 2) rfl)) (by decide) (by decide)) (g := (mkF m 113 #[.val (.int p1), .val (.long q2), .second, .val (.ref b1), .val (.int ((p1 &&& (2147483647 : Int32)) % (7 : Int32))), .val (.ref b14), .unset, .unset, .unset, .unset, .unset, .unset] [(.ref b14), (.ref b25), (.ref b25)])) rfl (by rw [hml]; rfl) (Steps.refl _) (a := b25) (argsL := [(.ref b14)]) (rest := [(.ref b25)]) (lenOf pd0_0 rfl) rfl (by show 2 * 0 + _ ≤ _; exact Nat.le_of_eq rfl) (hb hby at_113) (fun _ _ => ⟨rfl, e25, (by decide : ((((((0 + 1) + 1) + 0) + 0) + 1) + 1) + _ ≤ _), (by decide : ((((((0 + 3) + 0) + 0) + 0) + 8) + 3) + _ ≤ _)⟩)
  dsimp only [Pt.U, Pt.locs, Pt.cells, Pt.slots] at X56 l56 y56 z56 st56 hQ56
  subst l56 y56 z56
  obtain ⟨rfl, N56q, K56, F_buffer_q56_0, F_position_q56_1, F_end_q56_2⟩ := hQ56
  have N56 := Fr.app N24 N56q
  refine own_of (S' := T56.setTop (mkF m 116 #[.val (.int p1), .val (.long q2), .second, .val (.ref b1), .val (.int ((p1 &&& (2147483647 : Int32)) % (7 : Int32))), .val (.ref b14), .unset, .unset, .unset, .unset, .unset, .unset] [(.ref b25)])) (fun t k => st56.trans k) ?_
  refine own_of (S' := T56.setTop (mkF m 118 #[.val (.int p1), .val (.long q2), .second, .val (.ref b1), .val (.int ((p1 &&& (2147483647 : Int32)) % (7 : Int32))), .val (.ref b14), .val (.ref b25), .unset, .unset, .unset, .unset, .unset] [])) (fun t k => XS.astore X56.here hx rfl (hb hby at_116) rfl rfl (l' := #[.val (.int p1), .val (.long q2), .second, .val (.ref b1), .val (.int ((p1 &&& (2147483647 : Int32)) % (7 : Int32))), .val (.ref b14), .val (.ref b25), .unset, .unset, .unset, .unset, .unset]) rfl k) ?_
  refine own_of (S' := T56.setTop (mkF m 120 #[.val (.int p1), .val (.long q2), .second, .val (.ref b1), .val (.int ((p1 &&& (2147483647 : Int32)) % (7 : Int32))), .val (.ref b14), .val (.ref b25), .unset, .unset, .unset, .unset, .unset] [(.ref b25)])) (fun t k => XS.aload X56.here hx rfl (hb hby at_118) rfl rfl k) ?_
  have KK57 : Keep h0 T56.heap [] := KK55.trans K56 (allS (Or.inr (Nat.le_trans KK53.1 (Nat.le_of_eq g25.symm))) all0)
  have A25_t59 : Exa Z T56.heap b25 "com/example/waypost/waypost/ber/BerReader" := (A25.keep K56)
  obtain ⟨cq58, kq58, q58a, q58b, q58c⟩ := isOf hZ rfl A25_t59
  obtain ⟨_, _, ⟨T58, L58, k58, n58⟩, -, X58, ⟨Lc58, hQ58, l58, y58, z58⟩, st58⟩ := X56.virtualBack hx (y := (⟨"com/example/waypost/waypost/ber/BerReader", "hasRemaining", "()Z"⟩ : MethodName)) (z := (⟨"com/example/waypost/waypost/ber/BerReader", "hasRemaining", "()Z"⟩ : MethodName)) hown (mvT hZ (hw _ (List.mem_of_getElem? (i := 19) rfl))) (mvT hZ (hw _ (List.mem_of_getElem? (i := 20) rfl))) (notFace_of_selects (args := #[]) (mvT hZ (hw _ (List.mem_of_getElem? (i := 22) rfl)))) (mvT hZ (hw _ (List.mem_of_getElem? (i := 22) rfl))) (mvT hZ (hw _ (List.mem_of_getElem? (i := 21) rfl))) (by decide) (own_backH (W := 0) (rm4a l Z a0 hw [] b25 (0 : Int32) (8 : Int32) T56.heap n0 (Nat.le_trans Z0 KK57.1) F_position_q56_1 F_end_q56_2 (by decide)) hZH (hw _ (List.mem_of_getElem? (i := 23) rfl)) (hw _ (List.mem_of_getElem? (i := 2) rfl)) (by decide) (by decide)) q58a q58c (g := (mkF m 120 #[.val (.int p1), .val (.long q2), .second, .val (.ref b1), .val (.int ((p1 &&& (2147483647 : Int32)) % (7 : Int32))), .val (.ref b14), .val (.ref b25), .unset, .unset, .unset, .unset, .unset] [(.ref b25)])) rfl (by rw [hml]; rfl) (Steps.refl _) (argsL := []) (rest := []) (lenOf pd0_1 rfl) rfl (by show 2 * 0 + _ ≤ _; exact Nat.le_of_eq rfl) (hb hby at_120) (fun _ _ => ⟨rfl, rfl, (by decide : (((((((0 + 1) + 1) + 0) + 0) + 1) + 1) + 0) + _ ≤ _), (by decide : (((((((0 + 3) + 0) + 0) + 0) + 8) + 3) + 0) + _ ≤ _)⟩)
  dsimp only [Pt.U, Pt.locs, Pt.cells, Pt.slots] at X58 l58 y58 z58 st58 hQ58
  subst l58 y58 z58
  obtain ⟨rfl, N58q, hh58⟩ := hQ58
  have N58 := Fr.app N56 N58q
  refine own_of (S' := T58.setTop (mkF m 123 #[.val (.int p1), .val (.long q2), .second, .val (.ref b1), .val (.int ((p1 &&& (2147483647 : Int32)) % (7 : Int32))), .val (.ref b14), .val (.ref b25), .unset, .unset, .unset, .unset, .unset] [(.int (1 : Int32))])) (fun t k => st58.trans k) ?_
  refine own_of (S' := T58.setTop (mkF m 125 #[.val (.int p1), .val (.long q2), .second, .val (.ref b1), .val (.int ((p1 &&& (2147483647 : Int32)) % (7 : Int32))), .val (.ref b14), .val (.ref b25), .val (.int (1 : Int32)), .unset, .unset, .unset, .unset] [])) (fun t k => XS.istore X58.here hx rfl (hb hby at_123) rfl (l' := #[.val (.int p1), .val (.long q2), .second, .val (.ref b1), .val (.int ((p1 &&& (2147483647 : Int32)) % (7 : Int32))), .val (.ref b14), .val (.ref b25), .val (.int (1 : Int32)), .unset, .unset, .unset, .unset]) rfl k) ?_
  refine own_of (S' := T58.setTop (mkF m 127 #[.val (.int p1), .val (.long q2), .second, .val (.ref b1), .val (.int ((p1 &&& (2147483647 : Int32)) % (7 : Int32))), .val (.ref b14), .val (.ref b25), .val (.int (1 : Int32)), .unset, .unset, .unset, .unset] [(.ref b25)])) (fun t k => XS.aload X58.here hx rfl (hb hby at_125) rfl rfl k) ?_
  refine own_of (S' := T58.setTop (mkF m 129 #[.val (.int p1), .val (.long q2), .second, .val (.ref b1), .val (.int ((p1 &&& (2147483647 : Int32)) % (7 : Int32))), .val (.ref b14), .val (.ref b25), .val (.int (1 : Int32)), .unset, .unset, .unset, .unset] [(.int (48 : Int32)), (.ref b25)])) (fun t k => XS.bipush X58.here hx rfl (hb hby at_127) k) ?_
  have V24_t60 : own_Ar Z T56.heap b14 .byte 8 fn24 := (V24_t54.keep K56 (ninS (Nat.ne_of_lt (Nat.lt_of_lt_of_le V24.lt (Nat.le_of_eq g25.symm))) nin0))
  obtain ⟨cq61, kq61, q61a, q61b, q61c⟩ := isOf hZ (hh58) A25_t59
  obtain ⟨_, _, ⟨T61, L61, k61, n61⟩, -, X61, ⟨Lc61, hQ61, l61, y61, z61⟩, st61⟩ := X58.virtualBack hx (y := (⟨"com/example/waypost/waypost/ber/BerReader", "readConstructed", "(I)Lcom/example/waypost/waypost/ber/BerReader;"⟩ : MethodName)) (z := (⟨"com/example/waypost/waypost/ber/BerReader", "readConstructed", "(I)Lcom/example/waypost/waypost/ber/BerReader;"⟩ : MethodName)) hown (mvT hZ (hw _ (List.mem_of_getElem? (i := 25) rfl))) (mvT hZ (hw _ (List.mem_of_getElem? (i := 26) rfl))) (notFace_of_selects (args := #[]) (mvT hZ (hw _ (List.mem_of_getElem? (i := 28) rfl)))) (mvT hZ (hw _ (List.mem_of_getElem? (i := 28) rfl))) (mvT hZ (hw _ (List.mem_of_getElem? (i := 27) rfl))) (by decide) (own_backH (W := 0) (rm5 l Z a0 hw [] b25 (48 : Int32) b14 fn24 (nar .byte (48 : Int32)) (nar .byte (((p1 &&& (2147483647 : Int32)) % (7 : Int32)).toInt8.toInt32)) T56.heap n0 (Nat.le_trans Z0 KK57.1) A25_t59 F_buffer_q56_0 F_position_q56_1 F_end_q56_2 V24_t60 ((own_miss q24 (by decide)).trans ((own_miss q23 (by decide)).trans ((own_miss q22 (by decide)).trans ((own_miss q21 (by decide)).trans ((own_miss q20 (by decide)).trans ((own_miss q19 (by decide)).trans ((own_miss q18 (by decide)).trans (own_hit q17)))))))) ((own_miss q24 (by decide)).trans ((own_miss q23 (by decide)).trans ((own_miss q22 (by decide)).trans ((own_miss q21 (by decide)).trans ((own_miss q20 (by decide)).trans ((own_miss q19 (by decide)).trans (own_hit q18))))))) g_b25 (Nat.ne_of_lt (Nat.lt_of_lt_of_le V24.lt (Nat.le_of_eq g25.symm))) (by decide) (by decide) (own_key p1).1 (own_key p1).2.1 (own_key p1).2.2.1) hZH (hw _ (List.mem_of_getElem? (i := 29) rfl)) (hw _ (List.mem_of_getElem? (i := 2) rfl)) (by decide) (by decide)) q61a q61c (g := (mkF m 129 #[.val (.int p1), .val (.long q2), .second, .val (.ref b1), .val (.int ((p1 &&& (2147483647 : Int32)) % (7 : Int32))), .val (.ref b14), .val (.ref b25), .val (.int (1 : Int32)), .unset, .unset, .unset, .unset] [(.int (48 : Int32)), (.ref b25)])) rfl (by rw [hml]; rfl) (Steps.refl _) (argsL := [(.int (48 : Int32))]) (rest := []) (lenOf pd0_2 rfl) rfl (by show 2 * 0 + _ ≤ _; exact Nat.le_of_eq rfl) (hb hby at_129) (fun _ _ => ⟨rfl, (hh58), (by decide : ((((((((0 + 1) + 1) + 0) + 0) + 1) + 1) + 0) + 0) + _ ≤ _), (by decide : ((((((((0 + 3) + 0) + 0) + 0) + 8) + 3) + 0) + 0) + _ ≤ _)⟩)
  dsimp only [Pt.U, Pt.locs, Pt.cells, Pt.slots] at X61 l61 y61 z61 st61 hQ61
  subst l61 y61 z61
  obtain ⟨r_61, rfl, N61q, K61, z_q61_0, E_q61_1, F_position_q61_2, F_end_q61_3, F_position_q61_4, F_end_q61_5⟩ := hQ61
  have N61 := Fr.app N58 N61q
  have KK62 : Keep T10.heap h25 [] := KK35.ext E25
  have KK63 : Keep T10.heap T56.heap [] := KK62.trans K56 (allS (Or.inr (Nat.le_trans KK35.1 (Nat.le_of_eq g25.symm))) all0)
  have KK64 : Keep h3 h25 [b1] := KK44.ext E25
  have KK65 : Keep h3 T56.heap [b1] := KK64.trans K56 (allS (Or.inr (Nat.le_trans KK44.1 (Nat.le_of_eq g25.symm))) all0)
  have g_r_61 : n0 ≤ r_61 := Nat.le_trans Z0 (Nat.le_trans KK57.1 z_q61_0)
  refine own_of (S' := T61.setTop (mkF m 132 #[.val (.int p1), .val (.long q2), .second, .val (.ref b1), .val (.int ((p1 &&& (2147483647 : Int32)) % (7 : Int32))), .val (.ref b14), .val (.ref b25), .val (.int (1 : Int32)), .unset, .unset, .unset, .unset] [(.ref r_61)])) (fun t k => st61.trans k) ?_
  refine own_of (S' := T61.setTop (mkF m 134 #[.val (.int p1), .val (.long q2), .second, .val (.ref b1), .val (.int ((p1 &&& (2147483647 : Int32)) % (7 : Int32))), .val (.ref b14), .val (.ref b25), .val (.int (1 : Int32)), .val (.ref r_61), .unset, .unset, .unset] [])) (fun t k => XS.astore X61.here hx rfl (hb hby at_132) rfl rfl (l' := #[.val (.int p1), .val (.long q2), .second, .val (.ref b1), .val (.int ((p1 &&& (2147483647 : Int32)) % (7 : Int32))), .val (.ref b14), .val (.ref b25), .val (.int (1 : Int32)), .val (.ref r_61), .unset, .unset, .unset]) rfl k) ?_
  refine own_of (S' := T61.setTop (mkF m 136 #[.val (.int p1), .val (.long q2), .second, .val (.ref b1), .val (.int ((p1 &&& (2147483647 : Int32)) % (7 : Int32))), .val (.ref b14), .val (.ref b25), .val (.int (1 : Int32)), .val (.ref r_61), .unset, .unset, .unset] [(.ref b25)])) (fun t k => XS.aload X61.here hx rfl (hb hby at_134) rfl rfl k) ?_
  have KK66 : Keep h0 T61.heap [] := KK57.trans K61 (allS (Or.inr (Nat.le_trans KK53.1 (Nat.le_of_eq g25.symm))) all0)
  have A25_t68 : Exa Z T61.heap b25 "com/example/waypost/waypost/ber/BerReader" := (A25_t59.keep K61)
  obtain ⟨cq67, kq67, q67a, q67b, q67c⟩ := isOf hZ rfl A25_t68
  obtain ⟨_, _, ⟨T67, L67, k67, n67⟩, -, X67, ⟨Lc67, hQ67, l67, y67, z67⟩, st67⟩ := X61.virtualBack hx (y := (⟨"com/example/waypost/waypost/ber/BerReader", "hasRemaining", "()Z"⟩ : MethodName)) (z := (⟨"com/example/waypost/waypost/ber/BerReader", "hasRemaining", "()Z"⟩ : MethodName)) hown (mvT hZ (hw _ (List.mem_of_getElem? (i := 19) rfl))) (mvT hZ (hw _ (List.mem_of_getElem? (i := 20) rfl))) (notFace_of_selects (args := #[]) (mvT hZ (hw _ (List.mem_of_getElem? (i := 22) rfl)))) (mvT hZ (hw _ (List.mem_of_getElem? (i := 22) rfl))) (mvT hZ (hw _ (List.mem_of_getElem? (i := 21) rfl))) (by decide) (own_backH (W := 0) (rm4c l Z a0 hw [] b25 ((2 : Int32) + ((nar .byte (((p1 &&& (2147483647 : Int32)) % (7 : Int32)).toInt8.toInt32)) &&& (255 : Int32))) (8 : Int32) T61.heap n0 (Nat.le_trans Z0 KK66.1) F_position_q61_4 F_end_q61_5) hZH (hw _ (List.mem_of_getElem? (i := 23) rfl)) (hw _ (List.mem_of_getElem? (i := 2) rfl)) (by decide) (by decide)) q67a q67c (g := (mkF m 136 #[.val (.int p1), .val (.long q2), .second, .val (.ref b1), .val (.int ((p1 &&& (2147483647 : Int32)) % (7 : Int32))), .val (.ref b14), .val (.ref b25), .val (.int (1 : Int32)), .val (.ref r_61), .unset, .unset, .unset] [(.ref b25)])) rfl (by rw [hml]; rfl) (Steps.refl _) (argsL := []) (rest := []) (lenOf pd0_1 rfl) rfl (by show 2 * 0 + _ ≤ _; exact Nat.le_of_eq rfl) (hb hby at_136) (fun _ _ => ⟨rfl, rfl, (by decide : (((((((((0 + 1) + 1) + 0) + 0) + 1) + 1) + 0) + 0) + 2) + _ ≤ _), (by decide : (((((((((0 + 3) + 0) + 0) + 0) + 8) + 3) + 0) + 0) + 4) + _ ≤ _)⟩)
  dsimp only [Pt.U, Pt.locs, Pt.cells, Pt.slots] at X67 l67 y67 z67 st67 hQ67
  subst l67 y67 z67
  obtain ⟨rfl, N67q, hh67⟩ := hQ67
  have N67 := Fr.app N61 N67q
  refine own_of (S' := T67.setTop (mkF m 139 #[.val (.int p1), .val (.long q2), .second, .val (.ref b1), .val (.int ((p1 &&& (2147483647 : Int32)) % (7 : Int32))), .val (.ref b14), .val (.ref b25), .val (.int (1 : Int32)), .val (.ref r_61), .unset, .unset, .unset] [(.int (own_lt ((2 : Int32) + ((nar .byte (((p1 &&& (2147483647 : Int32)) % (7 : Int32)).toInt8.toInt32)) &&& (255 : Int32))) (8 : Int32)))])) (fun t k => st67.trans k) ?_
  refine own_of (S' := T67.setTop (mkF m 141 #[.val (.int p1), .val (.long q2), .second, .val (.ref b1), .val (.int ((p1 &&& (2147483647 : Int32)) % (7 : Int32))), .val (.ref b14), .val (.ref b25), .val (.int (1 : Int32)), .val (.ref r_61), .val (.int (own_lt ((2 : Int32) + ((nar .byte (((p1 &&& (2147483647 : Int32)) % (7 : Int32)).toInt8.toInt32)) &&& (255 : Int32))) (8 : Int32))), .unset, .unset] [])) (fun t k => XS.istore X67.here hx rfl (hb hby at_139) rfl (l' := #[.val (.int p1), .val (.long q2), .second, .val (.ref b1), .val (.int ((p1 &&& (2147483647 : Int32)) % (7 : Int32))), .val (.ref b14), .val (.ref b25), .val (.int (1 : Int32)), .val (.ref r_61), .val (.int (own_lt ((2 : Int32) + ((nar .byte (((p1 &&& (2147483647 : Int32)) % (7 : Int32)).toInt8.toInt32)) &&& (255 : Int32))) (8 : Int32))), .unset, .unset]) rfl k) ?_
  refine own_of (S' := T67.setTop (mkF m 143 #[.val (.int p1), .val (.long q2), .second, .val (.ref b1), .val (.int ((p1 &&& (2147483647 : Int32)) % (7 : Int32))), .val (.ref b14), .val (.ref b25), .val (.int (1 : Int32)), .val (.ref r_61), .val (.int (own_lt ((2 : Int32) + ((nar .byte (((p1 &&& (2147483647 : Int32)) % (7 : Int32)).toInt8.toInt32)) &&& (255 : Int32))) (8 : Int32))), .unset, .unset] [(.ref r_61)])) (fun t k => XS.aload X67.here hx rfl (hb hby at_141) rfl rfl k) ?_
  obtain ⟨cq69, kq69, q69a, q69b, q69c⟩ := isOf hZ (hh67) E_q61_1
  obtain ⟨_, _, ⟨T69, L69, k69, n69⟩, -, X69, ⟨Lc69, hQ69, l69, y69, z69⟩, st69⟩ := X67.virtualBack hx (y := (⟨"com/example/waypost/waypost/ber/BerReader", "hasRemaining", "()Z"⟩ : MethodName)) (z := (⟨"com/example/waypost/waypost/ber/BerReader", "hasRemaining", "()Z"⟩ : MethodName)) hown (mvT hZ (hw _ (List.mem_of_getElem? (i := 19) rfl))) (mvT hZ (hw _ (List.mem_of_getElem? (i := 20) rfl))) (notFace_of_selects (args := #[]) (mvT hZ (hw _ (List.mem_of_getElem? (i := 22) rfl)))) (mvT hZ (hw _ (List.mem_of_getElem? (i := 22) rfl))) (mvT hZ (hw _ (List.mem_of_getElem? (i := 21) rfl))) (by decide) (own_backH (W := 0) (rm4c l Z a0 hw [] r_61 (2 : Int32) ((2 : Int32) + ((nar .byte (((p1 &&& (2147483647 : Int32)) % (7 : Int32)).toInt8.toInt32)) &&& (255 : Int32))) T61.heap n0 (Nat.le_trans Z0 KK66.1) F_position_q61_2 F_end_q61_3) hZH (hw _ (List.mem_of_getElem? (i := 23) rfl)) (hw _ (List.mem_of_getElem? (i := 2) rfl)) (by decide) (by decide)) q69a q69c (g := (mkF m 143 #[.val (.int p1), .val (.long q2), .second, .val (.ref b1), .val (.int ((p1 &&& (2147483647 : Int32)) % (7 : Int32))), .val (.ref b14), .val (.ref b25), .val (.int (1 : Int32)), .val (.ref r_61), .val (.int (own_lt ((2 : Int32) + ((nar .byte (((p1 &&& (2147483647 : Int32)) % (7 : Int32)).toInt8.toInt32)) &&& (255 : Int32))) (8 : Int32))), .unset, .unset] [(.ref r_61)])) rfl (by rw [hml]; rfl) (Steps.refl _) (argsL := []) (rest := []) (lenOf pd0_1 rfl) rfl (by show 2 * 0 + _ ≤ _; exact Nat.le_of_eq rfl) (hb hby at_143) (fun _ _ => ⟨rfl, (hh67), (by decide : ((((((((((0 + 1) + 1) + 0) + 0) + 1) + 1) + 0) + 0) + 2) + 0) + _ ≤ _), (by decide : ((((((((((0 + 3) + 0) + 0) + 0) + 8) + 3) + 0) + 0) + 4) + 0) + _ ≤ _)⟩)
  dsimp only [Pt.U, Pt.locs, Pt.cells, Pt.slots] at X69 l69 y69 z69 st69 hQ69
  subst l69 y69 z69
  obtain ⟨rfl, N69q, hh69⟩ := hQ69
  have N69 := Fr.app N67 N69q
  refine own_of (S' := T69.setTop (mkF m 146 #[.val (.int p1), .val (.long q2), .second, .val (.ref b1), .val (.int ((p1 &&& (2147483647 : Int32)) % (7 : Int32))), .val (.ref b14), .val (.ref b25), .val (.int (1 : Int32)), .val (.ref r_61), .val (.int (own_lt ((2 : Int32) + ((nar .byte (((p1 &&& (2147483647 : Int32)) % (7 : Int32)).toInt8.toInt32)) &&& (255 : Int32))) (8 : Int32))), .unset, .unset] [(.int (own_lt (2 : Int32) ((2 : Int32) + ((nar .byte (((p1 &&& (2147483647 : Int32)) % (7 : Int32)).toInt8.toInt32)) &&& (255 : Int32)))))])) (fun t k => st69.trans k) ?_
  refine own_of (S' := T69.setTop (mkF m 148 #[.val (.int p1), .val (.long q2), .second, .val (.ref b1), .val (.int ((p1 &&& (2147483647 : Int32)) % (7 : Int32))), .val (.ref b14), .val (.ref b25), .val (.int (1 : Int32)), .val (.ref r_61), .val (.int (own_lt ((2 : Int32) + ((nar .byte (((p1 &&& (2147483647 : Int32)) % (7 : Int32)).toInt8.toInt32)) &&& (255 : Int32))) (8 : Int32))), .val (.int (own_lt (2 : Int32) ((2 : Int32) + ((nar .byte (((p1 &&& (2147483647 : Int32)) % (7 : Int32)).toInt8.toInt32)) &&& (255 : Int32))))), .unset] [])) (fun t k => XS.istore X69.here hx rfl (hb hby at_146) rfl (l' := #[.val (.int p1), .val (.long q2), .second, .val (.ref b1), .val (.int ((p1 &&& (2147483647 : Int32)) % (7 : Int32))), .val (.ref b14), .val (.ref b25), .val (.int (1 : Int32)), .val (.ref r_61), .val (.int (own_lt ((2 : Int32) + ((nar .byte (((p1 &&& (2147483647 : Int32)) % (7 : Int32)).toInt8.toInt32)) &&& (255 : Int32))) (8 : Int32))), .val (.int (own_lt (2 : Int32) ((2 : Int32) + ((nar .byte (((p1 &&& (2147483647 : Int32)) % (7 : Int32)).toInt8.toInt32)) &&& (255 : Int32))))), .unset]) rfl k) ?_
  refine own_of (S' := T69.setTop (mkF m 150 #[.val (.int p1), .val (.long q2), .second, .val (.ref b1), .val (.int ((p1 &&& (2147483647 : Int32)) % (7 : Int32))), .val (.ref b14), .val (.ref b25), .val (.int (1 : Int32)), .val (.ref r_61), .val (.int (own_lt ((2 : Int32) + ((nar .byte (((p1 &&& (2147483647 : Int32)) % (7 : Int32)).toInt8.toInt32)) &&& (255 : Int32))) (8 : Int32))), .val (.int (own_lt (2 : Int32) ((2 : Int32) + ((nar .byte (((p1 &&& (2147483647 : Int32)) % (7 : Int32)).toInt8.toInt32)) &&& (255 : Int32))))), .unset] [(.ref r_61)])) (fun t k => XS.aload X69.here hx rfl (hb hby at_148) rfl rfl k) ?_
  obtain ⟨cq70, kq70, q70a, q70b, q70c⟩ := isOf hZ (hh69) E_q61_1
  obtain ⟨_, _, ⟨T70, L70, k70, n70⟩, -, X70, ⟨Lc70, hQ70, l70, y70, z70⟩, st70⟩ := X69.virtualBack hx (y := (⟨"com/example/waypost/waypost/ber/BerReader", "hasRemaining", "()Z"⟩ : MethodName)) (z := (⟨"com/example/waypost/waypost/ber/BerReader", "hasRemaining", "()Z"⟩ : MethodName)) hown (mvT hZ (hw _ (List.mem_of_getElem? (i := 19) rfl))) (mvT hZ (hw _ (List.mem_of_getElem? (i := 20) rfl))) (notFace_of_selects (args := #[]) (mvT hZ (hw _ (List.mem_of_getElem? (i := 22) rfl)))) (mvT hZ (hw _ (List.mem_of_getElem? (i := 22) rfl))) (mvT hZ (hw _ (List.mem_of_getElem? (i := 21) rfl))) (by decide) (own_backH (W := 0) (rm4c l Z a0 hw [] r_61 (2 : Int32) ((2 : Int32) + ((nar .byte (((p1 &&& (2147483647 : Int32)) % (7 : Int32)).toInt8.toInt32)) &&& (255 : Int32))) T61.heap n0 (Nat.le_trans Z0 KK66.1) F_position_q61_2 F_end_q61_3) hZH (hw _ (List.mem_of_getElem? (i := 23) rfl)) (hw _ (List.mem_of_getElem? (i := 2) rfl)) (by decide) (by decide)) q70a q70c (g := (mkF m 150 #[.val (.int p1), .val (.long q2), .second, .val (.ref b1), .val (.int ((p1 &&& (2147483647 : Int32)) % (7 : Int32))), .val (.ref b14), .val (.ref b25), .val (.int (1 : Int32)), .val (.ref r_61), .val (.int (own_lt ((2 : Int32) + ((nar .byte (((p1 &&& (2147483647 : Int32)) % (7 : Int32)).toInt8.toInt32)) &&& (255 : Int32))) (8 : Int32))), .val (.int (own_lt (2 : Int32) ((2 : Int32) + ((nar .byte (((p1 &&& (2147483647 : Int32)) % (7 : Int32)).toInt8.toInt32)) &&& (255 : Int32))))), .unset] [(.ref r_61)])) rfl (by rw [hml]; rfl) (Steps.refl _) (argsL := []) (rest := []) (lenOf pd0_1 rfl) rfl (by show 2 * 0 + _ ≤ _; exact Nat.le_of_eq rfl) (hb hby at_150) (fun _ _ => ⟨rfl, (hh69), (by decide : (((((((((((0 + 1) + 1) + 0) + 0) + 1) + 1) + 0) + 0) + 2) + 0) + 0) + _ ≤ _), (by decide : (((((((((((0 + 3) + 0) + 0) + 0) + 8) + 3) + 0) + 0) + 4) + 0) + 0) + _ ≤ _)⟩)
  dsimp only [Pt.U, Pt.locs, Pt.cells, Pt.slots] at X70 l70 y70 z70 st70 hQ70
  subst l70 y70 z70
  obtain ⟨rfl, N70q, hh70⟩ := hQ70
  have N70 := Fr.app N69 N70q
  refine own_of (S' := T70.setTop (mkF m 153 #[.val (.int p1), .val (.long q2), .second, .val (.ref b1), .val (.int ((p1 &&& (2147483647 : Int32)) % (7 : Int32))), .val (.ref b14), .val (.ref b25), .val (.int (1 : Int32)), .val (.ref r_61), .val (.int (own_lt ((2 : Int32) + ((nar .byte (((p1 &&& (2147483647 : Int32)) % (7 : Int32)).toInt8.toInt32)) &&& (255 : Int32))) (8 : Int32))), .val (.int (own_lt (2 : Int32) ((2 : Int32) + ((nar .byte (((p1 &&& (2147483647 : Int32)) % (7 : Int32)).toInt8.toInt32)) &&& (255 : Int32))))), .unset] [(.int (own_lt (2 : Int32) ((2 : Int32) + ((nar .byte (((p1 &&& (2147483647 : Int32)) % (7 : Int32)).toInt8.toInt32)) &&& (255 : Int32)))))])) (fun t k => st70.trans k) ?_
  refine own_of (S' := T70.setTop (mkF m 155 #[.val (.int p1), .val (.long q2), .second, .val (.ref b1), .val (.int ((p1 &&& (2147483647 : Int32)) % (7 : Int32))), .val (.ref b14), .val (.ref b25), .val (.int (1 : Int32)), .val (.ref r_61), .val (.int (own_lt ((2 : Int32) + ((nar .byte (((p1 &&& (2147483647 : Int32)) % (7 : Int32)).toInt8.toInt32)) &&& (255 : Int32))) (8 : Int32))), .val (.int (own_lt (2 : Int32) ((2 : Int32) + ((nar .byte (((p1 &&& (2147483647 : Int32)) % (7 : Int32)).toInt8.toInt32)) &&& (255 : Int32))))), .val (.int (own_lt (2 : Int32) ((2 : Int32) + ((nar .byte (((p1 &&& (2147483647 : Int32)) % (7 : Int32)).toInt8.toInt32)) &&& (255 : Int32)))))] [])) (fun t k => XS.istore X70.here hx rfl (hb hby at_153) rfl (l' := #[.val (.int p1), .val (.long q2), .second, .val (.ref b1), .val (.int ((p1 &&& (2147483647 : Int32)) % (7 : Int32))), .val (.ref b14), .val (.ref b25), .val (.int (1 : Int32)), .val (.ref r_61), .val (.int (own_lt ((2 : Int32) + ((nar .byte (((p1 &&& (2147483647 : Int32)) % (7 : Int32)).toInt8.toInt32)) &&& (255 : Int32))) (8 : Int32))), .val (.int (own_lt (2 : Int32) ((2 : Int32) + ((nar .byte (((p1 &&& (2147483647 : Int32)) % (7 : Int32)).toInt8.toInt32)) &&& (255 : Int32))))), .val (.int (own_lt (2 : Int32) ((2 : Int32) + ((nar .byte (((p1 &&& (2147483647 : Int32)) % (7 : Int32)).toInt8.toInt32)) &&& (255 : Int32)))))]) rfl k) ?_
  refine own_of (S' := T70.setTop (mkF m 157 #[.val (.int p1), .val (.long q2), .second, .val (.ref b1), .val (.int ((p1 &&& (2147483647 : Int32)) % (7 : Int32))), .val (.ref b14), .val (.ref b25), .val (.int (1 : Int32)), .val (.ref r_61), .val (.int (own_lt ((2 : Int32) + ((nar .byte (((p1 &&& (2147483647 : Int32)) % (7 : Int32)).toInt8.toInt32)) &&& (255 : Int32))) (8 : Int32))), .val (.int (own_lt (2 : Int32) ((2 : Int32) + ((nar .byte (((p1 &&& (2147483647 : Int32)) % (7 : Int32)).toInt8.toInt32)) &&& (255 : Int32))))), .val (.int (own_lt (2 : Int32) ((2 : Int32) + ((nar .byte (((p1 &&& (2147483647 : Int32)) % (7 : Int32)).toInt8.toInt32)) &&& (255 : Int32)))))] [(.int (1 : Int32))])) (fun t k => XS.iload X70.here hx rfl (hb hby at_155) rfl k) ?_
  refine own_of (S' := T70.setTop (mkF m 160 #[.val (.int p1), .val (.long q2), .second, .val (.ref b1), .val (.int ((p1 &&& (2147483647 : Int32)) % (7 : Int32))), .val (.ref b14), .val (.ref b25), .val (.int (1 : Int32)), .val (.ref r_61), .val (.int (own_lt ((2 : Int32) + ((nar .byte (((p1 &&& (2147483647 : Int32)) % (7 : Int32)).toInt8.toInt32)) &&& (255 : Int32))) (8 : Int32))), .val (.int (own_lt (2 : Int32) ((2 : Int32) + ((nar .byte (((p1 &&& (2147483647 : Int32)) % (7 : Int32)).toInt8.toInt32)) &&& (255 : Int32))))), .val (.int (own_lt (2 : Int32) ((2 : Int32) + ((nar .byte (((p1 &&& (2147483647 : Int32)) % (7 : Int32)).toInt8.toInt32)) &&& (255 : Int32)))))] [])) (fun t k => XS.ifNo X70.here hx rfl (hb hby at_157) rfl ((if0 _ _).trans (feq (by decide : ¬ ((1 : Int32) = (0 : Int32)))).1) k) ?_
  refine own_of (S' := T70.setTop (mkF m 162 #[.val (.int p1), .val (.long q2), .second, .val (.ref b1), .val (.int ((p1 &&& (2147483647 : Int32)) % (7 : Int32))), .val (.ref b14), .val (.ref b25), .val (.int (1 : Int32)), .val (.ref r_61), .val (.int (own_lt ((2 : Int32) + ((nar .byte (((p1 &&& (2147483647 : Int32)) % (7 : Int32)).toInt8.toInt32)) &&& (255 : Int32))) (8 : Int32))), .val (.int (own_lt (2 : Int32) ((2 : Int32) + ((nar .byte (((p1 &&& (2147483647 : Int32)) % (7 : Int32)).toInt8.toInt32)) &&& (255 : Int32))))), .val (.int (own_lt (2 : Int32) ((2 : Int32) + ((nar .byte (((p1 &&& (2147483647 : Int32)) % (7 : Int32)).toInt8.toInt32)) &&& (255 : Int32)))))] [(.int (own_lt ((2 : Int32) + ((nar .byte (((p1 &&& (2147483647 : Int32)) % (7 : Int32)).toInt8.toInt32)) &&& (255 : Int32))) (8 : Int32)))])) (fun t k => XS.iload X70.here hx rfl (hb hby at_160) rfl k) ?_
  refine own_of (S' := T70.setTop (mkF m 164 #[.val (.int p1), .val (.long q2), .second, .val (.ref b1), .val (.int ((p1 &&& (2147483647 : Int32)) % (7 : Int32))), .val (.ref b14), .val (.ref b25), .val (.int (1 : Int32)), .val (.ref r_61), .val (.int (own_lt ((2 : Int32) + ((nar .byte (((p1 &&& (2147483647 : Int32)) % (7 : Int32)).toInt8.toInt32)) &&& (255 : Int32))) (8 : Int32))), .val (.int (own_lt (2 : Int32) ((2 : Int32) + ((nar .byte (((p1 &&& (2147483647 : Int32)) % (7 : Int32)).toInt8.toInt32)) &&& (255 : Int32))))), .val (.int (own_lt (2 : Int32) ((2 : Int32) + ((nar .byte (((p1 &&& (2147483647 : Int32)) % (7 : Int32)).toInt8.toInt32)) &&& (255 : Int32)))))] [(.int ((p1 &&& (2147483647 : Int32)) % (7 : Int32))), (.int (own_lt ((2 : Int32) + ((nar .byte (((p1 &&& (2147483647 : Int32)) % (7 : Int32)).toInt8.toInt32)) &&& (255 : Int32))) (8 : Int32)))])) (fun t k => XS.iload X70.here hx rfl (hb hby at_162) rfl k) ?_
  refine own_of (S' := T70.setTop (mkF m 166 #[.val (.int p1), .val (.long q2), .second, .val (.ref b1), .val (.int ((p1 &&& (2147483647 : Int32)) % (7 : Int32))), .val (.ref b14), .val (.ref b25), .val (.int (1 : Int32)), .val (.ref r_61), .val (.int (own_lt ((2 : Int32) + ((nar .byte (((p1 &&& (2147483647 : Int32)) % (7 : Int32)).toInt8.toInt32)) &&& (255 : Int32))) (8 : Int32))), .val (.int (own_lt (2 : Int32) ((2 : Int32) + ((nar .byte (((p1 &&& (2147483647 : Int32)) % (7 : Int32)).toInt8.toInt32)) &&& (255 : Int32))))), .val (.int (own_lt (2 : Int32) ((2 : Int32) + ((nar .byte (((p1 &&& (2147483647 : Int32)) % (7 : Int32)).toInt8.toInt32)) &&& (255 : Int32)))))] [(.int (6 : Int32)), (.int ((p1 &&& (2147483647 : Int32)) % (7 : Int32))), (.int (own_lt ((2 : Int32) + ((nar .byte (((p1 &&& (2147483647 : Int32)) % (7 : Int32)).toInt8.toInt32)) &&& (255 : Int32))) (8 : Int32)))])) (fun t k => XS.bipush X70.here hx rfl (hb hby at_164) k) ?_
  by_cases hc166_71 : ((p1 &&& (2147483647 : Int32)) % (7 : Int32)) < (6 : Int32)
  · refine own_of (S' := T70.setTop (mkF m 169 #[.val (.int p1), .val (.long q2), .second, .val (.ref b1), .val (.int ((p1 &&& (2147483647 : Int32)) % (7 : Int32))), .val (.ref b14), .val (.ref b25), .val (.int (1 : Int32)), .val (.ref r_61), .val (.int (own_lt ((2 : Int32) + ((nar .byte (((p1 &&& (2147483647 : Int32)) % (7 : Int32)).toInt8.toInt32)) &&& (255 : Int32))) (8 : Int32))), .val (.int (own_lt (2 : Int32) ((2 : Int32) + ((nar .byte (((p1 &&& (2147483647 : Int32)) % (7 : Int32)).toInt8.toInt32)) &&& (255 : Int32))))), .val (.int (own_lt (2 : Int32) ((2 : Int32) + ((nar .byte (((p1 &&& (2147483647 : Int32)) % (7 : Int32)).toInt8.toInt32)) &&& (255 : Int32)))))] [(.int (own_lt ((2 : Int32) + ((nar .byte (((p1 &&& (2147483647 : Int32)) % (7 : Int32)).toInt8.toInt32)) &&& (255 : Int32))) (8 : Int32)))])) (fun t k => XS.icmpNo X70.here hx rfl (hb hby at_166) rfl (tlt hc166_71).2.1 k) ?_
    refine own_of (S' := T70.setTop (mkF m 170 #[.val (.int p1), .val (.long q2), .second, .val (.ref b1), .val (.int ((p1 &&& (2147483647 : Int32)) % (7 : Int32))), .val (.ref b14), .val (.ref b25), .val (.int (1 : Int32)), .val (.ref r_61), .val (.int (own_lt ((2 : Int32) + ((nar .byte (((p1 &&& (2147483647 : Int32)) % (7 : Int32)).toInt8.toInt32)) &&& (255 : Int32))) (8 : Int32))), .val (.int (own_lt (2 : Int32) ((2 : Int32) + ((nar .byte (((p1 &&& (2147483647 : Int32)) % (7 : Int32)).toInt8.toInt32)) &&& (255 : Int32))))), .val (.int (own_lt (2 : Int32) ((2 : Int32) + ((nar .byte (((p1 &&& (2147483647 : Int32)) % (7 : Int32)).toInt8.toInt32)) &&& (255 : Int32)))))] [(.int (1 : Int32)), (.int (own_lt ((2 : Int32) + ((nar .byte (((p1 &&& (2147483647 : Int32)) % (7 : Int32)).toInt8.toInt32)) &&& (255 : Int32))) (8 : Int32)))])) (fun t k => XS.iconst X70.here hx rfl (hb hby at_169) k) ?_
    refine own_of (S' := T70.setTop (mkF m 174 #[.val (.int p1), .val (.long q2), .second, .val (.ref b1), .val (.int ((p1 &&& (2147483647 : Int32)) % (7 : Int32))), .val (.ref b14), .val (.ref b25), .val (.int (1 : Int32)), .val (.ref r_61), .val (.int (own_lt ((2 : Int32) + ((nar .byte (((p1 &&& (2147483647 : Int32)) % (7 : Int32)).toInt8.toInt32)) &&& (255 : Int32))) (8 : Int32))), .val (.int (own_lt (2 : Int32) ((2 : Int32) + ((nar .byte (((p1 &&& (2147483647 : Int32)) % (7 : Int32)).toInt8.toInt32)) &&& (255 : Int32))))), .val (.int (own_lt (2 : Int32) ((2 : Int32) + ((nar .byte (((p1 &&& (2147483647 : Int32)) % (7 : Int32)).toInt8.toInt32)) &&& (255 : Int32)))))] [(.int (1 : Int32)), (.int (own_lt ((2 : Int32) + ((nar .byte (((p1 &&& (2147483647 : Int32)) % (7 : Int32)).toInt8.toInt32)) &&& (255 : Int32))) (8 : Int32)))])) (fun t k => XS.goto X70.here hx rfl (pc0 := 170) (pc' := 174) rfl (hb hby at_170) (by decide) (by decide) k) ?_
    by_cases hc174_72 : (own_lt ((2 : Int32) + ((nar .byte (((p1 &&& (2147483647 : Int32)) % (7 : Int32)).toInt8.toInt32)) &&& (255 : Int32))) (8 : Int32)) = (1 : Int32)
    · refine own_of (S' := T70.setTop (mkF m 177 #[.val (.int p1), .val (.long q2), .second, .val (.ref b1), .val (.int ((p1 &&& (2147483647 : Int32)) % (7 : Int32))), .val (.ref b14), .val (.ref b25), .val (.int (1 : Int32)), .val (.ref r_61), .val (.int (own_lt ((2 : Int32) + ((nar .byte (((p1 &&& (2147483647 : Int32)) % (7 : Int32)).toInt8.toInt32)) &&& (255 : Int32))) (8 : Int32))), .val (.int (own_lt (2 : Int32) ((2 : Int32) + ((nar .byte (((p1 &&& (2147483647 : Int32)) % (7 : Int32)).toInt8.toInt32)) &&& (255 : Int32))))), .val (.int (own_lt (2 : Int32) ((2 : Int32) + ((nar .byte (((p1 &&& (2147483647 : Int32)) % (7 : Int32)).toInt8.toInt32)) &&& (255 : Int32)))))] [])) (fun t k => XS.icmpNo X70.here hx rfl (hb hby at_174) rfl (teq hc174_72).2 k) ?_
      refine own_of (S' := T70.setTop (mkF m 179 #[.val (.int p1), .val (.long q2), .second, .val (.ref b1), .val (.int ((p1 &&& (2147483647 : Int32)) % (7 : Int32))), .val (.ref b14), .val (.ref b25), .val (.int (1 : Int32)), .val (.ref r_61), .val (.int (own_lt ((2 : Int32) + ((nar .byte (((p1 &&& (2147483647 : Int32)) % (7 : Int32)).toInt8.toInt32)) &&& (255 : Int32))) (8 : Int32))), .val (.int (own_lt (2 : Int32) ((2 : Int32) + ((nar .byte (((p1 &&& (2147483647 : Int32)) % (7 : Int32)).toInt8.toInt32)) &&& (255 : Int32))))), .val (.int (own_lt (2 : Int32) ((2 : Int32) + ((nar .byte (((p1 &&& (2147483647 : Int32)) % (7 : Int32)).toInt8.toInt32)) &&& (255 : Int32)))))] [(.int (own_lt (2 : Int32) ((2 : Int32) + ((nar .byte (((p1 &&& (2147483647 : Int32)) % (7 : Int32)).toInt8.toInt32)) &&& (255 : Int32)))))])) (fun t k => XS.iload X70.here hx rfl (hb hby at_177) rfl k) ?_
      refine own_of (S' := T70.setTop (mkF m 181 #[.val (.int p1), .val (.long q2), .second, .val (.ref b1), .val (.int ((p1 &&& (2147483647 : Int32)) % (7 : Int32))), .val (.ref b14), .val (.ref b25), .val (.int (1 : Int32)), .val (.ref r_61), .val (.int (own_lt ((2 : Int32) + ((nar .byte (((p1 &&& (2147483647 : Int32)) % (7 : Int32)).toInt8.toInt32)) &&& (255 : Int32))) (8 : Int32))), .val (.int (own_lt (2 : Int32) ((2 : Int32) + ((nar .byte (((p1 &&& (2147483647 : Int32)) % (7 : Int32)).toInt8.toInt32)) &&& (255 : Int32))))), .val (.int (own_lt (2 : Int32) ((2 : Int32) + ((nar .byte (((p1 &&& (2147483647 : Int32)) % (7 : Int32)).toInt8.toInt32)) &&& (255 : Int32)))))] [(.int ((p1 &&& (2147483647 : Int32)) % (7 : Int32))), (.int (own_lt (2 : Int32) ((2 : Int32) + ((nar .byte (((p1 &&& (2147483647 : Int32)) % (7 : Int32)).toInt8.toInt32)) &&& (255 : Int32)))))])) (fun t k => XS.iload X70.here hx rfl (hb hby at_179) rfl k) ?_
      by_cases hc181_73 : (0 : Int32) < ((p1 &&& (2147483647 : Int32)) % (7 : Int32))
      · refine own_of (S' := T70.setTop (mkF m 184 #[.val (.int p1), .val (.long q2), .second, .val (.ref b1), .val (.int ((p1 &&& (2147483647 : Int32)) % (7 : Int32))), .val (.ref b14), .val (.ref b25), .val (.int (1 : Int32)), .val (.ref r_61), .val (.int (own_lt ((2 : Int32) + ((nar .byte (((p1 &&& (2147483647 : Int32)) % (7 : Int32)).toInt8.toInt32)) &&& (255 : Int32))) (8 : Int32))), .val (.int (own_lt (2 : Int32) ((2 : Int32) + ((nar .byte (((p1 &&& (2147483647 : Int32)) % (7 : Int32)).toInt8.toInt32)) &&& (255 : Int32))))), .val (.int (own_lt (2 : Int32) ((2 : Int32) + ((nar .byte (((p1 &&& (2147483647 : Int32)) % (7 : Int32)).toInt8.toInt32)) &&& (255 : Int32)))))] [(.int (own_lt (2 : Int32) ((2 : Int32) + ((nar .byte (((p1 &&& (2147483647 : Int32)) % (7 : Int32)).toInt8.toInt32)) &&& (255 : Int32)))))])) (fun t k => XS.ifNo X70.here hx rfl (hb hby at_181) rfl ((if0 _ _).trans (tlt hc181_73).2.2.2) k) ?_
        refine own_of (S' := T70.setTop (mkF m 185 #[.val (.int p1), .val (.long q2), .second, .val (.ref b1), .val (.int ((p1 &&& (2147483647 : Int32)) % (7 : Int32))), .val (.ref b14), .val (.ref b25), .val (.int (1 : Int32)), .val (.ref r_61), .val (.int (own_lt ((2 : Int32) + ((nar .byte (((p1 &&& (2147483647 : Int32)) % (7 : Int32)).toInt8.toInt32)) &&& (255 : Int32))) (8 : Int32))), .val (.int (own_lt (2 : Int32) ((2 : Int32) + ((nar .byte (((p1 &&& (2147483647 : Int32)) % (7 : Int32)).toInt8.toInt32)) &&& (255 : Int32))))), .val (.int (own_lt (2 : Int32) ((2 : Int32) + ((nar .byte (((p1 &&& (2147483647 : Int32)) % (7 : Int32)).toInt8.toInt32)) &&& (255 : Int32)))))] [(.int (1 : Int32)), (.int (own_lt (2 : Int32) ((2 : Int32) + ((nar .byte (((p1 &&& (2147483647 : Int32)) % (7 : Int32)).toInt8.toInt32)) &&& (255 : Int32)))))])) (fun t k => XS.iconst X70.here hx rfl (hb hby at_184) k) ?_
        refine own_of (S' := T70.setTop (mkF m 189 #[.val (.int p1), .val (.long q2), .second, .val (.ref b1), .val (.int ((p1 &&& (2147483647 : Int32)) % (7 : Int32))), .val (.ref b14), .val (.ref b25), .val (.int (1 : Int32)), .val (.ref r_61), .val (.int (own_lt ((2 : Int32) + ((nar .byte (((p1 &&& (2147483647 : Int32)) % (7 : Int32)).toInt8.toInt32)) &&& (255 : Int32))) (8 : Int32))), .val (.int (own_lt (2 : Int32) ((2 : Int32) + ((nar .byte (((p1 &&& (2147483647 : Int32)) % (7 : Int32)).toInt8.toInt32)) &&& (255 : Int32))))), .val (.int (own_lt (2 : Int32) ((2 : Int32) + ((nar .byte (((p1 &&& (2147483647 : Int32)) % (7 : Int32)).toInt8.toInt32)) &&& (255 : Int32)))))] [(.int (1 : Int32)), (.int (own_lt (2 : Int32) ((2 : Int32) + ((nar .byte (((p1 &&& (2147483647 : Int32)) % (7 : Int32)).toInt8.toInt32)) &&& (255 : Int32)))))])) (fun t k => XS.goto X70.here hx rfl (pc0 := 185) (pc' := 189) rfl (hb hby at_185) (by decide) (by decide) k) ?_
        by_cases hc189_74 : (own_lt (2 : Int32) ((2 : Int32) + ((nar .byte (((p1 &&& (2147483647 : Int32)) % (7 : Int32)).toInt8.toInt32)) &&& (255 : Int32)))) = (1 : Int32)
        · refine own_of (S' := T70.setTop (mkF m 192 #[.val (.int p1), .val (.long q2), .second, .val (.ref b1), .val (.int ((p1 &&& (2147483647 : Int32)) % (7 : Int32))), .val (.ref b14), .val (.ref b25), .val (.int (1 : Int32)), .val (.ref r_61), .val (.int (own_lt ((2 : Int32) + ((nar .byte (((p1 &&& (2147483647 : Int32)) % (7 : Int32)).toInt8.toInt32)) &&& (255 : Int32))) (8 : Int32))), .val (.int (own_lt (2 : Int32) ((2 : Int32) + ((nar .byte (((p1 &&& (2147483647 : Int32)) % (7 : Int32)).toInt8.toInt32)) &&& (255 : Int32))))), .val (.int (own_lt (2 : Int32) ((2 : Int32) + ((nar .byte (((p1 &&& (2147483647 : Int32)) % (7 : Int32)).toInt8.toInt32)) &&& (255 : Int32)))))] [])) (fun t k => XS.icmpNo X70.here hx rfl (hb hby at_189) rfl (teq hc189_74).2 k) ?_
          refine own_of (S' := T70.setTop (mkF m 194 #[.val (.int p1), .val (.long q2), .second, .val (.ref b1), .val (.int ((p1 &&& (2147483647 : Int32)) % (7 : Int32))), .val (.ref b14), .val (.ref b25), .val (.int (1 : Int32)), .val (.ref r_61), .val (.int (own_lt ((2 : Int32) + ((nar .byte (((p1 &&& (2147483647 : Int32)) % (7 : Int32)).toInt8.toInt32)) &&& (255 : Int32))) (8 : Int32))), .val (.int (own_lt (2 : Int32) ((2 : Int32) + ((nar .byte (((p1 &&& (2147483647 : Int32)) % (7 : Int32)).toInt8.toInt32)) &&& (255 : Int32))))), .val (.int (own_lt (2 : Int32) ((2 : Int32) + ((nar .byte (((p1 &&& (2147483647 : Int32)) % (7 : Int32)).toInt8.toInt32)) &&& (255 : Int32)))))] [(.int (own_lt (2 : Int32) ((2 : Int32) + ((nar .byte (((p1 &&& (2147483647 : Int32)) % (7 : Int32)).toInt8.toInt32)) &&& (255 : Int32)))))])) (fun t k => XS.iload X70.here hx rfl (hb hby at_192) rfl k) ?_
          refine own_of (S' := T70.setTop (mkF m 196 #[.val (.int p1), .val (.long q2), .second, .val (.ref b1), .val (.int ((p1 &&& (2147483647 : Int32)) % (7 : Int32))), .val (.ref b14), .val (.ref b25), .val (.int (1 : Int32)), .val (.ref r_61), .val (.int (own_lt ((2 : Int32) + ((nar .byte (((p1 &&& (2147483647 : Int32)) % (7 : Int32)).toInt8.toInt32)) &&& (255 : Int32))) (8 : Int32))), .val (.int (own_lt (2 : Int32) ((2 : Int32) + ((nar .byte (((p1 &&& (2147483647 : Int32)) % (7 : Int32)).toInt8.toInt32)) &&& (255 : Int32))))), .val (.int (own_lt (2 : Int32) ((2 : Int32) + ((nar .byte (((p1 &&& (2147483647 : Int32)) % (7 : Int32)).toInt8.toInt32)) &&& (255 : Int32)))))] [(.int (own_lt (2 : Int32) ((2 : Int32) + ((nar .byte (((p1 &&& (2147483647 : Int32)) % (7 : Int32)).toInt8.toInt32)) &&& (255 : Int32))))), (.int (own_lt (2 : Int32) ((2 : Int32) + ((nar .byte (((p1 &&& (2147483647 : Int32)) % (7 : Int32)).toInt8.toInt32)) &&& (255 : Int32)))))])) (fun t k => XS.iload X70.here hx rfl (hb hby at_194) rfl k) ?_
          refine own_of (S' := T70.setTop (mkF m 199 #[.val (.int p1), .val (.long q2), .second, .val (.ref b1), .val (.int ((p1 &&& (2147483647 : Int32)) % (7 : Int32))), .val (.ref b14), .val (.ref b25), .val (.int (1 : Int32)), .val (.ref r_61), .val (.int (own_lt ((2 : Int32) + ((nar .byte (((p1 &&& (2147483647 : Int32)) % (7 : Int32)).toInt8.toInt32)) &&& (255 : Int32))) (8 : Int32))), .val (.int (own_lt (2 : Int32) ((2 : Int32) + ((nar .byte (((p1 &&& (2147483647 : Int32)) % (7 : Int32)).toInt8.toInt32)) &&& (255 : Int32))))), .val (.int (own_lt (2 : Int32) ((2 : Int32) + ((nar .byte (((p1 &&& (2147483647 : Int32)) % (7 : Int32)).toInt8.toInt32)) &&& (255 : Int32)))))] [])) (fun t k => XS.icmpNo X70.here hx rfl (hb hby at_196) rfl (teq (rfl : (own_lt (2 : Int32) ((2 : Int32) + ((nar .byte (((p1 &&& (2147483647 : Int32)) % (7 : Int32)).toInt8.toInt32)) &&& (255 : Int32)))) = (own_lt (2 : Int32) ((2 : Int32) + ((nar .byte (((p1 &&& (2147483647 : Int32)) % (7 : Int32)).toInt8.toInt32)) &&& (255 : Int32)))))).2 k) ?_
          refine own_of (S' := T70.setTop (mkF m 200 #[.val (.int p1), .val (.long q2), .second, .val (.ref b1), .val (.int ((p1 &&& (2147483647 : Int32)) % (7 : Int32))), .val (.ref b14), .val (.ref b25), .val (.int (1 : Int32)), .val (.ref r_61), .val (.int (own_lt ((2 : Int32) + ((nar .byte (((p1 &&& (2147483647 : Int32)) % (7 : Int32)).toInt8.toInt32)) &&& (255 : Int32))) (8 : Int32))), .val (.int (own_lt (2 : Int32) ((2 : Int32) + ((nar .byte (((p1 &&& (2147483647 : Int32)) % (7 : Int32)).toInt8.toInt32)) &&& (255 : Int32))))), .val (.int (own_lt (2 : Int32) ((2 : Int32) + ((nar .byte (((p1 &&& (2147483647 : Int32)) % (7 : Int32)).toInt8.toInt32)) &&& (255 : Int32)))))] [(.int (1 : Int32))])) (fun t k => XS.iconst X70.here hx rfl (hb hby at_199) k) ?_
          refine own_of (S' := T70.setTop (mkF m 204 #[.val (.int p1), .val (.long q2), .second, .val (.ref b1), .val (.int ((p1 &&& (2147483647 : Int32)) % (7 : Int32))), .val (.ref b14), .val (.ref b25), .val (.int (1 : Int32)), .val (.ref r_61), .val (.int (own_lt ((2 : Int32) + ((nar .byte (((p1 &&& (2147483647 : Int32)) % (7 : Int32)).toInt8.toInt32)) &&& (255 : Int32))) (8 : Int32))), .val (.int (own_lt (2 : Int32) ((2 : Int32) + ((nar .byte (((p1 &&& (2147483647 : Int32)) % (7 : Int32)).toInt8.toInt32)) &&& (255 : Int32))))), .val (.int (own_lt (2 : Int32) ((2 : Int32) + ((nar .byte (((p1 &&& (2147483647 : Int32)) % (7 : Int32)).toInt8.toInt32)) &&& (255 : Int32)))))] [(.int (1 : Int32))])) (fun t k => XS.goto X70.here hx rfl (pc0 := 200) (pc' := 204) rfl (hb hby at_200) (by decide) (by decide) k) ?_
          obtain ⟨fs, hr, hrun, hended, hW, hsame⟩ := X70.leave (v := some (.int (1 : Int32))) (fun h => by rw [Bd.returns] at h; cases h)
          subst hKd
          exact ⟨_, _, retN X70 hx (t := .boolean) Bd.returns (by simp) (hb hby at_204) hr, hrun, hended, _, _, rfl, (by
            show Q0 Z p1 q2 h0 n0 _ T70.heap _
            rw [show T70.heap = T61.heap from (hh70)]
            exact ⟨rfl, N70⟩), ⟨_, rfl⟩, hW, hsame.mono (by decide) (by decide)⟩
        refine own_of (S' := T70.setTop (mkF m 203 #[.val (.int p1), .val (.long q2), .second, .val (.ref b1), .val (.int ((p1 &&& (2147483647 : Int32)) % (7 : Int32))), .val (.ref b14), .val (.ref b25), .val (.int (1 : Int32)), .val (.ref r_61), .val (.int (own_lt ((2 : Int32) + ((nar .byte (((p1 &&& (2147483647 : Int32)) % (7 : Int32)).toInt8.toInt32)) &&& (255 : Int32))) (8 : Int32))), .val (.int (own_lt (2 : Int32) ((2 : Int32) + ((nar .byte (((p1 &&& (2147483647 : Int32)) % (7 : Int32)).toInt8.toInt32)) &&& (255 : Int32))))), .val (.int (own_lt (2 : Int32) ((2 : Int32) + ((nar .byte (((p1 &&& (2147483647 : Int32)) % (7 : Int32)).toInt8.toInt32)) &&& (255 : Int32)))))] [])) (fun t k => XS.icmpYes X70.here hx rfl (pc0 := 189) (pc' := 203) rfl (hb hby at_189) rfl (feq hc189_74).2 (by decide) (by decide) k) ?_
        exact (hc189_74 ((own_key p1).2.2.2.2.2.1 hc181_73)).elim
      refine own_of (S' := T70.setTop (mkF m 188 #[.val (.int p1), .val (.long q2), .second, .val (.ref b1), .val (.int ((p1 &&& (2147483647 : Int32)) % (7 : Int32))), .val (.ref b14), .val (.ref b25), .val (.int (1 : Int32)), .val (.ref r_61), .val (.int (own_lt ((2 : Int32) + ((nar .byte (((p1 &&& (2147483647 : Int32)) % (7 : Int32)).toInt8.toInt32)) &&& (255 : Int32))) (8 : Int32))), .val (.int (own_lt (2 : Int32) ((2 : Int32) + ((nar .byte (((p1 &&& (2147483647 : Int32)) % (7 : Int32)).toInt8.toInt32)) &&& (255 : Int32))))), .val (.int (own_lt (2 : Int32) ((2 : Int32) + ((nar .byte (((p1 &&& (2147483647 : Int32)) % (7 : Int32)).toInt8.toInt32)) &&& (255 : Int32)))))] [(.int (own_lt (2 : Int32) ((2 : Int32) + ((nar .byte (((p1 &&& (2147483647 : Int32)) % (7 : Int32)).toInt8.toInt32)) &&& (255 : Int32)))))])) (fun t k => XS.ifYes X70.here hx rfl (pc0 := 181) (pc' := 188) rfl (hb hby at_181) rfl ((if0 _ _).trans (flt hc181_73).2.2.2) (by decide) (by decide) k) ?_
      refine own_of (S' := T70.setTop (mkF m 189 #[.val (.int p1), .val (.long q2), .second, .val (.ref b1), .val (.int ((p1 &&& (2147483647 : Int32)) % (7 : Int32))), .val (.ref b14), .val (.ref b25), .val (.int (1 : Int32)), .val (.ref r_61), .val (.int (own_lt ((2 : Int32) + ((nar .byte (((p1 &&& (2147483647 : Int32)) % (7 : Int32)).toInt8.toInt32)) &&& (255 : Int32))) (8 : Int32))), .val (.int (own_lt (2 : Int32) ((2 : Int32) + ((nar .byte (((p1 &&& (2147483647 : Int32)) % (7 : Int32)).toInt8.toInt32)) &&& (255 : Int32))))), .val (.int (own_lt (2 : Int32) ((2 : Int32) + ((nar .byte (((p1 &&& (2147483647 : Int32)) % (7 : Int32)).toInt8.toInt32)) &&& (255 : Int32)))))] [(.int (0 : Int32)), (.int (own_lt (2 : Int32) ((2 : Int32) + ((nar .byte (((p1 &&& (2147483647 : Int32)) % (7 : Int32)).toInt8.toInt32)) &&& (255 : Int32)))))])) (fun t k => XS.iconst X70.here hx rfl (hb hby at_188) k) ?_
      by_cases hc189_75 : (own_lt (2 : Int32) ((2 : Int32) + ((nar .byte (((p1 &&& (2147483647 : Int32)) % (7 : Int32)).toInt8.toInt32)) &&& (255 : Int32)))) = (0 : Int32)
      · refine own_of (S' := T70.setTop (mkF m 192 #[.val (.int p1), .val (.long q2), .second, .val (.ref b1), .val (.int ((p1 &&& (2147483647 : Int32)) % (7 : Int32))), .val (.ref b14), .val (.ref b25), .val (.int (1 : Int32)), .val (.ref r_61), .val (.int (own_lt ((2 : Int32) + ((nar .byte (((p1 &&& (2147483647 : Int32)) % (7 : Int32)).toInt8.toInt32)) &&& (255 : Int32))) (8 : Int32))), .val (.int (own_lt (2 : Int32) ((2 : Int32) + ((nar .byte (((p1 &&& (2147483647 : Int32)) % (7 : Int32)).toInt8.toInt32)) &&& (255 : Int32))))), .val (.int (own_lt (2 : Int32) ((2 : Int32) + ((nar .byte (((p1 &&& (2147483647 : Int32)) % (7 : Int32)).toInt8.toInt32)) &&& (255 : Int32)))))] [])) (fun t k => XS.icmpNo X70.here hx rfl (hb hby at_189) rfl (teq hc189_75).2 k) ?_
        refine own_of (S' := T70.setTop (mkF m 194 #[.val (.int p1), .val (.long q2), .second, .val (.ref b1), .val (.int ((p1 &&& (2147483647 : Int32)) % (7 : Int32))), .val (.ref b14), .val (.ref b25), .val (.int (1 : Int32)), .val (.ref r_61), .val (.int (own_lt ((2 : Int32) + ((nar .byte (((p1 &&& (2147483647 : Int32)) % (7 : Int32)).toInt8.toInt32)) &&& (255 : Int32))) (8 : Int32))), .val (.int (own_lt (2 : Int32) ((2 : Int32) + ((nar .byte (((p1 &&& (2147483647 : Int32)) % (7 : Int32)).toInt8.toInt32)) &&& (255 : Int32))))), .val (.int (own_lt (2 : Int32) ((2 : Int32) + ((nar .byte (((p1 &&& (2147483647 : Int32)) % (7 : Int32)).toInt8.toInt32)) &&& (255 : Int32)))))] [(.int (own_lt (2 : Int32) ((2 : Int32) + ((nar .byte (((p1 &&& (2147483647 : Int32)) % (7 : Int32)).toInt8.toInt32)) &&& (255 : Int32)))))])) (fun t k => XS.iload X70.here hx rfl (hb hby at_192) rfl k) ?_
        refine own_of (S' := T70.setTop (mkF m 196 #[.val (.int p1), .val (.long q2), .second, .val (.ref b1), .val (.int ((p1 &&& (2147483647 : Int32)) % (7 : Int32))), .val (.ref b14), .val (.ref b25), .val (.int (1 : Int32)), .val (.ref r_61), .val (.int (own_lt ((2 : Int32) + ((nar .byte (((p1 &&& (2147483647 : Int32)) % (7 : Int32)).toInt8.toInt32)) &&& (255 : Int32))) (8 : Int32))), .val (.int (own_lt (2 : Int32) ((2 : Int32) + ((nar .byte (((p1 &&& (2147483647 : Int32)) % (7 : Int32)).toInt8.toInt32)) &&& (255 : Int32))))), .val (.int (own_lt (2 : Int32) ((2 : Int32) + ((nar .byte (((p1 &&& (2147483647 : Int32)) % (7 : Int32)).toInt8.toInt32)) &&& (255 : Int32)))))] [(.int (own_lt (2 : Int32) ((2 : Int32) + ((nar .byte (((p1 &&& (2147483647 : Int32)) % (7 : Int32)).toInt8.toInt32)) &&& (255 : Int32))))), (.int (own_lt (2 : Int32) ((2 : Int32) + ((nar .byte (((p1 &&& (2147483647 : Int32)) % (7 : Int32)).toInt8.toInt32)) &&& (255 : Int32)))))])) (fun t k => XS.iload X70.here hx rfl (hb hby at_194) rfl k) ?_
        refine own_of (S' := T70.setTop (mkF m 199 #[.val (.int p1), .val (.long q2), .second, .val (.ref b1), .val (.int ((p1 &&& (2147483647 : Int32)) % (7 : Int32))), .val (.ref b14), .val (.ref b25), .val (.int (1 : Int32)), .val (.ref r_61), .val (.int (own_lt ((2 : Int32) + ((nar .byte (((p1 &&& (2147483647 : Int32)) % (7 : Int32)).toInt8.toInt32)) &&& (255 : Int32))) (8 : Int32))), .val (.int (own_lt (2 : Int32) ((2 : Int32) + ((nar .byte (((p1 &&& (2147483647 : Int32)) % (7 : Int32)).toInt8.toInt32)) &&& (255 : Int32))))), .val (.int (own_lt (2 : Int32) ((2 : Int32) + ((nar .byte (((p1 &&& (2147483647 : Int32)) % (7 : Int32)).toInt8.toInt32)) &&& (255 : Int32)))))] [])) (fun t k => XS.icmpNo X70.here hx rfl (hb hby at_196) rfl (teq (rfl : (own_lt (2 : Int32) ((2 : Int32) + ((nar .byte (((p1 &&& (2147483647 : Int32)) % (7 : Int32)).toInt8.toInt32)) &&& (255 : Int32)))) = (own_lt (2 : Int32) ((2 : Int32) + ((nar .byte (((p1 &&& (2147483647 : Int32)) % (7 : Int32)).toInt8.toInt32)) &&& (255 : Int32)))))).2 k) ?_
        refine own_of (S' := T70.setTop (mkF m 200 #[.val (.int p1), .val (.long q2), .second, .val (.ref b1), .val (.int ((p1 &&& (2147483647 : Int32)) % (7 : Int32))), .val (.ref b14), .val (.ref b25), .val (.int (1 : Int32)), .val (.ref r_61), .val (.int (own_lt ((2 : Int32) + ((nar .byte (((p1 &&& (2147483647 : Int32)) % (7 : Int32)).toInt8.toInt32)) &&& (255 : Int32))) (8 : Int32))), .val (.int (own_lt (2 : Int32) ((2 : Int32) + ((nar .byte (((p1 &&& (2147483647 : Int32)) % (7 : Int32)).toInt8.toInt32)) &&& (255 : Int32))))), .val (.int (own_lt (2 : Int32) ((2 : Int32) + ((nar .byte (((p1 &&& (2147483647 : Int32)) % (7 : Int32)).toInt8.toInt32)) &&& (255 : Int32)))))] [(.int (1 : Int32))])) (fun t k => XS.iconst X70.here hx rfl (hb hby at_199) k) ?_
        refine own_of (S' := T70.setTop (mkF m 204 #[.val (.int p1), .val (.long q2), .second, .val (.ref b1), .val (.int ((p1 &&& (2147483647 : Int32)) % (7 : Int32))), .val (.ref b14), .val (.ref b25), .val (.int (1 : Int32)), .val (.ref r_61), .val (.int (own_lt ((2 : Int32) + ((nar .byte (((p1 &&& (2147483647 : Int32)) % (7 : Int32)).toInt8.toInt32)) &&& (255 : Int32))) (8 : Int32))), .val (.int (own_lt (2 : Int32) ((2 : Int32) + ((nar .byte (((p1 &&& (2147483647 : Int32)) % (7 : Int32)).toInt8.toInt32)) &&& (255 : Int32))))), .val (.int (own_lt (2 : Int32) ((2 : Int32) + ((nar .byte (((p1 &&& (2147483647 : Int32)) % (7 : Int32)).toInt8.toInt32)) &&& (255 : Int32)))))] [(.int (1 : Int32))])) (fun t k => XS.goto X70.here hx rfl (pc0 := 200) (pc' := 204) rfl (hb hby at_200) (by decide) (by decide) k) ?_
        obtain ⟨fs, hr, hrun, hended, hW, hsame⟩ := X70.leave (v := some (.int (1 : Int32))) (fun h => by rw [Bd.returns] at h; cases h)
        subst hKd
        exact ⟨_, _, retN X70 hx (t := .boolean) Bd.returns (by simp) (hb hby at_204) hr, hrun, hended, _, _, rfl, (by
          show Q0 Z p1 q2 h0 n0 _ T70.heap _
          rw [show T70.heap = T61.heap from (hh70)]
          exact ⟨rfl, N70⟩), ⟨_, rfl⟩, hW, hsame.mono (by decide) (by decide)⟩
      refine own_of (S' := T70.setTop (mkF m 203 #[.val (.int p1), .val (.long q2), .second, .val (.ref b1), .val (.int ((p1 &&& (2147483647 : Int32)) % (7 : Int32))), .val (.ref b14), .val (.ref b25), .val (.int (1 : Int32)), .val (.ref r_61), .val (.int (own_lt ((2 : Int32) + ((nar .byte (((p1 &&& (2147483647 : Int32)) % (7 : Int32)).toInt8.toInt32)) &&& (255 : Int32))) (8 : Int32))), .val (.int (own_lt (2 : Int32) ((2 : Int32) + ((nar .byte (((p1 &&& (2147483647 : Int32)) % (7 : Int32)).toInt8.toInt32)) &&& (255 : Int32))))), .val (.int (own_lt (2 : Int32) ((2 : Int32) + ((nar .byte (((p1 &&& (2147483647 : Int32)) % (7 : Int32)).toInt8.toInt32)) &&& (255 : Int32)))))] [])) (fun t k => XS.icmpYes X70.here hx rfl (pc0 := 189) (pc' := 203) rfl (hb hby at_189) rfl (feq hc189_75).2 (by decide) (by decide) k) ?_
      exact (hc189_75 ((own_key p1).2.2.2.2.2.2 hc181_73)).elim
    refine own_of (S' := T70.setTop (mkF m 203 #[.val (.int p1), .val (.long q2), .second, .val (.ref b1), .val (.int ((p1 &&& (2147483647 : Int32)) % (7 : Int32))), .val (.ref b14), .val (.ref b25), .val (.int (1 : Int32)), .val (.ref r_61), .val (.int (own_lt ((2 : Int32) + ((nar .byte (((p1 &&& (2147483647 : Int32)) % (7 : Int32)).toInt8.toInt32)) &&& (255 : Int32))) (8 : Int32))), .val (.int (own_lt (2 : Int32) ((2 : Int32) + ((nar .byte (((p1 &&& (2147483647 : Int32)) % (7 : Int32)).toInt8.toInt32)) &&& (255 : Int32))))), .val (.int (own_lt (2 : Int32) ((2 : Int32) + ((nar .byte (((p1 &&& (2147483647 : Int32)) % (7 : Int32)).toInt8.toInt32)) &&& (255 : Int32)))))] [])) (fun t k => XS.icmpYes X70.here hx rfl (pc0 := 174) (pc' := 203) rfl (hb hby at_174) rfl (feq hc174_72).2 (by decide) (by decide) k) ?_
    exact (hc174_72 ((own_key p1).2.2.2.1 hc166_71)).elim
  refine own_of (S' := T70.setTop (mkF m 173 #[.val (.int p1), .val (.long q2), .second, .val (.ref b1), .val (.int ((p1 &&& (2147483647 : Int32)) % (7 : Int32))), .val (.ref b14), .val (.ref b25), .val (.int (1 : Int32)), .val (.ref r_61), .val (.int (own_lt ((2 : Int32) + ((nar .byte (((p1 &&& (2147483647 : Int32)) % (7 : Int32)).toInt8.toInt32)) &&& (255 : Int32))) (8 : Int32))), .val (.int (own_lt (2 : Int32) ((2 : Int32) + ((nar .byte (((p1 &&& (2147483647 : Int32)) % (7 : Int32)).toInt8.toInt32)) &&& (255 : Int32))))), .val (.int (own_lt (2 : Int32) ((2 : Int32) + ((nar .byte (((p1 &&& (2147483647 : Int32)) % (7 : Int32)).toInt8.toInt32)) &&& (255 : Int32)))))] [(.int (own_lt ((2 : Int32) + ((nar .byte (((p1 &&& (2147483647 : Int32)) % (7 : Int32)).toInt8.toInt32)) &&& (255 : Int32))) (8 : Int32)))])) (fun t k => XS.icmpYes X70.here hx rfl (pc0 := 166) (pc' := 173) rfl (hb hby at_166) rfl (flt hc166_71).2.1 (by decide) (by decide) k) ?_
  refine own_of (S' := T70.setTop (mkF m 174 #[.val (.int p1), .val (.long q2), .second, .val (.ref b1), .val (.int ((p1 &&& (2147483647 : Int32)) % (7 : Int32))), .val (.ref b14), .val (.ref b25), .val (.int (1 : Int32)), .val (.ref r_61), .val (.int (own_lt ((2 : Int32) + ((nar .byte (((p1 &&& (2147483647 : Int32)) % (7 : Int32)).toInt8.toInt32)) &&& (255 : Int32))) (8 : Int32))), .val (.int (own_lt (2 : Int32) ((2 : Int32) + ((nar .byte (((p1 &&& (2147483647 : Int32)) % (7 : Int32)).toInt8.toInt32)) &&& (255 : Int32))))), .val (.int (own_lt (2 : Int32) ((2 : Int32) + ((nar .byte (((p1 &&& (2147483647 : Int32)) % (7 : Int32)).toInt8.toInt32)) &&& (255 : Int32)))))] [(.int (0 : Int32)), (.int (own_lt ((2 : Int32) + ((nar .byte (((p1 &&& (2147483647 : Int32)) % (7 : Int32)).toInt8.toInt32)) &&& (255 : Int32))) (8 : Int32)))])) (fun t k => XS.iconst X70.here hx rfl (hb hby at_173) k) ?_
  by_cases hc174_76 : (own_lt ((2 : Int32) + ((nar .byte (((p1 &&& (2147483647 : Int32)) % (7 : Int32)).toInt8.toInt32)) &&& (255 : Int32))) (8 : Int32)) = (0 : Int32)
  · refine own_of (S' := T70.setTop (mkF m 177 #[.val (.int p1), .val (.long q2), .second, .val (.ref b1), .val (.int ((p1 &&& (2147483647 : Int32)) % (7 : Int32))), .val (.ref b14), .val (.ref b25), .val (.int (1 : Int32)), .val (.ref r_61), .val (.int (own_lt ((2 : Int32) + ((nar .byte (((p1 &&& (2147483647 : Int32)) % (7 : Int32)).toInt8.toInt32)) &&& (255 : Int32))) (8 : Int32))), .val (.int (own_lt (2 : Int32) ((2 : Int32) + ((nar .byte (((p1 &&& (2147483647 : Int32)) % (7 : Int32)).toInt8.toInt32)) &&& (255 : Int32))))), .val (.int (own_lt (2 : Int32) ((2 : Int32) + ((nar .byte (((p1 &&& (2147483647 : Int32)) % (7 : Int32)).toInt8.toInt32)) &&& (255 : Int32)))))] [])) (fun t k => XS.icmpNo X70.here hx rfl (hb hby at_174) rfl (teq hc174_76).2 k) ?_
    refine own_of (S' := T70.setTop (mkF m 179 #[.val (.int p1), .val (.long q2), .second, .val (.ref b1), .val (.int ((p1 &&& (2147483647 : Int32)) % (7 : Int32))), .val (.ref b14), .val (.ref b25), .val (.int (1 : Int32)), .val (.ref r_61), .val (.int (own_lt ((2 : Int32) + ((nar .byte (((p1 &&& (2147483647 : Int32)) % (7 : Int32)).toInt8.toInt32)) &&& (255 : Int32))) (8 : Int32))), .val (.int (own_lt (2 : Int32) ((2 : Int32) + ((nar .byte (((p1 &&& (2147483647 : Int32)) % (7 : Int32)).toInt8.toInt32)) &&& (255 : Int32))))), .val (.int (own_lt (2 : Int32) ((2 : Int32) + ((nar .byte (((p1 &&& (2147483647 : Int32)) % (7 : Int32)).toInt8.toInt32)) &&& (255 : Int32)))))] [(.int (own_lt (2 : Int32) ((2 : Int32) + ((nar .byte (((p1 &&& (2147483647 : Int32)) % (7 : Int32)).toInt8.toInt32)) &&& (255 : Int32)))))])) (fun t k => XS.iload X70.here hx rfl (hb hby at_177) rfl k) ?_
    refine own_of (S' := T70.setTop (mkF m 181 #[.val (.int p1), .val (.long q2), .second, .val (.ref b1), .val (.int ((p1 &&& (2147483647 : Int32)) % (7 : Int32))), .val (.ref b14), .val (.ref b25), .val (.int (1 : Int32)), .val (.ref r_61), .val (.int (own_lt ((2 : Int32) + ((nar .byte (((p1 &&& (2147483647 : Int32)) % (7 : Int32)).toInt8.toInt32)) &&& (255 : Int32))) (8 : Int32))), .val (.int (own_lt (2 : Int32) ((2 : Int32) + ((nar .byte (((p1 &&& (2147483647 : Int32)) % (7 : Int32)).toInt8.toInt32)) &&& (255 : Int32))))), .val (.int (own_lt (2 : Int32) ((2 : Int32) + ((nar .byte (((p1 &&& (2147483647 : Int32)) % (7 : Int32)).toInt8.toInt32)) &&& (255 : Int32)))))] [(.int ((p1 &&& (2147483647 : Int32)) % (7 : Int32))), (.int (own_lt (2 : Int32) ((2 : Int32) + ((nar .byte (((p1 &&& (2147483647 : Int32)) % (7 : Int32)).toInt8.toInt32)) &&& (255 : Int32)))))])) (fun t k => XS.iload X70.here hx rfl (hb hby at_179) rfl k) ?_
    by_cases hc181_77 : (0 : Int32) < ((p1 &&& (2147483647 : Int32)) % (7 : Int32))
    · refine own_of (S' := T70.setTop (mkF m 184 #[.val (.int p1), .val (.long q2), .second, .val (.ref b1), .val (.int ((p1 &&& (2147483647 : Int32)) % (7 : Int32))), .val (.ref b14), .val (.ref b25), .val (.int (1 : Int32)), .val (.ref r_61), .val (.int (own_lt ((2 : Int32) + ((nar .byte (((p1 &&& (2147483647 : Int32)) % (7 : Int32)).toInt8.toInt32)) &&& (255 : Int32))) (8 : Int32))), .val (.int (own_lt (2 : Int32) ((2 : Int32) + ((nar .byte (((p1 &&& (2147483647 : Int32)) % (7 : Int32)).toInt8.toInt32)) &&& (255 : Int32))))), .val (.int (own_lt (2 : Int32) ((2 : Int32) + ((nar .byte (((p1 &&& (2147483647 : Int32)) % (7 : Int32)).toInt8.toInt32)) &&& (255 : Int32)))))] [(.int (own_lt (2 : Int32) ((2 : Int32) + ((nar .byte (((p1 &&& (2147483647 : Int32)) % (7 : Int32)).toInt8.toInt32)) &&& (255 : Int32)))))])) (fun t k => XS.ifNo X70.here hx rfl (hb hby at_181) rfl ((if0 _ _).trans (tlt hc181_77).2.2.2) k) ?_
      refine own_of (S' := T70.setTop (mkF m 185 #[.val (.int p1), .val (.long q2), .second, .val (.ref b1), .val (.int ((p1 &&& (2147483647 : Int32)) % (7 : Int32))), .val (.ref b14), .val (.ref b25), .val (.int (1 : Int32)), .val (.ref r_61), .val (.int (own_lt ((2 : Int32) + ((nar .byte (((p1 &&& (2147483647 : Int32)) % (7 : Int32)).toInt8.toInt32)) &&& (255 : Int32))) (8 : Int32))), .val (.int (own_lt (2 : Int32) ((2 : Int32) + ((nar .byte (((p1 &&& (2147483647 : Int32)) % (7 : Int32)).toInt8.toInt32)) &&& (255 : Int32))))), .val (.int (own_lt (2 : Int32) ((2 : Int32) + ((nar .byte (((p1 &&& (2147483647 : Int32)) % (7 : Int32)).toInt8.toInt32)) &&& (255 : Int32)))))] [(.int (1 : Int32)), (.int (own_lt (2 : Int32) ((2 : Int32) + ((nar .byte (((p1 &&& (2147483647 : Int32)) % (7 : Int32)).toInt8.toInt32)) &&& (255 : Int32)))))])) (fun t k => XS.iconst X70.here hx rfl (hb hby at_184) k) ?_
      refine own_of (S' := T70.setTop (mkF m 189 #[.val (.int p1), .val (.long q2), .second, .val (.ref b1), .val (.int ((p1 &&& (2147483647 : Int32)) % (7 : Int32))), .val (.ref b14), .val (.ref b25), .val (.int (1 : Int32)), .val (.ref r_61), .val (.int (own_lt ((2 : Int32) + ((nar .byte (((p1 &&& (2147483647 : Int32)) % (7 : Int32)).toInt8.toInt32)) &&& (255 : Int32))) (8 : Int32))), .val (.int (own_lt (2 : Int32) ((2 : Int32) + ((nar .byte (((p1 &&& (2147483647 : Int32)) % (7 : Int32)).toInt8.toInt32)) &&& (255 : Int32))))), .val (.int (own_lt (2 : Int32) ((2 : Int32) + ((nar .byte (((p1 &&& (2147483647 : Int32)) % (7 : Int32)).toInt8.toInt32)) &&& (255 : Int32)))))] [(.int (1 : Int32)), (.int (own_lt (2 : Int32) ((2 : Int32) + ((nar .byte (((p1 &&& (2147483647 : Int32)) % (7 : Int32)).toInt8.toInt32)) &&& (255 : Int32)))))])) (fun t k => XS.goto X70.here hx rfl (pc0 := 185) (pc' := 189) rfl (hb hby at_185) (by decide) (by decide) k) ?_
      by_cases hc189_78 : (own_lt (2 : Int32) ((2 : Int32) + ((nar .byte (((p1 &&& (2147483647 : Int32)) % (7 : Int32)).toInt8.toInt32)) &&& (255 : Int32)))) = (1 : Int32)
      · refine own_of (S' := T70.setTop (mkF m 192 #[.val (.int p1), .val (.long q2), .second, .val (.ref b1), .val (.int ((p1 &&& (2147483647 : Int32)) % (7 : Int32))), .val (.ref b14), .val (.ref b25), .val (.int (1 : Int32)), .val (.ref r_61), .val (.int (own_lt ((2 : Int32) + ((nar .byte (((p1 &&& (2147483647 : Int32)) % (7 : Int32)).toInt8.toInt32)) &&& (255 : Int32))) (8 : Int32))), .val (.int (own_lt (2 : Int32) ((2 : Int32) + ((nar .byte (((p1 &&& (2147483647 : Int32)) % (7 : Int32)).toInt8.toInt32)) &&& (255 : Int32))))), .val (.int (own_lt (2 : Int32) ((2 : Int32) + ((nar .byte (((p1 &&& (2147483647 : Int32)) % (7 : Int32)).toInt8.toInt32)) &&& (255 : Int32)))))] [])) (fun t k => XS.icmpNo X70.here hx rfl (hb hby at_189) rfl (teq hc189_78).2 k) ?_
        refine own_of (S' := T70.setTop (mkF m 194 #[.val (.int p1), .val (.long q2), .second, .val (.ref b1), .val (.int ((p1 &&& (2147483647 : Int32)) % (7 : Int32))), .val (.ref b14), .val (.ref b25), .val (.int (1 : Int32)), .val (.ref r_61), .val (.int (own_lt ((2 : Int32) + ((nar .byte (((p1 &&& (2147483647 : Int32)) % (7 : Int32)).toInt8.toInt32)) &&& (255 : Int32))) (8 : Int32))), .val (.int (own_lt (2 : Int32) ((2 : Int32) + ((nar .byte (((p1 &&& (2147483647 : Int32)) % (7 : Int32)).toInt8.toInt32)) &&& (255 : Int32))))), .val (.int (own_lt (2 : Int32) ((2 : Int32) + ((nar .byte (((p1 &&& (2147483647 : Int32)) % (7 : Int32)).toInt8.toInt32)) &&& (255 : Int32)))))] [(.int (own_lt (2 : Int32) ((2 : Int32) + ((nar .byte (((p1 &&& (2147483647 : Int32)) % (7 : Int32)).toInt8.toInt32)) &&& (255 : Int32)))))])) (fun t k => XS.iload X70.here hx rfl (hb hby at_192) rfl k) ?_
        refine own_of (S' := T70.setTop (mkF m 196 #[.val (.int p1), .val (.long q2), .second, .val (.ref b1), .val (.int ((p1 &&& (2147483647 : Int32)) % (7 : Int32))), .val (.ref b14), .val (.ref b25), .val (.int (1 : Int32)), .val (.ref r_61), .val (.int (own_lt ((2 : Int32) + ((nar .byte (((p1 &&& (2147483647 : Int32)) % (7 : Int32)).toInt8.toInt32)) &&& (255 : Int32))) (8 : Int32))), .val (.int (own_lt (2 : Int32) ((2 : Int32) + ((nar .byte (((p1 &&& (2147483647 : Int32)) % (7 : Int32)).toInt8.toInt32)) &&& (255 : Int32))))), .val (.int (own_lt (2 : Int32) ((2 : Int32) + ((nar .byte (((p1 &&& (2147483647 : Int32)) % (7 : Int32)).toInt8.toInt32)) &&& (255 : Int32)))))] [(.int (own_lt (2 : Int32) ((2 : Int32) + ((nar .byte (((p1 &&& (2147483647 : Int32)) % (7 : Int32)).toInt8.toInt32)) &&& (255 : Int32))))), (.int (own_lt (2 : Int32) ((2 : Int32) + ((nar .byte (((p1 &&& (2147483647 : Int32)) % (7 : Int32)).toInt8.toInt32)) &&& (255 : Int32)))))])) (fun t k => XS.iload X70.here hx rfl (hb hby at_194) rfl k) ?_
        refine own_of (S' := T70.setTop (mkF m 199 #[.val (.int p1), .val (.long q2), .second, .val (.ref b1), .val (.int ((p1 &&& (2147483647 : Int32)) % (7 : Int32))), .val (.ref b14), .val (.ref b25), .val (.int (1 : Int32)), .val (.ref r_61), .val (.int (own_lt ((2 : Int32) + ((nar .byte (((p1 &&& (2147483647 : Int32)) % (7 : Int32)).toInt8.toInt32)) &&& (255 : Int32))) (8 : Int32))), .val (.int (own_lt (2 : Int32) ((2 : Int32) + ((nar .byte (((p1 &&& (2147483647 : Int32)) % (7 : Int32)).toInt8.toInt32)) &&& (255 : Int32))))), .val (.int (own_lt (2 : Int32) ((2 : Int32) + ((nar .byte (((p1 &&& (2147483647 : Int32)) % (7 : Int32)).toInt8.toInt32)) &&& (255 : Int32)))))] [])) (fun t k => XS.icmpNo X70.here hx rfl (hb hby at_196) rfl (teq (rfl : (own_lt (2 : Int32) ((2 : Int32) + ((nar .byte (((p1 &&& (2147483647 : Int32)) % (7 : Int32)).toInt8.toInt32)) &&& (255 : Int32)))) = (own_lt (2 : Int32) ((2 : Int32) + ((nar .byte (((p1 &&& (2147483647 : Int32)) % (7 : Int32)).toInt8.toInt32)) &&& (255 : Int32)))))).2 k) ?_
        refine own_of (S' := T70.setTop (mkF m 200 #[.val (.int p1), .val (.long q2), .second, .val (.ref b1), .val (.int ((p1 &&& (2147483647 : Int32)) % (7 : Int32))), .val (.ref b14), .val (.ref b25), .val (.int (1 : Int32)), .val (.ref r_61), .val (.int (own_lt ((2 : Int32) + ((nar .byte (((p1 &&& (2147483647 : Int32)) % (7 : Int32)).toInt8.toInt32)) &&& (255 : Int32))) (8 : Int32))), .val (.int (own_lt (2 : Int32) ((2 : Int32) + ((nar .byte (((p1 &&& (2147483647 : Int32)) % (7 : Int32)).toInt8.toInt32)) &&& (255 : Int32))))), .val (.int (own_lt (2 : Int32) ((2 : Int32) + ((nar .byte (((p1 &&& (2147483647 : Int32)) % (7 : Int32)).toInt8.toInt32)) &&& (255 : Int32)))))] [(.int (1 : Int32))])) (fun t k => XS.iconst X70.here hx rfl (hb hby at_199) k) ?_
        refine own_of (S' := T70.setTop (mkF m 204 #[.val (.int p1), .val (.long q2), .second, .val (.ref b1), .val (.int ((p1 &&& (2147483647 : Int32)) % (7 : Int32))), .val (.ref b14), .val (.ref b25), .val (.int (1 : Int32)), .val (.ref r_61), .val (.int (own_lt ((2 : Int32) + ((nar .byte (((p1 &&& (2147483647 : Int32)) % (7 : Int32)).toInt8.toInt32)) &&& (255 : Int32))) (8 : Int32))), .val (.int (own_lt (2 : Int32) ((2 : Int32) + ((nar .byte (((p1 &&& (2147483647 : Int32)) % (7 : Int32)).toInt8.toInt32)) &&& (255 : Int32))))), .val (.int (own_lt (2 : Int32) ((2 : Int32) + ((nar .byte (((p1 &&& (2147483647 : Int32)) % (7 : Int32)).toInt8.toInt32)) &&& (255 : Int32)))))] [(.int (1 : Int32))])) (fun t k => XS.goto X70.here hx rfl (pc0 := 200) (pc' := 204) rfl (hb hby at_200) (by decide) (by decide) k) ?_
        obtain ⟨fs, hr, hrun, hended, hW, hsame⟩ := X70.leave (v := some (.int (1 : Int32))) (fun h => by rw [Bd.returns] at h; cases h)
        subst hKd
        exact ⟨_, _, retN X70 hx (t := .boolean) Bd.returns (by simp) (hb hby at_204) hr, hrun, hended, _, _, rfl, (by
          show Q0 Z p1 q2 h0 n0 _ T70.heap _
          rw [show T70.heap = T61.heap from (hh70)]
          exact ⟨rfl, N70⟩), ⟨_, rfl⟩, hW, hsame.mono (by decide) (by decide)⟩
      refine own_of (S' := T70.setTop (mkF m 203 #[.val (.int p1), .val (.long q2), .second, .val (.ref b1), .val (.int ((p1 &&& (2147483647 : Int32)) % (7 : Int32))), .val (.ref b14), .val (.ref b25), .val (.int (1 : Int32)), .val (.ref r_61), .val (.int (own_lt ((2 : Int32) + ((nar .byte (((p1 &&& (2147483647 : Int32)) % (7 : Int32)).toInt8.toInt32)) &&& (255 : Int32))) (8 : Int32))), .val (.int (own_lt (2 : Int32) ((2 : Int32) + ((nar .byte (((p1 &&& (2147483647 : Int32)) % (7 : Int32)).toInt8.toInt32)) &&& (255 : Int32))))), .val (.int (own_lt (2 : Int32) ((2 : Int32) + ((nar .byte (((p1 &&& (2147483647 : Int32)) % (7 : Int32)).toInt8.toInt32)) &&& (255 : Int32)))))] [])) (fun t k => XS.icmpYes X70.here hx rfl (pc0 := 189) (pc' := 203) rfl (hb hby at_189) rfl (feq hc189_78).2 (by decide) (by decide) k) ?_
      exact (hc189_78 ((own_key p1).2.2.2.2.2.1 hc181_77)).elim
    refine own_of (S' := T70.setTop (mkF m 188 #[.val (.int p1), .val (.long q2), .second, .val (.ref b1), .val (.int ((p1 &&& (2147483647 : Int32)) % (7 : Int32))), .val (.ref b14), .val (.ref b25), .val (.int (1 : Int32)), .val (.ref r_61), .val (.int (own_lt ((2 : Int32) + ((nar .byte (((p1 &&& (2147483647 : Int32)) % (7 : Int32)).toInt8.toInt32)) &&& (255 : Int32))) (8 : Int32))), .val (.int (own_lt (2 : Int32) ((2 : Int32) + ((nar .byte (((p1 &&& (2147483647 : Int32)) % (7 : Int32)).toInt8.toInt32)) &&& (255 : Int32))))), .val (.int (own_lt (2 : Int32) ((2 : Int32) + ((nar .byte (((p1 &&& (2147483647 : Int32)) % (7 : Int32)).toInt8.toInt32)) &&& (255 : Int32)))))] [(.int (own_lt (2 : Int32) ((2 : Int32) + ((nar .byte (((p1 &&& (2147483647 : Int32)) % (7 : Int32)).toInt8.toInt32)) &&& (255 : Int32)))))])) (fun t k => XS.ifYes X70.here hx rfl (pc0 := 181) (pc' := 188) rfl (hb hby at_181) rfl ((if0 _ _).trans (flt hc181_77).2.2.2) (by decide) (by decide) k) ?_
    refine own_of (S' := T70.setTop (mkF m 189 #[.val (.int p1), .val (.long q2), .second, .val (.ref b1), .val (.int ((p1 &&& (2147483647 : Int32)) % (7 : Int32))), .val (.ref b14), .val (.ref b25), .val (.int (1 : Int32)), .val (.ref r_61), .val (.int (own_lt ((2 : Int32) + ((nar .byte (((p1 &&& (2147483647 : Int32)) % (7 : Int32)).toInt8.toInt32)) &&& (255 : Int32))) (8 : Int32))), .val (.int (own_lt (2 : Int32) ((2 : Int32) + ((nar .byte (((p1 &&& (2147483647 : Int32)) % (7 : Int32)).toInt8.toInt32)) &&& (255 : Int32))))), .val (.int (own_lt (2 : Int32) ((2 : Int32) + ((nar .byte (((p1 &&& (2147483647 : Int32)) % (7 : Int32)).toInt8.toInt32)) &&& (255 : Int32)))))] [(.int (0 : Int32)), (.int (own_lt (2 : Int32) ((2 : Int32) + ((nar .byte (((p1 &&& (2147483647 : Int32)) % (7 : Int32)).toInt8.toInt32)) &&& (255 : Int32)))))])) (fun t k => XS.iconst X70.here hx rfl (hb hby at_188) k) ?_
    by_cases hc189_79 : (own_lt (2 : Int32) ((2 : Int32) + ((nar .byte (((p1 &&& (2147483647 : Int32)) % (7 : Int32)).toInt8.toInt32)) &&& (255 : Int32)))) = (0 : Int32)
    · refine own_of (S' := T70.setTop (mkF m 192 #[.val (.int p1), .val (.long q2), .second, .val (.ref b1), .val (.int ((p1 &&& (2147483647 : Int32)) % (7 : Int32))), .val (.ref b14), .val (.ref b25), .val (.int (1 : Int32)), .val (.ref r_61), .val (.int (own_lt ((2 : Int32) + ((nar .byte (((p1 &&& (2147483647 : Int32)) % (7 : Int32)).toInt8.toInt32)) &&& (255 : Int32))) (8 : Int32))), .val (.int (own_lt (2 : Int32) ((2 : Int32) + ((nar .byte (((p1 &&& (2147483647 : Int32)) % (7 : Int32)).toInt8.toInt32)) &&& (255 : Int32))))), .val (.int (own_lt (2 : Int32) ((2 : Int32) + ((nar .byte (((p1 &&& (2147483647 : Int32)) % (7 : Int32)).toInt8.toInt32)) &&& (255 : Int32)))))] [])) (fun t k => XS.icmpNo X70.here hx rfl (hb hby at_189) rfl (teq hc189_79).2 k) ?_
      refine own_of (S' := T70.setTop (mkF m 194 #[.val (.int p1), .val (.long q2), .second, .val (.ref b1), .val (.int ((p1 &&& (2147483647 : Int32)) % (7 : Int32))), .val (.ref b14), .val (.ref b25), .val (.int (1 : Int32)), .val (.ref r_61), .val (.int (own_lt ((2 : Int32) + ((nar .byte (((p1 &&& (2147483647 : Int32)) % (7 : Int32)).toInt8.toInt32)) &&& (255 : Int32))) (8 : Int32))), .val (.int (own_lt (2 : Int32) ((2 : Int32) + ((nar .byte (((p1 &&& (2147483647 : Int32)) % (7 : Int32)).toInt8.toInt32)) &&& (255 : Int32))))), .val (.int (own_lt (2 : Int32) ((2 : Int32) + ((nar .byte (((p1 &&& (2147483647 : Int32)) % (7 : Int32)).toInt8.toInt32)) &&& (255 : Int32)))))] [(.int (own_lt (2 : Int32) ((2 : Int32) + ((nar .byte (((p1 &&& (2147483647 : Int32)) % (7 : Int32)).toInt8.toInt32)) &&& (255 : Int32)))))])) (fun t k => XS.iload X70.here hx rfl (hb hby at_192) rfl k) ?_
      refine own_of (S' := T70.setTop (mkF m 196 #[.val (.int p1), .val (.long q2), .second, .val (.ref b1), .val (.int ((p1 &&& (2147483647 : Int32)) % (7 : Int32))), .val (.ref b14), .val (.ref b25), .val (.int (1 : Int32)), .val (.ref r_61), .val (.int (own_lt ((2 : Int32) + ((nar .byte (((p1 &&& (2147483647 : Int32)) % (7 : Int32)).toInt8.toInt32)) &&& (255 : Int32))) (8 : Int32))), .val (.int (own_lt (2 : Int32) ((2 : Int32) + ((nar .byte (((p1 &&& (2147483647 : Int32)) % (7 : Int32)).toInt8.toInt32)) &&& (255 : Int32))))), .val (.int (own_lt (2 : Int32) ((2 : Int32) + ((nar .byte (((p1 &&& (2147483647 : Int32)) % (7 : Int32)).toInt8.toInt32)) &&& (255 : Int32)))))] [(.int (own_lt (2 : Int32) ((2 : Int32) + ((nar .byte (((p1 &&& (2147483647 : Int32)) % (7 : Int32)).toInt8.toInt32)) &&& (255 : Int32))))), (.int (own_lt (2 : Int32) ((2 : Int32) + ((nar .byte (((p1 &&& (2147483647 : Int32)) % (7 : Int32)).toInt8.toInt32)) &&& (255 : Int32)))))])) (fun t k => XS.iload X70.here hx rfl (hb hby at_194) rfl k) ?_
      refine own_of (S' := T70.setTop (mkF m 199 #[.val (.int p1), .val (.long q2), .second, .val (.ref b1), .val (.int ((p1 &&& (2147483647 : Int32)) % (7 : Int32))), .val (.ref b14), .val (.ref b25), .val (.int (1 : Int32)), .val (.ref r_61), .val (.int (own_lt ((2 : Int32) + ((nar .byte (((p1 &&& (2147483647 : Int32)) % (7 : Int32)).toInt8.toInt32)) &&& (255 : Int32))) (8 : Int32))), .val (.int (own_lt (2 : Int32) ((2 : Int32) + ((nar .byte (((p1 &&& (2147483647 : Int32)) % (7 : Int32)).toInt8.toInt32)) &&& (255 : Int32))))), .val (.int (own_lt (2 : Int32) ((2 : Int32) + ((nar .byte (((p1 &&& (2147483647 : Int32)) % (7 : Int32)).toInt8.toInt32)) &&& (255 : Int32)))))] [])) (fun t k => XS.icmpNo X70.here hx rfl (hb hby at_196) rfl (teq (rfl : (own_lt (2 : Int32) ((2 : Int32) + ((nar .byte (((p1 &&& (2147483647 : Int32)) % (7 : Int32)).toInt8.toInt32)) &&& (255 : Int32)))) = (own_lt (2 : Int32) ((2 : Int32) + ((nar .byte (((p1 &&& (2147483647 : Int32)) % (7 : Int32)).toInt8.toInt32)) &&& (255 : Int32)))))).2 k) ?_
      refine own_of (S' := T70.setTop (mkF m 200 #[.val (.int p1), .val (.long q2), .second, .val (.ref b1), .val (.int ((p1 &&& (2147483647 : Int32)) % (7 : Int32))), .val (.ref b14), .val (.ref b25), .val (.int (1 : Int32)), .val (.ref r_61), .val (.int (own_lt ((2 : Int32) + ((nar .byte (((p1 &&& (2147483647 : Int32)) % (7 : Int32)).toInt8.toInt32)) &&& (255 : Int32))) (8 : Int32))), .val (.int (own_lt (2 : Int32) ((2 : Int32) + ((nar .byte (((p1 &&& (2147483647 : Int32)) % (7 : Int32)).toInt8.toInt32)) &&& (255 : Int32))))), .val (.int (own_lt (2 : Int32) ((2 : Int32) + ((nar .byte (((p1 &&& (2147483647 : Int32)) % (7 : Int32)).toInt8.toInt32)) &&& (255 : Int32)))))] [(.int (1 : Int32))])) (fun t k => XS.iconst X70.here hx rfl (hb hby at_199) k) ?_
      refine own_of (S' := T70.setTop (mkF m 204 #[.val (.int p1), .val (.long q2), .second, .val (.ref b1), .val (.int ((p1 &&& (2147483647 : Int32)) % (7 : Int32))), .val (.ref b14), .val (.ref b25), .val (.int (1 : Int32)), .val (.ref r_61), .val (.int (own_lt ((2 : Int32) + ((nar .byte (((p1 &&& (2147483647 : Int32)) % (7 : Int32)).toInt8.toInt32)) &&& (255 : Int32))) (8 : Int32))), .val (.int (own_lt (2 : Int32) ((2 : Int32) + ((nar .byte (((p1 &&& (2147483647 : Int32)) % (7 : Int32)).toInt8.toInt32)) &&& (255 : Int32))))), .val (.int (own_lt (2 : Int32) ((2 : Int32) + ((nar .byte (((p1 &&& (2147483647 : Int32)) % (7 : Int32)).toInt8.toInt32)) &&& (255 : Int32)))))] [(.int (1 : Int32))])) (fun t k => XS.goto X70.here hx rfl (pc0 := 200) (pc' := 204) rfl (hb hby at_200) (by decide) (by decide) k) ?_
      obtain ⟨fs, hr, hrun, hended, hW, hsame⟩ := X70.leave (v := some (.int (1 : Int32))) (fun h => by rw [Bd.returns] at h; cases h)
      subst hKd
      exact ⟨_, _, retN X70 hx (t := .boolean) Bd.returns (by simp) (hb hby at_204) hr, hrun, hended, _, _, rfl, (by
        show Q0 Z p1 q2 h0 n0 _ T70.heap _
        rw [show T70.heap = T61.heap from (hh70)]
        exact ⟨rfl, N70⟩), ⟨_, rfl⟩, hW, hsame.mono (by decide) (by decide)⟩
    refine own_of (S' := T70.setTop (mkF m 203 #[.val (.int p1), .val (.long q2), .second, .val (.ref b1), .val (.int ((p1 &&& (2147483647 : Int32)) % (7 : Int32))), .val (.ref b14), .val (.ref b25), .val (.int (1 : Int32)), .val (.ref r_61), .val (.int (own_lt ((2 : Int32) + ((nar .byte (((p1 &&& (2147483647 : Int32)) % (7 : Int32)).toInt8.toInt32)) &&& (255 : Int32))) (8 : Int32))), .val (.int (own_lt (2 : Int32) ((2 : Int32) + ((nar .byte (((p1 &&& (2147483647 : Int32)) % (7 : Int32)).toInt8.toInt32)) &&& (255 : Int32))))), .val (.int (own_lt (2 : Int32) ((2 : Int32) + ((nar .byte (((p1 &&& (2147483647 : Int32)) % (7 : Int32)).toInt8.toInt32)) &&& (255 : Int32)))))] [])) (fun t k => XS.icmpYes X70.here hx rfl (pc0 := 189) (pc' := 203) rfl (hb hby at_189) rfl (feq hc189_79).2 (by decide) (by decide) k) ?_
    exact (hc189_79 ((own_key p1).2.2.2.2.2.2 hc181_77)).elim
  refine own_of (S' := T70.setTop (mkF m 203 #[.val (.int p1), .val (.long q2), .second, .val (.ref b1), .val (.int ((p1 &&& (2147483647 : Int32)) % (7 : Int32))), .val (.ref b14), .val (.ref b25), .val (.int (1 : Int32)), .val (.ref r_61), .val (.int (own_lt ((2 : Int32) + ((nar .byte (((p1 &&& (2147483647 : Int32)) % (7 : Int32)).toInt8.toInt32)) &&& (255 : Int32))) (8 : Int32))), .val (.int (own_lt (2 : Int32) ((2 : Int32) + ((nar .byte (((p1 &&& (2147483647 : Int32)) % (7 : Int32)).toInt8.toInt32)) &&& (255 : Int32))))), .val (.int (own_lt (2 : Int32) ((2 : Int32) + ((nar .byte (((p1 &&& (2147483647 : Int32)) % (7 : Int32)).toInt8.toInt32)) &&& (255 : Int32)))))] [])) (fun t k => XS.icmpYes X70.here hx rfl (pc0 := 174) (pc' := 203) rfl (hb hby at_174) rfl (feq hc174_76).2 (by decide) (by decide) k) ?_
  exact (hc174_76 ((own_key p1).2.2.2.2.1 hc166_71)).elim
set_option maxRecDepth 65536 in
set_option maxHeartbeats 40000000 in
theorem comes_1 {Post : Tables → Env → Array Value → State → Outcome → State → Prop} (hpost : ∀ tb e args s v u, (limb_1_1.after args s (.returned v) u = true ∧ limb_1_2.after args s (.returned v) u = true ∧ True) → ReturnedEndW s (.returned v) u (Jvm.fieldLocs frame_1_writes args s ++ Jvm.arrayLocs frame_1_arrays args s ++ Jvm.staticLocs frame_1_statics s) 24 128 → Post tb e args s (.returned v) u) :
    ArmFor flags0 classFile x code maxLocals ret World_1 tables_1 room_1 Calls_1 rest_1 Pre_1 Post := by
  intro l hfl _ _ p e ha hc hk s m args below hf hA hF happ hP
  obtain ⟨hcalls, hrest, hpre⟩ := hP
  obtain ⟨-, -, -, hnamed, -, -, -, hat⟩ := (Spec.applies_iff hf).mp happ
  obtain ⟨hg, hn⟩ := and_e (Cond.before_iff.mp (show (Jvm.Cond.and given_1 narrow_1).before args s = true from hpre))
  obtain ⟨g1a, g1b⟩ := and_e hg
  obtain ⟨g2a, g2b⟩ := and_e g1b
  obtain ⟨w0_, w1_, rfl⟩ : ∃ w0_ w1_ : Value, args = #[w0_, w1_] := by
    have hs : args.size = 2 := by simpa [Cond.value, given_1] using g1a
    obtain ⟨L⟩ := args
    match L, hs with
    | [w0_, w1_], _ => exact ⟨w0_, w1_, rfl⟩
  have hw := fun d (hd : d ∈ tables_1) => atoms_spec (ws := Jvm.Cond.code x code maxLocals ret :: tables_1) hat d (List.mem_cons_of_mem _ hd)
  have hfit : Fit s := fun {y c} hc i hi => by
    obtain ⟨ha, rfl⟩ := Array.getElem?_eq_some_iff.mp hc
    have q := List.all_eq_true.mp ((Array.all_eq_true_iff_forall_mem.mp hF) _ (Array.getElem_mem ha)) i (List.mem_range.mpr hi)
    simpa [Array.getElem?_eq_getElem hi] using q
  obtain ⟨p1, ei0⟩ := is_v g2a
  obtain rfl : w0_ = (.int p1) := Option.some.inj ei0
  obtain ⟨q2, ei1⟩ := isL_v g2b
  obtain rfl : w1_ = (.long q2) := Option.some.inj ei1
  obtain ⟨n, o, h1, h2, h3, _, L, rfl, ⟨rfl, N⟩, hq⟩ := rm0 l s _ hw tables_1 p1 q2 s.heap s.heap.size (Nat.le_refl _)  p e ha hc hk s m _ below hf ((Spec.applies_iff_loose hf).mp happ).1 ⟨rfl, State.WarmedH.refl s, rfl⟩ trivial
  have hq := Jvm.RoadKit.wide hq
  refine ⟨n, _, h1, h2, h3, hpost _ _ _ _ _ _ ⟨Cond.after_iff.mpr rfl, Cond.after_iff.mpr (eq_i res_at (Term.int_eval (1)) rfl), trivial⟩ ⟨hq.1, hq.2.1, hq.2.2.1, (hq.2.2.2.sift fun y hy => Or.inr (N y hy)).mono (by decide) (by decide)⟩⟩
theorem main_1_1 : Claimed_1_1 := comes_1 fun _ _ _ _ _ _ h hF => ⟨h.1, hF⟩
theorem main_1_2 : Claimed_1_2 := comes_1 fun _ _ _ _ _ _ h hF => ⟨h.2.1, hF⟩
end Jvm.Pilot.@@N@@
namespace Jvm.Pilot.@@N@@
open Jvm Jvm.ClassFile Sem Op Lib Jvm.Free Jvm.Stand Jvm.Pilot.@@N@@.Jvm.D
/-! MADE BY PROGRAM (witnessworld.py) out of the Statement's table words and the real class files: 11 classes; the members and pool entries that the words name. The judged class is class 1, her method 1. -/
namespace start1
open Jvm.ClassFile
def u (s : String) : CpInfo := .utf8 (stringToUtf16 s)
/-- a pool by its gaps: so many unusable entries, then the entry; so many at the end -/
def gap : Nat → List CpInfo → List CpInfo
  | 0, r => r
  | n + 1, r => .unusable :: gap n r
def poolList (es : List (Nat × CpInfo)) (last : Nat) : List CpInfo := es.foldr (fun e r => gap e.1 (e.2 :: r)) (gap last [])
def pool (es : List (Nat × CpInfo)) (last : Nat) : Array CpInfo := ⟨poolList es last⟩
def fileOf (pool : Array CpInfo) (this : Nat) (attrs : Array Attribute := #[]) (ms : Array MethodInfo := #[]) (fl : Nat := 33) (sup : Nat := 0) (ifs : Array Nat := #[]) (fds : Array FieldInfo := #[]) : ClassFile where
  minorVersion := 0
  majorVersion := 65
  constantPool := pool
  accessFlags := fl
  thisClass := this
  superClass := sup
  interfaces := ifs
  fields := fds
  methods := ms
  attributes := attrs
def plain (name : String) (sup : Option ClassId) : Class where
  name := name
  kind := .ordinary
  loader := none
  accessFlags := 33
  super := sup
  interfaces := #[]
  cf := none
  fields := #[]
  methods := #[]
  instanceTypes := #[]
  staticTypes := #[]
  resolved := #[]
  callSites := []
  init := .initialized
  statics := none
  mirror := none

def pool0 : Array CpInfo := pool [(5, u "<init>"), (0, u "()V"), (1, .class_ 10), (1, u "java/lang/Object")] 113

def k0c0 : Code := { maxStack := 0, maxLocals := 1, code := object_method_1_code, exceptionTable := #[], attributes := #[] }
def k0m0 : Method := { name := "<init>", desc := "()V", sig := { parameters := [], returnType := none }, accessFlags := 1, code := some k0c0 }
/-- java/lang/Object -/
def k0 : Class := { plain "java/lang/Object" none with
  accessFlags := 33
  interfaces := #[]
  cf := some (fileOf pool0 8 #[] #[{ accessFlags := 1, nameIndex := 5, descriptorIndex := 6, attributes := #[] }] 33 0 #[] #[])
  fields := #[]
  methods := #[k0m0]
  instanceTypes := #[]
  staticTypes := #[]
  resolved := Array.replicate 124 none
  statics := none }

def pool1 : Array CpInfo := pool [(2, .class_ 4), (1, u "java/lang/Object"), (0, u "<init>"), (0, u "()V"), (0, .class_ 8), (0, u "com/example/waypost/waypost/ber/BerReader"), (0, .methodref 7 10), (0, .nameAndType 5 11), (0, u "([B)V"), (0, .methodref 7 13), (0, .nameAndType 14 15), (0, u "hasRemaining"), (0, u "()Z"), (0, .integer 2147483647), (0, .methodref 7 18), (0, .nameAndType 19 20), (0, u "readConstructed"), (0, u "(I)Lcom/example/waypost/waypost/ber/BerReader;"), (0, .class_ 22), (0, u "com/example/waypost/waypost/ber/BerReaderHasRemainingPinLaw"), (2, u "law"), (0, u "(IJ)Z")] 8

def k1m0 : Method := { name := "<init>", desc := "()V", sig := { parameters := [], returnType := none }, accessFlags := 1, code := none }
def k1c1 : Code := { maxStack := 5, maxLocals := 12, code := code, exceptionTable := #[], attributes := #[] }
def k1m1 : Method := { name := "law", desc := "(IJ)Z", sig := { parameters := [.int, .long], returnType := some .boolean }, accessFlags := 9, code := some k1c1 }
/-- com/example/waypost/waypost/ber/BerReaderHasRemainingPinLaw -/
def k1 : Class := { plain "com/example/waypost/waypost/ber/BerReaderHasRemainingPinLaw" (some 0) with
  accessFlags := 49
  interfaces := #[]
  cf := some (fileOf pool1 21 #[] #[{ accessFlags := 1, nameIndex := 5, descriptorIndex := 6, attributes := #[] }, { accessFlags := 9, nameIndex := 25, descriptorIndex := 26, attributes := #[] }] 49 2 #[] #[])
  fields := #[]
  methods := #[k1m0, k1m1]
  instanceTypes := #[]
  staticTypes := #[]
  resolved := Array.replicate 35 none
  statics := none }

def pool2 : Array CpInfo := pool [(1, .methodref 2 3), (0, .class_ 4), (0, .nameAndType 5 6), (0, u "com/example/waypost/waypost/ber/BerReader"), (0, u "<init>"), (0, u "([BII)V"), (0, .methodref 8 9), (0, .class_ 10), (0, .nameAndType 5 11), (0, u "java/lang/Object"), (0, u "()V"), (0, .fieldref 2 13), (0, .nameAndType 14 15), (0, u "buffer"), (0, u "[B"), (0, .fieldref 2 17), (0, .nameAndType 18 19), (0, u "position"), (0, u "I"), (0, .fieldref 2 21), (0, .nameAndType 22 19), (0, u "end"), (5, u "()I"), (12, u "next"), (1, .methodref 2 44), (0, .nameAndType 45 46), (0, u "readLength"), (0, u "(Lcom/example/waypost/waypost/ber/BerReader$ByteSource;)I"), (32, .interfaceMethodref 80 81), (0, .class_ 82), (0, .nameAndType 41 28), (0, u "com/example/waypost/waypost/ber/BerReader$ByteSource"), (9, .long 2147483647), (4, .methodref 2 98), (0, .nameAndType 99 100), (0, u "hasRemaining"), (0, u "()Z"), (5, .methodref 2 107), (0, .nameAndType 108 109), (0, u "readHeader"), (0, u "(I)I"), (19, .methodref 2 130), (0, .nameAndType 131 28), (0, u "peekTag"), (0, .invokeDynamic 6 133), (0, .nameAndType 41 134), (0, u "(Lcom/example/waypost/waypost/ber/BerReader;)Lcom/example/waypost/waypost/ber/BerReader$ByteSource;"), (1, u "TAG_BOOLEAN"), (2, u "TAG_INTEGER"), (1, u "TAG_OCTET_STRING"), (1, u "TAG_ENUMERATED"), (1, u "TAG_SEQUENCE"), (1, u "([B)V"), (14, u "readConstructed"), (0, u "(I)Lcom/example/waypost/waypost/ber/BerReader;"), (6, u "lambda$readHeader$0"), (6, .methodType 28), (11, .methodHandle 5 190), (0, .methodref 2 191), (0, .nameAndType 170 28), (2, .methodHandle 6 195), (0, .methodref 196 197), (0, .class_ 198), (0, .nameAndType 199 200), (0, u "java/lang/invoke/LambdaMetafactory"), (0, u "metafactory"), (0, u "(Ljava/lang/invoke/MethodHandles$Lookup;Ljava/lang/String;Ljava/lang/invoke/MethodType;Ljava/lang/invoke/MethodType;Ljava/lang/invoke/MethodHandle;Ljava/lang/invoke/MethodType;)Ljava/lang/invoke/CallSite;")] 14

def k2c0 : Code := { maxStack := 4, maxLocals := 2, code := prog_31_method_1_code, exceptionTable := #[], attributes := #[] }
def k2m0 : Method := { name := "<init>", desc := "([B)V", sig := { parameters := [(.array .byte)], returnType := none }, accessFlags := 1, code := some k2c0 }
def k2c1 : Code := { maxStack := 2, maxLocals := 4, code := prog_31_method_2_code, exceptionTable := #[], attributes := #[] }
def k2m1 : Method := { name := "<init>", desc := "([BII)V", sig := { parameters := [(.array .byte), .int, .int], returnType := none }, accessFlags := 2, code := some k2c1 }
def k2c2 : Code := { maxStack := 4, maxLocals := 7, code := prog_31_method_5_code, exceptionTable := #[], attributes := #[] }
def k2m2 : Method := { name := "readLength", desc := "(Lcom/example/waypost/waypost/ber/BerReader$ByteSource;)I", sig := { parameters := [(.object "com/example/waypost/waypost/ber/BerReader$ByteSource")], returnType := some .int }, accessFlags := 10, code := some k2c2 }
def k2c3 : Code := { maxStack := 2, maxLocals := 1, code := prog_31_method_6_code, exceptionTable := #[], attributes := #[] }
def k2m3 : Method := { name := "hasRemaining", desc := "()Z", sig := { parameters := [], returnType := some .boolean }, accessFlags := 1, code := some k2c3 }
def k2c4 : Code := { maxStack := 3, maxLocals := 2, code := prog_31_method_8_code, exceptionTable := #[], attributes := #[] }
def k2m4 : Method := { name := "peekTag", desc := "()I", sig := { parameters := [], returnType := some .int }, accessFlags := 1, code := some k2c4 }
def k2c5 : Code := { maxStack := 6, maxLocals := 4, code := prog_31_method_9_code, exceptionTable := #[], attributes := #[] }
def k2m5 : Method := { name := "readConstructed", desc := "(I)Lcom/example/waypost/waypost/ber/BerReader;", sig := { parameters := [.int], returnType := some (.object "com/example/waypost/waypost/ber/BerReader") }, accessFlags := 1, code := some k2c5 }
def k2c6 : Code := { maxStack := 5, maxLocals := 4, code := prog_31_method_15_code, exceptionTable := #[], attributes := #[] }
def k2m6 : Method := { name := "readHeader", desc := "(I)I", sig := { parameters := [.int], returnType := some .int }, accessFlags := 2, code := some k2c6 }
def k2c7 : Code := { maxStack := 5, maxLocals := 1, code := prog_31_method_16_code, exceptionTable := #[], attributes := #[] }
def k2m7 : Method := { name := "lambda$readHeader$0", desc := "()I", sig := { parameters := [], returnType := some .int }, accessFlags := 4098, code := some k2c7 }
/-- com/example/waypost/waypost/ber/BerReader -/
def k2 : Class := { plain "com/example/waypost/waypost/ber/BerReader" (some 0) with
  accessFlags := 49
  interfaces := #[]
  cf := some (fileOf pool2 2 #[.nestMembers #[80], .bootstrapMethods #[⟨0, #[]⟩, ⟨0, #[]⟩, ⟨0, #[]⟩, ⟨0, #[]⟩, ⟨0, #[]⟩, ⟨0, #[]⟩, ⟨194, #[177, 189, 177]⟩, ⟨0, #[]⟩]] #[{ accessFlags := 1, nameIndex := 5, descriptorIndex := 147, attributes := #[] }, { accessFlags := 2, nameIndex := 5, descriptorIndex := 6, attributes := #[] }, { accessFlags := 10, nameIndex := 45, descriptorIndex := 46, attributes := #[] }, { accessFlags := 1, nameIndex := 99, descriptorIndex := 100, attributes := #[] }, { accessFlags := 1, nameIndex := 131, descriptorIndex := 28, attributes := #[] }, { accessFlags := 1, nameIndex := 162, descriptorIndex := 163, attributes := #[] }, { accessFlags := 2, nameIndex := 108, descriptorIndex := 109, attributes := #[] }, { accessFlags := 4098, nameIndex := 170, descriptorIndex := 28, attributes := #[] }] 49 8 #[] #[{ accessFlags := 25, nameIndex := 136, descriptorIndex := 19, attributes := #[] }, { accessFlags := 25, nameIndex := 139, descriptorIndex := 19, attributes := #[] }, { accessFlags := 25, nameIndex := 141, descriptorIndex := 19, attributes := #[] }, { accessFlags := 25, nameIndex := 143, descriptorIndex := 19, attributes := #[] }, { accessFlags := 25, nameIndex := 145, descriptorIndex := 19, attributes := #[] }, { accessFlags := 18, nameIndex := 14, descriptorIndex := 15, attributes := #[] }, { accessFlags := 2, nameIndex := 18, descriptorIndex := 19, attributes := #[] }, { accessFlags := 18, nameIndex := 22, descriptorIndex := 19, attributes := #[] }])
  fields := #[{ name := "TAG_BOOLEAN", type := .int, accessFlags := 25, slot := 0, constantValue := 0 }, { name := "TAG_INTEGER", type := .int, accessFlags := 25, slot := 1, constantValue := 0 }, { name := "TAG_OCTET_STRING", type := .int, accessFlags := 25, slot := 2, constantValue := 0 }, { name := "TAG_ENUMERATED", type := .int, accessFlags := 25, slot := 3, constantValue := 0 }, { name := "TAG_SEQUENCE", type := .int, accessFlags := 25, slot := 4, constantValue := 0 }, { name := "buffer", type := (.array .byte), accessFlags := 18, slot := 0, constantValue := 0 }, { name := "position", type := .int, accessFlags := 2, slot := 1, constantValue := 0 }, { name := "end", type := .int, accessFlags := 18, slot := 2, constantValue := 0 }]
  methods := #[k2m0, k2m1, k2m2, k2m3, k2m4, k2m5, k2m6, k2m7]
  instanceTypes := #[(.array .byte), .int, .int]
  staticTypes := #[.int, .int, .int, .int, .int]
  resolved := Array.replicate 215 none
  callSites := [(6, 27, .makes 10)]
  statics := none }

def pool3 : Array CpInfo := pool [(1, .class_ 2), (0, u "com/example/waypost/waypost/ber/BerReader$ByteSource"), (0, .class_ 4), (0, u "java/lang/Object"), (0, u "next"), (0, u "()I"), (11, .class_ 19), (0, u "com/example/waypost/waypost/ber/BerReader")] 2

def k3m0 : Method := { name := "next", desc := "()I", sig := { parameters := [], returnType := some .int }, accessFlags := 1025, code := none }
/-- com/example/waypost/waypost/ber/BerReader$ByteSource -/
def k3 : Class := { plain "com/example/waypost/waypost/ber/BerReader$ByteSource" (some 0) with
  accessFlags := 1536
  interfaces := #[]
  cf := some (fileOf pool3 1 #[.nestHost 18] #[{ accessFlags := 1025, nameIndex := 5, descriptorIndex := 6, attributes := #[] }] 1536 3 #[] #[])
  fields := #[]
  methods := #[k3m0]
  instanceTypes := #[]
  staticTypes := #[]
  resolved := Array.replicate 22 none
  statics := none }

def pool4 : Array CpInfo := pool [(1, u "java/lang/Cloneable"), (0, .class_ 1), (0, u "java/lang/Object"), (0, .class_ 3)] 3

/-- java/lang/Cloneable -/
def k4 : Class := { plain "java/lang/Cloneable" (some 0) with
  accessFlags := 1537
  interfaces := #[]
  cf := some (fileOf pool4 2 #[] #[] 1537 4 #[] #[])
  fields := #[]
  methods := #[]
  instanceTypes := #[]
  staticTypes := #[]
  resolved := Array.replicate 8 none
  statics := none }

def pool5 : Array CpInfo := pool [(1, u "java/io/Serializable"), (0, .class_ 1), (0, u "java/lang/Object"), (0, .class_ 3)] 3

/-- java/io/Serializable -/
def k5 : Class := { plain "java/io/Serializable" (some 0) with
  accessFlags := 1537
  interfaces := #[]
  cf := some (fileOf pool5 2 #[] #[] 1537 4 #[] #[])
  fields := #[]
  methods := #[]
  instanceTypes := #[]
  staticTypes := #[]
  resolved := Array.replicate 8 none
  statics := none }

/-- the primitive byte -/
def k6 : Class := { plain "byte" none with kind := .primitive 'B', accessFlags := 0x411 }
/-- [B -/
def k7 : Class := { plain "[B" (some 0) with kind := .array 6 .byte, interfaces := #[4, 5], accessFlags := 1041 }

/-- the primitive int -/
def k8 : Class := { plain "int" none with kind := .primitive 'I', accessFlags := 0x411 }
/-- [I -/
def k9 : Class := { plain "[I" (some 0) with kind := .array 8 .int, interfaces := #[4, 5], accessFlags := 1041 }

def classes0 : Array Class := #[k0, k1, k2, k3, k4, k5, k6, k7, k8, k9]
/-- the class that the rule has made for the site at 27 of com/example/waypost/waypost/ber/BerReader.readHeader -/
def k10 : Class := Jvm.LamKit.madeRec { classes := classes0 } "com/example/waypost/waypost/ber/BerReader" (Jvm.Lambda.Shape.mk "com/example/waypost/waypost/ber/BerReader$ByteSource" "next" (Jvm.ClassFile.MethodDescriptor.mk ([] : List Jvm.ClassFile.FieldType) (Option.some Jvm.ClassFile.FieldType.int)) ([(Jvm.ClassFile.FieldType.object "com/example/waypost/waypost/ber/BerReader")] : List Jvm.ClassFile.FieldType) (5 : Nat) "com/example/waypost/waypost/ber/BerReader" "lambda$readHeader$0" (Jvm.ClassFile.MethodDescriptor.mk ([] : List Jvm.ClassFile.FieldType) (Option.some Jvm.ClassFile.FieldType.int)) false (Jvm.ClassFile.MethodDescriptor.mk ([] : List Jvm.ClassFile.FieldType) (Option.some Jvm.ClassFile.FieldType.int))) 10

def heap : Heap := #[]
def classes : Array Class := #[k0, k1, k2, k3, k4, k5, k6, k7, k8, k9, k10]
def interned : List (Array UInt16 × Addr) := []
def slotsUsed : Nat := 0
def theMethod : MethodId := ⟨1, 1⟩
def args0 : Array Value := #[.int 0, .long 5]
def aboutOver (below : List Frame) : State where
  vm := { classes := classes, interned := interned.toArray }
  heap := heap
  slotsUsed := slotsUsed
  threads := #[{ frames := .invoking theMethod args0 :: below }]
def below0 : List Frame := [.native { method := ⟨0, 0⟩, args := #[] }]
def about1 : State := aboutOver below0
def p0 : Program := .bare "" "" ""
def e0 : Env := launch0.env 0 0 0
theorem w_frames : about1.frames = Frame.invoking theMethod args0 :: below0 := rfl
set_option maxRecDepth 65536 in
theorem w_args : argsFit about1.vm theMethod args0 = true := by decide +kernel
set_option maxRecDepth 65536 in
theorem w_heap : heapFits about1 = true := by decide +kernel
set_option maxRecDepth 65536 in
theorem w_runnable : about1.curStatus? = some .runnable := by decide +kernel
set_option maxRecDepth 65536 in
theorem w_alone : about1.alone = true := by decide +kernel
set_option maxRecDepth 65536 in
theorem w_named : about1.methodNamed? x = some theMethod := by decide +kernel
set_option maxRecDepth 65536 in
theorem w_hears : about1.hears theMethod below0 = true := by decide +kernel
set_option maxRecDepth 65536 in
theorem w_ripe : about1.ripe theMethod args0 below0 = true := by decide +kernel
theorem w_running : about1.status = .running := rfl
set_option maxRecDepth 65536 in
theorem w_room : about1.hasRoom e0.platform room_1 = true :=
  launch0.hasRoom_least _ room_1 (by decide +kernel) (by decide +kernel) (by decide +kernel) (by decide +kernel) (by decide +kernel) (by decide +kernel)
theorem allAtoms_all (ts : List Jvm.Cond) (a : Array Jvm.Value) (st : Jvm.State) : (allAtoms ts).before a st = ts.all (fun c => c.before a st) := by
  induction ts with
  | nil => rfl
  | cons c t ih =>
    show (Jvm.Cond.and c (allAtoms t)).before a st = _
    rw [Jvm.Cond.before_and, ih, List.all_cons]
def words1 : List Jvm.Cond := Jvm.Cond.code x code maxLocals ret :: tables_1
/-- a 'code' word, met by the world's own term for the bytes: nothing is compared byte by byte -/
theorem code_word {y : MethodName} {bytes : ByteArray} {mx : Nat} {rt : Option FieldType} {a : Array Value} {s : State} {m : MethodId} {meth : Method} {c : Code} (h1 : s.methodNamed? y = some m) (h2 : s.vm.method? m = some meth) (h3 : meth.code = some c) (h4 : c.code = bytes)
    (h5 : (c.maxLocals == mx && c.exceptionTable.isEmpty && decide (c.maxStack ≤ mostOperands) && decide (meth.sig.returnType = rt) && !meth.locks && decide (parseMethodDescriptor y.desc = some meth.sig)) = true) : (Jvm.Cond.code y bytes mx rt).before a s = true := by
  simp only [Bool.and_eq_true, beq_iff_eq, Bool.not_eq_true', decide_eq_true_eq] at h5
  obtain ⟨⟨⟨⟨⟨g1, g2⟩, g3⟩, g4⟩, g5⟩, g6⟩ := h5
  simp [Cond.before, Cond.holds, Cond.value, h1, h2, h3, h4, g1, g2, g3, g4, g5, g6]
def isCode : Jvm.Cond → Bool
  | .code _ _ _ _ => true
  | _ => false
theorem all_split {L : List Jvm.Cond} {P : Jvm.Cond → Bool} (h1 : L.all (fun c => isCode c || P c) = true) (h2 : ∀ c ∈ L.filter isCode, P c = true) : L.all P = true := by
  refine List.all_eq_true.mpr fun c hc => ?_
  have h := List.all_eq_true.mp h1 c hc
  rcases Bool.eq_false_or_eq_true (isCode c) with hi | hi
  · exact h2 c (List.mem_filter.mpr ⟨hc, hi⟩)
  · simpa [hi] using h
set_option maxRecDepth 65536 in
theorem w_c0 : (Jvm.Cond.code x code maxLocals ret).before args0 about1 = true := code_word (m := ⟨1, 1⟩) (meth := k1m1) (c := k1c1) (by decide +kernel) rfl rfl rfl (by decide +kernel)
set_option maxRecDepth 65536 in
theorem w_c1 : (Jvm.Cond.code ({ cls := "com/example/waypost/waypost/ber/BerReader", name := "<init>", desc := "([B)V" } : Jvm.MethodName) prog_31_method_1_code (2 : Nat) (Option.none : Option Jvm.ClassFile.FieldType)).before args0 about1 = true := code_word (m := ⟨2, 0⟩) (meth := k2m0) (c := k2c0) (by decide +kernel) rfl rfl rfl (by decide +kernel)
set_option maxRecDepth 65536 in
theorem w_c2 : (Jvm.Cond.code ({ cls := "com/example/waypost/waypost/ber/BerReader", name := "<init>", desc := "([BII)V" } : Jvm.MethodName) prog_31_method_2_code (4 : Nat) (Option.none : Option Jvm.ClassFile.FieldType)).before args0 about1 = true := code_word (m := ⟨2, 1⟩) (meth := k2m1) (c := k2c1) (by decide +kernel) rfl rfl rfl (by decide +kernel)
set_option maxRecDepth 65536 in
theorem w_c3 : (Jvm.Cond.code ({ cls := "java/lang/Object", name := "<init>", desc := "()V" } : Jvm.MethodName) object_method_1_code (1 : Nat) (Option.none : Option Jvm.ClassFile.FieldType)).before args0 about1 = true := code_word (m := ⟨0, 0⟩) (meth := k0m0) (c := k0c0) (by decide +kernel) rfl rfl rfl (by decide +kernel)
set_option maxRecDepth 65536 in
theorem w_c4 : (Jvm.Cond.code ({ cls := "com/example/waypost/waypost/ber/BerReader", name := "hasRemaining", desc := "()Z" } : Jvm.MethodName) prog_31_method_6_code (1 : Nat) (Option.some Jvm.ClassFile.FieldType.boolean)).before args0 about1 = true := code_word (m := ⟨2, 3⟩) (meth := k2m3) (c := k2c3) (by decide +kernel) rfl rfl rfl (by decide +kernel)
set_option maxRecDepth 65536 in
theorem w_c5 : (Jvm.Cond.code ({ cls := "com/example/waypost/waypost/ber/BerReader", name := "readConstructed", desc := "(I)Lcom/example/waypost/waypost/ber/BerReader;" } : Jvm.MethodName) prog_31_method_9_code (4 : Nat) (Option.some (Jvm.ClassFile.FieldType.object "com/example/waypost/waypost/ber/BerReader"))).before args0 about1 = true := code_word (m := ⟨2, 5⟩) (meth := k2m5) (c := k2c5) (by decide +kernel) rfl rfl rfl (by decide +kernel)
set_option maxRecDepth 65536 in
theorem w_c6 : (Jvm.Cond.code ({ cls := "com/example/waypost/waypost/ber/BerReader", name := "readHeader", desc := "(I)I" } : Jvm.MethodName) prog_31_method_15_code (4 : Nat) (Option.some Jvm.ClassFile.FieldType.int)).before args0 about1 = true := code_word (m := ⟨2, 6⟩) (meth := k2m6) (c := k2c6) (by decide +kernel) rfl rfl rfl (by decide +kernel)
set_option maxRecDepth 65536 in
theorem w_c7 : (Jvm.Cond.code ({ cls := "com/example/waypost/waypost/ber/BerReader", name := "peekTag", desc := "()I" } : Jvm.MethodName) prog_31_method_8_code (2 : Nat) (Option.some Jvm.ClassFile.FieldType.int)).before args0 about1 = true := code_word (m := ⟨2, 4⟩) (meth := k2m4) (c := k2c4) (by decide +kernel) rfl rfl rfl (by decide +kernel)
set_option maxRecDepth 65536 in
theorem w_c8 : (Jvm.Cond.code ({ cls := "com/example/waypost/waypost/ber/BerReader", name := "readLength", desc := "(Lcom/example/waypost/waypost/ber/BerReader$ByteSource;)I" } : Jvm.MethodName) prog_31_method_5_code (7 : Nat) (Option.some Jvm.ClassFile.FieldType.int)).before args0 about1 = true := code_word (m := ⟨2, 2⟩) (meth := k2m2) (c := k2c2) (by decide +kernel) rfl rfl rfl (by decide +kernel)
set_option maxRecDepth 65536 in
theorem w_c9 : (Jvm.Cond.code ({ cls := "com/example/waypost/waypost/ber/BerReader", name := "lambda$readHeader$0", desc := "()I" } : Jvm.MethodName) prog_31_method_16_code (1 : Nat) (Option.some Jvm.ClassFile.FieldType.int)).before args0 about1 = true := code_word (m := ⟨2, 7⟩) (meth := k2m7) (c := k2c7) (by decide +kernel) rfl rfl rfl (by decide +kernel)
def codes1 : List Jvm.Cond := [Jvm.Cond.code x code maxLocals ret, Jvm.Cond.code ({ cls := "com/example/waypost/waypost/ber/BerReader", name := "<init>", desc := "([B)V" } : Jvm.MethodName) prog_31_method_1_code (2 : Nat) (Option.none : Option Jvm.ClassFile.FieldType), Jvm.Cond.code ({ cls := "com/example/waypost/waypost/ber/BerReader", name := "<init>", desc := "([BII)V" } : Jvm.MethodName) prog_31_method_2_code (4 : Nat) (Option.none : Option Jvm.ClassFile.FieldType), Jvm.Cond.code ({ cls := "java/lang/Object", name := "<init>", desc := "()V" } : Jvm.MethodName) object_method_1_code (1 : Nat) (Option.none : Option Jvm.ClassFile.FieldType), Jvm.Cond.code ({ cls := "com/example/waypost/waypost/ber/BerReader", name := "hasRemaining", desc := "()Z" } : Jvm.MethodName) prog_31_method_6_code (1 : Nat) (Option.some Jvm.ClassFile.FieldType.boolean), Jvm.Cond.code ({ cls := "com/example/waypost/waypost/ber/BerReader", name := "readConstructed", desc := "(I)Lcom/example/waypost/waypost/ber/BerReader;" } : Jvm.MethodName) prog_31_method_9_code (4 : Nat) (Option.some (Jvm.ClassFile.FieldType.object "com/example/waypost/waypost/ber/BerReader")), Jvm.Cond.code ({ cls := "com/example/waypost/waypost/ber/BerReader", name := "readHeader", desc := "(I)I" } : Jvm.MethodName) prog_31_method_15_code (4 : Nat) (Option.some Jvm.ClassFile.FieldType.int), Jvm.Cond.code ({ cls := "com/example/waypost/waypost/ber/BerReader", name := "peekTag", desc := "()I" } : Jvm.MethodName) prog_31_method_8_code (2 : Nat) (Option.some Jvm.ClassFile.FieldType.int), Jvm.Cond.code ({ cls := "com/example/waypost/waypost/ber/BerReader", name := "readLength", desc := "(Lcom/example/waypost/waypost/ber/BerReader$ByteSource;)I" } : Jvm.MethodName) prog_31_method_5_code (7 : Nat) (Option.some Jvm.ClassFile.FieldType.int), Jvm.Cond.code ({ cls := "com/example/waypost/waypost/ber/BerReader", name := "lambda$readHeader$0", desc := "()I" } : Jvm.MethodName) prog_31_method_16_code (1 : Nat) (Option.some Jvm.ClassFile.FieldType.int)]
set_option maxRecDepth 65536 in
theorem codes_eq : words1.filter isCode = codes1 := rfl
theorem w_codes : ∀ c ∈ words1.filter isCode, c.before args0 about1 = true := by
  rw [codes_eq]
  intro c hc
  simp only [codes1, List.mem_cons, List.not_mem_nil, or_false] at hc
  rcases hc with rfl | rfl | rfl | rfl | rfl | rfl | rfl | rfl | rfl | rfl
  · exact w_c0
  · exact w_c1
  · exact w_c2
  · exact w_c3
  · exact w_c4
  · exact w_c5
  · exact w_c6
  · exact w_c7
  · exact w_c8
  · exact w_c9
set_option maxRecDepth 65536 in
theorem w_t1 : (words1.take 24).all (fun c => isCode c || c.before args0 about1) = true := by decide +kernel
set_option maxRecDepth 65536 in
theorem w_t2 : ((words1.drop 24).take 24).all (fun c => isCode c || c.before args0 about1) = true := by decide +kernel
set_option maxRecDepth 65536 in
theorem w_t3 : ((words1.drop 24).drop 24).all (fun c => isCode c || c.before args0 about1) = true := by decide +kernel
theorem w_tables : (allAtoms (Jvm.Cond.code x code maxLocals ret :: tables_1)).before args0 about1 = true := by
  rw [allAtoms_all]
  show words1.all (fun c => c.before args0 about1) = true
  refine all_split ?_ w_codes
  rw [← List.take_append_drop 24 words1, List.all_append, w_t1, ← List.take_append_drop 24 (words1.drop 24), List.all_append, w_t2, w_t3]
  rfl
set_option maxRecDepth 65536 in
theorem w_case : (Jvm.Cond.and given_1 narrow_1).before args0 about1 = true := by decide +kernel
theorem w_applies : (headSpec (Jvm.Cond.code x code maxLocals ret :: tables_1) room_1).applies x e0.platform about1 = true :=
  (Spec.applies_iff w_frames).mpr ⟨w_running, w_runnable, w_alone, w_named, w_hears, w_ripe, w_room, w_tables⟩
theorem atStart : AtStart classFile x code maxLocals ret World_1 tables_1 room_1 Calls_1 rest_1 Pre_1 launch0 p0 e0 about1 theMethod args0 below0 :=
  ⟨lists_1, trivial, launch0.admits_env _ _ _, launch0.least_env, fairChoices_fair.cas, fairChoices_fair.clock, w_frames, w_args, w_heap, w_applies, trivial, trivial, w_case⟩
end start1
theorem witness_1 : WitnessClaimed_1 := ⟨start1.p0, start1.e0, start1.about1, start1.theMethod, start1.args0, start1.below0, start1.atStart⟩
end Jvm.Pilot.@@N@@
