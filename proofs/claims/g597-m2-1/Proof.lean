import JvmDerived
import JvmDerived.Pilot.@@N@@Statement
import JvmDerived.Pilot.@@N@@Code
set_option linter.unusedVariables false
set_option linter.unusedSimpArgs false
namespace Jvm.RoadKit
open Sem ClassFile Op Lib Jvm.Stand Jvm.Free Jvm.LawKit
section New
variable {p : Program} {l : Launch} {e : Env} {R : Room} {s : State} {m : MethodId} {args : Array Value} {below : List Frame} {meth : Method} {c : Code} {T : State} {locs : List Loc} {cells slots : Nat}
theorem retI (X : Stand p l e R s m args below meth c T locs cells slots) (hx : p.tables.exec = Jvm.exec) {pc : Nat} {Ls : Array Slot} {z : Int32} {rest : List Value} (hret : meth.sig.returnType = some .int) (hd : decode c.code pc = .ok (.ireturn, 1)) {fs : List Frame}
    (hl : ∀ (f : JFrame) (acts : List Action), f.method = m → f.locked = none → f.entered = [] → (doReturn e (T.setTop f) acts (some (.int z))).1 = T.setFrames fs) : Steps p.tables e below (T.setTop (mkF m pc Ls (.int z :: rest))) (T.setFrames fs) := by
  have hm' : T.vm.method? m = some meth := X.method'
  have hn : narrow .int (.int z) = .int z := rfl
  show Steps p.tables e below (T.setTop { method := m, pc := pc, locals := Ls, stack := _ :: rest, locked := none }) _
  jvm_step X.here [X.here.top, hx, hd, hm', hret, hn]
  first | (intro acts; rw [hl _ acts rfl rfl rfl]) | rw [hl _ _ rfl rfl rfl]
  exact Steps.refl _
end New
end Jvm.RoadKit
namespace Jvm.Pilot.@@N@@
open Jvm Jvm.ClassFile Sem Op Lib Jvm.Free Jvm.Stand Jvm.LawKit Jvm.RoadKit Bundle Jvm.Pilot.@@N@@.Jvm.D
def own_Goes (p : Program) (e : Env) (below : List Frame) (S : State) (K : State → Outcome → Prop) : Prop := ∃ s₂ o, Steps p.tables e below S s₂ ∧ s₂.status = .running ∧ Ended s₂ below o ∧ K s₂ o
theorem own_of {p : Program} {e : Env} {below : List Frame} {S S' : State} {K : State → Outcome → Prop} (k : ∀ t, Steps p.tables e below S' t → Steps p.tables e below S t) (h : own_Goes p e below S' K) : own_Goes p e below S K := by
  obtain ⟨t, o, h1, h2⟩ := h
  exact ⟨t, o, k t h1, h2⟩
theorem own_nameK {p : Program} {e : Env} {below : List Frame} {S : State} {K' : State → Outcome → Prop} (h : ∀ K, K = K' → own_Goes p e below S K) : own_Goes p e below S K' := h K' rfl
theorem own_nar {g : Int32} (h : g = (0 : Int32) ∨ g = (1 : Int32)) : nar .boolean g = g := by rcases h with rfl | rfl <;> rfl
theorem own_narV {g : Int32} (h : g = (0 : Int32) ∨ g = (1 : Int32)) : narrow .boolean (.int g) = .int g := by rcases h with rfl | rfl <;> rfl
theorem own_fitsZ {g : Int32} (h : g = (0 : Int32) ∨ g = (1 : Int32)) : fits .boolean (.int g) = true := by rcases h with rfl | rfl <;> rfl
theorem own_cat {v : Value} (h : v.isRef = true) : v.category = 1 := by
  rcases ref_cases h with rfl | ⟨a, rfl⟩ <;> rfl
theorem own_eqI {args : Array Value} {s : State} {t : Term} {k : Int32} (h : (Jvm.Cond.eq t (.int k)).value args s none s [] = some true) : t.eval args s none [] s = some (.int k) := by
  simp only [Cond.value, Term.eval] at h
  cases ht : t.eval args s none [] s with
  | none => simp [ht] at h
  | some x => cases x <;> simp [ht] at h ⊢; exact h
theorem own_eqL {args : Array Value} {s : State} {t : Term} {k : Int64} (h : (Jvm.Cond.eq t (.long k)).value args s none s [] = some true) : t.eval args s none [] s = some (.long k) := by
  simp only [Cond.value, Term.eval] at h
  cases ht : t.eval args s none [] s with
  | none => simp [ht] at h
  | some x => cases x <;> simp [ht] at h ⊢; exact h
def own_p8 (k a b c d e f g h : Int32) : Int32 := if k = (0 : Int32) then a else if k = (1 : Int32) then b else if k = (2 : Int32) then c else if k = (3 : Int32) then d else if k = (4 : Int32) then e else if k = (5 : Int32) then f else if k = (6 : Int32) then g else h
def own_c3 (g1 g2 : Int32) : Int32 := if g1 = (0 : Int32) then (if g2 = (0 : Int32) then 1 else 0) else 1
def own_c2 (r1 r2 g1 g2 : Int32) : Int32 := if r1 = (0 : Int32) then (if r2 = (0 : Int32) then own_c3 g1 g2 else 0) else own_c3 g1 g2
def own_c1 (x1 x2 r1 r2 g1 g2 : Int32) : Int32 := if x1 = (0 : Int32) then (if x2 = (0 : Int32) then own_c2 r1 r2 g1 g2 else 0) else own_c2 r1 r2 g1 g2
def own_cov (i1 i2 x1 x2 r1 r2 g1 g2 : Int32) : Int32 := if i1 = i2 then own_c1 x1 x2 r1 r2 g1 g2 else 0
theorem own_m7 (p : Int32) : ∃ i : Fin 8, (p &&& (7 : Int32)) = Int32.ofNat i.1 := by
  have h := c_mask p 7 3 (by decide) (by decide)
  have r : (p &&& (7 : Int32)).toInt = 0 ∨ (p &&& (7 : Int32)).toInt = 1 ∨ (p &&& (7 : Int32)).toInt = 2 ∨ (p &&& (7 : Int32)).toInt = 3 ∨ (p &&& (7 : Int32)).toInt = 4 ∨ (p &&& (7 : Int32)).toInt = 5 ∨ (p &&& (7 : Int32)).toInt = 6 ∨ (p &&& (7 : Int32)).toInt = 7 := by omega
  rcases r with r | r | r | r | r | r | r | r
  · exact ⟨0, Int32.toInt_inj.mp (r.trans (by decide))⟩
  · exact ⟨1, Int32.toInt_inj.mp (r.trans (by decide))⟩
  · exact ⟨2, Int32.toInt_inj.mp (r.trans (by decide))⟩
  · exact ⟨3, Int32.toInt_inj.mp (r.trans (by decide))⟩
  · exact ⟨4, Int32.toInt_inj.mp (r.trans (by decide))⟩
  · exact ⟨5, Int32.toInt_inj.mp (r.trans (by decide))⟩
  · exact ⟨6, Int32.toInt_inj.mp (r.trans (by decide))⟩
  · exact ⟨7, Int32.toInt_inj.mp (r.trans (by decide))⟩
theorem own_all : ∀ i j : Fin 8, ((lcmpW (((-4557607568865488321 : Int64).toUInt64 >>> ((((Int32.ofNat i.1) * (8 : Int32)) + (Int32.ofNat j.1)) &&& 0x3f).toInt64.toUInt64).toInt64 &&& (1 : Int64)) (0 : Int64)) = (0 : Int32) → own_cov (own_p8 (Int32.ofNat i.1) (0 : Int32) (0 : Int32) (0 : Int32) (0 : Int32) (0 : Int32) (0 : Int32) (1 : Int32) (1 : Int32)) (own_p8 (Int32.ofNat j.1) (0 : Int32) (0 : Int32) (0 : Int32) (0 : Int32) (0 : Int32) (0 : Int32) (1 : Int32) (1 : Int32)) (own_p8 (Int32.ofNat i.1) (1 : Int32) (1 : Int32) (1 : Int32) (0 : Int32) (0 : Int32) (0 : Int32) (1 : Int32) (1 : Int32)) (own_p8 (Int32.ofNat j.1) (1 : Int32) (1 : Int32) (1 : Int32) (0 : Int32) (0 : Int32) (0 : Int32) (1 : Int32) (1 : Int32)) (own_p8 (Int32.ofNat i.1) (1 : Int32) (1 : Int32) (0 : Int32) (1 : Int32) (1 : Int32) (0 : Int32) (0 : Int32) (0 : Int32)) (own_p8 (Int32.ofNat j.1) (1 : Int32) (1 : Int32) (0 : Int32) (1 : Int32) (1 : Int32) (0 : Int32) (0 : Int32) (0 : Int32)) (own_p8 (Int32.ofNat i.1) (1 : Int32) (0 : Int32) (1 : Int32) (1 : Int32) (0 : Int32) (1 : Int32) (1 : Int32) (1 : Int32)) (own_p8 (Int32.ofNat j.1) (1 : Int32) (0 : Int32) (1 : Int32) (1 : Int32) (0 : Int32) (1 : Int32) (1 : Int32) (1 : Int32)) = (0 : Int32)) ∧ (¬ (lcmpW (((-4557607568865488321 : Int64).toUInt64 >>> ((((Int32.ofNat i.1) * (8 : Int32)) + (Int32.ofNat j.1)) &&& 0x3f).toInt64.toUInt64).toInt64 &&& (1 : Int64)) (0 : Int64)) = (0 : Int32) → own_cov (own_p8 (Int32.ofNat i.1) (0 : Int32) (0 : Int32) (0 : Int32) (0 : Int32) (0 : Int32) (0 : Int32) (1 : Int32) (1 : Int32)) (own_p8 (Int32.ofNat j.1) (0 : Int32) (0 : Int32) (0 : Int32) (0 : Int32) (0 : Int32) (0 : Int32) (1 : Int32) (1 : Int32)) (own_p8 (Int32.ofNat i.1) (1 : Int32) (1 : Int32) (1 : Int32) (0 : Int32) (0 : Int32) (0 : Int32) (1 : Int32) (1 : Int32)) (own_p8 (Int32.ofNat j.1) (1 : Int32) (1 : Int32) (1 : Int32) (0 : Int32) (0 : Int32) (0 : Int32) (1 : Int32) (1 : Int32)) (own_p8 (Int32.ofNat i.1) (1 : Int32) (1 : Int32) (0 : Int32) (1 : Int32) (1 : Int32) (0 : Int32) (0 : Int32) (0 : Int32)) (own_p8 (Int32.ofNat j.1) (1 : Int32) (1 : Int32) (0 : Int32) (1 : Int32) (1 : Int32) (0 : Int32) (0 : Int32) (0 : Int32)) (own_p8 (Int32.ofNat i.1) (1 : Int32) (0 : Int32) (1 : Int32) (1 : Int32) (0 : Int32) (1 : Int32) (1 : Int32) (1 : Int32)) (own_p8 (Int32.ofNat j.1) (1 : Int32) (0 : Int32) (1 : Int32) (1 : Int32) (0 : Int32) (1 : Int32) (1 : Int32) (1 : Int32)) = (1 : Int32)) := by decide +kernel
theorem own_key (p q : Int32) : ((lcmpW (((-4557607568865488321 : Int64).toUInt64 >>> ((((p &&& (7 : Int32)) * (8 : Int32)) + (q &&& (7 : Int32))) &&& 0x3f).toInt64.toUInt64).toInt64 &&& (1 : Int64)) (0 : Int64)) = (0 : Int32) → own_cov (own_p8 (p &&& (7 : Int32)) (0 : Int32) (0 : Int32) (0 : Int32) (0 : Int32) (0 : Int32) (0 : Int32) (1 : Int32) (1 : Int32)) (own_p8 (q &&& (7 : Int32)) (0 : Int32) (0 : Int32) (0 : Int32) (0 : Int32) (0 : Int32) (0 : Int32) (1 : Int32) (1 : Int32)) (own_p8 (p &&& (7 : Int32)) (1 : Int32) (1 : Int32) (1 : Int32) (0 : Int32) (0 : Int32) (0 : Int32) (1 : Int32) (1 : Int32)) (own_p8 (q &&& (7 : Int32)) (1 : Int32) (1 : Int32) (1 : Int32) (0 : Int32) (0 : Int32) (0 : Int32) (1 : Int32) (1 : Int32)) (own_p8 (p &&& (7 : Int32)) (1 : Int32) (1 : Int32) (0 : Int32) (1 : Int32) (1 : Int32) (0 : Int32) (0 : Int32) (0 : Int32)) (own_p8 (q &&& (7 : Int32)) (1 : Int32) (1 : Int32) (0 : Int32) (1 : Int32) (1 : Int32) (0 : Int32) (0 : Int32) (0 : Int32)) (own_p8 (p &&& (7 : Int32)) (1 : Int32) (0 : Int32) (1 : Int32) (1 : Int32) (0 : Int32) (1 : Int32) (1 : Int32) (1 : Int32)) (own_p8 (q &&& (7 : Int32)) (1 : Int32) (0 : Int32) (1 : Int32) (1 : Int32) (0 : Int32) (1 : Int32) (1 : Int32) (1 : Int32)) = (0 : Int32)) ∧ (¬ (lcmpW (((-4557607568865488321 : Int64).toUInt64 >>> ((((p &&& (7 : Int32)) * (8 : Int32)) + (q &&& (7 : Int32))) &&& 0x3f).toInt64.toUInt64).toInt64 &&& (1 : Int64)) (0 : Int64)) = (0 : Int32) → own_cov (own_p8 (p &&& (7 : Int32)) (0 : Int32) (0 : Int32) (0 : Int32) (0 : Int32) (0 : Int32) (0 : Int32) (1 : Int32) (1 : Int32)) (own_p8 (q &&& (7 : Int32)) (0 : Int32) (0 : Int32) (0 : Int32) (0 : Int32) (0 : Int32) (0 : Int32) (1 : Int32) (1 : Int32)) (own_p8 (p &&& (7 : Int32)) (1 : Int32) (1 : Int32) (1 : Int32) (0 : Int32) (0 : Int32) (0 : Int32) (1 : Int32) (1 : Int32)) (own_p8 (q &&& (7 : Int32)) (1 : Int32) (1 : Int32) (1 : Int32) (0 : Int32) (0 : Int32) (0 : Int32) (1 : Int32) (1 : Int32)) (own_p8 (p &&& (7 : Int32)) (1 : Int32) (1 : Int32) (0 : Int32) (1 : Int32) (1 : Int32) (0 : Int32) (0 : Int32) (0 : Int32)) (own_p8 (q &&& (7 : Int32)) (1 : Int32) (1 : Int32) (0 : Int32) (1 : Int32) (1 : Int32) (0 : Int32) (0 : Int32) (0 : Int32)) (own_p8 (p &&& (7 : Int32)) (1 : Int32) (0 : Int32) (1 : Int32) (1 : Int32) (0 : Int32) (1 : Int32) (1 : Int32) (1 : Int32)) (own_p8 (q &&& (7 : Int32)) (1 : Int32) (0 : Int32) (1 : Int32) (1 : Int32) (0 : Int32) (1 : Int32) (1 : Int32) (1 : Int32)) = (1 : Int32)) := by
  obtain ⟨i, hi⟩ := own_m7 p
  obtain ⟨j, hj⟩ := own_m7 q
  rw [hi, hj]
  exact own_all i j
theorem d1_0 : decode method_2_code 0 = .ok (.iload_n 0, 1) := by decide +kernel
theorem d1_1 : decode method_2_code 1 = .ok (.ifCond .ne 7, 3) := by decide +kernel
theorem d1_4 : decode method_2_code 4 = .ok (.getstatic 7, 3) := by decide +kernel
theorem d1_7 : decode method_2_code 7 = .ok (.areturn, 1) := by decide +kernel
theorem d1_8 : decode method_2_code 8 = .ok (.iload_n 0, 1) := by decide +kernel
theorem d1_9 : decode method_2_code 9 = .ok (.iconst 1, 1) := by decide +kernel
theorem d1_10 : decode method_2_code 10 = .ok (.if_icmp .ne 7, 3) := by decide +kernel
theorem d1_13 : decode method_2_code 13 = .ok (.getstatic 13, 3) := by decide +kernel
theorem d1_16 : decode method_2_code 16 = .ok (.areturn, 1) := by decide +kernel
theorem d1_17 : decode method_2_code 17 = .ok (.iload_n 0, 1) := by decide +kernel
theorem d1_18 : decode method_2_code 18 = .ok (.iconst 2, 1) := by decide +kernel
theorem d1_19 : decode method_2_code 19 = .ok (.if_icmp .ne 7, 3) := by decide +kernel
theorem d1_22 : decode method_2_code 22 = .ok (.getstatic 16, 3) := by decide +kernel
theorem d1_25 : decode method_2_code 25 = .ok (.areturn, 1) := by decide +kernel
theorem d1_26 : decode method_2_code 26 = .ok (.iload_n 0, 1) := by decide +kernel
theorem d1_27 : decode method_2_code 27 = .ok (.iconst 3, 1) := by decide +kernel
theorem d1_28 : decode method_2_code 28 = .ok (.if_icmp .ne 7, 3) := by decide +kernel
theorem d1_31 : decode method_2_code 31 = .ok (.getstatic 19, 3) := by decide +kernel
theorem d1_34 : decode method_2_code 34 = .ok (.areturn, 1) := by decide +kernel
theorem d1_35 : decode method_2_code 35 = .ok (.iload_n 0, 1) := by decide +kernel
theorem d1_36 : decode method_2_code 36 = .ok (.iconst 4, 1) := by decide +kernel
theorem d1_37 : decode method_2_code 37 = .ok (.if_icmp .ne 7, 3) := by decide +kernel
theorem d1_40 : decode method_2_code 40 = .ok (.getstatic 22, 3) := by decide +kernel
theorem d1_43 : decode method_2_code 43 = .ok (.areturn, 1) := by decide +kernel
theorem d1_44 : decode method_2_code 44 = .ok (.iload_n 0, 1) := by decide +kernel
theorem d1_45 : decode method_2_code 45 = .ok (.iconst 5, 1) := by decide +kernel
theorem d1_46 : decode method_2_code 46 = .ok (.if_icmp .ne 7, 3) := by decide +kernel
theorem d1_49 : decode method_2_code 49 = .ok (.getstatic 25, 3) := by decide +kernel
theorem d1_52 : decode method_2_code 52 = .ok (.areturn, 1) := by decide +kernel
theorem d1_53 : decode method_2_code 53 = .ok (.iload_n 0, 1) := by decide +kernel
theorem d1_54 : decode method_2_code 54 = .ok (.bipush 6, 2) := by decide +kernel
theorem d1_56 : decode method_2_code 56 = .ok (.if_icmp .ne 7, 3) := by decide +kernel
theorem d1_59 : decode method_2_code 59 = .ok (.getstatic 28, 3) := by decide +kernel
theorem d1_62 : decode method_2_code 62 = .ok (.areturn, 1) := by decide +kernel
theorem d1_63 : decode method_2_code 63 = .ok (.getstatic 31, 3) := by decide +kernel
theorem d1_66 : decode method_2_code 66 = .ok (.areturn, 1) := by decide +kernel
theorem pn_1 : plainName "com/example/keyfence/keyfence/LockModeCoversPinLaw" = true := by first | (simp [plainName, overriddenIn]; done) | decide +kernel
theorem ef_1 (m : MethodId) (p1 : Int32) : entryFrame m #[(.int p1)] 1 = mkF m 0 #[.val (.int p1)] [] := by first | (simp [entryFrame, mkF, argsToLocals, Value.category]; done) | rfl
def Q1 (Z : State) (p1 : Int32) (w_X : Addr) (w_X_REC_NOT_GAP : Addr) (w_X_GAP : Addr) (w_S : Addr) (w_S_REC_NOT_GAP : Addr) (w_S_GAP : Addr) (w_X_GAP_INSERT_INTENTION : Addr) (w_X_INSERT_INTENTION : Addr) (h0 : Heap) (n0 : Nat) (v : Option Value) (h : Heap) (L : List Loc) : Prop := ∃ r : Addr, (v = some (.ref r)) ∧ (Fr n0 L) ∧ (h = h0) ∧ (Exa Z h r "com/example/keyfence/keyfence/LockMode") ∧ (Fld Z h r "com/example/keyfence/keyfence/LockMode" "insertIntention" "Z" (.int (own_p8 p1 (0 : Int32) (0 : Int32) (0 : Int32) (0 : Int32) (0 : Int32) (0 : Int32) (1 : Int32) (1 : Int32)))) ∧ (Fld Z h r "com/example/keyfence/keyfence/LockMode" "exclusive" "Z" (.int (own_p8 p1 (1 : Int32) (1 : Int32) (1 : Int32) (0 : Int32) (0 : Int32) (0 : Int32) (1 : Int32) (1 : Int32)))) ∧ (Fld Z h r "com/example/keyfence/keyfence/LockMode" "record" "Z" (.int (own_p8 p1 (1 : Int32) (1 : Int32) (0 : Int32) (1 : Int32) (1 : Int32) (0 : Int32) (0 : Int32) (0 : Int32)))) ∧ (Fld Z h r "com/example/keyfence/keyfence/LockMode" "gap" "Z" (.int (own_p8 p1 (1 : Int32) (0 : Int32) (1 : Int32) (1 : Int32) (0 : Int32) (1 : Int32) (1 : Int32) (1 : Int32))))
set_option maxRecDepth 65536 in
set_option maxHeartbeats 40000000 in
theorem rm1 (l : Launch) (Z : State) (a0 : Array Value) (hw : ∀ d ∈ tables_1, d.before a0 Z = true) (ws : List Jvm.Cond) (p1 : Int32) (w_X : Addr) (w_X_REC_NOT_GAP : Addr) (w_X_GAP : Addr) (w_S : Addr) (w_S_REC_NOT_GAP : Addr) (w_S_GAP : Addr) (w_X_GAP_INSERT_INTENTION : Addr) (w_X_INSERT_INTENTION : Addr) (h0 : Heap) (n0 : Nat) (Z0 : n0 ≤ h0.size) (S_X : Sta Z h0 "com/example/keyfence/keyfence/LockMode" "X" "Lcom/example/keyfence/keyfence/LockMode;" (.ref w_X)) (S_X_REC_NOT_GAP : Sta Z h0 "com/example/keyfence/keyfence/LockMode" "X_REC_NOT_GAP" "Lcom/example/keyfence/keyfence/LockMode;" (.ref w_X_REC_NOT_GAP)) (S_X_GAP : Sta Z h0 "com/example/keyfence/keyfence/LockMode" "X_GAP" "Lcom/example/keyfence/keyfence/LockMode;" (.ref w_X_GAP)) (S_S : Sta Z h0 "com/example/keyfence/keyfence/LockMode" "S" "Lcom/example/keyfence/keyfence/LockMode;" (.ref w_S)) (S_S_REC_NOT_GAP : Sta Z h0 "com/example/keyfence/keyfence/LockMode" "S_REC_NOT_GAP" "Lcom/example/keyfence/keyfence/LockMode;" (.ref w_S_REC_NOT_GAP)) (S_S_GAP : Sta Z h0 "com/example/keyfence/keyfence/LockMode" "S_GAP" "Lcom/example/keyfence/keyfence/LockMode;" (.ref w_S_GAP)) (S_X_GAP_INSERT_INTENTION : Sta Z h0 "com/example/keyfence/keyfence/LockMode" "X_GAP_INSERT_INTENTION" "Lcom/example/keyfence/keyfence/LockMode;" (.ref w_X_GAP_INSERT_INTENTION)) (S_X_INSERT_INTENTION : Sta Z h0 "com/example/keyfence/keyfence/LockMode" "X_INSERT_INTENTION" "Lcom/example/keyfence/keyfence/LockMode;" (.ref w_X_INSERT_INTENTION)) (E_w_X : Exa Z h0 w_X "com/example/keyfence/keyfence/LockMode") (E_w_X_REC_NOT_GAP : Exa Z h0 w_X_REC_NOT_GAP "com/example/keyfence/keyfence/LockMode") (E_w_X_GAP : Exa Z h0 w_X_GAP "com/example/keyfence/keyfence/LockMode") (E_w_S : Exa Z h0 w_S "com/example/keyfence/keyfence/LockMode") (E_w_S_REC_NOT_GAP : Exa Z h0 w_S_REC_NOT_GAP "com/example/keyfence/keyfence/LockMode") (E_w_S_GAP : Exa Z h0 w_S_GAP "com/example/keyfence/keyfence/LockMode") (E_w_X_GAP_INSERT_INTENTION : Exa Z h0 w_X_GAP_INSERT_INTENTION "com/example/keyfence/keyfence/LockMode") (E_w_X_INSERT_INTENTION : Exa Z h0 w_X_INSERT_INTENTION "com/example/keyfence/keyfence/LockMode") (F_insertIntention_w_X : Fld Z h0 w_X "com/example/keyfence/keyfence/LockMode" "insertIntention" "Z" (.int (0 : Int32))) (F_exclusive_w_X : Fld Z h0 w_X "com/example/keyfence/keyfence/LockMode" "exclusive" "Z" (.int (1 : Int32))) (F_record_w_X : Fld Z h0 w_X "com/example/keyfence/keyfence/LockMode" "record" "Z" (.int (1 : Int32))) (F_gap_w_X : Fld Z h0 w_X "com/example/keyfence/keyfence/LockMode" "gap" "Z" (.int (1 : Int32))) (F_insertIntention_w_X_REC_NOT_GAP : Fld Z h0 w_X_REC_NOT_GAP "com/example/keyfence/keyfence/LockMode" "insertIntention" "Z" (.int (0 : Int32))) (F_exclusive_w_X_REC_NOT_GAP : Fld Z h0 w_X_REC_NOT_GAP "com/example/keyfence/keyfence/LockMode" "exclusive" "Z" (.int (1 : Int32))) (F_record_w_X_REC_NOT_GAP : Fld Z h0 w_X_REC_NOT_GAP "com/example/keyfence/keyfence/LockMode" "record" "Z" (.int (1 : Int32))) (F_gap_w_X_REC_NOT_GAP : Fld Z h0 w_X_REC_NOT_GAP "com/example/keyfence/keyfence/LockMode" "gap" "Z" (.int (0 : Int32))) (F_insertIntention_w_X_GAP : Fld Z h0 w_X_GAP "com/example/keyfence/keyfence/LockMode" "insertIntention" "Z" (.int (0 : Int32))) (F_exclusive_w_X_GAP : Fld Z h0 w_X_GAP "com/example/keyfence/keyfence/LockMode" "exclusive" "Z" (.int (1 : Int32))) (F_record_w_X_GAP : Fld Z h0 w_X_GAP "com/example/keyfence/keyfence/LockMode" "record" "Z" (.int (0 : Int32))) (F_gap_w_X_GAP : Fld Z h0 w_X_GAP "com/example/keyfence/keyfence/LockMode" "gap" "Z" (.int (1 : Int32))) (F_insertIntention_w_S : Fld Z h0 w_S "com/example/keyfence/keyfence/LockMode" "insertIntention" "Z" (.int (0 : Int32))) (F_exclusive_w_S : Fld Z h0 w_S "com/example/keyfence/keyfence/LockMode" "exclusive" "Z" (.int (0 : Int32))) (F_record_w_S : Fld Z h0 w_S "com/example/keyfence/keyfence/LockMode" "record" "Z" (.int (1 : Int32))) (F_gap_w_S : Fld Z h0 w_S "com/example/keyfence/keyfence/LockMode" "gap" "Z" (.int (1 : Int32))) (F_insertIntention_w_S_REC_NOT_GAP : Fld Z h0 w_S_REC_NOT_GAP "com/example/keyfence/keyfence/LockMode" "insertIntention" "Z" (.int (0 : Int32))) (F_exclusive_w_S_REC_NOT_GAP : Fld Z h0 w_S_REC_NOT_GAP "com/example/keyfence/keyfence/LockMode" "exclusive" "Z" (.int (0 : Int32))) (F_record_w_S_REC_NOT_GAP : Fld Z h0 w_S_REC_NOT_GAP "com/example/keyfence/keyfence/LockMode" "record" "Z" (.int (1 : Int32))) (F_gap_w_S_REC_NOT_GAP : Fld Z h0 w_S_REC_NOT_GAP "com/example/keyfence/keyfence/LockMode" "gap" "Z" (.int (0 : Int32))) (F_insertIntention_w_S_GAP : Fld Z h0 w_S_GAP "com/example/keyfence/keyfence/LockMode" "insertIntention" "Z" (.int (0 : Int32))) (F_exclusive_w_S_GAP : Fld Z h0 w_S_GAP "com/example/keyfence/keyfence/LockMode" "exclusive" "Z" (.int (0 : Int32))) (F_record_w_S_GAP : Fld Z h0 w_S_GAP "com/example/keyfence/keyfence/LockMode" "record" "Z" (.int (0 : Int32))) (F_gap_w_S_GAP : Fld Z h0 w_S_GAP "com/example/keyfence/keyfence/LockMode" "gap" "Z" (.int (1 : Int32))) (F_insertIntention_w_X_GAP_INSERT_INTENTION : Fld Z h0 w_X_GAP_INSERT_INTENTION "com/example/keyfence/keyfence/LockMode" "insertIntention" "Z" (.int (1 : Int32))) (F_exclusive_w_X_GAP_INSERT_INTENTION : Fld Z h0 w_X_GAP_INSERT_INTENTION "com/example/keyfence/keyfence/LockMode" "exclusive" "Z" (.int (1 : Int32))) (F_record_w_X_GAP_INSERT_INTENTION : Fld Z h0 w_X_GAP_INSERT_INTENTION "com/example/keyfence/keyfence/LockMode" "record" "Z" (.int (0 : Int32))) (F_gap_w_X_GAP_INSERT_INTENTION : Fld Z h0 w_X_GAP_INSERT_INTENTION "com/example/keyfence/keyfence/LockMode" "gap" "Z" (.int (1 : Int32))) (F_insertIntention_w_X_INSERT_INTENTION : Fld Z h0 w_X_INSERT_INTENTION "com/example/keyfence/keyfence/LockMode" "insertIntention" "Z" (.int (1 : Int32))) (F_exclusive_w_X_INSERT_INTENTION : Fld Z h0 w_X_INSERT_INTENTION "com/example/keyfence/keyfence/LockMode" "exclusive" "Z" (.int (1 : Int32))) (F_record_w_X_INSERT_INTENTION : Fld Z h0 w_X_INSERT_INTENTION "com/example/keyfence/keyfence/LockMode" "record" "Z" (.int (0 : Int32))) (F_gap_w_X_INSERT_INTENTION : Fld Z h0 w_X_INSERT_INTENTION "com/example/keyfence/keyfence/LockMode" "gap" "Z" (.int (1 : Int32))) :
    MetFree l (⟨"com/example/keyfence/keyfence/LockModeCoversPinLaw", "mode", "(I)Lcom/example/keyfence/keyfence/LockMode;"⟩ : MethodName) (head1 (Jvm.Cond.code (⟨"com/example/keyfence/keyfence/LockModeCoversPinLaw", "mode", "(I)Lcom/example/keyfence/keyfence/LockMode;"⟩ : MethodName) method_2_code 1 (some (.object "com/example/keyfence/keyfence/LockMode")) :: ws) ({ frames := 0, cells := 0, slots := 0, locals := 0 } : Room)) (fun a U => a = #[(.int p1)] ∧ Z.Warmed39 U.vm ∧ U.heap = h0) (fun _ _ _ _ _ => True) (fun _ U o U' => ∃ v L, o = .returned v ∧ Q1 Z p1 w_X w_X_REC_NOT_GAP w_X_GAP w_S w_S_REC_NOT_GAP w_S_GAP w_X_GAP_INSERT_INTENTION w_X_INSERT_INTENTION h0 n0 v U'.heap L ∧ FrameEnd U o U' L ({ frames := 0, cells := 0, slots := 0, locals := 0 } : Room).cells ({ frames := 0, cells := 0, slots := 0, locals := 0 } : Room).slots) := by
  refine MetFree.of_bodySF (plainFor_of_name pn_1) hisR ?_
  intro p e s m args below meth c s₁ Bd hml0 hP hK
  obtain ⟨rfl, hZ, hh⟩ := hP
  have hx := Bd.exec
  have hby := Bd.bytes
  have hml : c.maxLocals = 1 := hml0
  have hown : s.vm.findClass "com/example/keyfence/keyfence/LockModeCoversPinLaw" = some m.cls := findClass_of_methodNamed Bd.named
  have hnm := (name_of_methodNamed Bd.named Bd.method).1
  have X0 : Stand p l e ({ frames := 0, cells := 0, slots := 0, locals := 0 } : Room) s m #[(.int p1)] below meth c s₁ [] 0 0 := Stand.of_body Bd
  have e0 : s₁.heap = h0 := by rw [← hh, Bd.state]; rfl
  have N0 := Fr.nil n0
  refine own_of (S := s₁.setTop (entryFrame m #[(.int p1)] 1)) (S' := s₁.setTop (mkF m 0 #[.val (.int p1)] [])) (K := fun s₂ o => ∃ v L, o = .returned v ∧ Q1 Z p1 w_X w_X_REC_NOT_GAP w_X_GAP w_S w_S_REC_NOT_GAP w_S_GAP w_X_GAP_INSERT_INTENTION w_X_INSERT_INTENTION h0 n0 v s₂.heap L ∧ FrameEnd s o s₂ L ({ frames := 0, cells := 0, slots := 0, locals := 0 } : Room).cells ({ frames := 0, cells := 0, slots := 0, locals := 0 } : Room).slots) (fun t k => castTop (ef_1 m p1) k) ?_
  refine own_nameK fun K hKd => ?_
  refine own_of (S' := s₁.setTop (mkF m 1 #[.val (.int p1)] [(.int p1)])) (fun t k => XS.iloadN X0.here hx rfl (hb hby d1_0) rfl k) ?_
  by_cases hc1_1 : p1 = (0 : Int32)
  · refine own_of (S' := s₁.setTop (mkF m 4 #[.val (.int p1)] [])) (fun t k => XS.ifNo X0.here hx rfl (hb hby d1_1) rfl ((if0 _ _).trans (teq hc1_1).2) k) ?_
    obtain ⟨T2, X2, e2, st2⟩ := getS2 X0 hx hZ hown (host := "") (Or.inl (hw _ (List.mem_of_getElem? (i := 4) rfl))) Via.refl e0 S_X (g := (mkF m 4 #[.val (.int p1)] [])) rfl (hb hby d1_4)
    refine own_of (S' := T2.setTop (mkF m 7 #[.val (.int p1)] [(.ref w_X)])) st2 ?_
    obtain ⟨fs, hr, hrun, hended, hW, hsame⟩ := X2.leave (v := some (.ref w_X)) (fun h => by rw [Bd.returns] at h; cases h)
    subst hKd
    exact ⟨_, _, (retOut X2 hx Bd.returns rfl (Or.inr (Or.inr (Or.inr (Or.inr ⟨rfl, rfl, rfl⟩)))) (hb hby d1_7) hr), hrun, hended, _, _, rfl, (by
      show Q1 Z p1 w_X w_X_REC_NOT_GAP w_X_GAP w_S w_S_REC_NOT_GAP w_S_GAP w_X_GAP_INSERT_INTENTION w_X_INSERT_INTENTION h0 n0 _ T2.heap _
      rw [show T2.heap = h0 from e2]
      exact ⟨w_X, rfl, N0, rfl, E_w_X, (by rw [own_p8, if_pos hc1_1]; exact F_insertIntention_w_X), (by rw [own_p8, if_pos hc1_1]; exact F_exclusive_w_X), (by rw [own_p8, if_pos hc1_1]; exact F_record_w_X), (by rw [own_p8, if_pos hc1_1]; exact F_gap_w_X)⟩), ⟨_, rfl⟩, hW, hsame.mono (by decide) (by decide)⟩
  refine own_of (S' := s₁.setTop (mkF m 8 #[.val (.int p1)] [])) (fun t k => XS.ifYes X0.here hx rfl (pc0 := 1) (pc' := 8) rfl (hb hby d1_1) rfl ((if0 _ _).trans (feq hc1_1).2) (by decide) (by decide) k) ?_
  refine own_of (S' := s₁.setTop (mkF m 9 #[.val (.int p1)] [(.int p1)])) (fun t k => XS.iloadN X0.here hx rfl (hb hby d1_8) rfl k) ?_
  refine own_of (S' := s₁.setTop (mkF m 10 #[.val (.int p1)] [(.int (1 : Int32)), (.int p1)])) (fun t k => XS.iconst X0.here hx rfl (hb hby d1_9) k) ?_
  by_cases hc10_3 : p1 = (1 : Int32)
  · refine own_of (S' := s₁.setTop (mkF m 13 #[.val (.int p1)] [])) (fun t k => XS.icmpNo X0.here hx rfl (hb hby d1_10) rfl (teq hc10_3).2 k) ?_
    obtain ⟨T4, X4, e4, st4⟩ := getS2 X0 hx hZ hown (host := "") (Or.inl (hw _ (List.mem_of_getElem? (i := 25) rfl))) Via.refl e0 S_X_REC_NOT_GAP (g := (mkF m 13 #[.val (.int p1)] [])) rfl (hb hby d1_13)
    refine own_of (S' := T4.setTop (mkF m 16 #[.val (.int p1)] [(.ref w_X_REC_NOT_GAP)])) st4 ?_
    obtain ⟨fs, hr, hrun, hended, hW, hsame⟩ := X4.leave (v := some (.ref w_X_REC_NOT_GAP)) (fun h => by rw [Bd.returns] at h; cases h)
    subst hKd
    exact ⟨_, _, (retOut X4 hx Bd.returns rfl (Or.inr (Or.inr (Or.inr (Or.inr ⟨rfl, rfl, rfl⟩)))) (hb hby d1_16) hr), hrun, hended, _, _, rfl, (by
      show Q1 Z p1 w_X w_X_REC_NOT_GAP w_X_GAP w_S w_S_REC_NOT_GAP w_S_GAP w_X_GAP_INSERT_INTENTION w_X_INSERT_INTENTION h0 n0 _ T4.heap _
      rw [show T4.heap = h0 from e4]
      exact ⟨w_X_REC_NOT_GAP, rfl, N0, rfl, E_w_X_REC_NOT_GAP, (by rw [own_p8, if_neg hc1_1, if_pos hc10_3]; exact F_insertIntention_w_X_REC_NOT_GAP), (by rw [own_p8, if_neg hc1_1, if_pos hc10_3]; exact F_exclusive_w_X_REC_NOT_GAP), (by rw [own_p8, if_neg hc1_1, if_pos hc10_3]; exact F_record_w_X_REC_NOT_GAP), (by rw [own_p8, if_neg hc1_1, if_pos hc10_3]; exact F_gap_w_X_REC_NOT_GAP)⟩), ⟨_, rfl⟩, hW, hsame.mono (by decide) (by decide)⟩
  refine own_of (S' := s₁.setTop (mkF m 17 #[.val (.int p1)] [])) (fun t k => XS.icmpYes X0.here hx rfl (pc0 := 10) (pc' := 17) rfl (hb hby d1_10) rfl (feq hc10_3).2 (by decide) (by decide) k) ?_
  refine own_of (S' := s₁.setTop (mkF m 18 #[.val (.int p1)] [(.int p1)])) (fun t k => XS.iloadN X0.here hx rfl (hb hby d1_17) rfl k) ?_
  refine own_of (S' := s₁.setTop (mkF m 19 #[.val (.int p1)] [(.int (2 : Int32)), (.int p1)])) (fun t k => XS.iconst X0.here hx rfl (hb hby d1_18) k) ?_
  by_cases hc19_5 : p1 = (2 : Int32)
  · refine own_of (S' := s₁.setTop (mkF m 22 #[.val (.int p1)] [])) (fun t k => XS.icmpNo X0.here hx rfl (hb hby d1_19) rfl (teq hc19_5).2 k) ?_
    obtain ⟨T6, X6, e6, st6⟩ := getS2 X0 hx hZ hown (host := "") (Or.inl (hw _ (List.mem_of_getElem? (i := 33) rfl))) Via.refl e0 S_X_GAP (g := (mkF m 22 #[.val (.int p1)] [])) rfl (hb hby d1_22)
    refine own_of (S' := T6.setTop (mkF m 25 #[.val (.int p1)] [(.ref w_X_GAP)])) st6 ?_
    obtain ⟨fs, hr, hrun, hended, hW, hsame⟩ := X6.leave (v := some (.ref w_X_GAP)) (fun h => by rw [Bd.returns] at h; cases h)
    subst hKd
    exact ⟨_, _, (retOut X6 hx Bd.returns rfl (Or.inr (Or.inr (Or.inr (Or.inr ⟨rfl, rfl, rfl⟩)))) (hb hby d1_25) hr), hrun, hended, _, _, rfl, (by
      show Q1 Z p1 w_X w_X_REC_NOT_GAP w_X_GAP w_S w_S_REC_NOT_GAP w_S_GAP w_X_GAP_INSERT_INTENTION w_X_INSERT_INTENTION h0 n0 _ T6.heap _
      rw [show T6.heap = h0 from e6]
      exact ⟨w_X_GAP, rfl, N0, rfl, E_w_X_GAP, (by rw [own_p8, if_neg hc1_1, if_neg hc10_3, if_pos hc19_5]; exact F_insertIntention_w_X_GAP), (by rw [own_p8, if_neg hc1_1, if_neg hc10_3, if_pos hc19_5]; exact F_exclusive_w_X_GAP), (by rw [own_p8, if_neg hc1_1, if_neg hc10_3, if_pos hc19_5]; exact F_record_w_X_GAP), (by rw [own_p8, if_neg hc1_1, if_neg hc10_3, if_pos hc19_5]; exact F_gap_w_X_GAP)⟩), ⟨_, rfl⟩, hW, hsame.mono (by decide) (by decide)⟩
  refine own_of (S' := s₁.setTop (mkF m 26 #[.val (.int p1)] [])) (fun t k => XS.icmpYes X0.here hx rfl (pc0 := 19) (pc' := 26) rfl (hb hby d1_19) rfl (feq hc19_5).2 (by decide) (by decide) k) ?_
  refine own_of (S' := s₁.setTop (mkF m 27 #[.val (.int p1)] [(.int p1)])) (fun t k => XS.iloadN X0.here hx rfl (hb hby d1_26) rfl k) ?_
  refine own_of (S' := s₁.setTop (mkF m 28 #[.val (.int p1)] [(.int (3 : Int32)), (.int p1)])) (fun t k => XS.iconst X0.here hx rfl (hb hby d1_27) k) ?_
  by_cases hc28_7 : p1 = (3 : Int32)
  · refine own_of (S' := s₁.setTop (mkF m 31 #[.val (.int p1)] [])) (fun t k => XS.icmpNo X0.here hx rfl (hb hby d1_28) rfl (teq hc28_7).2 k) ?_
    obtain ⟨T8, X8, e8, st8⟩ := getS2 X0 hx hZ hown (host := "") (Or.inl (hw _ (List.mem_of_getElem? (i := 7) rfl))) Via.refl e0 S_S (g := (mkF m 31 #[.val (.int p1)] [])) rfl (hb hby d1_31)
    refine own_of (S' := T8.setTop (mkF m 34 #[.val (.int p1)] [(.ref w_S)])) st8 ?_
    obtain ⟨fs, hr, hrun, hended, hW, hsame⟩ := X8.leave (v := some (.ref w_S)) (fun h => by rw [Bd.returns] at h; cases h)
    subst hKd
    exact ⟨_, _, (retOut X8 hx Bd.returns rfl (Or.inr (Or.inr (Or.inr (Or.inr ⟨rfl, rfl, rfl⟩)))) (hb hby d1_34) hr), hrun, hended, _, _, rfl, (by
      show Q1 Z p1 w_X w_X_REC_NOT_GAP w_X_GAP w_S w_S_REC_NOT_GAP w_S_GAP w_X_GAP_INSERT_INTENTION w_X_INSERT_INTENTION h0 n0 _ T8.heap _
      rw [show T8.heap = h0 from e8]
      exact ⟨w_S, rfl, N0, rfl, E_w_S, (by rw [own_p8, if_neg hc1_1, if_neg hc10_3, if_neg hc19_5, if_pos hc28_7]; exact F_insertIntention_w_S), (by rw [own_p8, if_neg hc1_1, if_neg hc10_3, if_neg hc19_5, if_pos hc28_7]; exact F_exclusive_w_S), (by rw [own_p8, if_neg hc1_1, if_neg hc10_3, if_neg hc19_5, if_pos hc28_7]; exact F_record_w_S), (by rw [own_p8, if_neg hc1_1, if_neg hc10_3, if_neg hc19_5, if_pos hc28_7]; exact F_gap_w_S)⟩), ⟨_, rfl⟩, hW, hsame.mono (by decide) (by decide)⟩
  refine own_of (S' := s₁.setTop (mkF m 35 #[.val (.int p1)] [])) (fun t k => XS.icmpYes X0.here hx rfl (pc0 := 28) (pc' := 35) rfl (hb hby d1_28) rfl (feq hc28_7).2 (by decide) (by decide) k) ?_
  refine own_of (S' := s₁.setTop (mkF m 36 #[.val (.int p1)] [(.int p1)])) (fun t k => XS.iloadN X0.here hx rfl (hb hby d1_35) rfl k) ?_
  refine own_of (S' := s₁.setTop (mkF m 37 #[.val (.int p1)] [(.int (4 : Int32)), (.int p1)])) (fun t k => XS.iconst X0.here hx rfl (hb hby d1_36) k) ?_
  by_cases hc37_9 : p1 = (4 : Int32)
  · refine own_of (S' := s₁.setTop (mkF m 40 #[.val (.int p1)] [])) (fun t k => XS.icmpNo X0.here hx rfl (hb hby d1_37) rfl (teq hc37_9).2 k) ?_
    obtain ⟨T10, X10, e10, st10⟩ := getS2 X0 hx hZ hown (host := "") (Or.inl (hw _ (List.mem_of_getElem? (i := 27) rfl))) Via.refl e0 S_S_REC_NOT_GAP (g := (mkF m 40 #[.val (.int p1)] [])) rfl (hb hby d1_40)
    refine own_of (S' := T10.setTop (mkF m 43 #[.val (.int p1)] [(.ref w_S_REC_NOT_GAP)])) st10 ?_
    obtain ⟨fs, hr, hrun, hended, hW, hsame⟩ := X10.leave (v := some (.ref w_S_REC_NOT_GAP)) (fun h => by rw [Bd.returns] at h; cases h)
    subst hKd
    exact ⟨_, _, (retOut X10 hx Bd.returns rfl (Or.inr (Or.inr (Or.inr (Or.inr ⟨rfl, rfl, rfl⟩)))) (hb hby d1_43) hr), hrun, hended, _, _, rfl, (by
      show Q1 Z p1 w_X w_X_REC_NOT_GAP w_X_GAP w_S w_S_REC_NOT_GAP w_S_GAP w_X_GAP_INSERT_INTENTION w_X_INSERT_INTENTION h0 n0 _ T10.heap _
      rw [show T10.heap = h0 from e10]
      exact ⟨w_S_REC_NOT_GAP, rfl, N0, rfl, E_w_S_REC_NOT_GAP, (by rw [own_p8, if_neg hc1_1, if_neg hc10_3, if_neg hc19_5, if_neg hc28_7, if_pos hc37_9]; exact F_insertIntention_w_S_REC_NOT_GAP), (by rw [own_p8, if_neg hc1_1, if_neg hc10_3, if_neg hc19_5, if_neg hc28_7, if_pos hc37_9]; exact F_exclusive_w_S_REC_NOT_GAP), (by rw [own_p8, if_neg hc1_1, if_neg hc10_3, if_neg hc19_5, if_neg hc28_7, if_pos hc37_9]; exact F_record_w_S_REC_NOT_GAP), (by rw [own_p8, if_neg hc1_1, if_neg hc10_3, if_neg hc19_5, if_neg hc28_7, if_pos hc37_9]; exact F_gap_w_S_REC_NOT_GAP)⟩), ⟨_, rfl⟩, hW, hsame.mono (by decide) (by decide)⟩
  refine own_of (S' := s₁.setTop (mkF m 44 #[.val (.int p1)] [])) (fun t k => XS.icmpYes X0.here hx rfl (pc0 := 37) (pc' := 44) rfl (hb hby d1_37) rfl (feq hc37_9).2 (by decide) (by decide) k) ?_
  refine own_of (S' := s₁.setTop (mkF m 45 #[.val (.int p1)] [(.int p1)])) (fun t k => XS.iloadN X0.here hx rfl (hb hby d1_44) rfl k) ?_
  refine own_of (S' := s₁.setTop (mkF m 46 #[.val (.int p1)] [(.int (5 : Int32)), (.int p1)])) (fun t k => XS.iconst X0.here hx rfl (hb hby d1_45) k) ?_
  by_cases hc46_11 : p1 = (5 : Int32)
  · refine own_of (S' := s₁.setTop (mkF m 49 #[.val (.int p1)] [])) (fun t k => XS.icmpNo X0.here hx rfl (hb hby d1_46) rfl (teq hc46_11).2 k) ?_
    obtain ⟨T12, X12, e12, st12⟩ := getS2 X0 hx hZ hown (host := "") (Or.inl (hw _ (List.mem_of_getElem? (i := 29) rfl))) Via.refl e0 S_S_GAP (g := (mkF m 49 #[.val (.int p1)] [])) rfl (hb hby d1_49)
    refine own_of (S' := T12.setTop (mkF m 52 #[.val (.int p1)] [(.ref w_S_GAP)])) st12 ?_
    obtain ⟨fs, hr, hrun, hended, hW, hsame⟩ := X12.leave (v := some (.ref w_S_GAP)) (fun h => by rw [Bd.returns] at h; cases h)
    subst hKd
    exact ⟨_, _, (retOut X12 hx Bd.returns rfl (Or.inr (Or.inr (Or.inr (Or.inr ⟨rfl, rfl, rfl⟩)))) (hb hby d1_52) hr), hrun, hended, _, _, rfl, (by
      show Q1 Z p1 w_X w_X_REC_NOT_GAP w_X_GAP w_S w_S_REC_NOT_GAP w_S_GAP w_X_GAP_INSERT_INTENTION w_X_INSERT_INTENTION h0 n0 _ T12.heap _
      rw [show T12.heap = h0 from e12]
      exact ⟨w_S_GAP, rfl, N0, rfl, E_w_S_GAP, (by rw [own_p8, if_neg hc1_1, if_neg hc10_3, if_neg hc19_5, if_neg hc28_7, if_neg hc37_9, if_pos hc46_11]; exact F_insertIntention_w_S_GAP), (by rw [own_p8, if_neg hc1_1, if_neg hc10_3, if_neg hc19_5, if_neg hc28_7, if_neg hc37_9, if_pos hc46_11]; exact F_exclusive_w_S_GAP), (by rw [own_p8, if_neg hc1_1, if_neg hc10_3, if_neg hc19_5, if_neg hc28_7, if_neg hc37_9, if_pos hc46_11]; exact F_record_w_S_GAP), (by rw [own_p8, if_neg hc1_1, if_neg hc10_3, if_neg hc19_5, if_neg hc28_7, if_neg hc37_9, if_pos hc46_11]; exact F_gap_w_S_GAP)⟩), ⟨_, rfl⟩, hW, hsame.mono (by decide) (by decide)⟩
  refine own_of (S' := s₁.setTop (mkF m 53 #[.val (.int p1)] [])) (fun t k => XS.icmpYes X0.here hx rfl (pc0 := 46) (pc' := 53) rfl (hb hby d1_46) rfl (feq hc46_11).2 (by decide) (by decide) k) ?_
  refine own_of (S' := s₁.setTop (mkF m 54 #[.val (.int p1)] [(.int p1)])) (fun t k => XS.iloadN X0.here hx rfl (hb hby d1_53) rfl k) ?_
  refine own_of (S' := s₁.setTop (mkF m 56 #[.val (.int p1)] [(.int (6 : Int32)), (.int p1)])) (fun t k => XS.bipush X0.here hx rfl (hb hby d1_54) k) ?_
  by_cases hc56_13 : p1 = (6 : Int32)
  · refine own_of (S' := s₁.setTop (mkF m 59 #[.val (.int p1)] [])) (fun t k => XS.icmpNo X0.here hx rfl (hb hby d1_56) rfl (teq hc56_13).2 k) ?_
    obtain ⟨T14, X14, e14, st14⟩ := getS2 X0 hx hZ hown (host := "") (Or.inl (hw _ (List.mem_of_getElem? (i := 23) rfl))) Via.refl e0 S_X_GAP_INSERT_INTENTION (g := (mkF m 59 #[.val (.int p1)] [])) rfl (hb hby d1_59)
    refine own_of (S' := T14.setTop (mkF m 62 #[.val (.int p1)] [(.ref w_X_GAP_INSERT_INTENTION)])) st14 ?_
    obtain ⟨fs, hr, hrun, hended, hW, hsame⟩ := X14.leave (v := some (.ref w_X_GAP_INSERT_INTENTION)) (fun h => by rw [Bd.returns] at h; cases h)
    subst hKd
    exact ⟨_, _, (retOut X14 hx Bd.returns rfl (Or.inr (Or.inr (Or.inr (Or.inr ⟨rfl, rfl, rfl⟩)))) (hb hby d1_62) hr), hrun, hended, _, _, rfl, (by
      show Q1 Z p1 w_X w_X_REC_NOT_GAP w_X_GAP w_S w_S_REC_NOT_GAP w_S_GAP w_X_GAP_INSERT_INTENTION w_X_INSERT_INTENTION h0 n0 _ T14.heap _
      rw [show T14.heap = h0 from e14]
      exact ⟨w_X_GAP_INSERT_INTENTION, rfl, N0, rfl, E_w_X_GAP_INSERT_INTENTION, (by rw [own_p8, if_neg hc1_1, if_neg hc10_3, if_neg hc19_5, if_neg hc28_7, if_neg hc37_9, if_neg hc46_11, if_pos hc56_13]; exact F_insertIntention_w_X_GAP_INSERT_INTENTION), (by rw [own_p8, if_neg hc1_1, if_neg hc10_3, if_neg hc19_5, if_neg hc28_7, if_neg hc37_9, if_neg hc46_11, if_pos hc56_13]; exact F_exclusive_w_X_GAP_INSERT_INTENTION), (by rw [own_p8, if_neg hc1_1, if_neg hc10_3, if_neg hc19_5, if_neg hc28_7, if_neg hc37_9, if_neg hc46_11, if_pos hc56_13]; exact F_record_w_X_GAP_INSERT_INTENTION), (by rw [own_p8, if_neg hc1_1, if_neg hc10_3, if_neg hc19_5, if_neg hc28_7, if_neg hc37_9, if_neg hc46_11, if_pos hc56_13]; exact F_gap_w_X_GAP_INSERT_INTENTION)⟩), ⟨_, rfl⟩, hW, hsame.mono (by decide) (by decide)⟩
  refine own_of (S' := s₁.setTop (mkF m 63 #[.val (.int p1)] [])) (fun t k => XS.icmpYes X0.here hx rfl (pc0 := 56) (pc' := 63) rfl (hb hby d1_56) rfl (feq hc56_13).2 (by decide) (by decide) k) ?_
  obtain ⟨T15, X15, e15, st15⟩ := getS2 X0 hx hZ hown (host := "") (Or.inl (hw _ (List.mem_of_getElem? (i := 31) rfl))) Via.refl e0 S_X_INSERT_INTENTION (g := (mkF m 63 #[.val (.int p1)] [])) rfl (hb hby d1_63)
  refine own_of (S' := T15.setTop (mkF m 66 #[.val (.int p1)] [(.ref w_X_INSERT_INTENTION)])) st15 ?_
  obtain ⟨fs, hr, hrun, hended, hW, hsame⟩ := X15.leave (v := some (.ref w_X_INSERT_INTENTION)) (fun h => by rw [Bd.returns] at h; cases h)
  subst hKd
  exact ⟨_, _, (retOut X15 hx Bd.returns rfl (Or.inr (Or.inr (Or.inr (Or.inr ⟨rfl, rfl, rfl⟩)))) (hb hby d1_66) hr), hrun, hended, _, _, rfl, (by
    show Q1 Z p1 w_X w_X_REC_NOT_GAP w_X_GAP w_S w_S_REC_NOT_GAP w_S_GAP w_X_GAP_INSERT_INTENTION w_X_INSERT_INTENTION h0 n0 _ T15.heap _
    rw [show T15.heap = h0 from e15]
    exact ⟨w_X_INSERT_INTENTION, rfl, N0, rfl, E_w_X_INSERT_INTENTION, (by rw [own_p8, if_neg hc1_1, if_neg hc10_3, if_neg hc19_5, if_neg hc28_7, if_neg hc37_9, if_neg hc46_11, if_neg hc56_13]; exact F_insertIntention_w_X_INSERT_INTENTION), (by rw [own_p8, if_neg hc1_1, if_neg hc10_3, if_neg hc19_5, if_neg hc28_7, if_neg hc37_9, if_neg hc46_11, if_neg hc56_13]; exact F_exclusive_w_X_INSERT_INTENTION), (by rw [own_p8, if_neg hc1_1, if_neg hc10_3, if_neg hc19_5, if_neg hc28_7, if_neg hc37_9, if_neg hc46_11, if_neg hc56_13]; exact F_record_w_X_INSERT_INTENTION), (by rw [own_p8, if_neg hc1_1, if_neg hc10_3, if_neg hc19_5, if_neg hc28_7, if_neg hc37_9, if_neg hc46_11, if_neg hc56_13]; exact F_gap_w_X_INSERT_INTENTION)⟩), ⟨_, rfl⟩, hW, hsame.mono (by decide) (by decide)⟩
theorem d2_0 : decode prog_38_method_11_code 0 = .ok (.aload_n 0, 1) := by decide +kernel
theorem d2_1 : decode prog_38_method_11_code 1 = .ok (.getfield 61, 3) := by decide +kernel
theorem d2_4 : decode prog_38_method_11_code 4 = .ok (.aload_n 1, 1) := by decide +kernel
theorem d2_5 : decode prog_38_method_11_code 5 = .ok (.getfield 61, 3) := by decide +kernel
theorem d2_8 : decode prog_38_method_11_code 8 = .ok (.if_icmp .ne 49, 3) := by decide +kernel
theorem d2_11 : decode prog_38_method_11_code 11 = .ok (.aload_n 0, 1) := by decide +kernel
theorem d2_12 : decode prog_38_method_11_code 12 = .ok (.getfield 51, 3) := by decide +kernel
theorem d2_15 : decode prog_38_method_11_code 15 = .ok (.ifCond .ne 10, 3) := by decide +kernel
theorem d2_18 : decode prog_38_method_11_code 18 = .ok (.aload_n 1, 1) := by decide +kernel
theorem d2_19 : decode prog_38_method_11_code 19 = .ok (.getfield 51, 3) := by decide +kernel
theorem d2_22 : decode prog_38_method_11_code 22 = .ok (.ifCond .ne 35, 3) := by decide +kernel
theorem d2_25 : decode prog_38_method_11_code 25 = .ok (.aload_n 0, 1) := by decide +kernel
theorem d2_26 : decode prog_38_method_11_code 26 = .ok (.getfield 55, 3) := by decide +kernel
theorem d2_29 : decode prog_38_method_11_code 29 = .ok (.ifCond .ne 10, 3) := by decide +kernel
theorem d2_32 : decode prog_38_method_11_code 32 = .ok (.aload_n 1, 1) := by decide +kernel
theorem d2_33 : decode prog_38_method_11_code 33 = .ok (.getfield 55, 3) := by decide +kernel
theorem d2_36 : decode prog_38_method_11_code 36 = .ok (.ifCond .ne 21, 3) := by decide +kernel
theorem d2_39 : decode prog_38_method_11_code 39 = .ok (.aload_n 0, 1) := by decide +kernel
theorem d2_40 : decode prog_38_method_11_code 40 = .ok (.getfield 58, 3) := by decide +kernel
theorem d2_43 : decode prog_38_method_11_code 43 = .ok (.ifCond .ne 10, 3) := by decide +kernel
theorem d2_46 : decode prog_38_method_11_code 46 = .ok (.aload_n 1, 1) := by decide +kernel
theorem d2_47 : decode prog_38_method_11_code 47 = .ok (.getfield 58, 3) := by decide +kernel
theorem d2_50 : decode prog_38_method_11_code 50 = .ok (.ifCond .ne 7, 3) := by decide +kernel
theorem d2_53 : decode prog_38_method_11_code 53 = .ok (.iconst 1, 1) := by decide +kernel
theorem d2_54 : decode prog_38_method_11_code 54 = .ok (.goto 4, 3) := by decide +kernel
theorem d2_57 : decode prog_38_method_11_code 57 = .ok (.iconst 0, 1) := by decide +kernel
theorem d2_58 : decode prog_38_method_11_code 58 = .ok (.ireturn, 1) := by decide +kernel
theorem pn_2 : plainName "com/example/keyfence/keyfence/LockMode" = true := by first | (simp [plainName, overriddenIn]; done) | decide +kernel
theorem ef_2 (m : MethodId) (a1 : Addr) (a2 : Addr) : entryFrame m #[(.ref a1), (.ref a2)] 2 = mkF m 0 #[.val (.ref a1), .val (.ref a2)] [] := by first | (simp [entryFrame, mkF, argsToLocals, Value.category]; done) | rfl
def Q2 (Z : State) (a1 : Addr) (a2 : Addr) (i1 : Int32) (i2 : Int32) (x1 : Int32) (x2 : Int32) (r1 : Int32) (r2 : Int32) (g1 : Int32) (g2 : Int32) (h0 : Heap) (n0 : Nat) (v : Option Value) (h : Heap) (L : List Loc) : Prop := (v = some (.int (own_cov i1 i2 x1 x2 r1 r2 g1 g2))) ∧ (Fr n0 L) ∧ (h = h0)
set_option maxRecDepth 65536 in
set_option maxHeartbeats 40000000 in
theorem rm2 (l : Launch) (Z : State) (a0 : Array Value) (hw : ∀ d ∈ tables_1, d.before a0 Z = true) (ws : List Jvm.Cond) (a1 : Addr) (a2 : Addr) (i1 : Int32) (i2 : Int32) (x1 : Int32) (x2 : Int32) (r1 : Int32) (r2 : Int32) (g1 : Int32) (g2 : Int32) (h0 : Heap) (n0 : Nat) (Z0 : n0 ≤ h0.size) (F_insertIntention_a1 : Fld Z h0 a1 "com/example/keyfence/keyfence/LockMode" "insertIntention" "Z" (.int i1)) (F_exclusive_a1 : Fld Z h0 a1 "com/example/keyfence/keyfence/LockMode" "exclusive" "Z" (.int x1)) (F_record_a1 : Fld Z h0 a1 "com/example/keyfence/keyfence/LockMode" "record" "Z" (.int r1)) (F_gap_a1 : Fld Z h0 a1 "com/example/keyfence/keyfence/LockMode" "gap" "Z" (.int g1)) (F_insertIntention_a2 : Fld Z h0 a2 "com/example/keyfence/keyfence/LockMode" "insertIntention" "Z" (.int i2)) (F_exclusive_a2 : Fld Z h0 a2 "com/example/keyfence/keyfence/LockMode" "exclusive" "Z" (.int x2)) (F_record_a2 : Fld Z h0 a2 "com/example/keyfence/keyfence/LockMode" "record" "Z" (.int r2)) (F_gap_a2 : Fld Z h0 a2 "com/example/keyfence/keyfence/LockMode" "gap" "Z" (.int g2)) :
    MetFree l (⟨"com/example/keyfence/keyfence/LockMode", "covers", "(Lcom/example/keyfence/keyfence/LockMode;)Z"⟩ : MethodName) (head1 (Jvm.Cond.code (⟨"com/example/keyfence/keyfence/LockMode", "covers", "(Lcom/example/keyfence/keyfence/LockMode;)Z"⟩ : MethodName) prog_38_method_11_code 2 (some .boolean) :: ws) ({ frames := 0, cells := 0, slots := 0, locals := 0 } : Room)) (fun a U => a = #[(.ref a1), (.ref a2)] ∧ Z.Warmed39 U.vm ∧ U.heap = h0) (fun _ _ _ _ _ => True) (fun _ U o U' => ∃ v L, o = .returned v ∧ Q2 Z a1 a2 i1 i2 x1 x2 r1 r2 g1 g2 h0 n0 v U'.heap L ∧ FrameEnd U o U' L ({ frames := 0, cells := 0, slots := 0, locals := 0 } : Room).cells ({ frames := 0, cells := 0, slots := 0, locals := 0 } : Room).slots) := by
  refine MetFree.of_bodySF (plainFor_of_name pn_2) hisR ?_
  intro p e s m args below meth c s₁ Bd hml0 hP hK
  obtain ⟨rfl, hZ, hh⟩ := hP
  have hx := Bd.exec
  have hby := Bd.bytes
  have hml : c.maxLocals = 2 := hml0
  have hown : s.vm.findClass "com/example/keyfence/keyfence/LockMode" = some m.cls := findClass_of_methodNamed Bd.named
  have hnm := (name_of_methodNamed Bd.named Bd.method).1
  have X0 : Stand p l e ({ frames := 0, cells := 0, slots := 0, locals := 0 } : Room) s m #[(.ref a1), (.ref a2)] below meth c s₁ [] 0 0 := Stand.of_body Bd
  have e0 : s₁.heap = h0 := by rw [← hh, Bd.state]; rfl
  have N0 := Fr.nil n0
  refine own_of (S := s₁.setTop (entryFrame m #[(.ref a1), (.ref a2)] 2)) (S' := s₁.setTop (mkF m 0 #[.val (.ref a1), .val (.ref a2)] [])) (K := fun s₂ o => ∃ v L, o = .returned v ∧ Q2 Z a1 a2 i1 i2 x1 x2 r1 r2 g1 g2 h0 n0 v s₂.heap L ∧ FrameEnd s o s₂ L ({ frames := 0, cells := 0, slots := 0, locals := 0 } : Room).cells ({ frames := 0, cells := 0, slots := 0, locals := 0 } : Room).slots) (fun t k => castTop (ef_2 m a1 a2) k) ?_
  refine own_nameK fun K hKd => ?_
  refine own_of (S' := s₁.setTop (mkF m 1 #[.val (.ref a1), .val (.ref a2)] [(.ref a1)])) (fun t k => XS.aloadN X0.here hx rfl (hb hby d2_0) rfl rfl k) ?_
  obtain ⟨T1, X1, e1, st1⟩ := getF X0 hx hZ hown (host := "") (Or.inl (hw _ (List.mem_of_getElem? (i := 15) rfl))) Via.refl e0 F_insertIntention_a1 (g := (mkF m 1 #[.val (.ref a1), .val (.ref a2)] [(.ref a1)])) rfl rfl (hb hby d2_1)
  refine own_of (S' := T1.setTop (mkF m 4 #[.val (.ref a1), .val (.ref a2)] [(.int i1)])) st1 ?_
  refine own_of (S' := T1.setTop (mkF m 5 #[.val (.ref a1), .val (.ref a2)] [(.ref a2), (.int i1)])) (fun t k => XS.aloadN X1.here hx rfl (hb hby d2_4) rfl rfl k) ?_
  obtain ⟨T2, X2, e2, st2⟩ := getF X1 hx hZ hown (host := "") (Or.inl (hw _ (List.mem_of_getElem? (i := 15) rfl))) Via.refl e1 F_insertIntention_a2 (g := (mkF m 5 #[.val (.ref a1), .val (.ref a2)] [(.ref a2), (.int i1)])) rfl rfl (hb hby d2_5)
  refine own_of (S' := T2.setTop (mkF m 8 #[.val (.ref a1), .val (.ref a2)] [(.int i2), (.int i1)])) st2 ?_
  by_cases hc8_3 : i1 = i2
  · refine own_of (S' := T2.setTop (mkF m 11 #[.val (.ref a1), .val (.ref a2)] [])) (fun t k => XS.icmpNo X2.here hx rfl (hb hby d2_8) rfl (teq hc8_3).2 k) ?_
    refine own_of (S' := T2.setTop (mkF m 12 #[.val (.ref a1), .val (.ref a2)] [(.ref a1)])) (fun t k => XS.aloadN X2.here hx rfl (hb hby d2_11) rfl rfl k) ?_
    obtain ⟨T4, X4, e4, st4⟩ := getF X2 hx hZ hown (host := "") (Or.inl (hw _ (List.mem_of_getElem? (i := 17) rfl))) Via.refl e2 F_exclusive_a1 (g := (mkF m 12 #[.val (.ref a1), .val (.ref a2)] [(.ref a1)])) rfl rfl (hb hby d2_12)
    refine own_of (S' := T4.setTop (mkF m 15 #[.val (.ref a1), .val (.ref a2)] [(.int x1)])) st4 ?_
    by_cases hc15_5 : x1 = (0 : Int32)
    · refine own_of (S' := T4.setTop (mkF m 18 #[.val (.ref a1), .val (.ref a2)] [])) (fun t k => XS.ifNo X4.here hx rfl (hb hby d2_15) rfl ((if0 _ _).trans (teq hc15_5).2) k) ?_
      refine own_of (S' := T4.setTop (mkF m 19 #[.val (.ref a1), .val (.ref a2)] [(.ref a2)])) (fun t k => XS.aloadN X4.here hx rfl (hb hby d2_18) rfl rfl k) ?_
      obtain ⟨T6, X6, e6, st6⟩ := getF X4 hx hZ hown (host := "") (Or.inl (hw _ (List.mem_of_getElem? (i := 17) rfl))) Via.refl e4 F_exclusive_a2 (g := (mkF m 19 #[.val (.ref a1), .val (.ref a2)] [(.ref a2)])) rfl rfl (hb hby d2_19)
      refine own_of (S' := T6.setTop (mkF m 22 #[.val (.ref a1), .val (.ref a2)] [(.int x2)])) st6 ?_
      by_cases hc22_7 : x2 = (0 : Int32)
      · refine own_of (S' := T6.setTop (mkF m 25 #[.val (.ref a1), .val (.ref a2)] [])) (fun t k => XS.ifNo X6.here hx rfl (hb hby d2_22) rfl ((if0 _ _).trans (teq hc22_7).2) k) ?_
        refine own_of (S' := T6.setTop (mkF m 26 #[.val (.ref a1), .val (.ref a2)] [(.ref a1)])) (fun t k => XS.aloadN X6.here hx rfl (hb hby d2_25) rfl rfl k) ?_
        obtain ⟨T8, X8, e8, st8⟩ := getF X6 hx hZ hown (host := "") (Or.inl (hw _ (List.mem_of_getElem? (i := 19) rfl))) Via.refl e6 F_record_a1 (g := (mkF m 26 #[.val (.ref a1), .val (.ref a2)] [(.ref a1)])) rfl rfl (hb hby d2_26)
        refine own_of (S' := T8.setTop (mkF m 29 #[.val (.ref a1), .val (.ref a2)] [(.int r1)])) st8 ?_
        by_cases hc29_9 : r1 = (0 : Int32)
        · refine own_of (S' := T8.setTop (mkF m 32 #[.val (.ref a1), .val (.ref a2)] [])) (fun t k => XS.ifNo X8.here hx rfl (hb hby d2_29) rfl ((if0 _ _).trans (teq hc29_9).2) k) ?_
          refine own_of (S' := T8.setTop (mkF m 33 #[.val (.ref a1), .val (.ref a2)] [(.ref a2)])) (fun t k => XS.aloadN X8.here hx rfl (hb hby d2_32) rfl rfl k) ?_
          obtain ⟨T10, X10, e10, st10⟩ := getF X8 hx hZ hown (host := "") (Or.inl (hw _ (List.mem_of_getElem? (i := 19) rfl))) Via.refl e8 F_record_a2 (g := (mkF m 33 #[.val (.ref a1), .val (.ref a2)] [(.ref a2)])) rfl rfl (hb hby d2_33)
          refine own_of (S' := T10.setTop (mkF m 36 #[.val (.ref a1), .val (.ref a2)] [(.int r2)])) st10 ?_
          by_cases hc36_11 : r2 = (0 : Int32)
          · refine own_of (S' := T10.setTop (mkF m 39 #[.val (.ref a1), .val (.ref a2)] [])) (fun t k => XS.ifNo X10.here hx rfl (hb hby d2_36) rfl ((if0 _ _).trans (teq hc36_11).2) k) ?_
            refine own_of (S' := T10.setTop (mkF m 40 #[.val (.ref a1), .val (.ref a2)] [(.ref a1)])) (fun t k => XS.aloadN X10.here hx rfl (hb hby d2_39) rfl rfl k) ?_
            obtain ⟨T12, X12, e12, st12⟩ := getF X10 hx hZ hown (host := "") (Or.inl (hw _ (List.mem_of_getElem? (i := 21) rfl))) Via.refl e10 F_gap_a1 (g := (mkF m 40 #[.val (.ref a1), .val (.ref a2)] [(.ref a1)])) rfl rfl (hb hby d2_40)
            refine own_of (S' := T12.setTop (mkF m 43 #[.val (.ref a1), .val (.ref a2)] [(.int g1)])) st12 ?_
            by_cases hc43_13 : g1 = (0 : Int32)
            · refine own_of (S' := T12.setTop (mkF m 46 #[.val (.ref a1), .val (.ref a2)] [])) (fun t k => XS.ifNo X12.here hx rfl (hb hby d2_43) rfl ((if0 _ _).trans (teq hc43_13).2) k) ?_
              refine own_of (S' := T12.setTop (mkF m 47 #[.val (.ref a1), .val (.ref a2)] [(.ref a2)])) (fun t k => XS.aloadN X12.here hx rfl (hb hby d2_46) rfl rfl k) ?_
              obtain ⟨T14, X14, e14, st14⟩ := getF X12 hx hZ hown (host := "") (Or.inl (hw _ (List.mem_of_getElem? (i := 21) rfl))) Via.refl e12 F_gap_a2 (g := (mkF m 47 #[.val (.ref a1), .val (.ref a2)] [(.ref a2)])) rfl rfl (hb hby d2_47)
              refine own_of (S' := T14.setTop (mkF m 50 #[.val (.ref a1), .val (.ref a2)] [(.int g2)])) st14 ?_
              by_cases hc50_15 : g2 = (0 : Int32)
              · refine own_of (S' := T14.setTop (mkF m 53 #[.val (.ref a1), .val (.ref a2)] [])) (fun t k => XS.ifNo X14.here hx rfl (hb hby d2_50) rfl ((if0 _ _).trans (teq hc50_15).2) k) ?_
                refine own_of (S' := T14.setTop (mkF m 54 #[.val (.ref a1), .val (.ref a2)] [(.int (1 : Int32))])) (fun t k => XS.iconst X14.here hx rfl (hb hby d2_53) k) ?_
                refine own_of (S' := T14.setTop (mkF m 58 #[.val (.ref a1), .val (.ref a2)] [(.int (1 : Int32))])) (fun t k => XS.goto X14.here hx rfl (pc0 := 54) (pc' := 58) rfl (hb hby d2_54) (by decide) (by decide) k) ?_
                obtain ⟨fs, hr, hrun, hended, hW, hsame⟩ := X14.leave (v := some (.int (1 : Int32))) (fun h => by rw [Bd.returns] at h; cases h)
                subst hKd
                exact ⟨_, _, retN X14 hx (t := .boolean) Bd.returns (by simp) (hb hby d2_58) hr, hrun, hended, _, _, rfl, (by
                  show Q2 Z a1 a2 i1 i2 x1 x2 r1 r2 g1 g2 h0 n0 _ T14.heap _
                  rw [show T14.heap = h0 from e14]
                  exact ⟨(by rw [own_cov, own_c1, own_c2, own_c3, if_pos hc8_3, if_pos hc15_5, if_pos hc22_7, if_pos hc29_9, if_pos hc36_11, if_pos hc43_13, if_pos hc50_15]), N0, rfl⟩), ⟨_, rfl⟩, hW, hsame.mono (by decide) (by decide)⟩
              refine own_of (S' := T14.setTop (mkF m 57 #[.val (.ref a1), .val (.ref a2)] [])) (fun t k => XS.ifYes X14.here hx rfl (pc0 := 50) (pc' := 57) rfl (hb hby d2_50) rfl ((if0 _ _).trans (feq hc50_15).2) (by decide) (by decide) k) ?_
              refine own_of (S' := T14.setTop (mkF m 58 #[.val (.ref a1), .val (.ref a2)] [(.int (0 : Int32))])) (fun t k => XS.iconst X14.here hx rfl (hb hby d2_57) k) ?_
              obtain ⟨fs, hr, hrun, hended, hW, hsame⟩ := X14.leave (v := some (.int (0 : Int32))) (fun h => by rw [Bd.returns] at h; cases h)
              subst hKd
              exact ⟨_, _, retN X14 hx (t := .boolean) Bd.returns (by simp) (hb hby d2_58) hr, hrun, hended, _, _, rfl, (by
                show Q2 Z a1 a2 i1 i2 x1 x2 r1 r2 g1 g2 h0 n0 _ T14.heap _
                rw [show T14.heap = h0 from e14]
                exact ⟨(by rw [own_cov, own_c1, own_c2, own_c3, if_pos hc8_3, if_pos hc15_5, if_pos hc22_7, if_pos hc29_9, if_pos hc36_11, if_pos hc43_13, if_neg hc50_15]), N0, rfl⟩), ⟨_, rfl⟩, hW, hsame.mono (by decide) (by decide)⟩
            refine own_of (S' := T12.setTop (mkF m 53 #[.val (.ref a1), .val (.ref a2)] [])) (fun t k => XS.ifYes X12.here hx rfl (pc0 := 43) (pc' := 53) rfl (hb hby d2_43) rfl ((if0 _ _).trans (feq hc43_13).2) (by decide) (by decide) k) ?_
            refine own_of (S' := T12.setTop (mkF m 54 #[.val (.ref a1), .val (.ref a2)] [(.int (1 : Int32))])) (fun t k => XS.iconst X12.here hx rfl (hb hby d2_53) k) ?_
            refine own_of (S' := T12.setTop (mkF m 58 #[.val (.ref a1), .val (.ref a2)] [(.int (1 : Int32))])) (fun t k => XS.goto X12.here hx rfl (pc0 := 54) (pc' := 58) rfl (hb hby d2_54) (by decide) (by decide) k) ?_
            obtain ⟨fs, hr, hrun, hended, hW, hsame⟩ := X12.leave (v := some (.int (1 : Int32))) (fun h => by rw [Bd.returns] at h; cases h)
            subst hKd
            exact ⟨_, _, retN X12 hx (t := .boolean) Bd.returns (by simp) (hb hby d2_58) hr, hrun, hended, _, _, rfl, (by
              show Q2 Z a1 a2 i1 i2 x1 x2 r1 r2 g1 g2 h0 n0 _ T12.heap _
              rw [show T12.heap = h0 from e12]
              exact ⟨(by rw [own_cov, own_c1, own_c2, own_c3, if_pos hc8_3, if_pos hc15_5, if_pos hc22_7, if_pos hc29_9, if_pos hc36_11, if_neg hc43_13]), N0, rfl⟩), ⟨_, rfl⟩, hW, hsame.mono (by decide) (by decide)⟩
          refine own_of (S' := T10.setTop (mkF m 57 #[.val (.ref a1), .val (.ref a2)] [])) (fun t k => XS.ifYes X10.here hx rfl (pc0 := 36) (pc' := 57) rfl (hb hby d2_36) rfl ((if0 _ _).trans (feq hc36_11).2) (by decide) (by decide) k) ?_
          refine own_of (S' := T10.setTop (mkF m 58 #[.val (.ref a1), .val (.ref a2)] [(.int (0 : Int32))])) (fun t k => XS.iconst X10.here hx rfl (hb hby d2_57) k) ?_
          obtain ⟨fs, hr, hrun, hended, hW, hsame⟩ := X10.leave (v := some (.int (0 : Int32))) (fun h => by rw [Bd.returns] at h; cases h)
          subst hKd
          exact ⟨_, _, retN X10 hx (t := .boolean) Bd.returns (by simp) (hb hby d2_58) hr, hrun, hended, _, _, rfl, (by
            show Q2 Z a1 a2 i1 i2 x1 x2 r1 r2 g1 g2 h0 n0 _ T10.heap _
            rw [show T10.heap = h0 from e10]
            exact ⟨(by rw [own_cov, own_c1, own_c2, own_c3, if_pos hc8_3, if_pos hc15_5, if_pos hc22_7, if_pos hc29_9, if_neg hc36_11]), N0, rfl⟩), ⟨_, rfl⟩, hW, hsame.mono (by decide) (by decide)⟩
        refine own_of (S' := T8.setTop (mkF m 39 #[.val (.ref a1), .val (.ref a2)] [])) (fun t k => XS.ifYes X8.here hx rfl (pc0 := 29) (pc' := 39) rfl (hb hby d2_29) rfl ((if0 _ _).trans (feq hc29_9).2) (by decide) (by decide) k) ?_
        refine own_of (S' := T8.setTop (mkF m 40 #[.val (.ref a1), .val (.ref a2)] [(.ref a1)])) (fun t k => XS.aloadN X8.here hx rfl (hb hby d2_39) rfl rfl k) ?_
        obtain ⟨T16, X16, e16, st16⟩ := getF X8 hx hZ hown (host := "") (Or.inl (hw _ (List.mem_of_getElem? (i := 21) rfl))) Via.refl e8 F_gap_a1 (g := (mkF m 40 #[.val (.ref a1), .val (.ref a2)] [(.ref a1)])) rfl rfl (hb hby d2_40)
        refine own_of (S' := T16.setTop (mkF m 43 #[.val (.ref a1), .val (.ref a2)] [(.int g1)])) st16 ?_
        by_cases hc43_17 : g1 = (0 : Int32)
        · refine own_of (S' := T16.setTop (mkF m 46 #[.val (.ref a1), .val (.ref a2)] [])) (fun t k => XS.ifNo X16.here hx rfl (hb hby d2_43) rfl ((if0 _ _).trans (teq hc43_17).2) k) ?_
          refine own_of (S' := T16.setTop (mkF m 47 #[.val (.ref a1), .val (.ref a2)] [(.ref a2)])) (fun t k => XS.aloadN X16.here hx rfl (hb hby d2_46) rfl rfl k) ?_
          obtain ⟨T18, X18, e18, st18⟩ := getF X16 hx hZ hown (host := "") (Or.inl (hw _ (List.mem_of_getElem? (i := 21) rfl))) Via.refl e16 F_gap_a2 (g := (mkF m 47 #[.val (.ref a1), .val (.ref a2)] [(.ref a2)])) rfl rfl (hb hby d2_47)
          refine own_of (S' := T18.setTop (mkF m 50 #[.val (.ref a1), .val (.ref a2)] [(.int g2)])) st18 ?_
          by_cases hc50_19 : g2 = (0 : Int32)
          · refine own_of (S' := T18.setTop (mkF m 53 #[.val (.ref a1), .val (.ref a2)] [])) (fun t k => XS.ifNo X18.here hx rfl (hb hby d2_50) rfl ((if0 _ _).trans (teq hc50_19).2) k) ?_
            refine own_of (S' := T18.setTop (mkF m 54 #[.val (.ref a1), .val (.ref a2)] [(.int (1 : Int32))])) (fun t k => XS.iconst X18.here hx rfl (hb hby d2_53) k) ?_
            refine own_of (S' := T18.setTop (mkF m 58 #[.val (.ref a1), .val (.ref a2)] [(.int (1 : Int32))])) (fun t k => XS.goto X18.here hx rfl (pc0 := 54) (pc' := 58) rfl (hb hby d2_54) (by decide) (by decide) k) ?_
            obtain ⟨fs, hr, hrun, hended, hW, hsame⟩ := X18.leave (v := some (.int (1 : Int32))) (fun h => by rw [Bd.returns] at h; cases h)
            subst hKd
            exact ⟨_, _, retN X18 hx (t := .boolean) Bd.returns (by simp) (hb hby d2_58) hr, hrun, hended, _, _, rfl, (by
              show Q2 Z a1 a2 i1 i2 x1 x2 r1 r2 g1 g2 h0 n0 _ T18.heap _
              rw [show T18.heap = h0 from e18]
              exact ⟨(by rw [own_cov, own_c1, own_c2, own_c3, if_pos hc8_3, if_pos hc15_5, if_pos hc22_7, if_neg hc29_9, if_pos hc43_17, if_pos hc50_19]), N0, rfl⟩), ⟨_, rfl⟩, hW, hsame.mono (by decide) (by decide)⟩
          refine own_of (S' := T18.setTop (mkF m 57 #[.val (.ref a1), .val (.ref a2)] [])) (fun t k => XS.ifYes X18.here hx rfl (pc0 := 50) (pc' := 57) rfl (hb hby d2_50) rfl ((if0 _ _).trans (feq hc50_19).2) (by decide) (by decide) k) ?_
          refine own_of (S' := T18.setTop (mkF m 58 #[.val (.ref a1), .val (.ref a2)] [(.int (0 : Int32))])) (fun t k => XS.iconst X18.here hx rfl (hb hby d2_57) k) ?_
          obtain ⟨fs, hr, hrun, hended, hW, hsame⟩ := X18.leave (v := some (.int (0 : Int32))) (fun h => by rw [Bd.returns] at h; cases h)
          subst hKd
          exact ⟨_, _, retN X18 hx (t := .boolean) Bd.returns (by simp) (hb hby d2_58) hr, hrun, hended, _, _, rfl, (by
            show Q2 Z a1 a2 i1 i2 x1 x2 r1 r2 g1 g2 h0 n0 _ T18.heap _
            rw [show T18.heap = h0 from e18]
            exact ⟨(by rw [own_cov, own_c1, own_c2, own_c3, if_pos hc8_3, if_pos hc15_5, if_pos hc22_7, if_neg hc29_9, if_pos hc43_17, if_neg hc50_19]), N0, rfl⟩), ⟨_, rfl⟩, hW, hsame.mono (by decide) (by decide)⟩
        refine own_of (S' := T16.setTop (mkF m 53 #[.val (.ref a1), .val (.ref a2)] [])) (fun t k => XS.ifYes X16.here hx rfl (pc0 := 43) (pc' := 53) rfl (hb hby d2_43) rfl ((if0 _ _).trans (feq hc43_17).2) (by decide) (by decide) k) ?_
        refine own_of (S' := T16.setTop (mkF m 54 #[.val (.ref a1), .val (.ref a2)] [(.int (1 : Int32))])) (fun t k => XS.iconst X16.here hx rfl (hb hby d2_53) k) ?_
        refine own_of (S' := T16.setTop (mkF m 58 #[.val (.ref a1), .val (.ref a2)] [(.int (1 : Int32))])) (fun t k => XS.goto X16.here hx rfl (pc0 := 54) (pc' := 58) rfl (hb hby d2_54) (by decide) (by decide) k) ?_
        obtain ⟨fs, hr, hrun, hended, hW, hsame⟩ := X16.leave (v := some (.int (1 : Int32))) (fun h => by rw [Bd.returns] at h; cases h)
        subst hKd
        exact ⟨_, _, retN X16 hx (t := .boolean) Bd.returns (by simp) (hb hby d2_58) hr, hrun, hended, _, _, rfl, (by
          show Q2 Z a1 a2 i1 i2 x1 x2 r1 r2 g1 g2 h0 n0 _ T16.heap _
          rw [show T16.heap = h0 from e16]
          exact ⟨(by rw [own_cov, own_c1, own_c2, own_c3, if_pos hc8_3, if_pos hc15_5, if_pos hc22_7, if_neg hc29_9, if_neg hc43_17]), N0, rfl⟩), ⟨_, rfl⟩, hW, hsame.mono (by decide) (by decide)⟩
      refine own_of (S' := T6.setTop (mkF m 57 #[.val (.ref a1), .val (.ref a2)] [])) (fun t k => XS.ifYes X6.here hx rfl (pc0 := 22) (pc' := 57) rfl (hb hby d2_22) rfl ((if0 _ _).trans (feq hc22_7).2) (by decide) (by decide) k) ?_
      refine own_of (S' := T6.setTop (mkF m 58 #[.val (.ref a1), .val (.ref a2)] [(.int (0 : Int32))])) (fun t k => XS.iconst X6.here hx rfl (hb hby d2_57) k) ?_
      obtain ⟨fs, hr, hrun, hended, hW, hsame⟩ := X6.leave (v := some (.int (0 : Int32))) (fun h => by rw [Bd.returns] at h; cases h)
      subst hKd
      exact ⟨_, _, retN X6 hx (t := .boolean) Bd.returns (by simp) (hb hby d2_58) hr, hrun, hended, _, _, rfl, (by
        show Q2 Z a1 a2 i1 i2 x1 x2 r1 r2 g1 g2 h0 n0 _ T6.heap _
        rw [show T6.heap = h0 from e6]
        exact ⟨(by rw [own_cov, own_c1, own_c2, own_c3, if_pos hc8_3, if_pos hc15_5, if_neg hc22_7]), N0, rfl⟩), ⟨_, rfl⟩, hW, hsame.mono (by decide) (by decide)⟩
    refine own_of (S' := T4.setTop (mkF m 25 #[.val (.ref a1), .val (.ref a2)] [])) (fun t k => XS.ifYes X4.here hx rfl (pc0 := 15) (pc' := 25) rfl (hb hby d2_15) rfl ((if0 _ _).trans (feq hc15_5).2) (by decide) (by decide) k) ?_
    refine own_of (S' := T4.setTop (mkF m 26 #[.val (.ref a1), .val (.ref a2)] [(.ref a1)])) (fun t k => XS.aloadN X4.here hx rfl (hb hby d2_25) rfl rfl k) ?_
    obtain ⟨T20, X20, e20, st20⟩ := getF X4 hx hZ hown (host := "") (Or.inl (hw _ (List.mem_of_getElem? (i := 19) rfl))) Via.refl e4 F_record_a1 (g := (mkF m 26 #[.val (.ref a1), .val (.ref a2)] [(.ref a1)])) rfl rfl (hb hby d2_26)
    refine own_of (S' := T20.setTop (mkF m 29 #[.val (.ref a1), .val (.ref a2)] [(.int r1)])) st20 ?_
    by_cases hc29_21 : r1 = (0 : Int32)
    · refine own_of (S' := T20.setTop (mkF m 32 #[.val (.ref a1), .val (.ref a2)] [])) (fun t k => XS.ifNo X20.here hx rfl (hb hby d2_29) rfl ((if0 _ _).trans (teq hc29_21).2) k) ?_
      refine own_of (S' := T20.setTop (mkF m 33 #[.val (.ref a1), .val (.ref a2)] [(.ref a2)])) (fun t k => XS.aloadN X20.here hx rfl (hb hby d2_32) rfl rfl k) ?_
      obtain ⟨T22, X22, e22, st22⟩ := getF X20 hx hZ hown (host := "") (Or.inl (hw _ (List.mem_of_getElem? (i := 19) rfl))) Via.refl e20 F_record_a2 (g := (mkF m 33 #[.val (.ref a1), .val (.ref a2)] [(.ref a2)])) rfl rfl (hb hby d2_33)
      refine own_of (S' := T22.setTop (mkF m 36 #[.val (.ref a1), .val (.ref a2)] [(.int r2)])) st22 ?_
      by_cases hc36_23 : r2 = (0 : Int32)
      · refine own_of (S' := T22.setTop (mkF m 39 #[.val (.ref a1), .val (.ref a2)] [])) (fun t k => XS.ifNo X22.here hx rfl (hb hby d2_36) rfl ((if0 _ _).trans (teq hc36_23).2) k) ?_
        refine own_of (S' := T22.setTop (mkF m 40 #[.val (.ref a1), .val (.ref a2)] [(.ref a1)])) (fun t k => XS.aloadN X22.here hx rfl (hb hby d2_39) rfl rfl k) ?_
        obtain ⟨T24, X24, e24, st24⟩ := getF X22 hx hZ hown (host := "") (Or.inl (hw _ (List.mem_of_getElem? (i := 21) rfl))) Via.refl e22 F_gap_a1 (g := (mkF m 40 #[.val (.ref a1), .val (.ref a2)] [(.ref a1)])) rfl rfl (hb hby d2_40)
        refine own_of (S' := T24.setTop (mkF m 43 #[.val (.ref a1), .val (.ref a2)] [(.int g1)])) st24 ?_
        by_cases hc43_25 : g1 = (0 : Int32)
        · refine own_of (S' := T24.setTop (mkF m 46 #[.val (.ref a1), .val (.ref a2)] [])) (fun t k => XS.ifNo X24.here hx rfl (hb hby d2_43) rfl ((if0 _ _).trans (teq hc43_25).2) k) ?_
          refine own_of (S' := T24.setTop (mkF m 47 #[.val (.ref a1), .val (.ref a2)] [(.ref a2)])) (fun t k => XS.aloadN X24.here hx rfl (hb hby d2_46) rfl rfl k) ?_
          obtain ⟨T26, X26, e26, st26⟩ := getF X24 hx hZ hown (host := "") (Or.inl (hw _ (List.mem_of_getElem? (i := 21) rfl))) Via.refl e24 F_gap_a2 (g := (mkF m 47 #[.val (.ref a1), .val (.ref a2)] [(.ref a2)])) rfl rfl (hb hby d2_47)
          refine own_of (S' := T26.setTop (mkF m 50 #[.val (.ref a1), .val (.ref a2)] [(.int g2)])) st26 ?_
          by_cases hc50_27 : g2 = (0 : Int32)
          · refine own_of (S' := T26.setTop (mkF m 53 #[.val (.ref a1), .val (.ref a2)] [])) (fun t k => XS.ifNo X26.here hx rfl (hb hby d2_50) rfl ((if0 _ _).trans (teq hc50_27).2) k) ?_
            refine own_of (S' := T26.setTop (mkF m 54 #[.val (.ref a1), .val (.ref a2)] [(.int (1 : Int32))])) (fun t k => XS.iconst X26.here hx rfl (hb hby d2_53) k) ?_
            refine own_of (S' := T26.setTop (mkF m 58 #[.val (.ref a1), .val (.ref a2)] [(.int (1 : Int32))])) (fun t k => XS.goto X26.here hx rfl (pc0 := 54) (pc' := 58) rfl (hb hby d2_54) (by decide) (by decide) k) ?_
            obtain ⟨fs, hr, hrun, hended, hW, hsame⟩ := X26.leave (v := some (.int (1 : Int32))) (fun h => by rw [Bd.returns] at h; cases h)
            subst hKd
            exact ⟨_, _, retN X26 hx (t := .boolean) Bd.returns (by simp) (hb hby d2_58) hr, hrun, hended, _, _, rfl, (by
              show Q2 Z a1 a2 i1 i2 x1 x2 r1 r2 g1 g2 h0 n0 _ T26.heap _
              rw [show T26.heap = h0 from e26]
              exact ⟨(by rw [own_cov, own_c1, own_c2, own_c3, if_pos hc8_3, if_neg hc15_5, if_pos hc29_21, if_pos hc36_23, if_pos hc43_25, if_pos hc50_27]), N0, rfl⟩), ⟨_, rfl⟩, hW, hsame.mono (by decide) (by decide)⟩
          refine own_of (S' := T26.setTop (mkF m 57 #[.val (.ref a1), .val (.ref a2)] [])) (fun t k => XS.ifYes X26.here hx rfl (pc0 := 50) (pc' := 57) rfl (hb hby d2_50) rfl ((if0 _ _).trans (feq hc50_27).2) (by decide) (by decide) k) ?_
          refine own_of (S' := T26.setTop (mkF m 58 #[.val (.ref a1), .val (.ref a2)] [(.int (0 : Int32))])) (fun t k => XS.iconst X26.here hx rfl (hb hby d2_57) k) ?_
          obtain ⟨fs, hr, hrun, hended, hW, hsame⟩ := X26.leave (v := some (.int (0 : Int32))) (fun h => by rw [Bd.returns] at h; cases h)
          subst hKd
          exact ⟨_, _, retN X26 hx (t := .boolean) Bd.returns (by simp) (hb hby d2_58) hr, hrun, hended, _, _, rfl, (by
            show Q2 Z a1 a2 i1 i2 x1 x2 r1 r2 g1 g2 h0 n0 _ T26.heap _
            rw [show T26.heap = h0 from e26]
            exact ⟨(by rw [own_cov, own_c1, own_c2, own_c3, if_pos hc8_3, if_neg hc15_5, if_pos hc29_21, if_pos hc36_23, if_pos hc43_25, if_neg hc50_27]), N0, rfl⟩), ⟨_, rfl⟩, hW, hsame.mono (by decide) (by decide)⟩
        refine own_of (S' := T24.setTop (mkF m 53 #[.val (.ref a1), .val (.ref a2)] [])) (fun t k => XS.ifYes X24.here hx rfl (pc0 := 43) (pc' := 53) rfl (hb hby d2_43) rfl ((if0 _ _).trans (feq hc43_25).2) (by decide) (by decide) k) ?_
        refine own_of (S' := T24.setTop (mkF m 54 #[.val (.ref a1), .val (.ref a2)] [(.int (1 : Int32))])) (fun t k => XS.iconst X24.here hx rfl (hb hby d2_53) k) ?_
        refine own_of (S' := T24.setTop (mkF m 58 #[.val (.ref a1), .val (.ref a2)] [(.int (1 : Int32))])) (fun t k => XS.goto X24.here hx rfl (pc0 := 54) (pc' := 58) rfl (hb hby d2_54) (by decide) (by decide) k) ?_
        obtain ⟨fs, hr, hrun, hended, hW, hsame⟩ := X24.leave (v := some (.int (1 : Int32))) (fun h => by rw [Bd.returns] at h; cases h)
        subst hKd
        exact ⟨_, _, retN X24 hx (t := .boolean) Bd.returns (by simp) (hb hby d2_58) hr, hrun, hended, _, _, rfl, (by
          show Q2 Z a1 a2 i1 i2 x1 x2 r1 r2 g1 g2 h0 n0 _ T24.heap _
          rw [show T24.heap = h0 from e24]
          exact ⟨(by rw [own_cov, own_c1, own_c2, own_c3, if_pos hc8_3, if_neg hc15_5, if_pos hc29_21, if_pos hc36_23, if_neg hc43_25]), N0, rfl⟩), ⟨_, rfl⟩, hW, hsame.mono (by decide) (by decide)⟩
      refine own_of (S' := T22.setTop (mkF m 57 #[.val (.ref a1), .val (.ref a2)] [])) (fun t k => XS.ifYes X22.here hx rfl (pc0 := 36) (pc' := 57) rfl (hb hby d2_36) rfl ((if0 _ _).trans (feq hc36_23).2) (by decide) (by decide) k) ?_
      refine own_of (S' := T22.setTop (mkF m 58 #[.val (.ref a1), .val (.ref a2)] [(.int (0 : Int32))])) (fun t k => XS.iconst X22.here hx rfl (hb hby d2_57) k) ?_
      obtain ⟨fs, hr, hrun, hended, hW, hsame⟩ := X22.leave (v := some (.int (0 : Int32))) (fun h => by rw [Bd.returns] at h; cases h)
      subst hKd
      exact ⟨_, _, retN X22 hx (t := .boolean) Bd.returns (by simp) (hb hby d2_58) hr, hrun, hended, _, _, rfl, (by
        show Q2 Z a1 a2 i1 i2 x1 x2 r1 r2 g1 g2 h0 n0 _ T22.heap _
        rw [show T22.heap = h0 from e22]
        exact ⟨(by rw [own_cov, own_c1, own_c2, own_c3, if_pos hc8_3, if_neg hc15_5, if_pos hc29_21, if_neg hc36_23]), N0, rfl⟩), ⟨_, rfl⟩, hW, hsame.mono (by decide) (by decide)⟩
    refine own_of (S' := T20.setTop (mkF m 39 #[.val (.ref a1), .val (.ref a2)] [])) (fun t k => XS.ifYes X20.here hx rfl (pc0 := 29) (pc' := 39) rfl (hb hby d2_29) rfl ((if0 _ _).trans (feq hc29_21).2) (by decide) (by decide) k) ?_
    refine own_of (S' := T20.setTop (mkF m 40 #[.val (.ref a1), .val (.ref a2)] [(.ref a1)])) (fun t k => XS.aloadN X20.here hx rfl (hb hby d2_39) rfl rfl k) ?_
    obtain ⟨T28, X28, e28, st28⟩ := getF X20 hx hZ hown (host := "") (Or.inl (hw _ (List.mem_of_getElem? (i := 21) rfl))) Via.refl e20 F_gap_a1 (g := (mkF m 40 #[.val (.ref a1), .val (.ref a2)] [(.ref a1)])) rfl rfl (hb hby d2_40)
    refine own_of (S' := T28.setTop (mkF m 43 #[.val (.ref a1), .val (.ref a2)] [(.int g1)])) st28 ?_
    by_cases hc43_29 : g1 = (0 : Int32)
    · refine own_of (S' := T28.setTop (mkF m 46 #[.val (.ref a1), .val (.ref a2)] [])) (fun t k => XS.ifNo X28.here hx rfl (hb hby d2_43) rfl ((if0 _ _).trans (teq hc43_29).2) k) ?_
      refine own_of (S' := T28.setTop (mkF m 47 #[.val (.ref a1), .val (.ref a2)] [(.ref a2)])) (fun t k => XS.aloadN X28.here hx rfl (hb hby d2_46) rfl rfl k) ?_
      obtain ⟨T30, X30, e30, st30⟩ := getF X28 hx hZ hown (host := "") (Or.inl (hw _ (List.mem_of_getElem? (i := 21) rfl))) Via.refl e28 F_gap_a2 (g := (mkF m 47 #[.val (.ref a1), .val (.ref a2)] [(.ref a2)])) rfl rfl (hb hby d2_47)
      refine own_of (S' := T30.setTop (mkF m 50 #[.val (.ref a1), .val (.ref a2)] [(.int g2)])) st30 ?_
      by_cases hc50_31 : g2 = (0 : Int32)
      · refine own_of (S' := T30.setTop (mkF m 53 #[.val (.ref a1), .val (.ref a2)] [])) (fun t k => XS.ifNo X30.here hx rfl (hb hby d2_50) rfl ((if0 _ _).trans (teq hc50_31).2) k) ?_
        refine own_of (S' := T30.setTop (mkF m 54 #[.val (.ref a1), .val (.ref a2)] [(.int (1 : Int32))])) (fun t k => XS.iconst X30.here hx rfl (hb hby d2_53) k) ?_
        refine own_of (S' := T30.setTop (mkF m 58 #[.val (.ref a1), .val (.ref a2)] [(.int (1 : Int32))])) (fun t k => XS.goto X30.here hx rfl (pc0 := 54) (pc' := 58) rfl (hb hby d2_54) (by decide) (by decide) k) ?_
        obtain ⟨fs, hr, hrun, hended, hW, hsame⟩ := X30.leave (v := some (.int (1 : Int32))) (fun h => by rw [Bd.returns] at h; cases h)
        subst hKd
        exact ⟨_, _, retN X30 hx (t := .boolean) Bd.returns (by simp) (hb hby d2_58) hr, hrun, hended, _, _, rfl, (by
          show Q2 Z a1 a2 i1 i2 x1 x2 r1 r2 g1 g2 h0 n0 _ T30.heap _
          rw [show T30.heap = h0 from e30]
          exact ⟨(by rw [own_cov, own_c1, own_c2, own_c3, if_pos hc8_3, if_neg hc15_5, if_neg hc29_21, if_pos hc43_29, if_pos hc50_31]), N0, rfl⟩), ⟨_, rfl⟩, hW, hsame.mono (by decide) (by decide)⟩
      refine own_of (S' := T30.setTop (mkF m 57 #[.val (.ref a1), .val (.ref a2)] [])) (fun t k => XS.ifYes X30.here hx rfl (pc0 := 50) (pc' := 57) rfl (hb hby d2_50) rfl ((if0 _ _).trans (feq hc50_31).2) (by decide) (by decide) k) ?_
      refine own_of (S' := T30.setTop (mkF m 58 #[.val (.ref a1), .val (.ref a2)] [(.int (0 : Int32))])) (fun t k => XS.iconst X30.here hx rfl (hb hby d2_57) k) ?_
      obtain ⟨fs, hr, hrun, hended, hW, hsame⟩ := X30.leave (v := some (.int (0 : Int32))) (fun h => by rw [Bd.returns] at h; cases h)
      subst hKd
      exact ⟨_, _, retN X30 hx (t := .boolean) Bd.returns (by simp) (hb hby d2_58) hr, hrun, hended, _, _, rfl, (by
        show Q2 Z a1 a2 i1 i2 x1 x2 r1 r2 g1 g2 h0 n0 _ T30.heap _
        rw [show T30.heap = h0 from e30]
        exact ⟨(by rw [own_cov, own_c1, own_c2, own_c3, if_pos hc8_3, if_neg hc15_5, if_neg hc29_21, if_pos hc43_29, if_neg hc50_31]), N0, rfl⟩), ⟨_, rfl⟩, hW, hsame.mono (by decide) (by decide)⟩
    refine own_of (S' := T28.setTop (mkF m 53 #[.val (.ref a1), .val (.ref a2)] [])) (fun t k => XS.ifYes X28.here hx rfl (pc0 := 43) (pc' := 53) rfl (hb hby d2_43) rfl ((if0 _ _).trans (feq hc43_29).2) (by decide) (by decide) k) ?_
    refine own_of (S' := T28.setTop (mkF m 54 #[.val (.ref a1), .val (.ref a2)] [(.int (1 : Int32))])) (fun t k => XS.iconst X28.here hx rfl (hb hby d2_53) k) ?_
    refine own_of (S' := T28.setTop (mkF m 58 #[.val (.ref a1), .val (.ref a2)] [(.int (1 : Int32))])) (fun t k => XS.goto X28.here hx rfl (pc0 := 54) (pc' := 58) rfl (hb hby d2_54) (by decide) (by decide) k) ?_
    obtain ⟨fs, hr, hrun, hended, hW, hsame⟩ := X28.leave (v := some (.int (1 : Int32))) (fun h => by rw [Bd.returns] at h; cases h)
    subst hKd
    exact ⟨_, _, retN X28 hx (t := .boolean) Bd.returns (by simp) (hb hby d2_58) hr, hrun, hended, _, _, rfl, (by
      show Q2 Z a1 a2 i1 i2 x1 x2 r1 r2 g1 g2 h0 n0 _ T28.heap _
      rw [show T28.heap = h0 from e28]
      exact ⟨(by rw [own_cov, own_c1, own_c2, own_c3, if_pos hc8_3, if_neg hc15_5, if_neg hc29_21, if_neg hc43_29]), N0, rfl⟩), ⟨_, rfl⟩, hW, hsame.mono (by decide) (by decide)⟩
  refine own_of (S' := T2.setTop (mkF m 57 #[.val (.ref a1), .val (.ref a2)] [])) (fun t k => XS.icmpYes X2.here hx rfl (pc0 := 8) (pc' := 57) rfl (hb hby d2_8) rfl (feq hc8_3).2 (by decide) (by decide) k) ?_
  refine own_of (S' := T2.setTop (mkF m 58 #[.val (.ref a1), .val (.ref a2)] [(.int (0 : Int32))])) (fun t k => XS.iconst X2.here hx rfl (hb hby d2_57) k) ?_
  obtain ⟨fs, hr, hrun, hended, hW, hsame⟩ := X2.leave (v := some (.int (0 : Int32))) (fun h => by rw [Bd.returns] at h; cases h)
  subst hKd
  exact ⟨_, _, retN X2 hx (t := .boolean) Bd.returns (by simp) (hb hby d2_58) hr, hrun, hended, _, _, rfl, (by
    show Q2 Z a1 a2 i1 i2 x1 x2 r1 r2 g1 g2 h0 n0 _ T2.heap _
    rw [show T2.heap = h0 from e2]
    exact ⟨(by rw [own_cov, if_neg hc8_3]), N0, rfl⟩), ⟨_, rfl⟩, hW, hsame.mono (by decide) (by decide)⟩
theorem pn_0 : plainName "com/example/keyfence/keyfence/LockModeCoversPinLaw" = true := by first | (simp [plainName, overriddenIn]; done) | decide +kernel
theorem pd0_0 : parseMethodDescriptor "(I)Lcom/example/keyfence/keyfence/LockMode;" = some ⟨[.int], some (.object "com/example/keyfence/keyfence/LockMode")⟩ := by decide +kernel
theorem pd0_1 : parseMethodDescriptor "(Lcom/example/keyfence/keyfence/LockMode;)Z" = some ⟨[(.object "com/example/keyfence/keyfence/LockMode")], some .boolean⟩ := by decide +kernel
theorem ef_0 (m : MethodId) (p1 : Int32) (p2 : Int32) : entryFrame m #[(.int p1), (.int p2)] maxLocals = mkF m 0 #[.val (.int p1), .val (.int p2), .unset, .unset, .unset, .unset, .unset] [] := by first | (simp [entryFrame, mkF, argsToLocals, Value.category, maxLocals]; done) | rfl
def Q0 (Z : State) (p1 : Int32) (p2 : Int32) (w_X : Addr) (w_X_REC_NOT_GAP : Addr) (w_X_GAP : Addr) (w_S : Addr) (w_S_REC_NOT_GAP : Addr) (w_S_GAP : Addr) (w_X_GAP_INSERT_INTENTION : Addr) (w_X_INSERT_INTENTION : Addr) (h0 : Heap) (n0 : Nat) (v : Option Value) (h : Heap) (L : List Loc) : Prop := (v = some (.int (1 : Int32))) ∧ (Fr n0 L)
set_option maxRecDepth 65536 in
set_option maxHeartbeats 40000000 in
theorem rm0 (l : Launch) (Z : State) (a0 : Array Value) (hw : ∀ d ∈ tables_1, d.before a0 Z = true) (ws : List Jvm.Cond) (p1 : Int32) (p2 : Int32) (w_X : Addr) (w_X_REC_NOT_GAP : Addr) (w_X_GAP : Addr) (w_S : Addr) (w_S_REC_NOT_GAP : Addr) (w_S_GAP : Addr) (w_X_GAP_INSERT_INTENTION : Addr) (w_X_INSERT_INTENTION : Addr) (h0 : Heap) (n0 : Nat) (Z0 : n0 ≤ h0.size) (S_X : Sta Z h0 "com/example/keyfence/keyfence/LockMode" "X" "Lcom/example/keyfence/keyfence/LockMode;" (.ref w_X)) (S_X_REC_NOT_GAP : Sta Z h0 "com/example/keyfence/keyfence/LockMode" "X_REC_NOT_GAP" "Lcom/example/keyfence/keyfence/LockMode;" (.ref w_X_REC_NOT_GAP)) (S_X_GAP : Sta Z h0 "com/example/keyfence/keyfence/LockMode" "X_GAP" "Lcom/example/keyfence/keyfence/LockMode;" (.ref w_X_GAP)) (S_S : Sta Z h0 "com/example/keyfence/keyfence/LockMode" "S" "Lcom/example/keyfence/keyfence/LockMode;" (.ref w_S)) (S_S_REC_NOT_GAP : Sta Z h0 "com/example/keyfence/keyfence/LockMode" "S_REC_NOT_GAP" "Lcom/example/keyfence/keyfence/LockMode;" (.ref w_S_REC_NOT_GAP)) (S_S_GAP : Sta Z h0 "com/example/keyfence/keyfence/LockMode" "S_GAP" "Lcom/example/keyfence/keyfence/LockMode;" (.ref w_S_GAP)) (S_X_GAP_INSERT_INTENTION : Sta Z h0 "com/example/keyfence/keyfence/LockMode" "X_GAP_INSERT_INTENTION" "Lcom/example/keyfence/keyfence/LockMode;" (.ref w_X_GAP_INSERT_INTENTION)) (S_X_INSERT_INTENTION : Sta Z h0 "com/example/keyfence/keyfence/LockMode" "X_INSERT_INTENTION" "Lcom/example/keyfence/keyfence/LockMode;" (.ref w_X_INSERT_INTENTION)) (E_w_X : Exa Z h0 w_X "com/example/keyfence/keyfence/LockMode") (E_w_X_REC_NOT_GAP : Exa Z h0 w_X_REC_NOT_GAP "com/example/keyfence/keyfence/LockMode") (E_w_X_GAP : Exa Z h0 w_X_GAP "com/example/keyfence/keyfence/LockMode") (E_w_S : Exa Z h0 w_S "com/example/keyfence/keyfence/LockMode") (E_w_S_REC_NOT_GAP : Exa Z h0 w_S_REC_NOT_GAP "com/example/keyfence/keyfence/LockMode") (E_w_S_GAP : Exa Z h0 w_S_GAP "com/example/keyfence/keyfence/LockMode") (E_w_X_GAP_INSERT_INTENTION : Exa Z h0 w_X_GAP_INSERT_INTENTION "com/example/keyfence/keyfence/LockMode") (E_w_X_INSERT_INTENTION : Exa Z h0 w_X_INSERT_INTENTION "com/example/keyfence/keyfence/LockMode") (F_insertIntention_w_X : Fld Z h0 w_X "com/example/keyfence/keyfence/LockMode" "insertIntention" "Z" (.int (0 : Int32))) (F_exclusive_w_X : Fld Z h0 w_X "com/example/keyfence/keyfence/LockMode" "exclusive" "Z" (.int (1 : Int32))) (F_record_w_X : Fld Z h0 w_X "com/example/keyfence/keyfence/LockMode" "record" "Z" (.int (1 : Int32))) (F_gap_w_X : Fld Z h0 w_X "com/example/keyfence/keyfence/LockMode" "gap" "Z" (.int (1 : Int32))) (F_insertIntention_w_X_REC_NOT_GAP : Fld Z h0 w_X_REC_NOT_GAP "com/example/keyfence/keyfence/LockMode" "insertIntention" "Z" (.int (0 : Int32))) (F_exclusive_w_X_REC_NOT_GAP : Fld Z h0 w_X_REC_NOT_GAP "com/example/keyfence/keyfence/LockMode" "exclusive" "Z" (.int (1 : Int32))) (F_record_w_X_REC_NOT_GAP : Fld Z h0 w_X_REC_NOT_GAP "com/example/keyfence/keyfence/LockMode" "record" "Z" (.int (1 : Int32))) (F_gap_w_X_REC_NOT_GAP : Fld Z h0 w_X_REC_NOT_GAP "com/example/keyfence/keyfence/LockMode" "gap" "Z" (.int (0 : Int32))) (F_insertIntention_w_X_GAP : Fld Z h0 w_X_GAP "com/example/keyfence/keyfence/LockMode" "insertIntention" "Z" (.int (0 : Int32))) (F_exclusive_w_X_GAP : Fld Z h0 w_X_GAP "com/example/keyfence/keyfence/LockMode" "exclusive" "Z" (.int (1 : Int32))) (F_record_w_X_GAP : Fld Z h0 w_X_GAP "com/example/keyfence/keyfence/LockMode" "record" "Z" (.int (0 : Int32))) (F_gap_w_X_GAP : Fld Z h0 w_X_GAP "com/example/keyfence/keyfence/LockMode" "gap" "Z" (.int (1 : Int32))) (F_insertIntention_w_S : Fld Z h0 w_S "com/example/keyfence/keyfence/LockMode" "insertIntention" "Z" (.int (0 : Int32))) (F_exclusive_w_S : Fld Z h0 w_S "com/example/keyfence/keyfence/LockMode" "exclusive" "Z" (.int (0 : Int32))) (F_record_w_S : Fld Z h0 w_S "com/example/keyfence/keyfence/LockMode" "record" "Z" (.int (1 : Int32))) (F_gap_w_S : Fld Z h0 w_S "com/example/keyfence/keyfence/LockMode" "gap" "Z" (.int (1 : Int32))) (F_insertIntention_w_S_REC_NOT_GAP : Fld Z h0 w_S_REC_NOT_GAP "com/example/keyfence/keyfence/LockMode" "insertIntention" "Z" (.int (0 : Int32))) (F_exclusive_w_S_REC_NOT_GAP : Fld Z h0 w_S_REC_NOT_GAP "com/example/keyfence/keyfence/LockMode" "exclusive" "Z" (.int (0 : Int32))) (F_record_w_S_REC_NOT_GAP : Fld Z h0 w_S_REC_NOT_GAP "com/example/keyfence/keyfence/LockMode" "record" "Z" (.int (1 : Int32))) (F_gap_w_S_REC_NOT_GAP : Fld Z h0 w_S_REC_NOT_GAP "com/example/keyfence/keyfence/LockMode" "gap" "Z" (.int (0 : Int32))) (F_insertIntention_w_S_GAP : Fld Z h0 w_S_GAP "com/example/keyfence/keyfence/LockMode" "insertIntention" "Z" (.int (0 : Int32))) (F_exclusive_w_S_GAP : Fld Z h0 w_S_GAP "com/example/keyfence/keyfence/LockMode" "exclusive" "Z" (.int (0 : Int32))) (F_record_w_S_GAP : Fld Z h0 w_S_GAP "com/example/keyfence/keyfence/LockMode" "record" "Z" (.int (0 : Int32))) (F_gap_w_S_GAP : Fld Z h0 w_S_GAP "com/example/keyfence/keyfence/LockMode" "gap" "Z" (.int (1 : Int32))) (F_insertIntention_w_X_GAP_INSERT_INTENTION : Fld Z h0 w_X_GAP_INSERT_INTENTION "com/example/keyfence/keyfence/LockMode" "insertIntention" "Z" (.int (1 : Int32))) (F_exclusive_w_X_GAP_INSERT_INTENTION : Fld Z h0 w_X_GAP_INSERT_INTENTION "com/example/keyfence/keyfence/LockMode" "exclusive" "Z" (.int (1 : Int32))) (F_record_w_X_GAP_INSERT_INTENTION : Fld Z h0 w_X_GAP_INSERT_INTENTION "com/example/keyfence/keyfence/LockMode" "record" "Z" (.int (0 : Int32))) (F_gap_w_X_GAP_INSERT_INTENTION : Fld Z h0 w_X_GAP_INSERT_INTENTION "com/example/keyfence/keyfence/LockMode" "gap" "Z" (.int (1 : Int32))) (F_insertIntention_w_X_INSERT_INTENTION : Fld Z h0 w_X_INSERT_INTENTION "com/example/keyfence/keyfence/LockMode" "insertIntention" "Z" (.int (1 : Int32))) (F_exclusive_w_X_INSERT_INTENTION : Fld Z h0 w_X_INSERT_INTENTION "com/example/keyfence/keyfence/LockMode" "exclusive" "Z" (.int (1 : Int32))) (F_record_w_X_INSERT_INTENTION : Fld Z h0 w_X_INSERT_INTENTION "com/example/keyfence/keyfence/LockMode" "record" "Z" (.int (0 : Int32))) (F_gap_w_X_INSERT_INTENTION : Fld Z h0 w_X_INSERT_INTENTION "com/example/keyfence/keyfence/LockMode" "gap" "Z" (.int (1 : Int32))) :
    MetFree l x (head1 (Jvm.Cond.code x code maxLocals ret :: ws) room_1) (fun a U => a = #[(.int p1), (.int p2)] ∧ Z.Warmed39 U.vm ∧ U.heap = h0) (fun _ _ _ _ _ => True) (fun _ U o U' => ∃ v L, o = .returned v ∧ Q0 Z p1 p2 w_X w_X_REC_NOT_GAP w_X_GAP w_S w_S_REC_NOT_GAP w_S_GAP w_X_GAP_INSERT_INTENTION w_X_INSERT_INTENTION h0 n0 v U'.heap L ∧ FrameEnd U o U' L room_1.cells room_1.slots) := by
  refine MetFree.of_bodySF (plainFor_of_name pn_0) hisR ?_
  intro p e s m args below meth c s₁ Bd hml0 hP hK
  obtain ⟨rfl, hZ, hh⟩ := hP
  have hx := Bd.exec
  have hby := Bd.bytes
  have hml : c.maxLocals = 7 := hml0
  have hown : s.vm.findClass "com/example/keyfence/keyfence/LockModeCoversPinLaw" = some m.cls := findClass_of_methodNamed Bd.named
  have hnm := (name_of_methodNamed Bd.named Bd.method).1
  have X0 : Stand p l e room_1 s m #[(.int p1), (.int p2)] below meth c s₁ [] 0 0 := Stand.of_body Bd
  have e0 : s₁.heap = h0 := by rw [← hh, Bd.state]; rfl
  have N0 := Fr.nil n0
  refine own_of (S := s₁.setTop (entryFrame m #[(.int p1), (.int p2)] maxLocals)) (S' := s₁.setTop (mkF m 0 #[.val (.int p1), .val (.int p2), .unset, .unset, .unset, .unset, .unset] [])) (K := fun s₂ o => ∃ v L, o = .returned v ∧ Q0 Z p1 p2 w_X w_X_REC_NOT_GAP w_X_GAP w_S w_S_REC_NOT_GAP w_S_GAP w_X_GAP_INSERT_INTENTION w_X_INSERT_INTENTION h0 n0 v s₂.heap L ∧ FrameEnd s o s₂ L room_1.cells room_1.slots) (fun t k => castTop (ef_0 m p1 p2) k) ?_
  refine own_nameK fun K hKd => ?_
  refine own_of (S' := s₁.setTop (mkF m 1 #[.val (.int p1), .val (.int p2), .unset, .unset, .unset, .unset, .unset] [(.int p1)])) (fun t k => XS.iloadN X0.here hx rfl (hb hby at_0) rfl k) ?_
  refine own_of (S' := s₁.setTop (mkF m 3 #[.val (.int p1), .val (.int p2), .unset, .unset, .unset, .unset, .unset] [(.int (7 : Int32)), (.int p1)])) (fun t k => XS.bipush X0.here hx rfl (hb hby at_1) k) ?_
  refine own_of (S' := s₁.setTop (mkF m 4 #[.val (.int p1), .val (.int p2), .unset, .unset, .unset, .unset, .unset] [(.int (p1 &&& (7 : Int32)))])) (fun t k => XS.iand X0.here hx rfl (hb hby at_3) rfl k) ?_
  refine own_of (S' := s₁.setTop (mkF m 5 #[.val (.int p1), .val (.int p2), .val (.int (p1 &&& (7 : Int32))), .unset, .unset, .unset, .unset] [])) (fun t k => XS.istoreN X0.here hx rfl (hb hby at_4) rfl (l' := #[.val (.int p1), .val (.int p2), .val (.int (p1 &&& (7 : Int32))), .unset, .unset, .unset, .unset]) rfl k) ?_
  refine own_of (S' := s₁.setTop (mkF m 6 #[.val (.int p1), .val (.int p2), .val (.int (p1 &&& (7 : Int32))), .unset, .unset, .unset, .unset] [(.int p2)])) (fun t k => XS.iloadN X0.here hx rfl (hb hby at_5) rfl k) ?_
  refine own_of (S' := s₁.setTop (mkF m 8 #[.val (.int p1), .val (.int p2), .val (.int (p1 &&& (7 : Int32))), .unset, .unset, .unset, .unset] [(.int (7 : Int32)), (.int p2)])) (fun t k => XS.bipush X0.here hx rfl (hb hby at_6) k) ?_
  refine own_of (S' := s₁.setTop (mkF m 9 #[.val (.int p1), .val (.int p2), .val (.int (p1 &&& (7 : Int32))), .unset, .unset, .unset, .unset] [(.int (p2 &&& (7 : Int32)))])) (fun t k => XS.iand X0.here hx rfl (hb hby at_8) rfl k) ?_
  refine own_of (S' := s₁.setTop (mkF m 10 #[.val (.int p1), .val (.int p2), .val (.int (p1 &&& (7 : Int32))), .val (.int (p2 &&& (7 : Int32))), .unset, .unset, .unset] [])) (fun t k => XS.istoreN X0.here hx rfl (hb hby at_9) rfl (l' := #[.val (.int p1), .val (.int p2), .val (.int (p1 &&& (7 : Int32))), .val (.int (p2 &&& (7 : Int32))), .unset, .unset, .unset]) rfl k) ?_
  refine own_of (S' := s₁.setTop (mkF m 11 #[.val (.int p1), .val (.int p2), .val (.int (p1 &&& (7 : Int32))), .val (.int (p2 &&& (7 : Int32))), .unset, .unset, .unset] [(.int (p1 &&& (7 : Int32)))])) (fun t k => XS.iloadN X0.here hx rfl (hb hby at_10) rfl k) ?_
  obtain ⟨_, _, ⟨T1, L1, k1, n1⟩, -, X1, ⟨Lc1, hQ1, l1, y1, z1⟩, st1⟩ := Jvm.LawKit.callS X0 hx (y := (⟨"com/example/keyfence/keyfence/LockModeCoversPinLaw", "mode", "(I)Lcom/example/keyfence/keyfence/LockMode;"⟩ : MethodName)) hown (mvT hZ (hw _ (List.mem_of_getElem? (i := 0) rfl))) (mvT hZ (hw _ (List.mem_of_getElem? (i := 1) rfl))) (mvT hZ (hw _ (List.mem_of_getElem? (i := 2) rfl))) (mvT hZ (hw _ (List.mem_of_getElem? (i := 3) rfl))) (by decide) (backOf (W := 0) (rm1 l Z a0 hw [] (p1 &&& (7 : Int32)) w_X w_X_REC_NOT_GAP w_X_GAP w_S w_S_REC_NOT_GAP w_S_GAP w_X_GAP_INSERT_INTENTION w_X_INSERT_INTENTION h0 n0 Z0 S_X S_X_REC_NOT_GAP S_X_GAP S_S S_S_REC_NOT_GAP S_S_GAP S_X_GAP_INSERT_INTENTION S_X_INSERT_INTENTION E_w_X E_w_X_REC_NOT_GAP E_w_X_GAP E_w_S E_w_S_REC_NOT_GAP E_w_S_GAP E_w_X_GAP_INSERT_INTENTION E_w_X_INSERT_INTENTION F_insertIntention_w_X F_exclusive_w_X F_record_w_X F_gap_w_X F_insertIntention_w_X_REC_NOT_GAP F_exclusive_w_X_REC_NOT_GAP F_record_w_X_REC_NOT_GAP F_gap_w_X_REC_NOT_GAP F_insertIntention_w_X_GAP F_exclusive_w_X_GAP F_record_w_X_GAP F_gap_w_X_GAP F_insertIntention_w_S F_exclusive_w_S F_record_w_S F_gap_w_S F_insertIntention_w_S_REC_NOT_GAP F_exclusive_w_S_REC_NOT_GAP F_record_w_S_REC_NOT_GAP F_gap_w_S_REC_NOT_GAP F_insertIntention_w_S_GAP F_exclusive_w_S_GAP F_record_w_S_GAP F_gap_w_S_GAP F_insertIntention_w_X_GAP_INSERT_INTENTION F_exclusive_w_X_GAP_INSERT_INTENTION F_record_w_X_GAP_INSERT_INTENTION F_gap_w_X_GAP_INSERT_INTENTION F_insertIntention_w_X_INSERT_INTENTION F_exclusive_w_X_INSERT_INTENTION F_record_w_X_INSERT_INTENTION F_gap_w_X_INSERT_INTENTION) hZ (hw _ (List.mem_of_getElem? (i := 3) rfl)) (hw _ (List.mem_of_getElem? (i := 2) rfl)) (by decide) (by decide)) (g := (mkF m 11 #[.val (.int p1), .val (.int p2), .val (.int (p1 &&& (7 : Int32))), .val (.int (p2 &&& (7 : Int32))), .unset, .unset, .unset] [(.int (p1 &&& (7 : Int32)))])) rfl (by rw [hml]; rfl) (argsL := [(.int (p1 &&& (7 : Int32)))]) (rest := []) (lenOf pd0_0 rfl) rfl (by show 2 * 0 + _ ≤ _; exact Nat.le_of_eq rfl) (hb hby at_11) (fun _ _ => ⟨rfl, e0, (by decide : 0 + _ ≤ _), (by decide : 0 + _ ≤ _)⟩)
  dsimp only [Pt.U, Pt.locs, Pt.cells, Pt.slots] at X1 l1 y1 z1 st1 hQ1
  subst l1 y1 z1
  obtain ⟨r_1, rfl, N1q, hh1, E_q1_0, F_insertIntention_q1_1, F_exclusive_q1_2, F_record_q1_3, F_gap_q1_4⟩ := hQ1
  have N1 := Fr.app N0 N1q
  rw [hh1] at E_q1_0 F_insertIntention_q1_1 F_exclusive_q1_2 F_record_q1_3 F_gap_q1_4
  refine own_of (S' := T1.setTop (mkF m 14 #[.val (.int p1), .val (.int p2), .val (.int (p1 &&& (7 : Int32))), .val (.int (p2 &&& (7 : Int32))), .unset, .unset, .unset] [(.ref r_1)])) st1 ?_
  refine own_of (S' := T1.setTop (mkF m 16 #[.val (.int p1), .val (.int p2), .val (.int (p1 &&& (7 : Int32))), .val (.int (p2 &&& (7 : Int32))), .val (.ref r_1), .unset, .unset] [])) (fun t k => XS.astore X1.here hx rfl (hb hby at_14) rfl rfl (l' := #[.val (.int p1), .val (.int p2), .val (.int (p1 &&& (7 : Int32))), .val (.int (p2 &&& (7 : Int32))), .val (.ref r_1), .unset, .unset]) rfl k) ?_
  refine own_of (S' := T1.setTop (mkF m 17 #[.val (.int p1), .val (.int p2), .val (.int (p1 &&& (7 : Int32))), .val (.int (p2 &&& (7 : Int32))), .val (.ref r_1), .unset, .unset] [(.int (p2 &&& (7 : Int32)))])) (fun t k => XS.iloadN X1.here hx rfl (hb hby at_16) rfl k) ?_
  obtain ⟨_, _, ⟨T2, L2, k2, n2⟩, -, X2, ⟨Lc2, hQ2, l2, y2, z2⟩, st2⟩ := Jvm.LawKit.callS X1 hx (y := (⟨"com/example/keyfence/keyfence/LockModeCoversPinLaw", "mode", "(I)Lcom/example/keyfence/keyfence/LockMode;"⟩ : MethodName)) hown (mvT hZ (hw _ (List.mem_of_getElem? (i := 0) rfl))) (mvT hZ (hw _ (List.mem_of_getElem? (i := 1) rfl))) (mvT hZ (hw _ (List.mem_of_getElem? (i := 2) rfl))) (mvT hZ (hw _ (List.mem_of_getElem? (i := 3) rfl))) (by decide) (backOf (W := 0) (rm1 l Z a0 hw [] (p2 &&& (7 : Int32)) w_X w_X_REC_NOT_GAP w_X_GAP w_S w_S_REC_NOT_GAP w_S_GAP w_X_GAP_INSERT_INTENTION w_X_INSERT_INTENTION h0 n0 Z0 S_X S_X_REC_NOT_GAP S_X_GAP S_S S_S_REC_NOT_GAP S_S_GAP S_X_GAP_INSERT_INTENTION S_X_INSERT_INTENTION E_w_X E_w_X_REC_NOT_GAP E_w_X_GAP E_w_S E_w_S_REC_NOT_GAP E_w_S_GAP E_w_X_GAP_INSERT_INTENTION E_w_X_INSERT_INTENTION F_insertIntention_w_X F_exclusive_w_X F_record_w_X F_gap_w_X F_insertIntention_w_X_REC_NOT_GAP F_exclusive_w_X_REC_NOT_GAP F_record_w_X_REC_NOT_GAP F_gap_w_X_REC_NOT_GAP F_insertIntention_w_X_GAP F_exclusive_w_X_GAP F_record_w_X_GAP F_gap_w_X_GAP F_insertIntention_w_S F_exclusive_w_S F_record_w_S F_gap_w_S F_insertIntention_w_S_REC_NOT_GAP F_exclusive_w_S_REC_NOT_GAP F_record_w_S_REC_NOT_GAP F_gap_w_S_REC_NOT_GAP F_insertIntention_w_S_GAP F_exclusive_w_S_GAP F_record_w_S_GAP F_gap_w_S_GAP F_insertIntention_w_X_GAP_INSERT_INTENTION F_exclusive_w_X_GAP_INSERT_INTENTION F_record_w_X_GAP_INSERT_INTENTION F_gap_w_X_GAP_INSERT_INTENTION F_insertIntention_w_X_INSERT_INTENTION F_exclusive_w_X_INSERT_INTENTION F_record_w_X_INSERT_INTENTION F_gap_w_X_INSERT_INTENTION) hZ (hw _ (List.mem_of_getElem? (i := 3) rfl)) (hw _ (List.mem_of_getElem? (i := 2) rfl)) (by decide) (by decide)) (g := (mkF m 17 #[.val (.int p1), .val (.int p2), .val (.int (p1 &&& (7 : Int32))), .val (.int (p2 &&& (7 : Int32))), .val (.ref r_1), .unset, .unset] [(.int (p2 &&& (7 : Int32)))])) rfl (by rw [hml]; rfl) (argsL := [(.int (p2 &&& (7 : Int32)))]) (rest := []) (lenOf pd0_0 rfl) rfl (by show 2 * 0 + _ ≤ _; exact Nat.le_of_eq rfl) (hb hby at_17) (fun _ _ => ⟨rfl, (hh1), (by decide : (0 + 0) + _ ≤ _), (by decide : (0 + 0) + _ ≤ _)⟩)
  dsimp only [Pt.U, Pt.locs, Pt.cells, Pt.slots] at X2 l2 y2 z2 st2 hQ2
  subst l2 y2 z2
  obtain ⟨r_2, rfl, N2q, hh2, E_q2_0, F_insertIntention_q2_1, F_exclusive_q2_2, F_record_q2_3, F_gap_q2_4⟩ := hQ2
  have N2 := Fr.app N1 N2q
  rw [hh2] at E_q2_0 F_insertIntention_q2_1 F_exclusive_q2_2 F_record_q2_3 F_gap_q2_4
  refine own_of (S' := T2.setTop (mkF m 20 #[.val (.int p1), .val (.int p2), .val (.int (p1 &&& (7 : Int32))), .val (.int (p2 &&& (7 : Int32))), .val (.ref r_1), .unset, .unset] [(.ref r_2)])) st2 ?_
  refine own_of (S' := T2.setTop (mkF m 22 #[.val (.int p1), .val (.int p2), .val (.int (p1 &&& (7 : Int32))), .val (.int (p2 &&& (7 : Int32))), .val (.ref r_1), .val (.ref r_2), .unset] [])) (fun t k => XS.astore X2.here hx rfl (hb hby at_20) rfl rfl (l' := #[.val (.int p1), .val (.int p2), .val (.int (p1 &&& (7 : Int32))), .val (.int (p2 &&& (7 : Int32))), .val (.ref r_1), .val (.ref r_2), .unset]) rfl k) ?_
  refine own_of (S' := T2.setTop (mkF m 25 #[.val (.int p1), .val (.int p2), .val (.int (p1 &&& (7 : Int32))), .val (.int (p2 &&& (7 : Int32))), .val (.ref r_1), .val (.ref r_2), .unset] [(.long (-4557607568865488321 : Int64))])) (X2.ldc2Long hx hown (mvT hZ (hw _ (List.mem_of_getElem? (i := 9) rfl))) (g := (mkF m 22 #[.val (.int p1), .val (.int p2), .val (.int (p1 &&& (7 : Int32))), .val (.int (p2 &&& (7 : Int32))), .val (.ref r_1), .val (.ref r_2), .unset] [])) rfl (hb hby at_22)) ?_
  refine own_of (S' := T2.setTop (mkF m 26 #[.val (.int p1), .val (.int p2), .val (.int (p1 &&& (7 : Int32))), .val (.int (p2 &&& (7 : Int32))), .val (.ref r_1), .val (.ref r_2), .unset] [(.int (p1 &&& (7 : Int32))), (.long (-4557607568865488321 : Int64))])) (fun t k => XS.iloadN X2.here hx rfl (hb hby at_25) rfl k) ?_
  refine own_of (S' := T2.setTop (mkF m 28 #[.val (.int p1), .val (.int p2), .val (.int (p1 &&& (7 : Int32))), .val (.int (p2 &&& (7 : Int32))), .val (.ref r_1), .val (.ref r_2), .unset] [(.int (8 : Int32)), (.int (p1 &&& (7 : Int32))), (.long (-4557607568865488321 : Int64))])) (fun t k => XS.bipush X2.here hx rfl (hb hby at_26) k) ?_
  refine own_of (S' := T2.setTop (mkF m 29 #[.val (.int p1), .val (.int p2), .val (.int (p1 &&& (7 : Int32))), .val (.int (p2 &&& (7 : Int32))), .val (.ref r_1), .val (.ref r_2), .unset] [(.int ((p1 &&& (7 : Int32)) * (8 : Int32))), (.long (-4557607568865488321 : Int64))])) (fun t k => XS.imul X2.here hx rfl (hb hby at_28) rfl k) ?_
  refine own_of (S' := T2.setTop (mkF m 30 #[.val (.int p1), .val (.int p2), .val (.int (p1 &&& (7 : Int32))), .val (.int (p2 &&& (7 : Int32))), .val (.ref r_1), .val (.ref r_2), .unset] [(.int (p2 &&& (7 : Int32))), (.int ((p1 &&& (7 : Int32)) * (8 : Int32))), (.long (-4557607568865488321 : Int64))])) (fun t k => XS.iloadN X2.here hx rfl (hb hby at_29) rfl k) ?_
  refine own_of (S' := T2.setTop (mkF m 31 #[.val (.int p1), .val (.int p2), .val (.int (p1 &&& (7 : Int32))), .val (.int (p2 &&& (7 : Int32))), .val (.ref r_1), .val (.ref r_2), .unset] [(.int (((p1 &&& (7 : Int32)) * (8 : Int32)) + (p2 &&& (7 : Int32)))), (.long (-4557607568865488321 : Int64))])) (fun t k => XS.iadd X2.here hx rfl (hb hby at_30) rfl k) ?_
  refine own_of (S' := T2.setTop (mkF m 32 #[.val (.int p1), .val (.int p2), .val (.int (p1 &&& (7 : Int32))), .val (.int (p2 &&& (7 : Int32))), .val (.ref r_1), .val (.ref r_2), .unset] [(.long (((-4557607568865488321 : Int64).toUInt64 >>> ((((p1 &&& (7 : Int32)) * (8 : Int32)) + (p2 &&& (7 : Int32))) &&& 0x3f).toInt64.toUInt64).toInt64))])) (fun t k => XS.lushr X2.here hx rfl (hb hby at_31) rfl k) ?_
  refine own_of (S' := T2.setTop (mkF m 33 #[.val (.int p1), .val (.int p2), .val (.int (p1 &&& (7 : Int32))), .val (.int (p2 &&& (7 : Int32))), .val (.ref r_1), .val (.ref r_2), .unset] [(.long (1 : Int64)), (.long (((-4557607568865488321 : Int64).toUInt64 >>> ((((p1 &&& (7 : Int32)) * (8 : Int32)) + (p2 &&& (7 : Int32))) &&& 0x3f).toInt64.toUInt64).toInt64))])) (fun t k => XS.lconst X2.here hx rfl (hb hby at_32) k) ?_
  refine own_of (S' := T2.setTop (mkF m 34 #[.val (.int p1), .val (.int p2), .val (.int (p1 &&& (7 : Int32))), .val (.int (p2 &&& (7 : Int32))), .val (.ref r_1), .val (.ref r_2), .unset] [(.long ((((-4557607568865488321 : Int64).toUInt64 >>> ((((p1 &&& (7 : Int32)) * (8 : Int32)) + (p2 &&& (7 : Int32))) &&& 0x3f).toInt64.toUInt64).toInt64) &&& (1 : Int64)))])) (fun t k => XS.land X2.here hx rfl (hb hby at_33) rfl k) ?_
  refine own_of (S' := T2.setTop (mkF m 35 #[.val (.int p1), .val (.int p2), .val (.int (p1 &&& (7 : Int32))), .val (.int (p2 &&& (7 : Int32))), .val (.ref r_1), .val (.ref r_2), .unset] [(.long (0 : Int64)), (.long ((((-4557607568865488321 : Int64).toUInt64 >>> ((((p1 &&& (7 : Int32)) * (8 : Int32)) + (p2 &&& (7 : Int32))) &&& 0x3f).toInt64.toUInt64).toInt64) &&& (1 : Int64)))])) (fun t k => XS.lconst X2.here hx rfl (hb hby at_34) k) ?_
  refine own_of (S' := T2.setTop (mkF m 36 #[.val (.int p1), .val (.int p2), .val (.int (p1 &&& (7 : Int32))), .val (.int (p2 &&& (7 : Int32))), .val (.ref r_1), .val (.ref r_2), .unset] [(.int (lcmpW ((((-4557607568865488321 : Int64).toUInt64 >>> ((((p1 &&& (7 : Int32)) * (8 : Int32)) + (p2 &&& (7 : Int32))) &&& 0x3f).toInt64.toUInt64).toInt64) &&& (1 : Int64)) (0 : Int64)))])) (fun t k => XS.lcmp X2.here hx rfl (hb hby at_35) rfl k) ?_
  by_cases hc36_3 : (lcmpW ((((-4557607568865488321 : Int64).toUInt64 >>> ((((p1 &&& (7 : Int32)) * (8 : Int32)) + (p2 &&& (7 : Int32))) &&& 0x3f).toInt64.toUInt64).toInt64) &&& (1 : Int64)) (0 : Int64)) = (0 : Int32)
  · refine own_of (S' := T2.setTop (mkF m 43 #[.val (.int p1), .val (.int p2), .val (.int (p1 &&& (7 : Int32))), .val (.int (p2 &&& (7 : Int32))), .val (.ref r_1), .val (.ref r_2), .unset] [])) (fun t k => XS.ifYes X2.here hx rfl (pc0 := 36) (pc' := 43) rfl (hb hby at_36) rfl ((if0 _ _).trans (teq hc36_3).1) (by decide) (by decide) k) ?_
    refine own_of (S' := T2.setTop (mkF m 44 #[.val (.int p1), .val (.int p2), .val (.int (p1 &&& (7 : Int32))), .val (.int (p2 &&& (7 : Int32))), .val (.ref r_1), .val (.ref r_2), .unset] [(.int (0 : Int32))])) (fun t k => XS.iconst X2.here hx rfl (hb hby at_43) k) ?_
    refine own_of (S' := T2.setTop (mkF m 46 #[.val (.int p1), .val (.int p2), .val (.int (p1 &&& (7 : Int32))), .val (.int (p2 &&& (7 : Int32))), .val (.ref r_1), .val (.ref r_2), .val (.int (0 : Int32))] [])) (fun t k => XS.istore X2.here hx rfl (hb hby at_44) rfl (l' := #[.val (.int p1), .val (.int p2), .val (.int (p1 &&& (7 : Int32))), .val (.int (p2 &&& (7 : Int32))), .val (.ref r_1), .val (.ref r_2), .val (.int (0 : Int32))]) rfl k) ?_
    refine own_of (S' := T2.setTop (mkF m 48 #[.val (.int p1), .val (.int p2), .val (.int (p1 &&& (7 : Int32))), .val (.int (p2 &&& (7 : Int32))), .val (.ref r_1), .val (.ref r_2), .val (.int (0 : Int32))] [(.ref r_1)])) (fun t k => XS.aload X2.here hx rfl (hb hby at_46) rfl rfl k) ?_
    refine own_of (S' := T2.setTop (mkF m 50 #[.val (.int p1), .val (.int p2), .val (.int (p1 &&& (7 : Int32))), .val (.int (p2 &&& (7 : Int32))), .val (.ref r_1), .val (.ref r_2), .val (.int (0 : Int32))] [(.ref r_2), (.ref r_1)])) (fun t k => XS.aload X2.here hx rfl (hb hby at_48) rfl rfl k) ?_
    obtain ⟨cq4, kq4, q4a, q4b, q4c⟩ := isOf hZ (hh2) E_q1_0
    obtain ⟨_, _, ⟨T4, L4, k4, n4⟩, -, X4, ⟨Lc4, hQ4, l4, y4, z4⟩, st4⟩ := X2.virtualBack hx (y := (⟨"com/example/keyfence/keyfence/LockMode", "covers", "(Lcom/example/keyfence/keyfence/LockMode;)Z"⟩ : MethodName)) (z := (⟨"com/example/keyfence/keyfence/LockMode", "covers", "(Lcom/example/keyfence/keyfence/LockMode;)Z"⟩ : MethodName)) hown (mvT hZ (hw _ (List.mem_of_getElem? (i := 10) rfl))) (mvT hZ (hw _ (List.mem_of_getElem? (i := 11) rfl))) (notFace_of_selects (args := #[]) (mvT hZ (hw _ (List.mem_of_getElem? (i := 13) rfl)))) (mvT hZ (hw _ (List.mem_of_getElem? (i := 13) rfl))) (mvT hZ (hw _ (List.mem_of_getElem? (i := 12) rfl))) (by decide) (backOf (W := 0) (rm2 l Z a0 hw [] r_1 r_2 (own_p8 (p1 &&& (7 : Int32)) (0 : Int32) (0 : Int32) (0 : Int32) (0 : Int32) (0 : Int32) (0 : Int32) (1 : Int32) (1 : Int32)) (own_p8 (p2 &&& (7 : Int32)) (0 : Int32) (0 : Int32) (0 : Int32) (0 : Int32) (0 : Int32) (0 : Int32) (1 : Int32) (1 : Int32)) (own_p8 (p1 &&& (7 : Int32)) (1 : Int32) (1 : Int32) (1 : Int32) (0 : Int32) (0 : Int32) (0 : Int32) (1 : Int32) (1 : Int32)) (own_p8 (p2 &&& (7 : Int32)) (1 : Int32) (1 : Int32) (1 : Int32) (0 : Int32) (0 : Int32) (0 : Int32) (1 : Int32) (1 : Int32)) (own_p8 (p1 &&& (7 : Int32)) (1 : Int32) (1 : Int32) (0 : Int32) (1 : Int32) (1 : Int32) (0 : Int32) (0 : Int32) (0 : Int32)) (own_p8 (p2 &&& (7 : Int32)) (1 : Int32) (1 : Int32) (0 : Int32) (1 : Int32) (1 : Int32) (0 : Int32) (0 : Int32) (0 : Int32)) (own_p8 (p1 &&& (7 : Int32)) (1 : Int32) (0 : Int32) (1 : Int32) (1 : Int32) (0 : Int32) (1 : Int32) (1 : Int32) (1 : Int32)) (own_p8 (p2 &&& (7 : Int32)) (1 : Int32) (0 : Int32) (1 : Int32) (1 : Int32) (0 : Int32) (1 : Int32) (1 : Int32) (1 : Int32)) h0 n0 Z0 F_insertIntention_q1_1 F_exclusive_q1_2 F_record_q1_3 F_gap_q1_4 F_insertIntention_q2_1 F_exclusive_q2_2 F_record_q2_3 F_gap_q2_4) hZ (hw _ (List.mem_of_getElem? (i := 14) rfl)) (hw _ (List.mem_of_getElem? (i := 5) rfl)) (by decide) (by decide)) q4a q4c (g := (mkF m 50 #[.val (.int p1), .val (.int p2), .val (.int (p1 &&& (7 : Int32))), .val (.int (p2 &&& (7 : Int32))), .val (.ref r_1), .val (.ref r_2), .val (.int (0 : Int32))] [(.ref r_2), (.ref r_1)])) rfl (by rw [hml]; rfl) (Steps.refl _) (argsL := [(.ref r_2)]) (rest := []) (lenOf pd0_1 rfl) rfl (by show 2 * 0 + _ ≤ _; exact Nat.le_of_eq rfl) (hb hby at_50) (fun _ _ => ⟨rfl, (hh2), (by decide : ((0 + 0) + 0) + _ ≤ _), (by decide : ((0 + 0) + 0) + _ ≤ _)⟩)
    dsimp only [Pt.U, Pt.locs, Pt.cells, Pt.slots] at X4 l4 y4 z4 st4 hQ4
    subst l4 y4 z4
    obtain ⟨rfl, N4q, hh4⟩ := hQ4
    have N4 := Fr.app N2 N4q
    refine own_of (S' := T4.setTop (mkF m 53 #[.val (.int p1), .val (.int p2), .val (.int (p1 &&& (7 : Int32))), .val (.int (p2 &&& (7 : Int32))), .val (.ref r_1), .val (.ref r_2), .val (.int (0 : Int32))] [(.int (own_cov (own_p8 (p1 &&& (7 : Int32)) (0 : Int32) (0 : Int32) (0 : Int32) (0 : Int32) (0 : Int32) (0 : Int32) (1 : Int32) (1 : Int32)) (own_p8 (p2 &&& (7 : Int32)) (0 : Int32) (0 : Int32) (0 : Int32) (0 : Int32) (0 : Int32) (0 : Int32) (1 : Int32) (1 : Int32)) (own_p8 (p1 &&& (7 : Int32)) (1 : Int32) (1 : Int32) (1 : Int32) (0 : Int32) (0 : Int32) (0 : Int32) (1 : Int32) (1 : Int32)) (own_p8 (p2 &&& (7 : Int32)) (1 : Int32) (1 : Int32) (1 : Int32) (0 : Int32) (0 : Int32) (0 : Int32) (1 : Int32) (1 : Int32)) (own_p8 (p1 &&& (7 : Int32)) (1 : Int32) (1 : Int32) (0 : Int32) (1 : Int32) (1 : Int32) (0 : Int32) (0 : Int32) (0 : Int32)) (own_p8 (p2 &&& (7 : Int32)) (1 : Int32) (1 : Int32) (0 : Int32) (1 : Int32) (1 : Int32) (0 : Int32) (0 : Int32) (0 : Int32)) (own_p8 (p1 &&& (7 : Int32)) (1 : Int32) (0 : Int32) (1 : Int32) (1 : Int32) (0 : Int32) (1 : Int32) (1 : Int32) (1 : Int32)) (own_p8 (p2 &&& (7 : Int32)) (1 : Int32) (0 : Int32) (1 : Int32) (1 : Int32) (0 : Int32) (1 : Int32) (1 : Int32) (1 : Int32))))])) (fun t k => st4.trans k) ?_
    refine own_of (S' := T4.setTop (mkF m 55 #[.val (.int p1), .val (.int p2), .val (.int (p1 &&& (7 : Int32))), .val (.int (p2 &&& (7 : Int32))), .val (.ref r_1), .val (.ref r_2), .val (.int (0 : Int32))] [(.int (0 : Int32)), (.int (own_cov (own_p8 (p1 &&& (7 : Int32)) (0 : Int32) (0 : Int32) (0 : Int32) (0 : Int32) (0 : Int32) (0 : Int32) (1 : Int32) (1 : Int32)) (own_p8 (p2 &&& (7 : Int32)) (0 : Int32) (0 : Int32) (0 : Int32) (0 : Int32) (0 : Int32) (0 : Int32) (1 : Int32) (1 : Int32)) (own_p8 (p1 &&& (7 : Int32)) (1 : Int32) (1 : Int32) (1 : Int32) (0 : Int32) (0 : Int32) (0 : Int32) (1 : Int32) (1 : Int32)) (own_p8 (p2 &&& (7 : Int32)) (1 : Int32) (1 : Int32) (1 : Int32) (0 : Int32) (0 : Int32) (0 : Int32) (1 : Int32) (1 : Int32)) (own_p8 (p1 &&& (7 : Int32)) (1 : Int32) (1 : Int32) (0 : Int32) (1 : Int32) (1 : Int32) (0 : Int32) (0 : Int32) (0 : Int32)) (own_p8 (p2 &&& (7 : Int32)) (1 : Int32) (1 : Int32) (0 : Int32) (1 : Int32) (1 : Int32) (0 : Int32) (0 : Int32) (0 : Int32)) (own_p8 (p1 &&& (7 : Int32)) (1 : Int32) (0 : Int32) (1 : Int32) (1 : Int32) (0 : Int32) (1 : Int32) (1 : Int32) (1 : Int32)) (own_p8 (p2 &&& (7 : Int32)) (1 : Int32) (0 : Int32) (1 : Int32) (1 : Int32) (0 : Int32) (1 : Int32) (1 : Int32) (1 : Int32))))])) (fun t k => XS.iload X4.here hx rfl (hb hby at_53) rfl k) ?_
    by_cases hc55_5 : (own_cov (own_p8 (p1 &&& (7 : Int32)) (0 : Int32) (0 : Int32) (0 : Int32) (0 : Int32) (0 : Int32) (0 : Int32) (1 : Int32) (1 : Int32)) (own_p8 (p2 &&& (7 : Int32)) (0 : Int32) (0 : Int32) (0 : Int32) (0 : Int32) (0 : Int32) (0 : Int32) (1 : Int32) (1 : Int32)) (own_p8 (p1 &&& (7 : Int32)) (1 : Int32) (1 : Int32) (1 : Int32) (0 : Int32) (0 : Int32) (0 : Int32) (1 : Int32) (1 : Int32)) (own_p8 (p2 &&& (7 : Int32)) (1 : Int32) (1 : Int32) (1 : Int32) (0 : Int32) (0 : Int32) (0 : Int32) (1 : Int32) (1 : Int32)) (own_p8 (p1 &&& (7 : Int32)) (1 : Int32) (1 : Int32) (0 : Int32) (1 : Int32) (1 : Int32) (0 : Int32) (0 : Int32) (0 : Int32)) (own_p8 (p2 &&& (7 : Int32)) (1 : Int32) (1 : Int32) (0 : Int32) (1 : Int32) (1 : Int32) (0 : Int32) (0 : Int32) (0 : Int32)) (own_p8 (p1 &&& (7 : Int32)) (1 : Int32) (0 : Int32) (1 : Int32) (1 : Int32) (0 : Int32) (1 : Int32) (1 : Int32) (1 : Int32)) (own_p8 (p2 &&& (7 : Int32)) (1 : Int32) (0 : Int32) (1 : Int32) (1 : Int32) (0 : Int32) (1 : Int32) (1 : Int32) (1 : Int32))) = (0 : Int32)
    · refine own_of (S' := T4.setTop (mkF m 58 #[.val (.int p1), .val (.int p2), .val (.int (p1 &&& (7 : Int32))), .val (.int (p2 &&& (7 : Int32))), .val (.ref r_1), .val (.ref r_2), .val (.int (0 : Int32))] [])) (fun t k => XS.icmpNo X4.here hx rfl (hb hby at_55) rfl (teq hc55_5).2 k) ?_
      refine own_of (S' := T4.setTop (mkF m 59 #[.val (.int p1), .val (.int p2), .val (.int (p1 &&& (7 : Int32))), .val (.int (p2 &&& (7 : Int32))), .val (.ref r_1), .val (.ref r_2), .val (.int (0 : Int32))] [(.int (1 : Int32))])) (fun t k => XS.iconst X4.here hx rfl (hb hby at_58) k) ?_
      refine own_of (S' := T4.setTop (mkF m 63 #[.val (.int p1), .val (.int p2), .val (.int (p1 &&& (7 : Int32))), .val (.int (p2 &&& (7 : Int32))), .val (.ref r_1), .val (.ref r_2), .val (.int (0 : Int32))] [(.int (1 : Int32))])) (fun t k => XS.goto X4.here hx rfl (pc0 := 59) (pc' := 63) rfl (hb hby at_59) (by decide) (by decide) k) ?_
      obtain ⟨fs, hr, hrun, hended, hW, hsame⟩ := X4.leave (v := some (.int (1 : Int32))) (fun h => by rw [Bd.returns] at h; cases h)
      subst hKd
      exact ⟨_, _, retN X4 hx (t := .boolean) Bd.returns (by simp) (hb hby at_63) hr, hrun, hended, _, _, rfl, (by
        show Q0 Z p1 p2 w_X w_X_REC_NOT_GAP w_X_GAP w_S w_S_REC_NOT_GAP w_S_GAP w_X_GAP_INSERT_INTENTION w_X_INSERT_INTENTION h0 n0 _ T4.heap _
        rw [show T4.heap = h0 from (hh4)]
        exact ⟨rfl, N4⟩), ⟨_, rfl⟩, hW, hsame.mono (by decide) (by decide)⟩
    refine own_of (S' := T4.setTop (mkF m 62 #[.val (.int p1), .val (.int p2), .val (.int (p1 &&& (7 : Int32))), .val (.int (p2 &&& (7 : Int32))), .val (.ref r_1), .val (.ref r_2), .val (.int (0 : Int32))] [])) (fun t k => XS.icmpYes X4.here hx rfl (pc0 := 55) (pc' := 62) rfl (hb hby at_55) rfl (feq hc55_5).2 (by decide) (by decide) k) ?_
    exact (hc55_5 ((own_key p1 p2).1 hc36_3)).elim
  refine own_of (S' := T2.setTop (mkF m 39 #[.val (.int p1), .val (.int p2), .val (.int (p1 &&& (7 : Int32))), .val (.int (p2 &&& (7 : Int32))), .val (.ref r_1), .val (.ref r_2), .unset] [])) (fun t k => XS.ifNo X2.here hx rfl (hb hby at_36) rfl ((if0 _ _).trans (feq hc36_3).1) k) ?_
  refine own_of (S' := T2.setTop (mkF m 40 #[.val (.int p1), .val (.int p2), .val (.int (p1 &&& (7 : Int32))), .val (.int (p2 &&& (7 : Int32))), .val (.ref r_1), .val (.ref r_2), .unset] [(.int (1 : Int32))])) (fun t k => XS.iconst X2.here hx rfl (hb hby at_39) k) ?_
  refine own_of (S' := T2.setTop (mkF m 44 #[.val (.int p1), .val (.int p2), .val (.int (p1 &&& (7 : Int32))), .val (.int (p2 &&& (7 : Int32))), .val (.ref r_1), .val (.ref r_2), .unset] [(.int (1 : Int32))])) (fun t k => XS.goto X2.here hx rfl (pc0 := 40) (pc' := 44) rfl (hb hby at_40) (by decide) (by decide) k) ?_
  refine own_of (S' := T2.setTop (mkF m 46 #[.val (.int p1), .val (.int p2), .val (.int (p1 &&& (7 : Int32))), .val (.int (p2 &&& (7 : Int32))), .val (.ref r_1), .val (.ref r_2), .val (.int (1 : Int32))] [])) (fun t k => XS.istore X2.here hx rfl (hb hby at_44) rfl (l' := #[.val (.int p1), .val (.int p2), .val (.int (p1 &&& (7 : Int32))), .val (.int (p2 &&& (7 : Int32))), .val (.ref r_1), .val (.ref r_2), .val (.int (1 : Int32))]) rfl k) ?_
  refine own_of (S' := T2.setTop (mkF m 48 #[.val (.int p1), .val (.int p2), .val (.int (p1 &&& (7 : Int32))), .val (.int (p2 &&& (7 : Int32))), .val (.ref r_1), .val (.ref r_2), .val (.int (1 : Int32))] [(.ref r_1)])) (fun t k => XS.aload X2.here hx rfl (hb hby at_46) rfl rfl k) ?_
  refine own_of (S' := T2.setTop (mkF m 50 #[.val (.int p1), .val (.int p2), .val (.int (p1 &&& (7 : Int32))), .val (.int (p2 &&& (7 : Int32))), .val (.ref r_1), .val (.ref r_2), .val (.int (1 : Int32))] [(.ref r_2), (.ref r_1)])) (fun t k => XS.aload X2.here hx rfl (hb hby at_48) rfl rfl k) ?_
  obtain ⟨cq6, kq6, q6a, q6b, q6c⟩ := isOf hZ (hh2) E_q1_0
  obtain ⟨_, _, ⟨T6, L6, k6, n6⟩, -, X6, ⟨Lc6, hQ6, l6, y6, z6⟩, st6⟩ := X2.virtualBack hx (y := (⟨"com/example/keyfence/keyfence/LockMode", "covers", "(Lcom/example/keyfence/keyfence/LockMode;)Z"⟩ : MethodName)) (z := (⟨"com/example/keyfence/keyfence/LockMode", "covers", "(Lcom/example/keyfence/keyfence/LockMode;)Z"⟩ : MethodName)) hown (mvT hZ (hw _ (List.mem_of_getElem? (i := 10) rfl))) (mvT hZ (hw _ (List.mem_of_getElem? (i := 11) rfl))) (notFace_of_selects (args := #[]) (mvT hZ (hw _ (List.mem_of_getElem? (i := 13) rfl)))) (mvT hZ (hw _ (List.mem_of_getElem? (i := 13) rfl))) (mvT hZ (hw _ (List.mem_of_getElem? (i := 12) rfl))) (by decide) (backOf (W := 0) (rm2 l Z a0 hw [] r_1 r_2 (own_p8 (p1 &&& (7 : Int32)) (0 : Int32) (0 : Int32) (0 : Int32) (0 : Int32) (0 : Int32) (0 : Int32) (1 : Int32) (1 : Int32)) (own_p8 (p2 &&& (7 : Int32)) (0 : Int32) (0 : Int32) (0 : Int32) (0 : Int32) (0 : Int32) (0 : Int32) (1 : Int32) (1 : Int32)) (own_p8 (p1 &&& (7 : Int32)) (1 : Int32) (1 : Int32) (1 : Int32) (0 : Int32) (0 : Int32) (0 : Int32) (1 : Int32) (1 : Int32)) (own_p8 (p2 &&& (7 : Int32)) (1 : Int32) (1 : Int32) (1 : Int32) (0 : Int32) (0 : Int32) (0 : Int32) (1 : Int32) (1 : Int32)) (own_p8 (p1 &&& (7 : Int32)) (1 : Int32) (1 : Int32) (0 : Int32) (1 : Int32) (1 : Int32) (0 : Int32) (0 : Int32) (0 : Int32)) (own_p8 (p2 &&& (7 : Int32)) (1 : Int32) (1 : Int32) (0 : Int32) (1 : Int32) (1 : Int32) (0 : Int32) (0 : Int32) (0 : Int32)) (own_p8 (p1 &&& (7 : Int32)) (1 : Int32) (0 : Int32) (1 : Int32) (1 : Int32) (0 : Int32) (1 : Int32) (1 : Int32) (1 : Int32)) (own_p8 (p2 &&& (7 : Int32)) (1 : Int32) (0 : Int32) (1 : Int32) (1 : Int32) (0 : Int32) (1 : Int32) (1 : Int32) (1 : Int32)) h0 n0 Z0 F_insertIntention_q1_1 F_exclusive_q1_2 F_record_q1_3 F_gap_q1_4 F_insertIntention_q2_1 F_exclusive_q2_2 F_record_q2_3 F_gap_q2_4) hZ (hw _ (List.mem_of_getElem? (i := 14) rfl)) (hw _ (List.mem_of_getElem? (i := 5) rfl)) (by decide) (by decide)) q6a q6c (g := (mkF m 50 #[.val (.int p1), .val (.int p2), .val (.int (p1 &&& (7 : Int32))), .val (.int (p2 &&& (7 : Int32))), .val (.ref r_1), .val (.ref r_2), .val (.int (1 : Int32))] [(.ref r_2), (.ref r_1)])) rfl (by rw [hml]; rfl) (Steps.refl _) (argsL := [(.ref r_2)]) (rest := []) (lenOf pd0_1 rfl) rfl (by show 2 * 0 + _ ≤ _; exact Nat.le_of_eq rfl) (hb hby at_50) (fun _ _ => ⟨rfl, (hh2), (by decide : ((0 + 0) + 0) + _ ≤ _), (by decide : ((0 + 0) + 0) + _ ≤ _)⟩)
  dsimp only [Pt.U, Pt.locs, Pt.cells, Pt.slots] at X6 l6 y6 z6 st6 hQ6
  subst l6 y6 z6
  obtain ⟨rfl, N6q, hh6⟩ := hQ6
  have N6 := Fr.app N2 N6q
  refine own_of (S' := T6.setTop (mkF m 53 #[.val (.int p1), .val (.int p2), .val (.int (p1 &&& (7 : Int32))), .val (.int (p2 &&& (7 : Int32))), .val (.ref r_1), .val (.ref r_2), .val (.int (1 : Int32))] [(.int (own_cov (own_p8 (p1 &&& (7 : Int32)) (0 : Int32) (0 : Int32) (0 : Int32) (0 : Int32) (0 : Int32) (0 : Int32) (1 : Int32) (1 : Int32)) (own_p8 (p2 &&& (7 : Int32)) (0 : Int32) (0 : Int32) (0 : Int32) (0 : Int32) (0 : Int32) (0 : Int32) (1 : Int32) (1 : Int32)) (own_p8 (p1 &&& (7 : Int32)) (1 : Int32) (1 : Int32) (1 : Int32) (0 : Int32) (0 : Int32) (0 : Int32) (1 : Int32) (1 : Int32)) (own_p8 (p2 &&& (7 : Int32)) (1 : Int32) (1 : Int32) (1 : Int32) (0 : Int32) (0 : Int32) (0 : Int32) (1 : Int32) (1 : Int32)) (own_p8 (p1 &&& (7 : Int32)) (1 : Int32) (1 : Int32) (0 : Int32) (1 : Int32) (1 : Int32) (0 : Int32) (0 : Int32) (0 : Int32)) (own_p8 (p2 &&& (7 : Int32)) (1 : Int32) (1 : Int32) (0 : Int32) (1 : Int32) (1 : Int32) (0 : Int32) (0 : Int32) (0 : Int32)) (own_p8 (p1 &&& (7 : Int32)) (1 : Int32) (0 : Int32) (1 : Int32) (1 : Int32) (0 : Int32) (1 : Int32) (1 : Int32) (1 : Int32)) (own_p8 (p2 &&& (7 : Int32)) (1 : Int32) (0 : Int32) (1 : Int32) (1 : Int32) (0 : Int32) (1 : Int32) (1 : Int32) (1 : Int32))))])) (fun t k => st6.trans k) ?_
  refine own_of (S' := T6.setTop (mkF m 55 #[.val (.int p1), .val (.int p2), .val (.int (p1 &&& (7 : Int32))), .val (.int (p2 &&& (7 : Int32))), .val (.ref r_1), .val (.ref r_2), .val (.int (1 : Int32))] [(.int (1 : Int32)), (.int (own_cov (own_p8 (p1 &&& (7 : Int32)) (0 : Int32) (0 : Int32) (0 : Int32) (0 : Int32) (0 : Int32) (0 : Int32) (1 : Int32) (1 : Int32)) (own_p8 (p2 &&& (7 : Int32)) (0 : Int32) (0 : Int32) (0 : Int32) (0 : Int32) (0 : Int32) (0 : Int32) (1 : Int32) (1 : Int32)) (own_p8 (p1 &&& (7 : Int32)) (1 : Int32) (1 : Int32) (1 : Int32) (0 : Int32) (0 : Int32) (0 : Int32) (1 : Int32) (1 : Int32)) (own_p8 (p2 &&& (7 : Int32)) (1 : Int32) (1 : Int32) (1 : Int32) (0 : Int32) (0 : Int32) (0 : Int32) (1 : Int32) (1 : Int32)) (own_p8 (p1 &&& (7 : Int32)) (1 : Int32) (1 : Int32) (0 : Int32) (1 : Int32) (1 : Int32) (0 : Int32) (0 : Int32) (0 : Int32)) (own_p8 (p2 &&& (7 : Int32)) (1 : Int32) (1 : Int32) (0 : Int32) (1 : Int32) (1 : Int32) (0 : Int32) (0 : Int32) (0 : Int32)) (own_p8 (p1 &&& (7 : Int32)) (1 : Int32) (0 : Int32) (1 : Int32) (1 : Int32) (0 : Int32) (1 : Int32) (1 : Int32) (1 : Int32)) (own_p8 (p2 &&& (7 : Int32)) (1 : Int32) (0 : Int32) (1 : Int32) (1 : Int32) (0 : Int32) (1 : Int32) (1 : Int32) (1 : Int32))))])) (fun t k => XS.iload X6.here hx rfl (hb hby at_53) rfl k) ?_
  by_cases hc55_7 : (own_cov (own_p8 (p1 &&& (7 : Int32)) (0 : Int32) (0 : Int32) (0 : Int32) (0 : Int32) (0 : Int32) (0 : Int32) (1 : Int32) (1 : Int32)) (own_p8 (p2 &&& (7 : Int32)) (0 : Int32) (0 : Int32) (0 : Int32) (0 : Int32) (0 : Int32) (0 : Int32) (1 : Int32) (1 : Int32)) (own_p8 (p1 &&& (7 : Int32)) (1 : Int32) (1 : Int32) (1 : Int32) (0 : Int32) (0 : Int32) (0 : Int32) (1 : Int32) (1 : Int32)) (own_p8 (p2 &&& (7 : Int32)) (1 : Int32) (1 : Int32) (1 : Int32) (0 : Int32) (0 : Int32) (0 : Int32) (1 : Int32) (1 : Int32)) (own_p8 (p1 &&& (7 : Int32)) (1 : Int32) (1 : Int32) (0 : Int32) (1 : Int32) (1 : Int32) (0 : Int32) (0 : Int32) (0 : Int32)) (own_p8 (p2 &&& (7 : Int32)) (1 : Int32) (1 : Int32) (0 : Int32) (1 : Int32) (1 : Int32) (0 : Int32) (0 : Int32) (0 : Int32)) (own_p8 (p1 &&& (7 : Int32)) (1 : Int32) (0 : Int32) (1 : Int32) (1 : Int32) (0 : Int32) (1 : Int32) (1 : Int32) (1 : Int32)) (own_p8 (p2 &&& (7 : Int32)) (1 : Int32) (0 : Int32) (1 : Int32) (1 : Int32) (0 : Int32) (1 : Int32) (1 : Int32) (1 : Int32))) = (1 : Int32)
  · refine own_of (S' := T6.setTop (mkF m 58 #[.val (.int p1), .val (.int p2), .val (.int (p1 &&& (7 : Int32))), .val (.int (p2 &&& (7 : Int32))), .val (.ref r_1), .val (.ref r_2), .val (.int (1 : Int32))] [])) (fun t k => XS.icmpNo X6.here hx rfl (hb hby at_55) rfl (teq hc55_7).2 k) ?_
    refine own_of (S' := T6.setTop (mkF m 59 #[.val (.int p1), .val (.int p2), .val (.int (p1 &&& (7 : Int32))), .val (.int (p2 &&& (7 : Int32))), .val (.ref r_1), .val (.ref r_2), .val (.int (1 : Int32))] [(.int (1 : Int32))])) (fun t k => XS.iconst X6.here hx rfl (hb hby at_58) k) ?_
    refine own_of (S' := T6.setTop (mkF m 63 #[.val (.int p1), .val (.int p2), .val (.int (p1 &&& (7 : Int32))), .val (.int (p2 &&& (7 : Int32))), .val (.ref r_1), .val (.ref r_2), .val (.int (1 : Int32))] [(.int (1 : Int32))])) (fun t k => XS.goto X6.here hx rfl (pc0 := 59) (pc' := 63) rfl (hb hby at_59) (by decide) (by decide) k) ?_
    obtain ⟨fs, hr, hrun, hended, hW, hsame⟩ := X6.leave (v := some (.int (1 : Int32))) (fun h => by rw [Bd.returns] at h; cases h)
    subst hKd
    exact ⟨_, _, retN X6 hx (t := .boolean) Bd.returns (by simp) (hb hby at_63) hr, hrun, hended, _, _, rfl, (by
      show Q0 Z p1 p2 w_X w_X_REC_NOT_GAP w_X_GAP w_S w_S_REC_NOT_GAP w_S_GAP w_X_GAP_INSERT_INTENTION w_X_INSERT_INTENTION h0 n0 _ T6.heap _
      rw [show T6.heap = h0 from (hh6)]
      exact ⟨rfl, N6⟩), ⟨_, rfl⟩, hW, hsame.mono (by decide) (by decide)⟩
  refine own_of (S' := T6.setTop (mkF m 62 #[.val (.int p1), .val (.int p2), .val (.int (p1 &&& (7 : Int32))), .val (.int (p2 &&& (7 : Int32))), .val (.ref r_1), .val (.ref r_2), .val (.int (1 : Int32))] [])) (fun t k => XS.icmpYes X6.here hx rfl (pc0 := 55) (pc' := 62) rfl (hb hby at_55) rfl (feq hc55_7).2 (by decide) (by decide) k) ?_
  exact (hc55_7 ((own_key p1 p2).2 hc36_3)).elim
set_option maxRecDepth 65536 in
set_option maxHeartbeats 40000000 in
theorem comes_1 {Post : Tables → Env → Array Value → State → Outcome → State → Prop} (hpost : ∀ tb e args s v u, (limb_1_1.after args s (.returned v) u = true ∧ limb_1_2.after args s (.returned v) u = true ∧ True) → FrameEnd s (.returned v) u (Jvm.fieldLocs frame_1_writes args s ++ Jvm.arrayLocs frame_1_arrays args s ++ Jvm.staticLocs frame_1_statics s) 0 0 → Post tb e args s (.returned v) u) :
    ArmFor flags0 classFile x code maxLocals ret World_1 tables_1 room_1 Calls_1 rest_1 Pre_1 Post := by
  intro l hfl _ _ p e ha hc hk s m args below hf hA hF happ hP
  obtain ⟨hcalls, hrest, hpre⟩ := hP
  obtain ⟨-, -, -, hnamed, -, -, -, hat⟩ := (Spec.applies_iff hf).mp happ
  obtain ⟨hg, hn⟩ := and_e (Cond.before_iff.mp (show (Jvm.Cond.and given_1 narrow_1).before args s = true from hpre))
  obtain ⟨g1a, g1b⟩ := and_e hg
  obtain ⟨g2a, g2b⟩ := and_e g1b
  obtain ⟨g3a, g3b⟩ := and_e hn
  obtain ⟨g4a, g4b⟩ := and_e g3b
  obtain ⟨g5a, g5b⟩ := and_e g4b
  obtain ⟨g6a, g6b⟩ := and_e g5b
  obtain ⟨g7a, g7b⟩ := and_e g6b
  obtain ⟨g8a, g8b⟩ := and_e g7b
  obtain ⟨g9a, g9b⟩ := and_e g8b
  obtain ⟨g10a, g10b⟩ := and_e g9b
  obtain ⟨g11a, g11b⟩ := and_e g10b
  obtain ⟨g12a, g12b⟩ := and_e g11b
  obtain ⟨g13a, g13b⟩ := and_e g12b
  obtain ⟨g14a, g14b⟩ := and_e g13b
  obtain ⟨g15a, g15b⟩ := and_e g14b
  obtain ⟨g16a, g16b⟩ := and_e g15b
  obtain ⟨g17a, g17b⟩ := and_e g16b
  obtain ⟨g18a, g18b⟩ := and_e g17b
  obtain ⟨g19a, g19b⟩ := and_e g18b
  obtain ⟨g20a, g20b⟩ := and_e g19b
  obtain ⟨g21a, g21b⟩ := and_e g20b
  obtain ⟨g22a, g22b⟩ := and_e g21b
  obtain ⟨g23a, g23b⟩ := and_e g22b
  obtain ⟨g24a, g24b⟩ := and_e g23b
  obtain ⟨g25a, g25b⟩ := and_e g24b
  obtain ⟨g26a, g26b⟩ := and_e g25b
  obtain ⟨g27a, g27b⟩ := and_e g26b
  obtain ⟨g28a, g28b⟩ := and_e g27b
  obtain ⟨g29a, g29b⟩ := and_e g28b
  obtain ⟨g30a, g30b⟩ := and_e g29b
  obtain ⟨g31a, g31b⟩ := and_e g30b
  obtain ⟨g32a, g32b⟩ := and_e g31b
  obtain ⟨g33a, g33b⟩ := and_e g32b
  obtain ⟨g34a, g34b⟩ := and_e g33b
  obtain ⟨g35a, g35b⟩ := and_e g34b
  obtain ⟨g36a, g36b⟩ := and_e g35b
  obtain ⟨g37a, g37b⟩ := and_e g36b
  obtain ⟨g38a, g38b⟩ := and_e g37b
  obtain ⟨g39a, g39b⟩ := and_e g38b
  obtain ⟨g40a, g40b⟩ := and_e g39b
  obtain ⟨g41a, g41b⟩ := and_e g40b
  obtain ⟨w0_, w1_, rfl⟩ : ∃ w0_ w1_ : Value, args = #[w0_, w1_] := by
    have hs : args.size = 2 := by simpa [Cond.value, given_1] using g1a
    obtain ⟨L⟩ := args
    match L, hs with
    | [w0_, w1_], _ => exact ⟨w0_, w1_, rfl⟩
  have hw := fun d (hd : d ∈ tables_1) => atoms_spec (ws := Jvm.Cond.code x code maxLocals ret :: tables_1) hat d (List.mem_cons_of_mem _ hd)
  have hfit : Fit s := fun {y c} hc i hi => by
    obtain ⟨ha, rfl⟩ := Array.getElem?_eq_some_iff.mp hc
    have q := List.all_eq_true.mp ((Array.all_eq_true_iff_forall_mem.mp hF) _ (Array.getElem_mem ha)) i (List.mem_range.mpr hi)
    simpa [Array.getElem?_eq_getElem hi] using q
  obtain ⟨p1, ei0⟩ := is_v g2a
  obtain rfl : w0_ = (.int p1) := Option.some.inj ei0
  obtain ⟨p2, ei1⟩ := is_v g2b
  obtain rfl : w1_ = (.int p2) := Option.some.inj ei1
  obtain ⟨w_X, ev_w_X⟩ := exa_v g3a
  have S_X : Sta s s.heap "com/example/keyfence/keyfence/LockMode" "X" "Lcom/example/keyfence/keyfence/LockMode;" (.ref w_X) := Sta.start ev_w_X (Or.inr ⟨(hw _ (List.mem_of_getElem? (i := 5) rfl)), (hw _ (List.mem_of_getElem? (i := 6) rfl))⟩)
  have E_w_X : Exa s s.heap w_X "com/example/keyfence/keyfence/LockMode" := Exa.start ev_w_X g3a
  obtain ⟨w_S, ev_w_S⟩ := exa_v g4a
  have S_S : Sta s s.heap "com/example/keyfence/keyfence/LockMode" "S" "Lcom/example/keyfence/keyfence/LockMode;" (.ref w_S) := Sta.start ev_w_S (Or.inr ⟨(hw _ (List.mem_of_getElem? (i := 5) rfl)), (hw _ (List.mem_of_getElem? (i := 8) rfl))⟩)
  have E_w_S : Exa s s.heap w_S "com/example/keyfence/keyfence/LockMode" := Exa.start ev_w_S g4a
  obtain ⟨w_X_GAP_INSERT_INTENTION, ev_w_X_GAP_INSERT_INTENTION⟩ := exa_v g10a
  have S_X_GAP_INSERT_INTENTION : Sta s s.heap "com/example/keyfence/keyfence/LockMode" "X_GAP_INSERT_INTENTION" "Lcom/example/keyfence/keyfence/LockMode;" (.ref w_X_GAP_INSERT_INTENTION) := Sta.start ev_w_X_GAP_INSERT_INTENTION (Or.inr ⟨(hw _ (List.mem_of_getElem? (i := 5) rfl)), (hw _ (List.mem_of_getElem? (i := 24) rfl))⟩)
  have E_w_X_GAP_INSERT_INTENTION : Exa s s.heap w_X_GAP_INSERT_INTENTION "com/example/keyfence/keyfence/LockMode" := Exa.start ev_w_X_GAP_INSERT_INTENTION g10a
  obtain ⟨w_X_REC_NOT_GAP, ev_w_X_REC_NOT_GAP⟩ := exa_v g11a
  have S_X_REC_NOT_GAP : Sta s s.heap "com/example/keyfence/keyfence/LockMode" "X_REC_NOT_GAP" "Lcom/example/keyfence/keyfence/LockMode;" (.ref w_X_REC_NOT_GAP) := Sta.start ev_w_X_REC_NOT_GAP (Or.inr ⟨(hw _ (List.mem_of_getElem? (i := 5) rfl)), (hw _ (List.mem_of_getElem? (i := 26) rfl))⟩)
  have E_w_X_REC_NOT_GAP : Exa s s.heap w_X_REC_NOT_GAP "com/example/keyfence/keyfence/LockMode" := Exa.start ev_w_X_REC_NOT_GAP g11a
  obtain ⟨w_S_REC_NOT_GAP, ev_w_S_REC_NOT_GAP⟩ := exa_v g14a
  have S_S_REC_NOT_GAP : Sta s s.heap "com/example/keyfence/keyfence/LockMode" "S_REC_NOT_GAP" "Lcom/example/keyfence/keyfence/LockMode;" (.ref w_S_REC_NOT_GAP) := Sta.start ev_w_S_REC_NOT_GAP (Or.inr ⟨(hw _ (List.mem_of_getElem? (i := 5) rfl)), (hw _ (List.mem_of_getElem? (i := 28) rfl))⟩)
  have E_w_S_REC_NOT_GAP : Exa s s.heap w_S_REC_NOT_GAP "com/example/keyfence/keyfence/LockMode" := Exa.start ev_w_S_REC_NOT_GAP g14a
  obtain ⟨w_S_GAP, ev_w_S_GAP⟩ := exa_v g21a
  have S_S_GAP : Sta s s.heap "com/example/keyfence/keyfence/LockMode" "S_GAP" "Lcom/example/keyfence/keyfence/LockMode;" (.ref w_S_GAP) := Sta.start ev_w_S_GAP (Or.inr ⟨(hw _ (List.mem_of_getElem? (i := 5) rfl)), (hw _ (List.mem_of_getElem? (i := 30) rfl))⟩)
  have E_w_S_GAP : Exa s s.heap w_S_GAP "com/example/keyfence/keyfence/LockMode" := Exa.start ev_w_S_GAP g21a
  obtain ⟨w_X_INSERT_INTENTION, ev_w_X_INSERT_INTENTION⟩ := exa_v g26a
  have S_X_INSERT_INTENTION : Sta s s.heap "com/example/keyfence/keyfence/LockMode" "X_INSERT_INTENTION" "Lcom/example/keyfence/keyfence/LockMode;" (.ref w_X_INSERT_INTENTION) := Sta.start ev_w_X_INSERT_INTENTION (Or.inr ⟨(hw _ (List.mem_of_getElem? (i := 5) rfl)), (hw _ (List.mem_of_getElem? (i := 32) rfl))⟩)
  have E_w_X_INSERT_INTENTION : Exa s s.heap w_X_INSERT_INTENTION "com/example/keyfence/keyfence/LockMode" := Exa.start ev_w_X_INSERT_INTENTION g26a
  obtain ⟨w_X_GAP, ev_w_X_GAP⟩ := exa_v g33a
  have S_X_GAP : Sta s s.heap "com/example/keyfence/keyfence/LockMode" "X_GAP" "Lcom/example/keyfence/keyfence/LockMode;" (.ref w_X_GAP) := Sta.start ev_w_X_GAP (Or.inr ⟨(hw _ (List.mem_of_getElem? (i := 5) rfl)), (hw _ (List.mem_of_getElem? (i := 34) rfl))⟩)
  have E_w_X_GAP : Exa s s.heap w_X_GAP "com/example/keyfence/keyfence/LockMode" := Exa.start ev_w_X_GAP g33a
  have F_insertIntention_w_X : Fld s s.heap w_X "com/example/keyfence/keyfence/LockMode" "insertIntention" "Z" (.int (0 : Int32)) := Fld.start ((fld_at ev_w_X).symm.trans (own_eqI g5a))
  have F_insertIntention_w_S : Fld s s.heap w_S "com/example/keyfence/keyfence/LockMode" "insertIntention" "Z" (.int (0 : Int32)) := Fld.start ((fld_at ev_w_S).symm.trans (own_eqI g6a))
  have F_exclusive_w_X : Fld s s.heap w_X "com/example/keyfence/keyfence/LockMode" "exclusive" "Z" (.int (1 : Int32)) := Fld.start ((fld_at ev_w_X).symm.trans (own_eqI g7a))
  have F_record_w_X : Fld s s.heap w_X "com/example/keyfence/keyfence/LockMode" "record" "Z" (.int (1 : Int32)) := Fld.start ((fld_at ev_w_X).symm.trans (own_eqI g8a))
  have F_gap_w_X : Fld s s.heap w_X "com/example/keyfence/keyfence/LockMode" "gap" "Z" (.int (1 : Int32)) := Fld.start ((fld_at ev_w_X).symm.trans (own_eqI g9a))
  have F_insertIntention_w_X_GAP_INSERT_INTENTION : Fld s s.heap w_X_GAP_INSERT_INTENTION "com/example/keyfence/keyfence/LockMode" "insertIntention" "Z" (.int (1 : Int32)) := Fld.start ((fld_at ev_w_X_GAP_INSERT_INTENTION).symm.trans (own_eqI g12a))
  have F_insertIntention_w_X_REC_NOT_GAP : Fld s s.heap w_X_REC_NOT_GAP "com/example/keyfence/keyfence/LockMode" "insertIntention" "Z" (.int (0 : Int32)) := Fld.start ((fld_at ev_w_X_REC_NOT_GAP).symm.trans (own_eqI g13a))
  have F_insertIntention_w_S_REC_NOT_GAP : Fld s s.heap w_S_REC_NOT_GAP "com/example/keyfence/keyfence/LockMode" "insertIntention" "Z" (.int (0 : Int32)) := Fld.start ((fld_at ev_w_S_REC_NOT_GAP).symm.trans (own_eqI g15a))
  have F_exclusive_w_S_REC_NOT_GAP : Fld s s.heap w_S_REC_NOT_GAP "com/example/keyfence/keyfence/LockMode" "exclusive" "Z" (.int (0 : Int32)) := Fld.start ((fld_at ev_w_S_REC_NOT_GAP).symm.trans (own_eqI g16a))
  have F_exclusive_w_S : Fld s s.heap w_S "com/example/keyfence/keyfence/LockMode" "exclusive" "Z" (.int (0 : Int32)) := Fld.start ((fld_at ev_w_S).symm.trans (own_eqI g17a))
  have F_record_w_S_REC_NOT_GAP : Fld s s.heap w_S_REC_NOT_GAP "com/example/keyfence/keyfence/LockMode" "record" "Z" (.int (1 : Int32)) := Fld.start ((fld_at ev_w_S_REC_NOT_GAP).symm.trans (own_eqI g18a))
  have F_gap_w_S_REC_NOT_GAP : Fld s s.heap w_S_REC_NOT_GAP "com/example/keyfence/keyfence/LockMode" "gap" "Z" (.int (0 : Int32)) := Fld.start ((fld_at ev_w_S_REC_NOT_GAP).symm.trans (own_eqI g19a))
  have F_gap_w_S : Fld s s.heap w_S "com/example/keyfence/keyfence/LockMode" "gap" "Z" (.int (1 : Int32)) := Fld.start ((fld_at ev_w_S).symm.trans (own_eqI g20a))
  have F_insertIntention_w_S_GAP : Fld s s.heap w_S_GAP "com/example/keyfence/keyfence/LockMode" "insertIntention" "Z" (.int (0 : Int32)) := Fld.start ((fld_at ev_w_S_GAP).symm.trans (own_eqI g22a))
  have F_exclusive_w_S_GAP : Fld s s.heap w_S_GAP "com/example/keyfence/keyfence/LockMode" "exclusive" "Z" (.int (0 : Int32)) := Fld.start ((fld_at ev_w_S_GAP).symm.trans (own_eqI g23a))
  have F_record_w_S_GAP : Fld s s.heap w_S_GAP "com/example/keyfence/keyfence/LockMode" "record" "Z" (.int (0 : Int32)) := Fld.start ((fld_at ev_w_S_GAP).symm.trans (own_eqI g24a))
  have F_gap_w_S_GAP : Fld s s.heap w_S_GAP "com/example/keyfence/keyfence/LockMode" "gap" "Z" (.int (1 : Int32)) := Fld.start ((fld_at ev_w_S_GAP).symm.trans (own_eqI g25a))
  have F_insertIntention_w_X_INSERT_INTENTION : Fld s s.heap w_X_INSERT_INTENTION "com/example/keyfence/keyfence/LockMode" "insertIntention" "Z" (.int (1 : Int32)) := Fld.start ((fld_at ev_w_X_INSERT_INTENTION).symm.trans (own_eqI g27a))
  have F_exclusive_w_X_INSERT_INTENTION : Fld s s.heap w_X_INSERT_INTENTION "com/example/keyfence/keyfence/LockMode" "exclusive" "Z" (.int (1 : Int32)) := Fld.start ((fld_at ev_w_X_INSERT_INTENTION).symm.trans (own_eqI g28a))
  have F_record_w_X_INSERT_INTENTION : Fld s s.heap w_X_INSERT_INTENTION "com/example/keyfence/keyfence/LockMode" "record" "Z" (.int (0 : Int32)) := Fld.start ((fld_at ev_w_X_INSERT_INTENTION).symm.trans (own_eqI g29a))
  have F_record_w_X_GAP_INSERT_INTENTION : Fld s s.heap w_X_GAP_INSERT_INTENTION "com/example/keyfence/keyfence/LockMode" "record" "Z" (.int (0 : Int32)) := Fld.start ((fld_at ev_w_X_GAP_INSERT_INTENTION).symm.trans (own_eqI g30a))
  have F_gap_w_X_INSERT_INTENTION : Fld s s.heap w_X_INSERT_INTENTION "com/example/keyfence/keyfence/LockMode" "gap" "Z" (.int (1 : Int32)) := Fld.start ((fld_at ev_w_X_INSERT_INTENTION).symm.trans (own_eqI g31a))
  have F_exclusive_w_X_REC_NOT_GAP : Fld s s.heap w_X_REC_NOT_GAP "com/example/keyfence/keyfence/LockMode" "exclusive" "Z" (.int (1 : Int32)) := Fld.start ((fld_at ev_w_X_REC_NOT_GAP).symm.trans (own_eqI g32a))
  have F_insertIntention_w_X_GAP : Fld s s.heap w_X_GAP "com/example/keyfence/keyfence/LockMode" "insertIntention" "Z" (.int (0 : Int32)) := Fld.start ((fld_at ev_w_X_GAP).symm.trans (own_eqI g34a))
  have F_record_w_X_REC_NOT_GAP : Fld s s.heap w_X_REC_NOT_GAP "com/example/keyfence/keyfence/LockMode" "record" "Z" (.int (1 : Int32)) := Fld.start ((fld_at ev_w_X_REC_NOT_GAP).symm.trans (own_eqI g35a))
  have F_gap_w_X_REC_NOT_GAP : Fld s s.heap w_X_REC_NOT_GAP "com/example/keyfence/keyfence/LockMode" "gap" "Z" (.int (0 : Int32)) := Fld.start ((fld_at ev_w_X_REC_NOT_GAP).symm.trans (own_eqI g36a))
  have F_gap_w_X_GAP : Fld s s.heap w_X_GAP "com/example/keyfence/keyfence/LockMode" "gap" "Z" (.int (1 : Int32)) := Fld.start ((fld_at ev_w_X_GAP).symm.trans (own_eqI g37a))
  have F_exclusive_w_X_GAP : Fld s s.heap w_X_GAP "com/example/keyfence/keyfence/LockMode" "exclusive" "Z" (.int (1 : Int32)) := Fld.start ((fld_at ev_w_X_GAP).symm.trans (own_eqI g38a))
  have F_record_w_X_GAP : Fld s s.heap w_X_GAP "com/example/keyfence/keyfence/LockMode" "record" "Z" (.int (0 : Int32)) := Fld.start ((fld_at ev_w_X_GAP).symm.trans (own_eqI g39a))
  have F_exclusive_w_X_GAP_INSERT_INTENTION : Fld s s.heap w_X_GAP_INSERT_INTENTION "com/example/keyfence/keyfence/LockMode" "exclusive" "Z" (.int (1 : Int32)) := Fld.start ((fld_at ev_w_X_GAP_INSERT_INTENTION).symm.trans (own_eqI g40a))
  have F_gap_w_X_GAP_INSERT_INTENTION : Fld s s.heap w_X_GAP_INSERT_INTENTION "com/example/keyfence/keyfence/LockMode" "gap" "Z" (.int (1 : Int32)) := Fld.start ((fld_at ev_w_X_GAP_INSERT_INTENTION).symm.trans (own_eqI g41a))
  have F_record_w_S : Fld s s.heap w_S "com/example/keyfence/keyfence/LockMode" "record" "Z" (.int (1 : Int32)) := Fld.start ((fld_at ev_w_S).symm.trans (own_eqI g41b))
  obtain ⟨n, o, h1, h2, h3, _, L, rfl, ⟨rfl, N⟩, hq⟩ := rm0 l s _ hw tables_1 p1 p2 w_X w_X_REC_NOT_GAP w_X_GAP w_S w_S_REC_NOT_GAP w_S_GAP w_X_GAP_INSERT_INTENTION w_X_INSERT_INTENTION s.heap s.heap.size (Nat.le_refl _) S_X S_X_REC_NOT_GAP S_X_GAP S_S S_S_REC_NOT_GAP S_S_GAP S_X_GAP_INSERT_INTENTION S_X_INSERT_INTENTION E_w_X E_w_X_REC_NOT_GAP E_w_X_GAP E_w_S E_w_S_REC_NOT_GAP E_w_S_GAP E_w_X_GAP_INSERT_INTENTION E_w_X_INSERT_INTENTION F_insertIntention_w_X F_exclusive_w_X F_record_w_X F_gap_w_X F_insertIntention_w_X_REC_NOT_GAP F_exclusive_w_X_REC_NOT_GAP F_record_w_X_REC_NOT_GAP F_gap_w_X_REC_NOT_GAP F_insertIntention_w_X_GAP F_exclusive_w_X_GAP F_record_w_X_GAP F_gap_w_X_GAP F_insertIntention_w_S F_exclusive_w_S F_record_w_S F_gap_w_S F_insertIntention_w_S_REC_NOT_GAP F_exclusive_w_S_REC_NOT_GAP F_record_w_S_REC_NOT_GAP F_gap_w_S_REC_NOT_GAP F_insertIntention_w_S_GAP F_exclusive_w_S_GAP F_record_w_S_GAP F_gap_w_S_GAP F_insertIntention_w_X_GAP_INSERT_INTENTION F_exclusive_w_X_GAP_INSERT_INTENTION F_record_w_X_GAP_INSERT_INTENTION F_gap_w_X_GAP_INSERT_INTENTION F_insertIntention_w_X_INSERT_INTENTION F_exclusive_w_X_INSERT_INTENTION F_record_w_X_INSERT_INTENTION F_gap_w_X_INSERT_INTENTION p e ha hc hk s m _ below hf ((Spec.applies_iff_loose hf).mp happ).1 ⟨rfl, State.Warmed39.refl s, rfl⟩ trivial
  refine ⟨n, _, h1, h2, h3, hpost _ _ _ _ _ _ ⟨Cond.after_iff.mpr rfl, Cond.after_iff.mpr (eq_i res_at (Term.int_eval (1)) rfl), trivial⟩ ⟨hq.1, hq.2.1, (hq.2.2.sift fun y hy => Or.inr (N y hy)).mono (by decide) (by decide)⟩⟩
theorem main_1_1 : Claimed_1_1 := comes_1 fun _ _ _ _ _ _ h hF => ⟨h.1, hF⟩
theorem main_1_2 : Claimed_1_2 := comes_1 fun _ _ _ _ _ _ h hF => ⟨h.2.1, hF⟩
end Jvm.Pilot.@@N@@
namespace Jvm.Pilot.@@N@@
open Jvm Jvm.ClassFile Sem Op Lib Jvm.Free Jvm.Stand Jvm.Pilot.@@N@@.Jvm.D
/-! MADE BY PROGRAM (witnessworld.py) out of the Statement's table words and the real class files: 12 classes; the members and pool entries that the words name. The judged class is class 1, her method 2. -/
namespace start1
open Jvm.ClassFile
def u (s : String) : CpInfo := .utf8 (stringToUtf16 s)
/-- a pool by its gaps: so many unusable entries, then the entry; so many at the end -/
def gap : Nat → List CpInfo → List CpInfo
  | 0, r => r
  | n + 1, r => .unusable :: gap n r
def poolList (es : List (Nat × CpInfo)) (last : Nat) : List CpInfo := es.foldr (fun e r => gap e.1 (e.2 :: r)) (gap last [])
def pool (es : List (Nat × CpInfo)) (last : Nat) : Array CpInfo := ⟨poolList es last⟩
def fileOf (pool : Array CpInfo) (this : Nat) (attrs : Array Attribute := #[]) (ms : Array MethodInfo := #[]) (fl : Nat := 33) (sup : Nat := 0) (ifs : Array Nat := #[]) (fds : Array FieldInfo := #[]) : ClassFile where
  minorVersion := 0
  majorVersion := 65
  constantPool := pool
  accessFlags := fl
  thisClass := this
  superClass := sup
  interfaces := ifs
  fields := fds
  methods := ms
  attributes := attrs
def plain (name : String) (sup : Option ClassId) : Class where
  name := name
  kind := .ordinary
  loader := none
  accessFlags := 33
  super := sup
  interfaces := #[]
  cf := none
  fields := #[]
  methods := #[]
  instanceTypes := #[]
  staticTypes := #[]
  resolved := #[]
  callSites := []
  init := .initialized
  statics := none
  mirror := none

def pool0 : Array CpInfo := pool [(5, u "<init>"), (0, u "()V"), (1, .class_ 10), (1, u "java/lang/Object")] 113

def k0m0 : Method := { name := "<init>", desc := "()V", sig := { parameters := [], returnType := none }, accessFlags := 1, code := none }
/-- java/lang/Object -/
def k0 : Class := { plain "java/lang/Object" none with
  accessFlags := 33
  interfaces := #[]
  cf := some (fileOf pool0 8 #[] #[{ accessFlags := 1, nameIndex := 5, descriptorIndex := 6, attributes := #[] }] 33 0 #[] #[])
  fields := #[]
  methods := #[k0m0]
  instanceTypes := #[]
  staticTypes := #[]
  resolved := Array.replicate 124 none
  statics := none }

def pool1 : Array CpInfo := pool [(2, .class_ 4), (1, u "java/lang/Object"), (0, u "<init>"), (0, u "()V"), (0, .fieldref 8 9), (0, .class_ 10), (0, .nameAndType 11 12), (0, u "com/example/keyfence/keyfence/LockMode"), (0, u "X"), (0, u "Lcom/example/keyfence/keyfence/LockMode;"), (0, .fieldref 8 14), (0, .nameAndType 15 12), (0, u "X_REC_NOT_GAP"), (0, .fieldref 8 17), (0, .nameAndType 18 12), (0, u "X_GAP"), (0, .fieldref 8 20), (0, .nameAndType 21 12), (0, u "S"), (0, .fieldref 8 23), (0, .nameAndType 24 12), (0, u "S_REC_NOT_GAP"), (0, .fieldref 8 26), (0, .nameAndType 27 12), (0, u "S_GAP"), (0, .fieldref 8 29), (0, .nameAndType 30 12), (0, u "X_GAP_INSERT_INTENTION"), (0, .fieldref 8 32), (0, .nameAndType 33 12), (0, u "X_INSERT_INTENTION"), (0, .methodref 35 36), (0, .class_ 37), (0, .nameAndType 38 39), (0, u "com/example/keyfence/keyfence/LockModeCoversPinLaw"), (0, u "mode"), (0, u "(I)Lcom/example/keyfence/keyfence/LockMode;"), (0, .long 13889136504844063295), (1, .methodref 8 43), (0, .nameAndType 44 45), (0, u "covers"), (0, u "(Lcom/example/keyfence/keyfence/LockMode;)Z"), (0, u "TABLE"), (0, u "J"), (4, u "law"), (0, u "(II)Z")] 2

def k1m0 : Method := { name := "<init>", desc := "()V", sig := { parameters := [], returnType := none }, accessFlags := 2, code := none }
def k1c1 : Code := { maxStack := 2, maxLocals := 1, code := method_2_code, exceptionTable := #[], attributes := #[] }
def k1m1 : Method := { name := "mode", desc := "(I)Lcom/example/keyfence/keyfence/LockMode;", sig := { parameters := [.int], returnType := some (.object "com/example/keyfence/keyfence/LockMode") }, accessFlags := 10, code := some k1c1 }
def k1c2 : Code := { maxStack := 4, maxLocals := 7, code := code, exceptionTable := #[], attributes := #[] }
def k1m2 : Method := { name := "law", desc := "(II)Z", sig := { parameters := [.int, .int], returnType := some .boolean }, accessFlags := 9, code := some k1c2 }
/-- com/example/keyfence/keyfence/LockModeCoversPinLaw -/
def k1 : Class := { plain "com/example/keyfence/keyfence/LockModeCoversPinLaw" (some 0) with
  accessFlags := 49
  interfaces := #[]
  cf := some (fileOf pool1 35 #[] #[{ accessFlags := 2, nameIndex := 5, descriptorIndex := 6, attributes := #[] }, { accessFlags := 10, nameIndex := 38, descriptorIndex := 39, attributes := #[] }, { accessFlags := 9, nameIndex := 52, descriptorIndex := 53, attributes := #[] }] 49 2 #[] #[{ accessFlags := 26, nameIndex := 46, descriptorIndex := 47, attributes := #[] }])
  fields := #[{ name := "TABLE", type := .long, accessFlags := 26, slot := 0, constantValue := 0 }]
  methods := #[k1m0, k1m1, k1m2]
  instanceTypes := #[]
  staticTypes := #[.long]
  resolved := Array.replicate 56 none
  statics := none }

def pool2 : Array CpInfo := pool [(1, .class_ 2), (0, u "java/lang/constant/Constable"), (0, .class_ 4), (0, u "java/lang/Object")] 6

/-- java/lang/constant/Constable -/
def k2 : Class := { plain "java/lang/constant/Constable" (some 0) with
  accessFlags := 1537
  interfaces := #[]
  cf := some (fileOf pool2 1 #[] #[] 1537 3 #[] #[])
  fields := #[]
  methods := #[]
  instanceTypes := #[]
  staticTypes := #[]
  resolved := Array.replicate 11 none
  statics := none }

def pool3 : Array CpInfo := pool [(1, .class_ 2), (0, u "java/lang/Comparable"), (0, .class_ 4), (0, u "java/lang/Object")] 7

/-- java/lang/Comparable -/
def k3 : Class := { plain "java/lang/Comparable" (some 0) with
  accessFlags := 1537
  interfaces := #[]
  cf := some (fileOf pool3 1 #[] #[] 1537 3 #[] #[])
  fields := #[]
  methods := #[]
  instanceTypes := #[]
  staticTypes := #[]
  resolved := Array.replicate 12 none
  statics := none }

def pool4 : Array CpInfo := pool [(1, .class_ 2), (0, u "java/io/Serializable"), (0, .class_ 4), (0, u "java/lang/Object")] 2

/-- java/io/Serializable -/
def k4 : Class := { plain "java/io/Serializable" (some 0) with
  accessFlags := 1537
  interfaces := #[]
  cf := some (fileOf pool4 1 #[] #[] 1537 3 #[] #[])
  fields := #[]
  methods := #[]
  instanceTypes := #[]
  staticTypes := #[]
  resolved := Array.replicate 7 none
  statics := none }

def pool5 : Array CpInfo := pool [(2, .class_ 4), (1, u "java/lang/Enum"), (0, u "name"), (0, u "Ljava/lang/String;"), (2, u "ordinal"), (0, u "I"), (1, .class_ 14), (1, u "java/lang/Object"), (4, u "hash"), (86, .class_ 108), (1, u "java/lang/Enum$EnumDesc"), (2, .class_ 112), (0, u "java/lang/constant/Constable"), (0, .class_ 114), (0, u "java/lang/Comparable"), (0, .class_ 116), (0, u "java/io/Serializable")] 87

/-- java/lang/Enum -/
def k5 : Class := { plain "java/lang/Enum" (some 0) with
  accessFlags := 1057
  interfaces := #[2, 3, 4]
  cf := some (fileOf pool5 2 #[.nestMembers #[106]] #[] 1057 12 #[111, 113, 115] #[{ accessFlags := 18, nameIndex := 5, descriptorIndex := 6, attributes := #[] }, { accessFlags := 18, nameIndex := 9, descriptorIndex := 10, attributes := #[] }, { accessFlags := 2, nameIndex := 19, descriptorIndex := 10, attributes := #[] }])
  fields := #[{ name := "name", type := (.object "java/lang/String"), accessFlags := 18, slot := 0, constantValue := 0 }, { name := "ordinal", type := .int, accessFlags := 18, slot := 1, constantValue := 0 }, { name := "hash", type := .int, accessFlags := 2, slot := 2, constantValue := 0 }]
  methods := #[]
  instanceTypes := #[(.object "java/lang/String"), .int, .int]
  staticTypes := #[]
  resolved := Array.replicate 204 none
  statics := none }

def pool6 : Array CpInfo := pool [(1, .class_ 2), (0, u "com/example/keyfence/keyfence/LockMode"), (2, u "X"), (0, u "Lcom/example/keyfence/keyfence/LockMode;"), (2, u "X_REC_NOT_GAP"), (2, u "X_GAP"), (2, u "S"), (2, u "S_REC_NOT_GAP"), (2, u "S_GAP"), (2, u "X_GAP_INSERT_INTENTION"), (2, u "X_INSERT_INTENTION"), (2, u "$VALUES"), (0, u "[Lcom/example/keyfence/keyfence/LockMode;"), (6, .class_ 40), (1, u "java/lang/Enum"), (8, u "label"), (0, u "Ljava/lang/String;"), (0, .fieldref 1 52), (0, .nameAndType 53 54), (0, u "exclusive"), (0, u "Z"), (0, .fieldref 1 56), (0, .nameAndType 57 54), (0, u "record"), (0, .fieldref 1 59), (0, .nameAndType 60 54), (0, u "gap"), (0, .fieldref 1 62), (0, .nameAndType 63 54), (0, u "insertIntention"), (2, u "MODES"), (55, u "covers"), (0, u "(Lcom/example/keyfence/keyfence/LockMode;)Z")] 6

def k6c0 : Code := { maxStack := 2, maxLocals := 2, code := prog_38_method_11_code, exceptionTable := #[], attributes := #[] }
def k6m0 : Method := { name := "covers", desc := "(Lcom/example/keyfence/keyfence/LockMode;)Z", sig := { parameters := [(.object "com/example/keyfence/keyfence/LockMode")], returnType := some .boolean }, accessFlags := 0, code := some k6c0 }
/-- com/example/keyfence/keyfence/LockMode -/
def k6 : Class := { plain "com/example/keyfence/keyfence/LockMode" (some 5) with
  accessFlags := 16432
  interfaces := #[]
  cf := some (fileOf pool6 1 #[] #[{ accessFlags := 0, nameIndex := 122, descriptorIndex := 123, attributes := #[] }] 16432 38 #[] #[{ accessFlags := 16409, nameIndex := 5, descriptorIndex := 6, attributes := #[] }, { accessFlags := 16409, nameIndex := 9, descriptorIndex := 6, attributes := #[] }, { accessFlags := 16409, nameIndex := 12, descriptorIndex := 6, attributes := #[] }, { accessFlags := 16409, nameIndex := 15, descriptorIndex := 6, attributes := #[] }, { accessFlags := 16409, nameIndex := 18, descriptorIndex := 6, attributes := #[] }, { accessFlags := 16409, nameIndex := 21, descriptorIndex := 6, attributes := #[] }, { accessFlags := 16409, nameIndex := 24, descriptorIndex := 6, attributes := #[] }, { accessFlags := 16409, nameIndex := 27, descriptorIndex := 6, attributes := #[] }, { accessFlags := 26, nameIndex := 66, descriptorIndex := 31, attributes := #[] }, { accessFlags := 18, nameIndex := 49, descriptorIndex := 50, attributes := #[] }, { accessFlags := 18, nameIndex := 53, descriptorIndex := 54, attributes := #[] }, { accessFlags := 18, nameIndex := 57, descriptorIndex := 54, attributes := #[] }, { accessFlags := 18, nameIndex := 60, descriptorIndex := 54, attributes := #[] }, { accessFlags := 18, nameIndex := 63, descriptorIndex := 54, attributes := #[] }, { accessFlags := 4122, nameIndex := 30, descriptorIndex := 31, attributes := #[] }])
  fields := #[{ name := "X", type := (.object "com/example/keyfence/keyfence/LockMode"), accessFlags := 16409, slot := 0, constantValue := 0 }, { name := "X_REC_NOT_GAP", type := (.object "com/example/keyfence/keyfence/LockMode"), accessFlags := 16409, slot := 1, constantValue := 0 }, { name := "X_GAP", type := (.object "com/example/keyfence/keyfence/LockMode"), accessFlags := 16409, slot := 2, constantValue := 0 }, { name := "S", type := (.object "com/example/keyfence/keyfence/LockMode"), accessFlags := 16409, slot := 3, constantValue := 0 }, { name := "S_REC_NOT_GAP", type := (.object "com/example/keyfence/keyfence/LockMode"), accessFlags := 16409, slot := 4, constantValue := 0 }, { name := "S_GAP", type := (.object "com/example/keyfence/keyfence/LockMode"), accessFlags := 16409, slot := 5, constantValue := 0 }, { name := "X_GAP_INSERT_INTENTION", type := (.object "com/example/keyfence/keyfence/LockMode"), accessFlags := 16409, slot := 6, constantValue := 0 }, { name := "X_INSERT_INTENTION", type := (.object "com/example/keyfence/keyfence/LockMode"), accessFlags := 16409, slot := 7, constantValue := 0 }, { name := "MODES", type := (.array (.object "com/example/keyfence/keyfence/LockMode")), accessFlags := 26, slot := 8, constantValue := 0 }, { name := "label", type := (.object "java/lang/String"), accessFlags := 18, slot := 3, constantValue := 0 }, { name := "exclusive", type := .boolean, accessFlags := 18, slot := 4, constantValue := 0 }, { name := "record", type := .boolean, accessFlags := 18, slot := 5, constantValue := 0 }, { name := "gap", type := .boolean, accessFlags := 18, slot := 6, constantValue := 0 }, { name := "insertIntention", type := .boolean, accessFlags := 18, slot := 7, constantValue := 0 }, { name := "$VALUES", type := (.array (.object "com/example/keyfence/keyfence/LockMode")), accessFlags := 4122, slot := 9, constantValue := 0 }]
  methods := #[k6m0]
  instanceTypes := #[(.object "java/lang/String"), .int, .int, (.object "java/lang/String"), .boolean, .boolean, .boolean, .boolean]
  staticTypes := #[(.object "com/example/keyfence/keyfence/LockMode"), (.object "com/example/keyfence/keyfence/LockMode"), (.object "com/example/keyfence/keyfence/LockMode"), (.object "com/example/keyfence/keyfence/LockMode"), (.object "com/example/keyfence/keyfence/LockMode"), (.object "com/example/keyfence/keyfence/LockMode"), (.object "com/example/keyfence/keyfence/LockMode"), (.object "com/example/keyfence/keyfence/LockMode"), (.array (.object "com/example/keyfence/keyfence/LockMode")), (.array (.object "com/example/keyfence/keyfence/LockMode"))]
  resolved := Array.replicate 130 none
  statics := some 0 }

def pool7 : Array CpInfo := pool [(1, u "java/lang/Cloneable"), (0, .class_ 1), (0, u "java/lang/Object"), (0, .class_ 3)] 3

/-- java/lang/Cloneable -/
def k7 : Class := { plain "java/lang/Cloneable" (some 0) with
  accessFlags := 1537
  interfaces := #[]
  cf := some (fileOf pool7 2 #[] #[] 1537 4 #[] #[])
  fields := #[]
  methods := #[]
  instanceTypes := #[]
  staticTypes := #[]
  resolved := Array.replicate 8 none
  statics := none }

/-- the primitive byte -/
def k8 : Class := { plain "byte" none with kind := .primitive 'B', accessFlags := 0x411 }
/-- [B -/
def k9 : Class := { plain "[B" (some 0) with kind := .array 8 .byte, interfaces := #[7, 4], accessFlags := 1041 }

/-- the primitive int -/
def k10 : Class := { plain "int" none with kind := .primitive 'I', accessFlags := 0x411 }
/-- [I -/
def k11 : Class := { plain "[I" (some 0) with kind := .array 10 .int, interfaces := #[7, 4], accessFlags := 1041 }

def heap : Heap := #[{ cls := 6, slots := #[.ref 1, .ref 4, .ref 8, .ref 2, .ref 5, .ref 6, .ref 3, .ref 7, .null, .null], vm := .statics 6 },
  { cls := 6, slots := #[.null, .int 0, .int 0, .null, .int 1, .int 1, .int 1, .int 0], vm := .none },
  { cls := 6, slots := #[.null, .int 0, .int 0, .null, .int 0, .int 1, .int 1, .int 0], vm := .none },
  { cls := 6, slots := #[.null, .int 0, .int 0, .null, .int 1, .int 0, .int 1, .int 1], vm := .none },
  { cls := 6, slots := #[.null, .int 0, .int 0, .null, .int 1, .int 1, .int 0, .int 0], vm := .none },
  { cls := 6, slots := #[.null, .int 0, .int 0, .null, .int 0, .int 1, .int 0, .int 0], vm := .none },
  { cls := 6, slots := #[.null, .int 0, .int 0, .null, .int 0, .int 0, .int 1, .int 0], vm := .none },
  { cls := 6, slots := #[.null, .int 0, .int 0, .null, .int 1, .int 0, .int 1, .int 1], vm := .none },
  { cls := 6, slots := #[.null, .int 0, .int 0, .null, .int 1, .int 0, .int 1, .int 0], vm := .none }]
def classes : Array Class := #[k0, k1, k2, k3, k4, k5, k6, k7, k8, k9, k10, k11]
def interned : List (Array UInt16 × Addr) := []
def slotsUsed : Nat := 74
def theMethod : MethodId := ⟨1, 2⟩
def args0 : Array Value := #[.int 0, .int 0]
def aboutOver (below : List Frame) : State where
  vm := { classes := classes, interned := interned.toArray }
  heap := heap
  slotsUsed := slotsUsed
  threads := #[{ frames := .invoking theMethod args0 :: below }]
def below0 : List Frame := [.native { method := ⟨0, 0⟩, args := #[] }]
def about1 : State := aboutOver below0
def p0 : Program := .bare "" "" ""
def e0 : Env := launch0.env 0 0 0
theorem w_frames : about1.frames = Frame.invoking theMethod args0 :: below0 := rfl
set_option maxRecDepth 65536 in
theorem w_args : argsFit about1.vm theMethod args0 = true := by decide +kernel
set_option maxRecDepth 65536 in
theorem w_heap : heapFits about1 = true := by decide +kernel
set_option maxRecDepth 65536 in
theorem w_runnable : about1.curStatus? = some .runnable := by decide +kernel
set_option maxRecDepth 65536 in
theorem w_alone : about1.alone = true := by decide +kernel
set_option maxRecDepth 65536 in
theorem w_named : about1.methodNamed? x = some theMethod := by decide +kernel
set_option maxRecDepth 65536 in
theorem w_hears : about1.hears theMethod below0 = true := by decide +kernel
set_option maxRecDepth 65536 in
theorem w_ripe : about1.ripe theMethod args0 below0 = true := by decide +kernel
theorem w_running : about1.status = .running := rfl
set_option maxRecDepth 65536 in
theorem w_room : about1.hasRoom e0.platform room_1 = true :=
  launch0.hasRoom_least _ room_1 (by decide +kernel) (by decide +kernel) (by decide +kernel) (by decide +kernel) (by decide +kernel) (by decide +kernel)
theorem allAtoms_all (ts : List Jvm.Cond) (a : Array Jvm.Value) (st : Jvm.State) : (allAtoms ts).before a st = ts.all (fun c => c.before a st) := by
  induction ts with
  | nil => rfl
  | cons c t ih =>
    show (Jvm.Cond.and c (allAtoms t)).before a st = _
    rw [Jvm.Cond.before_and, ih, List.all_cons]
def words1 : List Jvm.Cond := Jvm.Cond.code x code maxLocals ret :: tables_1
/-- a 'code' word, met by the world's own term for the bytes: nothing is compared byte by byte -/
theorem code_word {y : MethodName} {bytes : ByteArray} {mx : Nat} {rt : Option FieldType} {a : Array Value} {s : State} {m : MethodId} {meth : Method} {c : Code} (h1 : s.methodNamed? y = some m) (h2 : s.vm.method? m = some meth) (h3 : meth.code = some c) (h4 : c.code = bytes)
    (h5 : (c.maxLocals == mx && c.exceptionTable.isEmpty && decide (c.maxStack ≤ mostOperands) && decide (meth.sig.returnType = rt) && !meth.locks && decide (parseMethodDescriptor y.desc = some meth.sig)) = true) : (Jvm.Cond.code y bytes mx rt).before a s = true := by
  simp only [Bool.and_eq_true, beq_iff_eq, Bool.not_eq_true', decide_eq_true_eq] at h5
  obtain ⟨⟨⟨⟨⟨g1, g2⟩, g3⟩, g4⟩, g5⟩, g6⟩ := h5
  simp [Cond.before, Cond.holds, Cond.value, h1, h2, h3, h4, g1, g2, g3, g4, g5, g6]
def isCode : Jvm.Cond → Bool
  | .code _ _ _ _ => true
  | _ => false
theorem all_split {L : List Jvm.Cond} {P : Jvm.Cond → Bool} (h1 : L.all (fun c => isCode c || P c) = true) (h2 : ∀ c ∈ L.filter isCode, P c = true) : L.all P = true := by
  refine List.all_eq_true.mpr fun c hc => ?_
  have h := List.all_eq_true.mp h1 c hc
  rcases Bool.eq_false_or_eq_true (isCode c) with hi | hi
  · exact h2 c (List.mem_filter.mpr ⟨hc, hi⟩)
  · simpa [hi] using h
set_option maxRecDepth 65536 in
theorem w_c0 : (Jvm.Cond.code x code maxLocals ret).before args0 about1 = true := code_word (m := ⟨1, 2⟩) (meth := k1m2) (c := k1c2) (by decide +kernel) rfl rfl rfl (by decide +kernel)
set_option maxRecDepth 65536 in
theorem w_c1 : (Jvm.Cond.code ({ cls := "com/example/keyfence/keyfence/LockModeCoversPinLaw", name := "mode", desc := "(I)Lcom/example/keyfence/keyfence/LockMode;" } : Jvm.MethodName) method_2_code (1 : Nat) (Option.some (Jvm.ClassFile.FieldType.object "com/example/keyfence/keyfence/LockMode"))).before args0 about1 = true := code_word (m := ⟨1, 1⟩) (meth := k1m1) (c := k1c1) (by decide +kernel) rfl rfl rfl (by decide +kernel)
set_option maxRecDepth 65536 in
theorem w_c2 : (Jvm.Cond.code ({ cls := "com/example/keyfence/keyfence/LockMode", name := "covers", desc := "(Lcom/example/keyfence/keyfence/LockMode;)Z" } : Jvm.MethodName) prog_38_method_11_code (2 : Nat) (Option.some Jvm.ClassFile.FieldType.boolean)).before args0 about1 = true := code_word (m := ⟨6, 0⟩) (meth := k6m0) (c := k6c0) (by decide +kernel) rfl rfl rfl (by decide +kernel)
def codes1 : List Jvm.Cond := [Jvm.Cond.code x code maxLocals ret, Jvm.Cond.code ({ cls := "com/example/keyfence/keyfence/LockModeCoversPinLaw", name := "mode", desc := "(I)Lcom/example/keyfence/keyfence/LockMode;" } : Jvm.MethodName) method_2_code (1 : Nat) (Option.some (Jvm.ClassFile.FieldType.object "com/example/keyfence/keyfence/LockMode")), Jvm.Cond.code ({ cls := "com/example/keyfence/keyfence/LockMode", name := "covers", desc := "(Lcom/example/keyfence/keyfence/LockMode;)Z" } : Jvm.MethodName) prog_38_method_11_code (2 : Nat) (Option.some Jvm.ClassFile.FieldType.boolean)]
set_option maxRecDepth 65536 in
theorem codes_eq : words1.filter isCode = codes1 := rfl
theorem w_codes : ∀ c ∈ words1.filter isCode, c.before args0 about1 = true := by
  rw [codes_eq]
  intro c hc
  simp only [codes1, List.mem_cons, List.not_mem_nil, or_false] at hc
  rcases hc with rfl | rfl | rfl
  · exact w_c0
  · exact w_c1
  · exact w_c2
set_option maxRecDepth 65536 in
theorem w_t1 : (words1.take 24).all (fun c => isCode c || c.before args0 about1) = true := by decide +kernel
set_option maxRecDepth 65536 in
theorem w_t2 : (words1.drop 24).all (fun c => isCode c || c.before args0 about1) = true := by decide +kernel
theorem w_tables : (allAtoms (Jvm.Cond.code x code maxLocals ret :: tables_1)).before args0 about1 = true := by
  rw [allAtoms_all]
  show words1.all (fun c => c.before args0 about1) = true
  refine all_split ?_ w_codes
  rw [← List.take_append_drop 24 words1, List.all_append, w_t1, w_t2]
  rfl
set_option maxRecDepth 65536 in
theorem w_case : (Jvm.Cond.and given_1 narrow_1).before args0 about1 = true := by decide +kernel
theorem w_applies : (headSpec (Jvm.Cond.code x code maxLocals ret :: tables_1) room_1).applies x e0.platform about1 = true :=
  (Spec.applies_iff w_frames).mpr ⟨w_running, w_runnable, w_alone, w_named, w_hears, w_ripe, w_room, w_tables⟩
theorem atStart : AtStart classFile x code maxLocals ret World_1 tables_1 room_1 Calls_1 rest_1 Pre_1 launch0 p0 e0 about1 theMethod args0 below0 :=
  ⟨lists_1, trivial, launch0.admits_env _ _ _, launch0.least_env, fairChoices_fair.cas, fairChoices_fair.clock, w_frames, w_args, w_heap, w_applies, trivial, trivial, w_case⟩
end start1
theorem witness_1 : WitnessClaimed_1 := ⟨start1.p0, start1.e0, start1.about1, start1.theMethod, start1.args0, start1.below0, start1.atStart⟩
end Jvm.Pilot.@@N@@
