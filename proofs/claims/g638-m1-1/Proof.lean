import JvmDerived
import JvmDerived.Pilot.@@N@@Statement
import JvmDerived.Pilot.@@N@@Code
set_option linter.unusedVariables false
set_option linter.unusedSimpArgs false
namespace Jvm.RoadKit
open Sem ClassFile Op Lib Jvm.Stand Jvm.Free Jvm.LawKit
section New
variable {p : Program} {l : Launch} {e : Env} {R : Room} {s : State} {m : MethodId} {args : Array Value} {below : List Frame} {meth : Method} {c : Code} {T : State} {locs : List Loc} {cells slots : Nat}
theorem retI (X : Stand p l e R s m args below meth c T locs cells slots) (hx : p.tables.exec = Jvm.exec) {pc : Nat} {Ls : Array Slot} {z : Int32} {rest : List Value} (hret : meth.sig.returnType = some .int) (hd : decode c.code pc = .ok (.ireturn, 1)) {fs : List Frame}
    (hl : ∀ (f : JFrame) (acts : List Action), f.method = m → f.locked = none → f.entered = [] → (doReturn e (T.setTop f) acts (some (.int z))).1 = T.setFrames fs) : Steps p.tables e below (T.setTop (mkF m pc Ls (.int z :: rest))) (T.setFrames fs) := by
  have hm' : T.vm.method? m = some meth := X.method'
  have hn : narrow .int (.int z) = .int z := rfl
  show Steps p.tables e below (T.setTop { method := m, pc := pc, locals := Ls, stack := _ :: rest, locked := none }) _
  jvm_step X.here [X.here.top, hx, hd, hm', hret, hn]
  first | (intro acts; rw [hl _ acts rfl rfl rfl]) | rw [hl _ _ rfl rfl rfl]
  exact Steps.refl _
end New
end Jvm.RoadKit
namespace Jvm.Pilot.@@N@@
open Jvm Jvm.ClassFile Sem Op Lib Jvm.Free Jvm.Stand Jvm.LawKit Jvm.RoadKit Bundle Jvm.Pilot.@@N@@.Jvm.D
def own_Goes (p : Program) (e : Env) (below : List Frame) (S : State) (K : State → Outcome → Prop) : Prop := ∃ s₂ o, Steps p.tables e below S s₂ ∧ s₂.status = .running ∧ Ended s₂ below o ∧ K s₂ o
theorem own_of {p : Program} {e : Env} {below : List Frame} {S S' : State} {K : State → Outcome → Prop} (k : ∀ t, Steps p.tables e below S' t → Steps p.tables e below S t) (h : own_Goes p e below S' K) : own_Goes p e below S K := by
  obtain ⟨t, o, h1, h2⟩ := h
  exact ⟨t, o, k t h1, h2⟩
theorem own_nameK {p : Program} {e : Env} {below : List Frame} {S : State} {K' : State → Outcome → Prop} (h : ∀ K, K = K' → own_Goes p e below S K) : own_Goes p e below S K' := h K' rfl
theorem own_nar {g : Int32} (h : g = (0 : Int32) ∨ g = (1 : Int32)) : nar .boolean g = g := by rcases h with rfl | rfl <;> rfl
theorem own_narV {g : Int32} (h : g = (0 : Int32) ∨ g = (1 : Int32)) : narrow .boolean (.int g) = .int g := by rcases h with rfl | rfl <;> rfl
theorem own_fitsZ {g : Int32} (h : g = (0 : Int32) ∨ g = (1 : Int32)) : fits .boolean (.int g) = true := by rcases h with rfl | rfl <;> rfl
theorem own_cat {v : Value} (h : v.isRef = true) : v.category = 1 := by
  rcases ref_cases h with rfl | ⟨a, rfl⟩ <;> rfl
theorem own_eqI {args : Array Value} {s : State} {t : Term} {k : Int32} (h : (Jvm.Cond.eq t (.int k)).value args s none s [] = some true) : t.eval args s none [] s = some (.int k) := by
  simp only [Cond.value, Term.eval] at h
  cases ht : t.eval args s none [] s with
  | none => simp [ht] at h
  | some x => cases x <;> simp [ht] at h ⊢; exact h
theorem own_eqL {args : Array Value} {s : State} {t : Term} {k : Int64} (h : (Jvm.Cond.eq t (.long k)).value args s none s [] = some true) : t.eval args s none [] s = some (.long k) := by
  simp only [Cond.value, Term.eval] at h
  cases ht : t.eval args s none [] s with
  | none => simp [ht] at h
  | some x => cases x <;> simp [ht] at h ⊢; exact h
def own_sel (k : Int32) (a b c d : Addr) : Addr := if k = (0 : Int32) then a else if k = (1 : Int32) then b else if k = (2 : Int32) then c else d
def own_cov (x y a b : Addr) : Int32 := if x = y then 1 else if x = b then (if y = a then 1 else 0) else 0
theorem own_m3 (p : Int32) : (p &&& (3 : Int32)) = 0 ∨ (p &&& (3 : Int32)) = 1 ∨ (p &&& (3 : Int32)) = 2 ∨ (p &&& (3 : Int32)) = 3 := by
  have h := c_mask p 3 2 (by decide) (by decide)
  have e0 : (0 : Int32).toInt = 0 := by decide
  have e1 : (1 : Int32).toInt = 1 := by decide
  have e2 : (2 : Int32).toInt = 2 := by decide
  have e3 : (3 : Int32).toInt = 3 := by decide
  rw [← Int32.toInt_inj, ← Int32.toInt_inj, ← Int32.toInt_inj, ← Int32.toInt_inj, e0, e1, e2, e3, h]
  omega
theorem own_key (p q : Int32) (a b c d : Addr) (n1 : a ≠ b) (n2 : a ≠ c) (n3 : a ≠ d) (n4 : b ≠ c) (n5 : b ≠ d) (n6 : c ≠ d) {r s : Addr} (hr : r = own_sel (p &&& (3 : Int32)) a b c d) (hs : s = own_sel (q &&& (3 : Int32)) a b c d) :
    ((((33841 : Int32) >>> ((((p &&& (3 : Int32)) * (4 : Int32)) + (q &&& (3 : Int32))) &&& 31)) &&& (1 : Int32)) = (0 : Int32) → own_cov r s a b = (0 : Int32)) ∧ (¬ (((33841 : Int32) >>> ((((p &&& (3 : Int32)) * (4 : Int32)) + (q &&& (3 : Int32))) &&& 31)) &&& (1 : Int32)) = (0 : Int32) → own_cov r s a b = (1 : Int32)) := by
  have s0 : own_sel 0 a b c d = a := rfl
  have s1 : own_sel 1 a b c d = b := rfl
  have s2 : own_sel 2 a b c d = c := rfl
  have s3 : own_sel 3 a b c d = d := rfl
  rcases own_m3 p with h | h | h | h <;> rcases own_m3 q with k | k | k | k <;> rw [h] at hr ⊢ <;> rw [k] at hs ⊢ <;> simp only [s0, s1, s2, s3] at hr hs <;> subst hr hs <;>
    exact ⟨fun u => by first | (exact absurd u (by decide)) | (simp [own_cov, n1, n2, n3, n4, n5, n6, n1.symm, n2.symm, n3.symm, n4.symm, n5.symm, n6.symm]), fun u => by first | (exact absurd (by decide) u) | (simp [own_cov, n1, n2, n3, n4, n5, n6, n1.symm, n2.symm, n3.symm, n4.symm, n5.symm, n6.symm])⟩
theorem d1_0 : decode method_2_code 0 = .ok (.iload_n 0, 1) := by decide +kernel
theorem d1_1 : decode method_2_code 1 = .ok (.ifCond .ne 7, 3) := by decide +kernel
theorem d1_4 : decode method_2_code 4 = .ok (.getstatic 7, 3) := by decide +kernel
theorem d1_7 : decode method_2_code 7 = .ok (.areturn, 1) := by decide +kernel
theorem d1_8 : decode method_2_code 8 = .ok (.iload_n 0, 1) := by decide +kernel
theorem d1_9 : decode method_2_code 9 = .ok (.iconst 1, 1) := by decide +kernel
theorem d1_10 : decode method_2_code 10 = .ok (.if_icmp .ne 7, 3) := by decide +kernel
theorem d1_13 : decode method_2_code 13 = .ok (.getstatic 13, 3) := by decide +kernel
theorem d1_16 : decode method_2_code 16 = .ok (.areturn, 1) := by decide +kernel
theorem d1_17 : decode method_2_code 17 = .ok (.iload_n 0, 1) := by decide +kernel
theorem d1_18 : decode method_2_code 18 = .ok (.iconst 2, 1) := by decide +kernel
theorem d1_19 : decode method_2_code 19 = .ok (.if_icmp .ne 7, 3) := by decide +kernel
theorem d1_22 : decode method_2_code 22 = .ok (.getstatic 16, 3) := by decide +kernel
theorem d1_25 : decode method_2_code 25 = .ok (.areturn, 1) := by decide +kernel
theorem d1_26 : decode method_2_code 26 = .ok (.getstatic 19, 3) := by decide +kernel
theorem d1_29 : decode method_2_code 29 = .ok (.areturn, 1) := by decide +kernel
theorem pn_1 : plainName "com/example/versions_to_view/versionstoview/lock/LockModeCoversPinLaw" = true := by first | (simp [plainName, overriddenIn]; done) | decide +kernel
theorem ef_1 (m : MethodId) (p1 : Int32) : entryFrame m #[(.int p1)] 1 = mkF m 0 #[.val (.int p1)] [] := by first | (simp [entryFrame, mkF, argsToLocals, Value.category]; done) | rfl
def Q1 (Z : State) (p1 : Int32) (w_SHARED : Addr) (w_EXCLUSIVE : Addr) (w_GAP : Addr) (w_INSERT_INTENTION : Addr) (h0 : Heap) (n0 : Nat) (v : Option Value) (h : Heap) (L : List Loc) : Prop := ∃ r : Addr, (v = some (.ref r)) ∧ (Fr n0 L) ∧ (h = h0) ∧ (Exa Z h r "com/example/versions_to_view/versionstoview/lock/LockMode") ∧ (r = own_sel p1 w_SHARED w_EXCLUSIVE w_GAP w_INSERT_INTENTION)
set_option maxRecDepth 65536 in
set_option maxHeartbeats 40000000 in
theorem rm1 (l : Launch) (Z : State) (a0 : Array Value) (hw : ∀ d ∈ tables_1, d.before a0 Z = true) (ws : List Jvm.Cond) (p1 : Int32) (w_SHARED : Addr) (w_EXCLUSIVE : Addr) (w_GAP : Addr) (w_INSERT_INTENTION : Addr) (h0 : Heap) (n0 : Nat) (Z0 : n0 ≤ h0.size) (S_SHARED : Sta Z h0 "com/example/versions_to_view/versionstoview/lock/LockMode" "SHARED" "Lcom/example/versions_to_view/versionstoview/lock/LockMode;" (.ref w_SHARED)) (S_EXCLUSIVE : Sta Z h0 "com/example/versions_to_view/versionstoview/lock/LockMode" "EXCLUSIVE" "Lcom/example/versions_to_view/versionstoview/lock/LockMode;" (.ref w_EXCLUSIVE)) (S_GAP : Sta Z h0 "com/example/versions_to_view/versionstoview/lock/LockMode" "GAP" "Lcom/example/versions_to_view/versionstoview/lock/LockMode;" (.ref w_GAP)) (S_INSERT_INTENTION : Sta Z h0 "com/example/versions_to_view/versionstoview/lock/LockMode" "INSERT_INTENTION" "Lcom/example/versions_to_view/versionstoview/lock/LockMode;" (.ref w_INSERT_INTENTION)) (E_w_SHARED : Exa Z h0 w_SHARED "com/example/versions_to_view/versionstoview/lock/LockMode") (E_w_EXCLUSIVE : Exa Z h0 w_EXCLUSIVE "com/example/versions_to_view/versionstoview/lock/LockMode") (E_w_GAP : Exa Z h0 w_GAP "com/example/versions_to_view/versionstoview/lock/LockMode") (E_w_INSERT_INTENTION : Exa Z h0 w_INSERT_INTENTION "com/example/versions_to_view/versionstoview/lock/LockMode") :
    MetFree l (⟨"com/example/versions_to_view/versionstoview/lock/LockModeCoversPinLaw", "mode", "(I)Lcom/example/versions_to_view/versionstoview/lock/LockMode;"⟩ : MethodName) (head1 (Jvm.Cond.code (⟨"com/example/versions_to_view/versionstoview/lock/LockModeCoversPinLaw", "mode", "(I)Lcom/example/versions_to_view/versionstoview/lock/LockMode;"⟩ : MethodName) method_2_code 1 (some (.object "com/example/versions_to_view/versionstoview/lock/LockMode")) :: ws) ({ frames := 0, cells := 0, slots := 0, locals := 0 } : Room)) (fun a U => a = #[(.int p1)] ∧ Z.Warmed39 U.vm ∧ U.heap = h0) (fun _ _ _ _ _ => True) (fun _ U o U' => ∃ v L, o = .returned v ∧ Q1 Z p1 w_SHARED w_EXCLUSIVE w_GAP w_INSERT_INTENTION h0 n0 v U'.heap L ∧ FrameEnd U o U' L ({ frames := 0, cells := 0, slots := 0, locals := 0 } : Room).cells ({ frames := 0, cells := 0, slots := 0, locals := 0 } : Room).slots) := by
  refine MetFree.of_bodySF (plainFor_of_name pn_1) hisR ?_
  intro p e s m args below meth c s₁ Bd hml0 hP hK
  obtain ⟨rfl, hZ, hh⟩ := hP
  have hx := Bd.exec
  have hby := Bd.bytes
  have hml : c.maxLocals = 1 := hml0
  have hown : s.vm.findClass "com/example/versions_to_view/versionstoview/lock/LockModeCoversPinLaw" = some m.cls := findClass_of_methodNamed Bd.named
  have hnm := (name_of_methodNamed Bd.named Bd.method).1
  have X0 : Stand p l e ({ frames := 0, cells := 0, slots := 0, locals := 0 } : Room) s m #[(.int p1)] below meth c s₁ [] 0 0 := Stand.of_body Bd
  have e0 : s₁.heap = h0 := by rw [← hh, Bd.state]; rfl
  have N0 := Fr.nil n0
  refine own_of (S := s₁.setTop (entryFrame m #[(.int p1)] 1)) (S' := s₁.setTop (mkF m 0 #[.val (.int p1)] [])) (K := fun s₂ o => ∃ v L, o = .returned v ∧ Q1 Z p1 w_SHARED w_EXCLUSIVE w_GAP w_INSERT_INTENTION h0 n0 v s₂.heap L ∧ FrameEnd s o s₂ L ({ frames := 0, cells := 0, slots := 0, locals := 0 } : Room).cells ({ frames := 0, cells := 0, slots := 0, locals := 0 } : Room).slots) (fun t k => castTop (ef_1 m p1) k) ?_
  refine own_nameK fun K hKd => ?_
  refine own_of (S' := s₁.setTop (mkF m 1 #[.val (.int p1)] [(.int p1)])) (fun t k => XS.iloadN X0.here hx rfl (hb hby d1_0) rfl k) ?_
  by_cases hc1_1 : p1 = (0 : Int32)
  · refine own_of (S' := s₁.setTop (mkF m 4 #[.val (.int p1)] [])) (fun t k => XS.ifNo X0.here hx rfl (hb hby d1_1) rfl ((if0 _ _).trans (teq hc1_1).2) k) ?_
    obtain ⟨T2, X2, e2, st2⟩ := getS2 X0 hx hZ hown (host := "") (Or.inl (hw _ (List.mem_of_getElem? (i := 5) rfl))) Via.refl e0 S_SHARED (g := (mkF m 4 #[.val (.int p1)] [])) rfl (hb hby d1_4)
    refine own_of (S' := T2.setTop (mkF m 7 #[.val (.int p1)] [(.ref w_SHARED)])) st2 ?_
    obtain ⟨fs, hr, hrun, hended, hW, hsame⟩ := X2.leave (v := some (.ref w_SHARED)) (fun h => by rw [Bd.returns] at h; cases h)
    subst hKd
    exact ⟨_, _, (retOut X2 hx Bd.returns rfl (Or.inr (Or.inr (Or.inr (Or.inr ⟨rfl, rfl, rfl⟩)))) (hb hby d1_7) hr), hrun, hended, _, _, rfl, (by
      show Q1 Z p1 w_SHARED w_EXCLUSIVE w_GAP w_INSERT_INTENTION h0 n0 _ T2.heap _
      rw [show T2.heap = h0 from e2]
      exact ⟨w_SHARED, rfl, N0, rfl, E_w_SHARED, (by rw [own_sel, if_pos hc1_1])⟩), ⟨_, rfl⟩, hW, hsame.mono (by decide) (by decide)⟩
  refine own_of (S' := s₁.setTop (mkF m 8 #[.val (.int p1)] [])) (fun t k => XS.ifYes X0.here hx rfl (pc0 := 1) (pc' := 8) rfl (hb hby d1_1) rfl ((if0 _ _).trans (feq hc1_1).2) (by decide) (by decide) k) ?_
  refine own_of (S' := s₁.setTop (mkF m 9 #[.val (.int p1)] [(.int p1)])) (fun t k => XS.iloadN X0.here hx rfl (hb hby d1_8) rfl k) ?_
  refine own_of (S' := s₁.setTop (mkF m 10 #[.val (.int p1)] [(.int (1 : Int32)), (.int p1)])) (fun t k => XS.iconst X0.here hx rfl (hb hby d1_9) k) ?_
  by_cases hc10_3 : p1 = (1 : Int32)
  · refine own_of (S' := s₁.setTop (mkF m 13 #[.val (.int p1)] [])) (fun t k => XS.icmpNo X0.here hx rfl (hb hby d1_10) rfl (teq hc10_3).2 k) ?_
    obtain ⟨T4, X4, e4, st4⟩ := getS2 X0 hx hZ hown (host := "") (Or.inl (hw _ (List.mem_of_getElem? (i := 19) rfl))) Via.refl e0 S_EXCLUSIVE (g := (mkF m 13 #[.val (.int p1)] [])) rfl (hb hby d1_13)
    refine own_of (S' := T4.setTop (mkF m 16 #[.val (.int p1)] [(.ref w_EXCLUSIVE)])) st4 ?_
    obtain ⟨fs, hr, hrun, hended, hW, hsame⟩ := X4.leave (v := some (.ref w_EXCLUSIVE)) (fun h => by rw [Bd.returns] at h; cases h)
    subst hKd
    exact ⟨_, _, (retOut X4 hx Bd.returns rfl (Or.inr (Or.inr (Or.inr (Or.inr ⟨rfl, rfl, rfl⟩)))) (hb hby d1_16) hr), hrun, hended, _, _, rfl, (by
      show Q1 Z p1 w_SHARED w_EXCLUSIVE w_GAP w_INSERT_INTENTION h0 n0 _ T4.heap _
      rw [show T4.heap = h0 from e4]
      exact ⟨w_EXCLUSIVE, rfl, N0, rfl, E_w_EXCLUSIVE, (by rw [own_sel, if_neg hc1_1, if_pos hc10_3])⟩), ⟨_, rfl⟩, hW, hsame.mono (by decide) (by decide)⟩
  refine own_of (S' := s₁.setTop (mkF m 17 #[.val (.int p1)] [])) (fun t k => XS.icmpYes X0.here hx rfl (pc0 := 10) (pc' := 17) rfl (hb hby d1_10) rfl (feq hc10_3).2 (by decide) (by decide) k) ?_
  refine own_of (S' := s₁.setTop (mkF m 18 #[.val (.int p1)] [(.int p1)])) (fun t k => XS.iloadN X0.here hx rfl (hb hby d1_17) rfl k) ?_
  refine own_of (S' := s₁.setTop (mkF m 19 #[.val (.int p1)] [(.int (2 : Int32)), (.int p1)])) (fun t k => XS.iconst X0.here hx rfl (hb hby d1_18) k) ?_
  by_cases hc19_5 : p1 = (2 : Int32)
  · refine own_of (S' := s₁.setTop (mkF m 22 #[.val (.int p1)] [])) (fun t k => XS.icmpNo X0.here hx rfl (hb hby d1_19) rfl (teq hc19_5).2 k) ?_
    obtain ⟨T6, X6, e6, st6⟩ := getS2 X0 hx hZ hown (host := "") (Or.inl (hw _ (List.mem_of_getElem? (i := 17) rfl))) Via.refl e0 S_GAP (g := (mkF m 22 #[.val (.int p1)] [])) rfl (hb hby d1_22)
    refine own_of (S' := T6.setTop (mkF m 25 #[.val (.int p1)] [(.ref w_GAP)])) st6 ?_
    obtain ⟨fs, hr, hrun, hended, hW, hsame⟩ := X6.leave (v := some (.ref w_GAP)) (fun h => by rw [Bd.returns] at h; cases h)
    subst hKd
    exact ⟨_, _, (retOut X6 hx Bd.returns rfl (Or.inr (Or.inr (Or.inr (Or.inr ⟨rfl, rfl, rfl⟩)))) (hb hby d1_25) hr), hrun, hended, _, _, rfl, (by
      show Q1 Z p1 w_SHARED w_EXCLUSIVE w_GAP w_INSERT_INTENTION h0 n0 _ T6.heap _
      rw [show T6.heap = h0 from e6]
      exact ⟨w_GAP, rfl, N0, rfl, E_w_GAP, (by rw [own_sel, if_neg hc1_1, if_neg hc10_3, if_pos hc19_5])⟩), ⟨_, rfl⟩, hW, hsame.mono (by decide) (by decide)⟩
  refine own_of (S' := s₁.setTop (mkF m 26 #[.val (.int p1)] [])) (fun t k => XS.icmpYes X0.here hx rfl (pc0 := 19) (pc' := 26) rfl (hb hby d1_19) rfl (feq hc19_5).2 (by decide) (by decide) k) ?_
  obtain ⟨T7, X7, e7, st7⟩ := getS2 X0 hx hZ hown (host := "") (Or.inl (hw _ (List.mem_of_getElem? (i := 8) rfl))) Via.refl e0 S_INSERT_INTENTION (g := (mkF m 26 #[.val (.int p1)] [])) rfl (hb hby d1_26)
  refine own_of (S' := T7.setTop (mkF m 29 #[.val (.int p1)] [(.ref w_INSERT_INTENTION)])) st7 ?_
  obtain ⟨fs, hr, hrun, hended, hW, hsame⟩ := X7.leave (v := some (.ref w_INSERT_INTENTION)) (fun h => by rw [Bd.returns] at h; cases h)
  subst hKd
  exact ⟨_, _, (retOut X7 hx Bd.returns rfl (Or.inr (Or.inr (Or.inr (Or.inr ⟨rfl, rfl, rfl⟩)))) (hb hby d1_29) hr), hrun, hended, _, _, rfl, (by
    show Q1 Z p1 w_SHARED w_EXCLUSIVE w_GAP w_INSERT_INTENTION h0 n0 _ T7.heap _
    rw [show T7.heap = h0 from e7]
    exact ⟨w_INSERT_INTENTION, rfl, N0, rfl, E_w_INSERT_INTENTION, (by rw [own_sel, if_neg hc1_1, if_neg hc10_3, if_neg hc19_5])⟩), ⟨_, rfl⟩, hW, hsame.mono (by decide) (by decide)⟩
theorem d2_0 : decode prog_17_method_5_code 0 = .ok (.aload_n 0, 1) := by decide +kernel
theorem d2_1 : decode prog_17_method_5_code 1 = .ok (.aload_n 1, 1) := by decide +kernel
theorem d2_2 : decode prog_17_method_5_code 2 = .ok (.if_acmp .eq 17, 3) := by decide +kernel
theorem d2_5 : decode prog_17_method_5_code 5 = .ok (.aload_n 0, 1) := by decide +kernel
theorem d2_6 : decode prog_17_method_5_code 6 = .ok (.getstatic 7, 3) := by decide +kernel
theorem d2_9 : decode prog_17_method_5_code 9 = .ok (.if_acmp .ne 14, 3) := by decide +kernel
theorem d2_12 : decode prog_17_method_5_code 12 = .ok (.aload_n 1, 1) := by decide +kernel
theorem d2_13 : decode prog_17_method_5_code 13 = .ok (.getstatic 3, 3) := by decide +kernel
theorem d2_16 : decode prog_17_method_5_code 16 = .ok (.if_acmp .ne 7, 3) := by decide +kernel
theorem d2_19 : decode prog_17_method_5_code 19 = .ok (.iconst 1, 1) := by decide +kernel
theorem d2_20 : decode prog_17_method_5_code 20 = .ok (.goto 4, 3) := by decide +kernel
theorem d2_23 : decode prog_17_method_5_code 23 = .ok (.iconst 0, 1) := by decide +kernel
theorem d2_24 : decode prog_17_method_5_code 24 = .ok (.ireturn, 1) := by decide +kernel
theorem pn_2 : plainName "com/example/versions_to_view/versionstoview/lock/LockMode" = true := by first | (simp [plainName, overriddenIn]; done) | decide +kernel
theorem ef_2 (m : MethodId) (a1 : Addr) (a2 : Addr) : entryFrame m #[(.ref a1), (.ref a2)] 2 = mkF m 0 #[.val (.ref a1), .val (.ref a2)] [] := by first | (simp [entryFrame, mkF, argsToLocals, Value.category]; done) | rfl
def Q2 (Z : State) (a1 : Addr) (a2 : Addr) (w_SHARED : Addr) (w_EXCLUSIVE : Addr) (h0 : Heap) (n0 : Nat) (v : Option Value) (h : Heap) (L : List Loc) : Prop := (v = some (.int (own_cov a1 a2 w_SHARED w_EXCLUSIVE))) ∧ (Fr n0 L) ∧ (h = h0)
set_option maxRecDepth 65536 in
set_option maxHeartbeats 40000000 in
theorem rm2 (l : Launch) (Z : State) (a0 : Array Value) (hw : ∀ d ∈ tables_1, d.before a0 Z = true) (ws : List Jvm.Cond) (a1 : Addr) (a2 : Addr) (w_SHARED : Addr) (w_EXCLUSIVE : Addr) (h0 : Heap) (n0 : Nat) (Z0 : n0 ≤ h0.size) (S_SHARED : Sta Z h0 "com/example/versions_to_view/versionstoview/lock/LockMode" "SHARED" "Lcom/example/versions_to_view/versionstoview/lock/LockMode;" (.ref w_SHARED)) (S_EXCLUSIVE : Sta Z h0 "com/example/versions_to_view/versionstoview/lock/LockMode" "EXCLUSIVE" "Lcom/example/versions_to_view/versionstoview/lock/LockMode;" (.ref w_EXCLUSIVE)) :
    MetFree l (⟨"com/example/versions_to_view/versionstoview/lock/LockMode", "covers", "(Lcom/example/versions_to_view/versionstoview/lock/LockMode;)Z"⟩ : MethodName) (head1 (Jvm.Cond.code (⟨"com/example/versions_to_view/versionstoview/lock/LockMode", "covers", "(Lcom/example/versions_to_view/versionstoview/lock/LockMode;)Z"⟩ : MethodName) prog_17_method_5_code 2 (some .boolean) :: ws) ({ frames := 0, cells := 0, slots := 0, locals := 0 } : Room)) (fun a U => a = #[(.ref a1), (.ref a2)] ∧ Z.Warmed39 U.vm ∧ U.heap = h0) (fun _ _ _ _ _ => True) (fun _ U o U' => ∃ v L, o = .returned v ∧ Q2 Z a1 a2 w_SHARED w_EXCLUSIVE h0 n0 v U'.heap L ∧ FrameEnd U o U' L ({ frames := 0, cells := 0, slots := 0, locals := 0 } : Room).cells ({ frames := 0, cells := 0, slots := 0, locals := 0 } : Room).slots) := by
  refine MetFree.of_bodySF (plainFor_of_name pn_2) hisR ?_
  intro p e s m args below meth c s₁ Bd hml0 hP hK
  obtain ⟨rfl, hZ, hh⟩ := hP
  have hx := Bd.exec
  have hby := Bd.bytes
  have hml : c.maxLocals = 2 := hml0
  have hown : s.vm.findClass "com/example/versions_to_view/versionstoview/lock/LockMode" = some m.cls := findClass_of_methodNamed Bd.named
  have hnm := (name_of_methodNamed Bd.named Bd.method).1
  have X0 : Stand p l e ({ frames := 0, cells := 0, slots := 0, locals := 0 } : Room) s m #[(.ref a1), (.ref a2)] below meth c s₁ [] 0 0 := Stand.of_body Bd
  have e0 : s₁.heap = h0 := by rw [← hh, Bd.state]; rfl
  have N0 := Fr.nil n0
  refine own_of (S := s₁.setTop (entryFrame m #[(.ref a1), (.ref a2)] 2)) (S' := s₁.setTop (mkF m 0 #[.val (.ref a1), .val (.ref a2)] [])) (K := fun s₂ o => ∃ v L, o = .returned v ∧ Q2 Z a1 a2 w_SHARED w_EXCLUSIVE h0 n0 v s₂.heap L ∧ FrameEnd s o s₂ L ({ frames := 0, cells := 0, slots := 0, locals := 0 } : Room).cells ({ frames := 0, cells := 0, slots := 0, locals := 0 } : Room).slots) (fun t k => castTop (ef_2 m a1 a2) k) ?_
  refine own_nameK fun K hKd => ?_
  refine own_of (S' := s₁.setTop (mkF m 1 #[.val (.ref a1), .val (.ref a2)] [(.ref a1)])) (fun t k => XS.aloadN X0.here hx rfl (hb hby d2_0) rfl rfl k) ?_
  refine own_of (S' := s₁.setTop (mkF m 2 #[.val (.ref a1), .val (.ref a2)] [(.ref a2), (.ref a1)])) (fun t k => XS.aloadN X0.here hx rfl (hb hby d2_1) rfl rfl k) ?_
  by_cases ha2_1 : a1 = a2
  · refine own_of (S' := s₁.setTop (mkF m 19 #[.val (.ref a1), .val (.ref a2)] [])) (fun t k => Jvm.RoadKit.acmp (g := (mkF m 2 #[.val (.ref a1), .val (.ref a2)] [(.ref a2), (.ref a1)])) X0 hx rfl rfl rfl (pc0 := 2) (pc' := 19) (same := true) rfl (hb hby d2_2) rfl (decide_eq_true (congrArg Value.ref ha2_1)) (by decide) (by decide) k) ?_
    refine own_of (S' := s₁.setTop (mkF m 20 #[.val (.ref a1), .val (.ref a2)] [(.int (1 : Int32))])) (fun t k => XS.iconst X0.here hx rfl (hb hby d2_19) k) ?_
    refine own_of (S' := s₁.setTop (mkF m 24 #[.val (.ref a1), .val (.ref a2)] [(.int (1 : Int32))])) (fun t k => XS.goto X0.here hx rfl (pc0 := 20) (pc' := 24) rfl (hb hby d2_20) (by decide) (by decide) k) ?_
    obtain ⟨fs, hr, hrun, hended, hW, hsame⟩ := X0.leave (v := some (.int (1 : Int32))) (fun h => by rw [Bd.returns] at h; cases h)
    subst hKd
    exact ⟨_, _, retN X0 hx (t := .boolean) Bd.returns (by simp) (hb hby d2_24) hr, hrun, hended, _, _, rfl, (by
      show Q2 Z a1 a2 w_SHARED w_EXCLUSIVE h0 n0 _ s₁.heap _
      rw [show s₁.heap = h0 from e0]
      exact ⟨(by rw [own_cov, if_pos ha2_1]), N0, rfl⟩), ⟨_, rfl⟩, hW, hsame.mono (by decide) (by decide)⟩
  refine own_of (S' := s₁.setTop (mkF m 5 #[.val (.ref a1), .val (.ref a2)] [])) (fun t k => Jvm.RoadKit.acmp (g := (mkF m 2 #[.val (.ref a1), .val (.ref a2)] [(.ref a2), (.ref a1)])) X0 hx rfl rfl rfl (pc0 := 2) (pc' := 5) (same := false) rfl (hb hby d2_2) rfl (decide_eq_false fun q => ha2_1 (Value.ref.inj q)) (by decide) (by decide) k) ?_
  refine own_of (S' := s₁.setTop (mkF m 6 #[.val (.ref a1), .val (.ref a2)] [(.ref a1)])) (fun t k => XS.aloadN X0.here hx rfl (hb hby d2_5) rfl rfl k) ?_
  obtain ⟨T2, X2, e2, st2⟩ := getS2 X0 hx hZ hown (host := "") (Or.inl (hw _ (List.mem_of_getElem? (i := 15) rfl))) Via.refl e0 S_EXCLUSIVE (g := (mkF m 6 #[.val (.ref a1), .val (.ref a2)] [(.ref a1)])) rfl (hb hby d2_6)
  refine own_of (S' := T2.setTop (mkF m 9 #[.val (.ref a1), .val (.ref a2)] [(.ref w_EXCLUSIVE), (.ref a1)])) st2 ?_
  by_cases ha9_3 : a1 = w_EXCLUSIVE
  · refine own_of (S' := T2.setTop (mkF m 12 #[.val (.ref a1), .val (.ref a2)] [])) (fun t k => Jvm.RoadKit.acmp (g := (mkF m 9 #[.val (.ref a1), .val (.ref a2)] [(.ref w_EXCLUSIVE), (.ref a1)])) X2 hx rfl rfl rfl (pc0 := 9) (pc' := 12) (same := true) rfl (hb hby d2_9) rfl (decide_eq_true (congrArg Value.ref ha9_3)) (by decide) (by decide) k) ?_
    refine own_of (S' := T2.setTop (mkF m 13 #[.val (.ref a1), .val (.ref a2)] [(.ref a2)])) (fun t k => XS.aloadN X2.here hx rfl (hb hby d2_12) rfl rfl k) ?_
    obtain ⟨T4, X4, e4, st4⟩ := getS2 X2 hx hZ hown (host := "") (Or.inl (hw _ (List.mem_of_getElem? (i := 20) rfl))) Via.refl e2 S_SHARED (g := (mkF m 13 #[.val (.ref a1), .val (.ref a2)] [(.ref a2)])) rfl (hb hby d2_13)
    refine own_of (S' := T4.setTop (mkF m 16 #[.val (.ref a1), .val (.ref a2)] [(.ref w_SHARED), (.ref a2)])) st4 ?_
    by_cases ha16_5 : a2 = w_SHARED
    · refine own_of (S' := T4.setTop (mkF m 19 #[.val (.ref a1), .val (.ref a2)] [])) (fun t k => Jvm.RoadKit.acmp (g := (mkF m 16 #[.val (.ref a1), .val (.ref a2)] [(.ref w_SHARED), (.ref a2)])) X4 hx rfl rfl rfl (pc0 := 16) (pc' := 19) (same := true) rfl (hb hby d2_16) rfl (decide_eq_true (congrArg Value.ref ha16_5)) (by decide) (by decide) k) ?_
      refine own_of (S' := T4.setTop (mkF m 20 #[.val (.ref a1), .val (.ref a2)] [(.int (1 : Int32))])) (fun t k => XS.iconst X4.here hx rfl (hb hby d2_19) k) ?_
      refine own_of (S' := T4.setTop (mkF m 24 #[.val (.ref a1), .val (.ref a2)] [(.int (1 : Int32))])) (fun t k => XS.goto X4.here hx rfl (pc0 := 20) (pc' := 24) rfl (hb hby d2_20) (by decide) (by decide) k) ?_
      obtain ⟨fs, hr, hrun, hended, hW, hsame⟩ := X4.leave (v := some (.int (1 : Int32))) (fun h => by rw [Bd.returns] at h; cases h)
      subst hKd
      exact ⟨_, _, retN X4 hx (t := .boolean) Bd.returns (by simp) (hb hby d2_24) hr, hrun, hended, _, _, rfl, (by
        show Q2 Z a1 a2 w_SHARED w_EXCLUSIVE h0 n0 _ T4.heap _
        rw [show T4.heap = h0 from e4]
        exact ⟨(by rw [own_cov, if_neg ha2_1, if_pos ha9_3, if_pos ha16_5]), N0, rfl⟩), ⟨_, rfl⟩, hW, hsame.mono (by decide) (by decide)⟩
    refine own_of (S' := T4.setTop (mkF m 23 #[.val (.ref a1), .val (.ref a2)] [])) (fun t k => Jvm.RoadKit.acmp (g := (mkF m 16 #[.val (.ref a1), .val (.ref a2)] [(.ref w_SHARED), (.ref a2)])) X4 hx rfl rfl rfl (pc0 := 16) (pc' := 23) (same := false) rfl (hb hby d2_16) rfl (decide_eq_false fun q => ha16_5 (Value.ref.inj q)) (by decide) (by decide) k) ?_
    refine own_of (S' := T4.setTop (mkF m 24 #[.val (.ref a1), .val (.ref a2)] [(.int (0 : Int32))])) (fun t k => XS.iconst X4.here hx rfl (hb hby d2_23) k) ?_
    obtain ⟨fs, hr, hrun, hended, hW, hsame⟩ := X4.leave (v := some (.int (0 : Int32))) (fun h => by rw [Bd.returns] at h; cases h)
    subst hKd
    exact ⟨_, _, retN X4 hx (t := .boolean) Bd.returns (by simp) (hb hby d2_24) hr, hrun, hended, _, _, rfl, (by
      show Q2 Z a1 a2 w_SHARED w_EXCLUSIVE h0 n0 _ T4.heap _
      rw [show T4.heap = h0 from e4]
      exact ⟨(by rw [own_cov, if_neg ha2_1, if_pos ha9_3, if_neg ha16_5]), N0, rfl⟩), ⟨_, rfl⟩, hW, hsame.mono (by decide) (by decide)⟩
  refine own_of (S' := T2.setTop (mkF m 23 #[.val (.ref a1), .val (.ref a2)] [])) (fun t k => Jvm.RoadKit.acmp (g := (mkF m 9 #[.val (.ref a1), .val (.ref a2)] [(.ref w_EXCLUSIVE), (.ref a1)])) X2 hx rfl rfl rfl (pc0 := 9) (pc' := 23) (same := false) rfl (hb hby d2_9) rfl (decide_eq_false fun q => ha9_3 (Value.ref.inj q)) (by decide) (by decide) k) ?_
  refine own_of (S' := T2.setTop (mkF m 24 #[.val (.ref a1), .val (.ref a2)] [(.int (0 : Int32))])) (fun t k => XS.iconst X2.here hx rfl (hb hby d2_23) k) ?_
  obtain ⟨fs, hr, hrun, hended, hW, hsame⟩ := X2.leave (v := some (.int (0 : Int32))) (fun h => by rw [Bd.returns] at h; cases h)
  subst hKd
  exact ⟨_, _, retN X2 hx (t := .boolean) Bd.returns (by simp) (hb hby d2_24) hr, hrun, hended, _, _, rfl, (by
    show Q2 Z a1 a2 w_SHARED w_EXCLUSIVE h0 n0 _ T2.heap _
    rw [show T2.heap = h0 from e2]
    exact ⟨(by rw [own_cov, if_neg ha2_1, if_neg ha9_3]), N0, rfl⟩), ⟨_, rfl⟩, hW, hsame.mono (by decide) (by decide)⟩
theorem pn_0 : plainName "com/example/versions_to_view/versionstoview/lock/LockModeCoversPinLaw" = true := by first | (simp [plainName, overriddenIn]; done) | decide +kernel
theorem pd0_0 : parseMethodDescriptor "(I)Lcom/example/versions_to_view/versionstoview/lock/LockMode;" = some ⟨[.int], some (.object "com/example/versions_to_view/versionstoview/lock/LockMode")⟩ := by decide +kernel
theorem pd0_1 : parseMethodDescriptor "(Lcom/example/versions_to_view/versionstoview/lock/LockMode;)Z" = some ⟨[(.object "com/example/versions_to_view/versionstoview/lock/LockMode")], some .boolean⟩ := by decide +kernel
theorem ef_0 (m : MethodId) (p1 : Int32) (p2 : Int32) : entryFrame m #[(.int p1), (.int p2)] maxLocals = mkF m 0 #[.val (.int p1), .val (.int p2), .unset, .unset, .unset, .unset, .unset, .unset] [] := by first | (simp [entryFrame, mkF, argsToLocals, Value.category, maxLocals]; done) | rfl
def Q0 (Z : State) (p1 : Int32) (p2 : Int32) (w_SHARED : Addr) (w_EXCLUSIVE : Addr) (w_GAP : Addr) (w_INSERT_INTENTION : Addr) (h0 : Heap) (n0 : Nat) (v : Option Value) (h : Heap) (L : List Loc) : Prop := (v = some (.int (1 : Int32))) ∧ (Fr n0 L)
set_option maxRecDepth 65536 in
set_option maxHeartbeats 40000000 in
theorem rm0 (l : Launch) (Z : State) (a0 : Array Value) (hw : ∀ d ∈ tables_1, d.before a0 Z = true) (ws : List Jvm.Cond) (p1 : Int32) (p2 : Int32) (w_SHARED : Addr) (w_EXCLUSIVE : Addr) (w_GAP : Addr) (w_INSERT_INTENTION : Addr) (h0 : Heap) (n0 : Nat) (Z0 : n0 ≤ h0.size) (S_SHARED : Sta Z h0 "com/example/versions_to_view/versionstoview/lock/LockMode" "SHARED" "Lcom/example/versions_to_view/versionstoview/lock/LockMode;" (.ref w_SHARED)) (S_EXCLUSIVE : Sta Z h0 "com/example/versions_to_view/versionstoview/lock/LockMode" "EXCLUSIVE" "Lcom/example/versions_to_view/versionstoview/lock/LockMode;" (.ref w_EXCLUSIVE)) (S_GAP : Sta Z h0 "com/example/versions_to_view/versionstoview/lock/LockMode" "GAP" "Lcom/example/versions_to_view/versionstoview/lock/LockMode;" (.ref w_GAP)) (S_INSERT_INTENTION : Sta Z h0 "com/example/versions_to_view/versionstoview/lock/LockMode" "INSERT_INTENTION" "Lcom/example/versions_to_view/versionstoview/lock/LockMode;" (.ref w_INSERT_INTENTION)) (E_w_SHARED : Exa Z h0 w_SHARED "com/example/versions_to_view/versionstoview/lock/LockMode") (E_w_EXCLUSIVE : Exa Z h0 w_EXCLUSIVE "com/example/versions_to_view/versionstoview/lock/LockMode") (E_w_GAP : Exa Z h0 w_GAP "com/example/versions_to_view/versionstoview/lock/LockMode") (E_w_INSERT_INTENTION : Exa Z h0 w_INSERT_INTENTION "com/example/versions_to_view/versionstoview/lock/LockMode") (ne01 : w_SHARED ≠ w_EXCLUSIVE) (ne02 : w_SHARED ≠ w_GAP) (ne03 : w_SHARED ≠ w_INSERT_INTENTION) (ne12 : w_EXCLUSIVE ≠ w_GAP) (ne13 : w_EXCLUSIVE ≠ w_INSERT_INTENTION) (ne23 : w_GAP ≠ w_INSERT_INTENTION) :
    MetFree l x (head1 (Jvm.Cond.code x code maxLocals ret :: ws) room_1) (fun a U => a = #[(.int p1), (.int p2)] ∧ Z.Warmed39 U.vm ∧ U.heap = h0) (fun _ _ _ _ _ => True) (fun _ U o U' => ∃ v L, o = .returned v ∧ Q0 Z p1 p2 w_SHARED w_EXCLUSIVE w_GAP w_INSERT_INTENTION h0 n0 v U'.heap L ∧ FrameEnd U o U' L room_1.cells room_1.slots) := by
  refine MetFree.of_bodySF (plainFor_of_name pn_0) hisR ?_
  intro p e s m args below meth c s₁ Bd hml0 hP hK
  obtain ⟨rfl, hZ, hh⟩ := hP
  have hx := Bd.exec
  have hby := Bd.bytes
  have hml : c.maxLocals = 8 := hml0
  have hown : s.vm.findClass "com/example/versions_to_view/versionstoview/lock/LockModeCoversPinLaw" = some m.cls := findClass_of_methodNamed Bd.named
  have hnm := (name_of_methodNamed Bd.named Bd.method).1
  have X0 : Stand p l e room_1 s m #[(.int p1), (.int p2)] below meth c s₁ [] 0 0 := Stand.of_body Bd
  have e0 : s₁.heap = h0 := by rw [← hh, Bd.state]; rfl
  have N0 := Fr.nil n0
  refine own_of (S := s₁.setTop (entryFrame m #[(.int p1), (.int p2)] maxLocals)) (S' := s₁.setTop (mkF m 0 #[.val (.int p1), .val (.int p2), .unset, .unset, .unset, .unset, .unset, .unset] [])) (K := fun s₂ o => ∃ v L, o = .returned v ∧ Q0 Z p1 p2 w_SHARED w_EXCLUSIVE w_GAP w_INSERT_INTENTION h0 n0 v s₂.heap L ∧ FrameEnd s o s₂ L room_1.cells room_1.slots) (fun t k => castTop (ef_0 m p1 p2) k) ?_
  refine own_nameK fun K hKd => ?_
  refine own_of (S' := s₁.setTop (mkF m 1 #[.val (.int p1), .val (.int p2), .unset, .unset, .unset, .unset, .unset, .unset] [(.int p1)])) (fun t k => XS.iloadN X0.here hx rfl (hb hby at_0) rfl k) ?_
  refine own_of (S' := s₁.setTop (mkF m 2 #[.val (.int p1), .val (.int p2), .unset, .unset, .unset, .unset, .unset, .unset] [(.int (3 : Int32)), (.int p1)])) (fun t k => XS.iconst X0.here hx rfl (hb hby at_1) k) ?_
  refine own_of (S' := s₁.setTop (mkF m 3 #[.val (.int p1), .val (.int p2), .unset, .unset, .unset, .unset, .unset, .unset] [(.int (p1 &&& (3 : Int32)))])) (fun t k => XS.iand X0.here hx rfl (hb hby at_2) rfl k) ?_
  refine own_of (S' := s₁.setTop (mkF m 4 #[.val (.int p1), .val (.int p2), .val (.int (p1 &&& (3 : Int32))), .unset, .unset, .unset, .unset, .unset] [])) (fun t k => XS.istoreN X0.here hx rfl (hb hby at_3) rfl (l' := #[.val (.int p1), .val (.int p2), .val (.int (p1 &&& (3 : Int32))), .unset, .unset, .unset, .unset, .unset]) rfl k) ?_
  refine own_of (S' := s₁.setTop (mkF m 5 #[.val (.int p1), .val (.int p2), .val (.int (p1 &&& (3 : Int32))), .unset, .unset, .unset, .unset, .unset] [(.int p2)])) (fun t k => XS.iloadN X0.here hx rfl (hb hby at_4) rfl k) ?_
  refine own_of (S' := s₁.setTop (mkF m 6 #[.val (.int p1), .val (.int p2), .val (.int (p1 &&& (3 : Int32))), .unset, .unset, .unset, .unset, .unset] [(.int (3 : Int32)), (.int p2)])) (fun t k => XS.iconst X0.here hx rfl (hb hby at_5) k) ?_
  refine own_of (S' := s₁.setTop (mkF m 7 #[.val (.int p1), .val (.int p2), .val (.int (p1 &&& (3 : Int32))), .unset, .unset, .unset, .unset, .unset] [(.int (p2 &&& (3 : Int32)))])) (fun t k => XS.iand X0.here hx rfl (hb hby at_6) rfl k) ?_
  refine own_of (S' := s₁.setTop (mkF m 8 #[.val (.int p1), .val (.int p2), .val (.int (p1 &&& (3 : Int32))), .val (.int (p2 &&& (3 : Int32))), .unset, .unset, .unset, .unset] [])) (fun t k => XS.istoreN X0.here hx rfl (hb hby at_7) rfl (l' := #[.val (.int p1), .val (.int p2), .val (.int (p1 &&& (3 : Int32))), .val (.int (p2 &&& (3 : Int32))), .unset, .unset, .unset, .unset]) rfl k) ?_
  refine own_of (S' := s₁.setTop (mkF m 10 #[.val (.int p1), .val (.int p2), .val (.int (p1 &&& (3 : Int32))), .val (.int (p2 &&& (3 : Int32))), .unset, .unset, .unset, .unset] [(.int (33841 : Int32))])) (X0.ldcInt hx hown (mvT hZ (hw _ (List.mem_of_getElem? (i := 0) rfl))) (g := (mkF m 8 #[.val (.int p1), .val (.int p2), .val (.int (p1 &&& (3 : Int32))), .val (.int (p2 &&& (3 : Int32))), .unset, .unset, .unset, .unset] [])) rfl (hb hby at_8)) ?_
  refine own_of (S' := s₁.setTop (mkF m 12 #[.val (.int p1), .val (.int p2), .val (.int (p1 &&& (3 : Int32))), .val (.int (p2 &&& (3 : Int32))), .val (.int (33841 : Int32)), .unset, .unset, .unset] [])) (fun t k => XS.istore X0.here hx rfl (hb hby at_10) rfl (l' := #[.val (.int p1), .val (.int p2), .val (.int (p1 &&& (3 : Int32))), .val (.int (p2 &&& (3 : Int32))), .val (.int (33841 : Int32)), .unset, .unset, .unset]) rfl k) ?_
  refine own_of (S' := s₁.setTop (mkF m 14 #[.val (.int p1), .val (.int p2), .val (.int (p1 &&& (3 : Int32))), .val (.int (p2 &&& (3 : Int32))), .val (.int (33841 : Int32)), .unset, .unset, .unset] [(.int (33841 : Int32))])) (fun t k => XS.iload X0.here hx rfl (hb hby at_12) rfl k) ?_
  refine own_of (S' := s₁.setTop (mkF m 15 #[.val (.int p1), .val (.int p2), .val (.int (p1 &&& (3 : Int32))), .val (.int (p2 &&& (3 : Int32))), .val (.int (33841 : Int32)), .unset, .unset, .unset] [(.int (p1 &&& (3 : Int32))), (.int (33841 : Int32))])) (fun t k => XS.iloadN X0.here hx rfl (hb hby at_14) rfl k) ?_
  refine own_of (S' := s₁.setTop (mkF m 16 #[.val (.int p1), .val (.int p2), .val (.int (p1 &&& (3 : Int32))), .val (.int (p2 &&& (3 : Int32))), .val (.int (33841 : Int32)), .unset, .unset, .unset] [(.int (4 : Int32)), (.int (p1 &&& (3 : Int32))), (.int (33841 : Int32))])) (fun t k => XS.iconst X0.here hx rfl (hb hby at_15) k) ?_
  refine own_of (S' := s₁.setTop (mkF m 17 #[.val (.int p1), .val (.int p2), .val (.int (p1 &&& (3 : Int32))), .val (.int (p2 &&& (3 : Int32))), .val (.int (33841 : Int32)), .unset, .unset, .unset] [(.int ((p1 &&& (3 : Int32)) * (4 : Int32))), (.int (33841 : Int32))])) (fun t k => XS.imul X0.here hx rfl (hb hby at_16) rfl k) ?_
  refine own_of (S' := s₁.setTop (mkF m 18 #[.val (.int p1), .val (.int p2), .val (.int (p1 &&& (3 : Int32))), .val (.int (p2 &&& (3 : Int32))), .val (.int (33841 : Int32)), .unset, .unset, .unset] [(.int (p2 &&& (3 : Int32))), (.int ((p1 &&& (3 : Int32)) * (4 : Int32))), (.int (33841 : Int32))])) (fun t k => XS.iloadN X0.here hx rfl (hb hby at_17) rfl k) ?_
  refine own_of (S' := s₁.setTop (mkF m 19 #[.val (.int p1), .val (.int p2), .val (.int (p1 &&& (3 : Int32))), .val (.int (p2 &&& (3 : Int32))), .val (.int (33841 : Int32)), .unset, .unset, .unset] [(.int (((p1 &&& (3 : Int32)) * (4 : Int32)) + (p2 &&& (3 : Int32)))), (.int (33841 : Int32))])) (fun t k => XS.iadd X0.here hx rfl (hb hby at_18) rfl k) ?_
  refine own_of (S' := s₁.setTop (mkF m 20 #[.val (.int p1), .val (.int p2), .val (.int (p1 &&& (3 : Int32))), .val (.int (p2 &&& (3 : Int32))), .val (.int (33841 : Int32)), .unset, .unset, .unset] [(.int ((33841 : Int32) >>> ((((p1 &&& (3 : Int32)) * (4 : Int32)) + (p2 &&& (3 : Int32))) &&& 31)))])) (fun t k => XS.ishr X0.here hx rfl (hb hby at_19) rfl k) ?_
  refine own_of (S' := s₁.setTop (mkF m 21 #[.val (.int p1), .val (.int p2), .val (.int (p1 &&& (3 : Int32))), .val (.int (p2 &&& (3 : Int32))), .val (.int (33841 : Int32)), .unset, .unset, .unset] [(.int (1 : Int32)), (.int ((33841 : Int32) >>> ((((p1 &&& (3 : Int32)) * (4 : Int32)) + (p2 &&& (3 : Int32))) &&& 31)))])) (fun t k => XS.iconst X0.here hx rfl (hb hby at_20) k) ?_
  refine own_of (S' := s₁.setTop (mkF m 22 #[.val (.int p1), .val (.int p2), .val (.int (p1 &&& (3 : Int32))), .val (.int (p2 &&& (3 : Int32))), .val (.int (33841 : Int32)), .unset, .unset, .unset] [(.int (((33841 : Int32) >>> ((((p1 &&& (3 : Int32)) * (4 : Int32)) + (p2 &&& (3 : Int32))) &&& 31)) &&& (1 : Int32)))])) (fun t k => XS.iand X0.here hx rfl (hb hby at_21) rfl k) ?_
  by_cases hc22_1 : (((33841 : Int32) >>> ((((p1 &&& (3 : Int32)) * (4 : Int32)) + (p2 &&& (3 : Int32))) &&& 31)) &&& (1 : Int32)) = (0 : Int32)
  · refine own_of (S' := s₁.setTop (mkF m 29 #[.val (.int p1), .val (.int p2), .val (.int (p1 &&& (3 : Int32))), .val (.int (p2 &&& (3 : Int32))), .val (.int (33841 : Int32)), .unset, .unset, .unset] [])) (fun t k => XS.ifYes X0.here hx rfl (pc0 := 22) (pc' := 29) rfl (hb hby at_22) rfl ((if0 _ _).trans (teq hc22_1).1) (by decide) (by decide) k) ?_
    refine own_of (S' := s₁.setTop (mkF m 30 #[.val (.int p1), .val (.int p2), .val (.int (p1 &&& (3 : Int32))), .val (.int (p2 &&& (3 : Int32))), .val (.int (33841 : Int32)), .unset, .unset, .unset] [(.int (0 : Int32))])) (fun t k => XS.iconst X0.here hx rfl (hb hby at_29) k) ?_
    refine own_of (S' := s₁.setTop (mkF m 32 #[.val (.int p1), .val (.int p2), .val (.int (p1 &&& (3 : Int32))), .val (.int (p2 &&& (3 : Int32))), .val (.int (33841 : Int32)), .val (.int (0 : Int32)), .unset, .unset] [])) (fun t k => XS.istore X0.here hx rfl (hb hby at_30) rfl (l' := #[.val (.int p1), .val (.int p2), .val (.int (p1 &&& (3 : Int32))), .val (.int (p2 &&& (3 : Int32))), .val (.int (33841 : Int32)), .val (.int (0 : Int32)), .unset, .unset]) rfl k) ?_
    refine own_of (S' := s₁.setTop (mkF m 33 #[.val (.int p1), .val (.int p2), .val (.int (p1 &&& (3 : Int32))), .val (.int (p2 &&& (3 : Int32))), .val (.int (33841 : Int32)), .val (.int (0 : Int32)), .unset, .unset] [(.int (p1 &&& (3 : Int32)))])) (fun t k => XS.iloadN X0.here hx rfl (hb hby at_32) rfl k) ?_
    obtain ⟨_, _, ⟨T2, L2, k2, n2⟩, -, X2, ⟨Lc2, hQ2, l2, y2, z2⟩, st2⟩ := Jvm.LawKit.callS X0 hx (y := (⟨"com/example/versions_to_view/versionstoview/lock/LockModeCoversPinLaw", "mode", "(I)Lcom/example/versions_to_view/versionstoview/lock/LockMode;"⟩ : MethodName)) hown (mvT hZ (hw _ (List.mem_of_getElem? (i := 1) rfl))) (mvT hZ (hw _ (List.mem_of_getElem? (i := 2) rfl))) (mvT hZ (hw _ (List.mem_of_getElem? (i := 3) rfl))) (mvT hZ (hw _ (List.mem_of_getElem? (i := 4) rfl))) (by decide) (backOf (W := 0) (rm1 l Z a0 hw [] (p1 &&& (3 : Int32)) w_SHARED w_EXCLUSIVE w_GAP w_INSERT_INTENTION h0 n0 Z0 S_SHARED S_EXCLUSIVE S_GAP S_INSERT_INTENTION E_w_SHARED E_w_EXCLUSIVE E_w_GAP E_w_INSERT_INTENTION) hZ (hw _ (List.mem_of_getElem? (i := 4) rfl)) (hw _ (List.mem_of_getElem? (i := 3) rfl)) (by decide) (by decide)) (g := (mkF m 33 #[.val (.int p1), .val (.int p2), .val (.int (p1 &&& (3 : Int32))), .val (.int (p2 &&& (3 : Int32))), .val (.int (33841 : Int32)), .val (.int (0 : Int32)), .unset, .unset] [(.int (p1 &&& (3 : Int32)))])) rfl (by rw [hml]; rfl) (argsL := [(.int (p1 &&& (3 : Int32)))]) (rest := []) (lenOf pd0_0 rfl) rfl (by show 2 * 0 + _ ≤ _; exact Nat.le_of_eq rfl) (hb hby at_33) (fun _ _ => ⟨rfl, e0, (by decide : 0 + _ ≤ _), (by decide : 0 + _ ≤ _)⟩)
    dsimp only [Pt.U, Pt.locs, Pt.cells, Pt.slots] at X2 l2 y2 z2 st2 hQ2
    subst l2 y2 z2
    obtain ⟨r_2, rfl, N2q, hh2, E_q2_0, hr_q2_1⟩ := hQ2
    have N2 := Fr.app N0 N2q
    rw [hh2] at E_q2_0
    refine own_of (S' := T2.setTop (mkF m 36 #[.val (.int p1), .val (.int p2), .val (.int (p1 &&& (3 : Int32))), .val (.int (p2 &&& (3 : Int32))), .val (.int (33841 : Int32)), .val (.int (0 : Int32)), .unset, .unset] [(.ref r_2)])) st2 ?_
    refine own_of (S' := T2.setTop (mkF m 38 #[.val (.int p1), .val (.int p2), .val (.int (p1 &&& (3 : Int32))), .val (.int (p2 &&& (3 : Int32))), .val (.int (33841 : Int32)), .val (.int (0 : Int32)), .val (.ref r_2), .unset] [])) (fun t k => XS.astore X2.here hx rfl (hb hby at_36) rfl rfl (l' := #[.val (.int p1), .val (.int p2), .val (.int (p1 &&& (3 : Int32))), .val (.int (p2 &&& (3 : Int32))), .val (.int (33841 : Int32)), .val (.int (0 : Int32)), .val (.ref r_2), .unset]) rfl k) ?_
    refine own_of (S' := T2.setTop (mkF m 39 #[.val (.int p1), .val (.int p2), .val (.int (p1 &&& (3 : Int32))), .val (.int (p2 &&& (3 : Int32))), .val (.int (33841 : Int32)), .val (.int (0 : Int32)), .val (.ref r_2), .unset] [(.int (p2 &&& (3 : Int32)))])) (fun t k => XS.iloadN X2.here hx rfl (hb hby at_38) rfl k) ?_
    obtain ⟨_, _, ⟨T3, L3, k3, n3⟩, -, X3, ⟨Lc3, hQ3, l3, y3, z3⟩, st3⟩ := Jvm.LawKit.callS X2 hx (y := (⟨"com/example/versions_to_view/versionstoview/lock/LockModeCoversPinLaw", "mode", "(I)Lcom/example/versions_to_view/versionstoview/lock/LockMode;"⟩ : MethodName)) hown (mvT hZ (hw _ (List.mem_of_getElem? (i := 1) rfl))) (mvT hZ (hw _ (List.mem_of_getElem? (i := 2) rfl))) (mvT hZ (hw _ (List.mem_of_getElem? (i := 3) rfl))) (mvT hZ (hw _ (List.mem_of_getElem? (i := 4) rfl))) (by decide) (backOf (W := 0) (rm1 l Z a0 hw [] (p2 &&& (3 : Int32)) w_SHARED w_EXCLUSIVE w_GAP w_INSERT_INTENTION h0 n0 Z0 S_SHARED S_EXCLUSIVE S_GAP S_INSERT_INTENTION E_w_SHARED E_w_EXCLUSIVE E_w_GAP E_w_INSERT_INTENTION) hZ (hw _ (List.mem_of_getElem? (i := 4) rfl)) (hw _ (List.mem_of_getElem? (i := 3) rfl)) (by decide) (by decide)) (g := (mkF m 39 #[.val (.int p1), .val (.int p2), .val (.int (p1 &&& (3 : Int32))), .val (.int (p2 &&& (3 : Int32))), .val (.int (33841 : Int32)), .val (.int (0 : Int32)), .val (.ref r_2), .unset] [(.int (p2 &&& (3 : Int32)))])) rfl (by rw [hml]; rfl) (argsL := [(.int (p2 &&& (3 : Int32)))]) (rest := []) (lenOf pd0_0 rfl) rfl (by show 2 * 0 + _ ≤ _; exact Nat.le_of_eq rfl) (hb hby at_39) (fun _ _ => ⟨rfl, (hh2), (by decide : (0 + 0) + _ ≤ _), (by decide : (0 + 0) + _ ≤ _)⟩)
    dsimp only [Pt.U, Pt.locs, Pt.cells, Pt.slots] at X3 l3 y3 z3 st3 hQ3
    subst l3 y3 z3
    obtain ⟨r_3, rfl, N3q, hh3, E_q3_0, hr_q3_1⟩ := hQ3
    have N3 := Fr.app N2 N3q
    rw [hh3] at E_q3_0
    refine own_of (S' := T3.setTop (mkF m 42 #[.val (.int p1), .val (.int p2), .val (.int (p1 &&& (3 : Int32))), .val (.int (p2 &&& (3 : Int32))), .val (.int (33841 : Int32)), .val (.int (0 : Int32)), .val (.ref r_2), .unset] [(.ref r_3)])) st3 ?_
    refine own_of (S' := T3.setTop (mkF m 44 #[.val (.int p1), .val (.int p2), .val (.int (p1 &&& (3 : Int32))), .val (.int (p2 &&& (3 : Int32))), .val (.int (33841 : Int32)), .val (.int (0 : Int32)), .val (.ref r_2), .val (.ref r_3)] [])) (fun t k => XS.astore X3.here hx rfl (hb hby at_42) rfl rfl (l' := #[.val (.int p1), .val (.int p2), .val (.int (p1 &&& (3 : Int32))), .val (.int (p2 &&& (3 : Int32))), .val (.int (33841 : Int32)), .val (.int (0 : Int32)), .val (.ref r_2), .val (.ref r_3)]) rfl k) ?_
    refine own_of (S' := T3.setTop (mkF m 46 #[.val (.int p1), .val (.int p2), .val (.int (p1 &&& (3 : Int32))), .val (.int (p2 &&& (3 : Int32))), .val (.int (33841 : Int32)), .val (.int (0 : Int32)), .val (.ref r_2), .val (.ref r_3)] [(.ref r_2)])) (fun t k => XS.aload X3.here hx rfl (hb hby at_44) rfl rfl k) ?_
    refine own_of (S' := T3.setTop (mkF m 48 #[.val (.int p1), .val (.int p2), .val (.int (p1 &&& (3 : Int32))), .val (.int (p2 &&& (3 : Int32))), .val (.int (33841 : Int32)), .val (.int (0 : Int32)), .val (.ref r_2), .val (.ref r_3)] [(.ref r_3), (.ref r_2)])) (fun t k => XS.aload X3.here hx rfl (hb hby at_46) rfl rfl k) ?_
    obtain ⟨cq4, kq4, q4a, q4b, q4c⟩ := isOf hZ (hh3) E_q2_0
    obtain ⟨_, _, ⟨T4, L4, k4, n4⟩, -, X4, ⟨Lc4, hQ4, l4, y4, z4⟩, st4⟩ := X3.virtualBack hx (y := (⟨"com/example/versions_to_view/versionstoview/lock/LockMode", "covers", "(Lcom/example/versions_to_view/versionstoview/lock/LockMode;)Z"⟩ : MethodName)) (z := (⟨"com/example/versions_to_view/versionstoview/lock/LockMode", "covers", "(Lcom/example/versions_to_view/versionstoview/lock/LockMode;)Z"⟩ : MethodName)) hown (mvT hZ (hw _ (List.mem_of_getElem? (i := 10) rfl))) (mvT hZ (hw _ (List.mem_of_getElem? (i := 11) rfl))) (notFace_of_selects (args := #[]) (mvT hZ (hw _ (List.mem_of_getElem? (i := 13) rfl)))) (mvT hZ (hw _ (List.mem_of_getElem? (i := 13) rfl))) (mvT hZ (hw _ (List.mem_of_getElem? (i := 12) rfl))) (by decide) (backOf (W := 0) (rm2 l Z a0 hw [] r_2 r_3 w_SHARED w_EXCLUSIVE h0 n0 Z0 S_SHARED S_EXCLUSIVE) hZ (hw _ (List.mem_of_getElem? (i := 14) rfl)) (hw _ (List.mem_of_getElem? (i := 6) rfl)) (by decide) (by decide)) q4a q4c (g := (mkF m 48 #[.val (.int p1), .val (.int p2), .val (.int (p1 &&& (3 : Int32))), .val (.int (p2 &&& (3 : Int32))), .val (.int (33841 : Int32)), .val (.int (0 : Int32)), .val (.ref r_2), .val (.ref r_3)] [(.ref r_3), (.ref r_2)])) rfl (by rw [hml]; rfl) (Steps.refl _) (argsL := [(.ref r_3)]) (rest := []) (lenOf pd0_1 rfl) rfl (by show 2 * 0 + _ ≤ _; exact Nat.le_of_eq rfl) (hb hby at_48) (fun _ _ => ⟨rfl, (hh3), (by decide : ((0 + 0) + 0) + _ ≤ _), (by decide : ((0 + 0) + 0) + _ ≤ _)⟩)
    dsimp only [Pt.U, Pt.locs, Pt.cells, Pt.slots] at X4 l4 y4 z4 st4 hQ4
    subst l4 y4 z4
    obtain ⟨rfl, N4q, hh4⟩ := hQ4
    have N4 := Fr.app N3 N4q
    refine own_of (S' := T4.setTop (mkF m 51 #[.val (.int p1), .val (.int p2), .val (.int (p1 &&& (3 : Int32))), .val (.int (p2 &&& (3 : Int32))), .val (.int (33841 : Int32)), .val (.int (0 : Int32)), .val (.ref r_2), .val (.ref r_3)] [(.int (own_cov r_2 r_3 w_SHARED w_EXCLUSIVE))])) (fun t k => st4.trans k) ?_
    refine own_of (S' := T4.setTop (mkF m 53 #[.val (.int p1), .val (.int p2), .val (.int (p1 &&& (3 : Int32))), .val (.int (p2 &&& (3 : Int32))), .val (.int (33841 : Int32)), .val (.int (0 : Int32)), .val (.ref r_2), .val (.ref r_3)] [(.int (0 : Int32)), (.int (own_cov r_2 r_3 w_SHARED w_EXCLUSIVE))])) (fun t k => XS.iload X4.here hx rfl (hb hby at_51) rfl k) ?_
    by_cases hc53_5 : (own_cov r_2 r_3 w_SHARED w_EXCLUSIVE) = (0 : Int32)
    · refine own_of (S' := T4.setTop (mkF m 56 #[.val (.int p1), .val (.int p2), .val (.int (p1 &&& (3 : Int32))), .val (.int (p2 &&& (3 : Int32))), .val (.int (33841 : Int32)), .val (.int (0 : Int32)), .val (.ref r_2), .val (.ref r_3)] [])) (fun t k => XS.icmpNo X4.here hx rfl (hb hby at_53) rfl (teq hc53_5).2 k) ?_
      refine own_of (S' := T4.setTop (mkF m 57 #[.val (.int p1), .val (.int p2), .val (.int (p1 &&& (3 : Int32))), .val (.int (p2 &&& (3 : Int32))), .val (.int (33841 : Int32)), .val (.int (0 : Int32)), .val (.ref r_2), .val (.ref r_3)] [(.int (1 : Int32))])) (fun t k => XS.iconst X4.here hx rfl (hb hby at_56) k) ?_
      refine own_of (S' := T4.setTop (mkF m 61 #[.val (.int p1), .val (.int p2), .val (.int (p1 &&& (3 : Int32))), .val (.int (p2 &&& (3 : Int32))), .val (.int (33841 : Int32)), .val (.int (0 : Int32)), .val (.ref r_2), .val (.ref r_3)] [(.int (1 : Int32))])) (fun t k => XS.goto X4.here hx rfl (pc0 := 57) (pc' := 61) rfl (hb hby at_57) (by decide) (by decide) k) ?_
      obtain ⟨fs, hr, hrun, hended, hW, hsame⟩ := X4.leave (v := some (.int (1 : Int32))) (fun h => by rw [Bd.returns] at h; cases h)
      subst hKd
      exact ⟨_, _, retN X4 hx (t := .boolean) Bd.returns (by simp) (hb hby at_61) hr, hrun, hended, _, _, rfl, (by
        show Q0 Z p1 p2 w_SHARED w_EXCLUSIVE w_GAP w_INSERT_INTENTION h0 n0 _ T4.heap _
        rw [show T4.heap = h0 from (hh4)]
        exact ⟨rfl, N4⟩), ⟨_, rfl⟩, hW, hsame.mono (by decide) (by decide)⟩
    refine own_of (S' := T4.setTop (mkF m 60 #[.val (.int p1), .val (.int p2), .val (.int (p1 &&& (3 : Int32))), .val (.int (p2 &&& (3 : Int32))), .val (.int (33841 : Int32)), .val (.int (0 : Int32)), .val (.ref r_2), .val (.ref r_3)] [])) (fun t k => XS.icmpYes X4.here hx rfl (pc0 := 53) (pc' := 60) rfl (hb hby at_53) rfl (feq hc53_5).2 (by decide) (by decide) k) ?_
    exact (hc53_5 ((own_key p1 p2 w_SHARED w_EXCLUSIVE w_GAP w_INSERT_INTENTION ne01 ne02 ne03 ne12 ne13 ne23 hr_q2_1 hr_q3_1).1 hc22_1)).elim
  refine own_of (S' := s₁.setTop (mkF m 25 #[.val (.int p1), .val (.int p2), .val (.int (p1 &&& (3 : Int32))), .val (.int (p2 &&& (3 : Int32))), .val (.int (33841 : Int32)), .unset, .unset, .unset] [])) (fun t k => XS.ifNo X0.here hx rfl (hb hby at_22) rfl ((if0 _ _).trans (feq hc22_1).1) k) ?_
  refine own_of (S' := s₁.setTop (mkF m 26 #[.val (.int p1), .val (.int p2), .val (.int (p1 &&& (3 : Int32))), .val (.int (p2 &&& (3 : Int32))), .val (.int (33841 : Int32)), .unset, .unset, .unset] [(.int (1 : Int32))])) (fun t k => XS.iconst X0.here hx rfl (hb hby at_25) k) ?_
  refine own_of (S' := s₁.setTop (mkF m 30 #[.val (.int p1), .val (.int p2), .val (.int (p1 &&& (3 : Int32))), .val (.int (p2 &&& (3 : Int32))), .val (.int (33841 : Int32)), .unset, .unset, .unset] [(.int (1 : Int32))])) (fun t k => XS.goto X0.here hx rfl (pc0 := 26) (pc' := 30) rfl (hb hby at_26) (by decide) (by decide) k) ?_
  refine own_of (S' := s₁.setTop (mkF m 32 #[.val (.int p1), .val (.int p2), .val (.int (p1 &&& (3 : Int32))), .val (.int (p2 &&& (3 : Int32))), .val (.int (33841 : Int32)), .val (.int (1 : Int32)), .unset, .unset] [])) (fun t k => XS.istore X0.here hx rfl (hb hby at_30) rfl (l' := #[.val (.int p1), .val (.int p2), .val (.int (p1 &&& (3 : Int32))), .val (.int (p2 &&& (3 : Int32))), .val (.int (33841 : Int32)), .val (.int (1 : Int32)), .unset, .unset]) rfl k) ?_
  refine own_of (S' := s₁.setTop (mkF m 33 #[.val (.int p1), .val (.int p2), .val (.int (p1 &&& (3 : Int32))), .val (.int (p2 &&& (3 : Int32))), .val (.int (33841 : Int32)), .val (.int (1 : Int32)), .unset, .unset] [(.int (p1 &&& (3 : Int32)))])) (fun t k => XS.iloadN X0.here hx rfl (hb hby at_32) rfl k) ?_
  obtain ⟨_, _, ⟨T6, L6, k6, n6⟩, -, X6, ⟨Lc6, hQ6, l6, y6, z6⟩, st6⟩ := Jvm.LawKit.callS X0 hx (y := (⟨"com/example/versions_to_view/versionstoview/lock/LockModeCoversPinLaw", "mode", "(I)Lcom/example/versions_to_view/versionstoview/lock/LockMode;"⟩ : MethodName)) hown (mvT hZ (hw _ (List.mem_of_getElem? (i := 1) rfl))) (mvT hZ (hw _ (List.mem_of_getElem? (i := 2) rfl))) (mvT hZ (hw _ (List.mem_of_getElem? (i := 3) rfl))) (mvT hZ (hw _ (List.mem_of_getElem? (i := 4) rfl))) (by decide) (backOf (W := 0) (rm1 l Z a0 hw [] (p1 &&& (3 : Int32)) w_SHARED w_EXCLUSIVE w_GAP w_INSERT_INTENTION h0 n0 Z0 S_SHARED S_EXCLUSIVE S_GAP S_INSERT_INTENTION E_w_SHARED E_w_EXCLUSIVE E_w_GAP E_w_INSERT_INTENTION) hZ (hw _ (List.mem_of_getElem? (i := 4) rfl)) (hw _ (List.mem_of_getElem? (i := 3) rfl)) (by decide) (by decide)) (g := (mkF m 33 #[.val (.int p1), .val (.int p2), .val (.int (p1 &&& (3 : Int32))), .val (.int (p2 &&& (3 : Int32))), .val (.int (33841 : Int32)), .val (.int (1 : Int32)), .unset, .unset] [(.int (p1 &&& (3 : Int32)))])) rfl (by rw [hml]; rfl) (argsL := [(.int (p1 &&& (3 : Int32)))]) (rest := []) (lenOf pd0_0 rfl) rfl (by show 2 * 0 + _ ≤ _; exact Nat.le_of_eq rfl) (hb hby at_33) (fun _ _ => ⟨rfl, e0, (by decide : 0 + _ ≤ _), (by decide : 0 + _ ≤ _)⟩)
  dsimp only [Pt.U, Pt.locs, Pt.cells, Pt.slots] at X6 l6 y6 z6 st6 hQ6
  subst l6 y6 z6
  obtain ⟨r_6, rfl, N6q, hh6, E_q6_0, hr_q6_1⟩ := hQ6
  have N6 := Fr.app N0 N6q
  rw [hh6] at E_q6_0
  refine own_of (S' := T6.setTop (mkF m 36 #[.val (.int p1), .val (.int p2), .val (.int (p1 &&& (3 : Int32))), .val (.int (p2 &&& (3 : Int32))), .val (.int (33841 : Int32)), .val (.int (1 : Int32)), .unset, .unset] [(.ref r_6)])) st6 ?_
  refine own_of (S' := T6.setTop (mkF m 38 #[.val (.int p1), .val (.int p2), .val (.int (p1 &&& (3 : Int32))), .val (.int (p2 &&& (3 : Int32))), .val (.int (33841 : Int32)), .val (.int (1 : Int32)), .val (.ref r_6), .unset] [])) (fun t k => XS.astore X6.here hx rfl (hb hby at_36) rfl rfl (l' := #[.val (.int p1), .val (.int p2), .val (.int (p1 &&& (3 : Int32))), .val (.int (p2 &&& (3 : Int32))), .val (.int (33841 : Int32)), .val (.int (1 : Int32)), .val (.ref r_6), .unset]) rfl k) ?_
  refine own_of (S' := T6.setTop (mkF m 39 #[.val (.int p1), .val (.int p2), .val (.int (p1 &&& (3 : Int32))), .val (.int (p2 &&& (3 : Int32))), .val (.int (33841 : Int32)), .val (.int (1 : Int32)), .val (.ref r_6), .unset] [(.int (p2 &&& (3 : Int32)))])) (fun t k => XS.iloadN X6.here hx rfl (hb hby at_38) rfl k) ?_
  obtain ⟨_, _, ⟨T7, L7, k7, n7⟩, -, X7, ⟨Lc7, hQ7, l7, y7, z7⟩, st7⟩ := Jvm.LawKit.callS X6 hx (y := (⟨"com/example/versions_to_view/versionstoview/lock/LockModeCoversPinLaw", "mode", "(I)Lcom/example/versions_to_view/versionstoview/lock/LockMode;"⟩ : MethodName)) hown (mvT hZ (hw _ (List.mem_of_getElem? (i := 1) rfl))) (mvT hZ (hw _ (List.mem_of_getElem? (i := 2) rfl))) (mvT hZ (hw _ (List.mem_of_getElem? (i := 3) rfl))) (mvT hZ (hw _ (List.mem_of_getElem? (i := 4) rfl))) (by decide) (backOf (W := 0) (rm1 l Z a0 hw [] (p2 &&& (3 : Int32)) w_SHARED w_EXCLUSIVE w_GAP w_INSERT_INTENTION h0 n0 Z0 S_SHARED S_EXCLUSIVE S_GAP S_INSERT_INTENTION E_w_SHARED E_w_EXCLUSIVE E_w_GAP E_w_INSERT_INTENTION) hZ (hw _ (List.mem_of_getElem? (i := 4) rfl)) (hw _ (List.mem_of_getElem? (i := 3) rfl)) (by decide) (by decide)) (g := (mkF m 39 #[.val (.int p1), .val (.int p2), .val (.int (p1 &&& (3 : Int32))), .val (.int (p2 &&& (3 : Int32))), .val (.int (33841 : Int32)), .val (.int (1 : Int32)), .val (.ref r_6), .unset] [(.int (p2 &&& (3 : Int32)))])) rfl (by rw [hml]; rfl) (argsL := [(.int (p2 &&& (3 : Int32)))]) (rest := []) (lenOf pd0_0 rfl) rfl (by show 2 * 0 + _ ≤ _; exact Nat.le_of_eq rfl) (hb hby at_39) (fun _ _ => ⟨rfl, (hh6), (by decide : (0 + 0) + _ ≤ _), (by decide : (0 + 0) + _ ≤ _)⟩)
  dsimp only [Pt.U, Pt.locs, Pt.cells, Pt.slots] at X7 l7 y7 z7 st7 hQ7
  subst l7 y7 z7
  obtain ⟨r_7, rfl, N7q, hh7, E_q7_0, hr_q7_1⟩ := hQ7
  have N7 := Fr.app N6 N7q
  rw [hh7] at E_q7_0
  refine own_of (S' := T7.setTop (mkF m 42 #[.val (.int p1), .val (.int p2), .val (.int (p1 &&& (3 : Int32))), .val (.int (p2 &&& (3 : Int32))), .val (.int (33841 : Int32)), .val (.int (1 : Int32)), .val (.ref r_6), .unset] [(.ref r_7)])) st7 ?_
  refine own_of (S' := T7.setTop (mkF m 44 #[.val (.int p1), .val (.int p2), .val (.int (p1 &&& (3 : Int32))), .val (.int (p2 &&& (3 : Int32))), .val (.int (33841 : Int32)), .val (.int (1 : Int32)), .val (.ref r_6), .val (.ref r_7)] [])) (fun t k => XS.astore X7.here hx rfl (hb hby at_42) rfl rfl (l' := #[.val (.int p1), .val (.int p2), .val (.int (p1 &&& (3 : Int32))), .val (.int (p2 &&& (3 : Int32))), .val (.int (33841 : Int32)), .val (.int (1 : Int32)), .val (.ref r_6), .val (.ref r_7)]) rfl k) ?_
  refine own_of (S' := T7.setTop (mkF m 46 #[.val (.int p1), .val (.int p2), .val (.int (p1 &&& (3 : Int32))), .val (.int (p2 &&& (3 : Int32))), .val (.int (33841 : Int32)), .val (.int (1 : Int32)), .val (.ref r_6), .val (.ref r_7)] [(.ref r_6)])) (fun t k => XS.aload X7.here hx rfl (hb hby at_44) rfl rfl k) ?_
  refine own_of (S' := T7.setTop (mkF m 48 #[.val (.int p1), .val (.int p2), .val (.int (p1 &&& (3 : Int32))), .val (.int (p2 &&& (3 : Int32))), .val (.int (33841 : Int32)), .val (.int (1 : Int32)), .val (.ref r_6), .val (.ref r_7)] [(.ref r_7), (.ref r_6)])) (fun t k => XS.aload X7.here hx rfl (hb hby at_46) rfl rfl k) ?_
  obtain ⟨cq8, kq8, q8a, q8b, q8c⟩ := isOf hZ (hh7) E_q6_0
  obtain ⟨_, _, ⟨T8, L8, k8, n8⟩, -, X8, ⟨Lc8, hQ8, l8, y8, z8⟩, st8⟩ := X7.virtualBack hx (y := (⟨"com/example/versions_to_view/versionstoview/lock/LockMode", "covers", "(Lcom/example/versions_to_view/versionstoview/lock/LockMode;)Z"⟩ : MethodName)) (z := (⟨"com/example/versions_to_view/versionstoview/lock/LockMode", "covers", "(Lcom/example/versions_to_view/versionstoview/lock/LockMode;)Z"⟩ : MethodName)) hown (mvT hZ (hw _ (List.mem_of_getElem? (i := 10) rfl))) (mvT hZ (hw _ (List.mem_of_getElem? (i := 11) rfl))) (notFace_of_selects (args := #[]) (mvT hZ (hw _ (List.mem_of_getElem? (i := 13) rfl)))) (mvT hZ (hw _ (List.mem_of_getElem? (i := 13) rfl))) (mvT hZ (hw _ (List.mem_of_getElem? (i := 12) rfl))) (by decide) (backOf (W := 0) (rm2 l Z a0 hw [] r_6 r_7 w_SHARED w_EXCLUSIVE h0 n0 Z0 S_SHARED S_EXCLUSIVE) hZ (hw _ (List.mem_of_getElem? (i := 14) rfl)) (hw _ (List.mem_of_getElem? (i := 6) rfl)) (by decide) (by decide)) q8a q8c (g := (mkF m 48 #[.val (.int p1), .val (.int p2), .val (.int (p1 &&& (3 : Int32))), .val (.int (p2 &&& (3 : Int32))), .val (.int (33841 : Int32)), .val (.int (1 : Int32)), .val (.ref r_6), .val (.ref r_7)] [(.ref r_7), (.ref r_6)])) rfl (by rw [hml]; rfl) (Steps.refl _) (argsL := [(.ref r_7)]) (rest := []) (lenOf pd0_1 rfl) rfl (by show 2 * 0 + _ ≤ _; exact Nat.le_of_eq rfl) (hb hby at_48) (fun _ _ => ⟨rfl, (hh7), (by decide : ((0 + 0) + 0) + _ ≤ _), (by decide : ((0 + 0) + 0) + _ ≤ _)⟩)
  dsimp only [Pt.U, Pt.locs, Pt.cells, Pt.slots] at X8 l8 y8 z8 st8 hQ8
  subst l8 y8 z8
  obtain ⟨rfl, N8q, hh8⟩ := hQ8
  have N8 := Fr.app N7 N8q
  refine own_of (S' := T8.setTop (mkF m 51 #[.val (.int p1), .val (.int p2), .val (.int (p1 &&& (3 : Int32))), .val (.int (p2 &&& (3 : Int32))), .val (.int (33841 : Int32)), .val (.int (1 : Int32)), .val (.ref r_6), .val (.ref r_7)] [(.int (own_cov r_6 r_7 w_SHARED w_EXCLUSIVE))])) (fun t k => st8.trans k) ?_
  refine own_of (S' := T8.setTop (mkF m 53 #[.val (.int p1), .val (.int p2), .val (.int (p1 &&& (3 : Int32))), .val (.int (p2 &&& (3 : Int32))), .val (.int (33841 : Int32)), .val (.int (1 : Int32)), .val (.ref r_6), .val (.ref r_7)] [(.int (1 : Int32)), (.int (own_cov r_6 r_7 w_SHARED w_EXCLUSIVE))])) (fun t k => XS.iload X8.here hx rfl (hb hby at_51) rfl k) ?_
  by_cases hc53_9 : (own_cov r_6 r_7 w_SHARED w_EXCLUSIVE) = (1 : Int32)
  · refine own_of (S' := T8.setTop (mkF m 56 #[.val (.int p1), .val (.int p2), .val (.int (p1 &&& (3 : Int32))), .val (.int (p2 &&& (3 : Int32))), .val (.int (33841 : Int32)), .val (.int (1 : Int32)), .val (.ref r_6), .val (.ref r_7)] [])) (fun t k => XS.icmpNo X8.here hx rfl (hb hby at_53) rfl (teq hc53_9).2 k) ?_
    refine own_of (S' := T8.setTop (mkF m 57 #[.val (.int p1), .val (.int p2), .val (.int (p1 &&& (3 : Int32))), .val (.int (p2 &&& (3 : Int32))), .val (.int (33841 : Int32)), .val (.int (1 : Int32)), .val (.ref r_6), .val (.ref r_7)] [(.int (1 : Int32))])) (fun t k => XS.iconst X8.here hx rfl (hb hby at_56) k) ?_
    refine own_of (S' := T8.setTop (mkF m 61 #[.val (.int p1), .val (.int p2), .val (.int (p1 &&& (3 : Int32))), .val (.int (p2 &&& (3 : Int32))), .val (.int (33841 : Int32)), .val (.int (1 : Int32)), .val (.ref r_6), .val (.ref r_7)] [(.int (1 : Int32))])) (fun t k => XS.goto X8.here hx rfl (pc0 := 57) (pc' := 61) rfl (hb hby at_57) (by decide) (by decide) k) ?_
    obtain ⟨fs, hr, hrun, hended, hW, hsame⟩ := X8.leave (v := some (.int (1 : Int32))) (fun h => by rw [Bd.returns] at h; cases h)
    subst hKd
    exact ⟨_, _, retN X8 hx (t := .boolean) Bd.returns (by simp) (hb hby at_61) hr, hrun, hended, _, _, rfl, (by
      show Q0 Z p1 p2 w_SHARED w_EXCLUSIVE w_GAP w_INSERT_INTENTION h0 n0 _ T8.heap _
      rw [show T8.heap = h0 from (hh8)]
      exact ⟨rfl, N8⟩), ⟨_, rfl⟩, hW, hsame.mono (by decide) (by decide)⟩
  refine own_of (S' := T8.setTop (mkF m 60 #[.val (.int p1), .val (.int p2), .val (.int (p1 &&& (3 : Int32))), .val (.int (p2 &&& (3 : Int32))), .val (.int (33841 : Int32)), .val (.int (1 : Int32)), .val (.ref r_6), .val (.ref r_7)] [])) (fun t k => XS.icmpYes X8.here hx rfl (pc0 := 53) (pc' := 60) rfl (hb hby at_53) rfl (feq hc53_9).2 (by decide) (by decide) k) ?_
  exact (hc53_9 ((own_key p1 p2 w_SHARED w_EXCLUSIVE w_GAP w_INSERT_INTENTION ne01 ne02 ne03 ne12 ne13 ne23 hr_q6_1 hr_q7_1).2 hc22_1)).elim
set_option maxRecDepth 65536 in
set_option maxHeartbeats 40000000 in
theorem comes_1 {Post : Tables → Env → Array Value → State → Outcome → State → Prop} (hpost : ∀ tb e args s v u, (limb_1_1.after args s (.returned v) u = true ∧ limb_1_2.after args s (.returned v) u = true ∧ True) → FrameEnd s (.returned v) u (Jvm.fieldLocs frame_1_writes args s ++ Jvm.arrayLocs frame_1_arrays args s ++ Jvm.staticLocs frame_1_statics s) 0 0 → Post tb e args s (.returned v) u) :
    ArmFor flags0 classFile x code maxLocals ret World_1 tables_1 room_1 Calls_1 rest_1 Pre_1 Post := by
  intro l hfl _ _ p e ha hc hk s m args below hf hA hF happ hP
  obtain ⟨hcalls, hrest, hpre⟩ := hP
  obtain ⟨-, -, -, hnamed, -, -, -, hat⟩ := (Spec.applies_iff hf).mp happ
  obtain ⟨hg, hn⟩ := and_e (Cond.before_iff.mp (show (Jvm.Cond.and given_1 narrow_1).before args s = true from hpre))
  obtain ⟨g1a, g1b⟩ := and_e hg
  obtain ⟨g2a, g2b⟩ := and_e g1b
  obtain ⟨g3a, g3b⟩ := and_e hn
  obtain ⟨g4a, g4b⟩ := and_e g3b
  obtain ⟨g5a, g5b⟩ := and_e g4b
  obtain ⟨g6a, g6b⟩ := and_e g5b
  obtain ⟨g7a, g7b⟩ := and_e g6b
  obtain ⟨g8a, g8b⟩ := and_e g7b
  obtain ⟨g9a, g9b⟩ := and_e g8b
  obtain ⟨w0_, w1_, rfl⟩ : ∃ w0_ w1_ : Value, args = #[w0_, w1_] := by
    have hs : args.size = 2 := by simpa [Cond.value, given_1] using g1a
    obtain ⟨L⟩ := args
    match L, hs with
    | [w0_, w1_], _ => exact ⟨w0_, w1_, rfl⟩
  have hw := fun d (hd : d ∈ tables_1) => atoms_spec (ws := Jvm.Cond.code x code maxLocals ret :: tables_1) hat d (List.mem_cons_of_mem _ hd)
  have hfit : Fit s := fun {y c} hc i hi => by
    obtain ⟨ha, rfl⟩ := Array.getElem?_eq_some_iff.mp hc
    have q := List.all_eq_true.mp ((Array.all_eq_true_iff_forall_mem.mp hF) _ (Array.getElem_mem ha)) i (List.mem_range.mpr hi)
    simpa [Array.getElem?_eq_getElem hi] using q
  obtain ⟨p1, ei0⟩ := is_v g2a
  obtain rfl : w0_ = (.int p1) := Option.some.inj ei0
  obtain ⟨p2, ei1⟩ := is_v g2b
  obtain rfl : w1_ = (.int p2) := Option.some.inj ei1
  obtain ⟨w_SHARED, ev_w_SHARED⟩ := exa_v g3a
  have S_SHARED : Sta s s.heap "com/example/versions_to_view/versionstoview/lock/LockMode" "SHARED" "Lcom/example/versions_to_view/versionstoview/lock/LockMode;" (.ref w_SHARED) := Sta.start ev_w_SHARED (Or.inr ⟨(hw _ (List.mem_of_getElem? (i := 6) rfl)), (hw _ (List.mem_of_getElem? (i := 7) rfl))⟩)
  have E_w_SHARED : Exa s s.heap w_SHARED "com/example/versions_to_view/versionstoview/lock/LockMode" := Exa.start ev_w_SHARED g3a
  obtain ⟨w_INSERT_INTENTION, ev_w_INSERT_INTENTION⟩ := exa_v g4a
  have S_INSERT_INTENTION : Sta s s.heap "com/example/versions_to_view/versionstoview/lock/LockMode" "INSERT_INTENTION" "Lcom/example/versions_to_view/versionstoview/lock/LockMode;" (.ref w_INSERT_INTENTION) := Sta.start ev_w_INSERT_INTENTION (Or.inr ⟨(hw _ (List.mem_of_getElem? (i := 6) rfl)), (hw _ (List.mem_of_getElem? (i := 9) rfl))⟩)
  have E_w_INSERT_INTENTION : Exa s s.heap w_INSERT_INTENTION "com/example/versions_to_view/versionstoview/lock/LockMode" := Exa.start ev_w_INSERT_INTENTION g4a
  obtain ⟨w_EXCLUSIVE, ev_w_EXCLUSIVE⟩ := exa_v g7a
  have S_EXCLUSIVE : Sta s s.heap "com/example/versions_to_view/versionstoview/lock/LockMode" "EXCLUSIVE" "Lcom/example/versions_to_view/versionstoview/lock/LockMode;" (.ref w_EXCLUSIVE) := Sta.start ev_w_EXCLUSIVE (Or.inr ⟨(hw _ (List.mem_of_getElem? (i := 6) rfl)), (hw _ (List.mem_of_getElem? (i := 16) rfl))⟩)
  have E_w_EXCLUSIVE : Exa s s.heap w_EXCLUSIVE "com/example/versions_to_view/versionstoview/lock/LockMode" := Exa.start ev_w_EXCLUSIVE g7a
  obtain ⟨w_GAP, ev_w_GAP⟩ := exa_v g9a
  have S_GAP : Sta s s.heap "com/example/versions_to_view/versionstoview/lock/LockMode" "GAP" "Lcom/example/versions_to_view/versionstoview/lock/LockMode;" (.ref w_GAP) := Sta.start ev_w_GAP (Or.inr ⟨(hw _ (List.mem_of_getElem? (i := 6) rfl)), (hw _ (List.mem_of_getElem? (i := 18) rfl))⟩)
  have E_w_GAP : Exa s s.heap w_GAP "com/example/versions_to_view/versionstoview/lock/LockMode" := Exa.start ev_w_GAP g9a
  have F_ordinal_w_SHARED : Fld s s.heap w_SHARED "java/lang/Enum" "ordinal" "I" (.int (0 : Int32)) := Fld.start ((fld_at ev_w_SHARED).symm.trans (own_eqI g5a))
  have F_ordinal_w_INSERT_INTENTION : Fld s s.heap w_INSERT_INTENTION "java/lang/Enum" "ordinal" "I" (.int (3 : Int32)) := Fld.start ((fld_at ev_w_INSERT_INTENTION).symm.trans (own_eqI g6a))
  have F_ordinal_w_EXCLUSIVE : Fld s s.heap w_EXCLUSIVE "java/lang/Enum" "ordinal" "I" (.int (1 : Int32)) := Fld.start ((fld_at ev_w_EXCLUSIVE).symm.trans (own_eqI g8a))
  have F_ordinal_w_GAP : Fld s s.heap w_GAP "java/lang/Enum" "ordinal" "I" (.int (2 : Int32)) := Fld.start ((fld_at ev_w_GAP).symm.trans (own_eqI g9b))
  have ne01 : w_SHARED ≠ w_EXCLUSIVE := Fld.ne F_ordinal_w_SHARED F_ordinal_w_EXCLUSIVE (fun q => absurd (Value.int.inj q) (by decide))
  have ne02 : w_SHARED ≠ w_GAP := Fld.ne F_ordinal_w_SHARED F_ordinal_w_GAP (fun q => absurd (Value.int.inj q) (by decide))
  have ne03 : w_SHARED ≠ w_INSERT_INTENTION := Fld.ne F_ordinal_w_SHARED F_ordinal_w_INSERT_INTENTION (fun q => absurd (Value.int.inj q) (by decide))
  have ne12 : w_EXCLUSIVE ≠ w_GAP := Fld.ne F_ordinal_w_EXCLUSIVE F_ordinal_w_GAP (fun q => absurd (Value.int.inj q) (by decide))
  have ne13 : w_EXCLUSIVE ≠ w_INSERT_INTENTION := Fld.ne F_ordinal_w_EXCLUSIVE F_ordinal_w_INSERT_INTENTION (fun q => absurd (Value.int.inj q) (by decide))
  have ne23 : w_GAP ≠ w_INSERT_INTENTION := Fld.ne F_ordinal_w_GAP F_ordinal_w_INSERT_INTENTION (fun q => absurd (Value.int.inj q) (by decide))
  obtain ⟨n, o, h1, h2, h3, _, L, rfl, ⟨rfl, N⟩, hq⟩ := rm0 l s _ hw tables_1 p1 p2 w_SHARED w_EXCLUSIVE w_GAP w_INSERT_INTENTION s.heap s.heap.size (Nat.le_refl _) S_SHARED S_EXCLUSIVE S_GAP S_INSERT_INTENTION E_w_SHARED E_w_EXCLUSIVE E_w_GAP E_w_INSERT_INTENTION ne01 ne02 ne03 ne12 ne13 ne23 p e ha hc hk s m _ below hf ((Spec.applies_iff_loose hf).mp happ).1 ⟨rfl, State.Warmed39.refl s, rfl⟩ trivial
  refine ⟨n, _, h1, h2, h3, hpost _ _ _ _ _ _ ⟨Cond.after_iff.mpr rfl, Cond.after_iff.mpr (eq_i res_at (Term.int_eval (1)) rfl), trivial⟩ ⟨hq.1, hq.2.1, (hq.2.2.sift fun y hy => Or.inr (N y hy)).mono (by decide) (by decide)⟩⟩
theorem main_1_1 : Claimed_1_1 := comes_1 fun _ _ _ _ _ _ h hF => ⟨h.1, hF⟩
theorem main_1_2 : Claimed_1_2 := comes_1 fun _ _ _ _ _ _ h hF => ⟨h.2.1, hF⟩
end Jvm.Pilot.@@N@@
namespace Jvm.Pilot.@@N@@
open Jvm Jvm.ClassFile Sem Op Lib Jvm.Free Jvm.Stand Jvm.Pilot.@@N@@.Jvm.D
/-! MADE BY PROGRAM (witnessworld.py) out of the Statement's table words and the real class files: 12 classes; the members and pool entries that the words name. The judged class is class 1, her method 2. -/
namespace start1
open Jvm.ClassFile
def u (s : String) : CpInfo := .utf8 (stringToUtf16 s)
/-- a pool by its gaps: so many unusable entries, then the entry; so many at the end -/
def gap : Nat → List CpInfo → List CpInfo
  | 0, r => r
  | n + 1, r => .unusable :: gap n r
def poolList (es : List (Nat × CpInfo)) (last : Nat) : List CpInfo := es.foldr (fun e r => gap e.1 (e.2 :: r)) (gap last [])
def pool (es : List (Nat × CpInfo)) (last : Nat) : Array CpInfo := ⟨poolList es last⟩
def fileOf (pool : Array CpInfo) (this : Nat) (attrs : Array Attribute := #[]) (ms : Array MethodInfo := #[]) (fl : Nat := 33) (sup : Nat := 0) (ifs : Array Nat := #[]) (fds : Array FieldInfo := #[]) : ClassFile where
  minorVersion := 0
  majorVersion := 65
  constantPool := pool
  accessFlags := fl
  thisClass := this
  superClass := sup
  interfaces := ifs
  fields := fds
  methods := ms
  attributes := attrs
def plain (name : String) (sup : Option ClassId) : Class where
  name := name
  kind := .ordinary
  loader := none
  accessFlags := 33
  super := sup
  interfaces := #[]
  cf := none
  fields := #[]
  methods := #[]
  instanceTypes := #[]
  staticTypes := #[]
  resolved := #[]
  callSites := []
  init := .initialized
  statics := none
  mirror := none

def pool0 : Array CpInfo := pool [(5, u "<init>"), (0, u "()V"), (1, .class_ 10), (1, u "java/lang/Object")] 113

def k0m0 : Method := { name := "<init>", desc := "()V", sig := { parameters := [], returnType := none }, accessFlags := 1, code := none }
/-- java/lang/Object -/
def k0 : Class := { plain "java/lang/Object" none with
  accessFlags := 33
  interfaces := #[]
  cf := some (fileOf pool0 8 #[] #[{ accessFlags := 1, nameIndex := 5, descriptorIndex := 6, attributes := #[] }] 33 0 #[] #[])
  fields := #[]
  methods := #[k0m0]
  instanceTypes := #[]
  staticTypes := #[]
  resolved := Array.replicate 124 none
  statics := none }

def pool1 : Array CpInfo := pool [(2, .class_ 4), (1, u "java/lang/Object"), (0, u "<init>"), (0, u "()V"), (0, .fieldref 8 9), (0, .class_ 10), (0, .nameAndType 11 12), (0, u "com/example/versions_to_view/versionstoview/lock/LockMode"), (0, u "SHARED"), (0, u "Lcom/example/versions_to_view/versionstoview/lock/LockMode;"), (0, .fieldref 8 14), (0, .nameAndType 15 12), (0, u "EXCLUSIVE"), (0, .fieldref 8 17), (0, .nameAndType 18 12), (0, u "GAP"), (0, .fieldref 8 20), (0, .nameAndType 21 12), (0, u "INSERT_INTENTION"), (0, .integer 33841), (0, .methodref 24 25), (0, .class_ 26), (0, .nameAndType 27 28), (0, u "com/example/versions_to_view/versionstoview/lock/LockModeCoversPinLaw"), (0, u "mode"), (0, u "(I)Lcom/example/versions_to_view/versionstoview/lock/LockMode;"), (0, .methodref 8 30), (0, .nameAndType 31 32), (0, u "covers"), (0, u "(Lcom/example/versions_to_view/versionstoview/lock/LockMode;)Z"), (3, u "law"), (0, u "(II)Z")] 2

def k1m0 : Method := { name := "<init>", desc := "()V", sig := { parameters := [], returnType := none }, accessFlags := 1, code := none }
def k1c1 : Code := { maxStack := 2, maxLocals := 1, code := method_2_code, exceptionTable := #[], attributes := #[] }
def k1m1 : Method := { name := "mode", desc := "(I)Lcom/example/versions_to_view/versionstoview/lock/LockMode;", sig := { parameters := [.int], returnType := some (.object "com/example/versions_to_view/versionstoview/lock/LockMode") }, accessFlags := 10, code := some k1c1 }
def k1c2 : Code := { maxStack := 3, maxLocals := 8, code := code, exceptionTable := #[], attributes := #[] }
def k1m2 : Method := { name := "law", desc := "(II)Z", sig := { parameters := [.int, .int], returnType := some .boolean }, accessFlags := 9, code := some k1c2 }
/-- com/example/versions_to_view/versionstoview/lock/LockModeCoversPinLaw -/
def k1 : Class := { plain "com/example/versions_to_view/versionstoview/lock/LockModeCoversPinLaw" (some 0) with
  accessFlags := 49
  interfaces := #[]
  cf := some (fileOf pool1 24 #[] #[{ accessFlags := 1, nameIndex := 5, descriptorIndex := 6, attributes := #[] }, { accessFlags := 10, nameIndex := 27, descriptorIndex := 28, attributes := #[] }, { accessFlags := 9, nameIndex := 36, descriptorIndex := 37, attributes := #[] }] 49 2 #[] #[])
  fields := #[]
  methods := #[k1m0, k1m1, k1m2]
  instanceTypes := #[]
  staticTypes := #[]
  resolved := Array.replicate 40 none
  statics := none }

def pool2 : Array CpInfo := pool [(1, .class_ 2), (0, u "java/lang/constant/Constable"), (0, .class_ 4), (0, u "java/lang/Object")] 6

/-- java/lang/constant/Constable -/
def k2 : Class := { plain "java/lang/constant/Constable" (some 0) with
  accessFlags := 1537
  interfaces := #[]
  cf := some (fileOf pool2 1 #[] #[] 1537 3 #[] #[])
  fields := #[]
  methods := #[]
  instanceTypes := #[]
  staticTypes := #[]
  resolved := Array.replicate 11 none
  statics := none }

def pool3 : Array CpInfo := pool [(1, .class_ 2), (0, u "java/lang/Comparable"), (0, .class_ 4), (0, u "java/lang/Object")] 7

/-- java/lang/Comparable -/
def k3 : Class := { plain "java/lang/Comparable" (some 0) with
  accessFlags := 1537
  interfaces := #[]
  cf := some (fileOf pool3 1 #[] #[] 1537 3 #[] #[])
  fields := #[]
  methods := #[]
  instanceTypes := #[]
  staticTypes := #[]
  resolved := Array.replicate 12 none
  statics := none }

def pool4 : Array CpInfo := pool [(1, .class_ 2), (0, u "java/io/Serializable"), (0, .class_ 4), (0, u "java/lang/Object")] 2

/-- java/io/Serializable -/
def k4 : Class := { plain "java/io/Serializable" (some 0) with
  accessFlags := 1537
  interfaces := #[]
  cf := some (fileOf pool4 1 #[] #[] 1537 3 #[] #[])
  fields := #[]
  methods := #[]
  instanceTypes := #[]
  staticTypes := #[]
  resolved := Array.replicate 7 none
  statics := none }

def pool5 : Array CpInfo := pool [(2, .class_ 4), (1, u "java/lang/Enum"), (0, u "name"), (0, u "Ljava/lang/String;"), (2, u "ordinal"), (0, u "I"), (1, .class_ 14), (1, u "java/lang/Object"), (4, u "hash"), (86, .class_ 108), (1, u "java/lang/Enum$EnumDesc"), (2, .class_ 112), (0, u "java/lang/constant/Constable"), (0, .class_ 114), (0, u "java/lang/Comparable"), (0, .class_ 116), (0, u "java/io/Serializable")] 87

/-- java/lang/Enum -/
def k5 : Class := { plain "java/lang/Enum" (some 0) with
  accessFlags := 1057
  interfaces := #[2, 3, 4]
  cf := some (fileOf pool5 2 #[.nestMembers #[106]] #[] 1057 12 #[111, 113, 115] #[{ accessFlags := 18, nameIndex := 5, descriptorIndex := 6, attributes := #[] }, { accessFlags := 18, nameIndex := 9, descriptorIndex := 10, attributes := #[] }, { accessFlags := 2, nameIndex := 19, descriptorIndex := 10, attributes := #[] }])
  fields := #[{ name := "name", type := (.object "java/lang/String"), accessFlags := 18, slot := 0, constantValue := 0 }, { name := "ordinal", type := .int, accessFlags := 18, slot := 1, constantValue := 0 }, { name := "hash", type := .int, accessFlags := 2, slot := 2, constantValue := 0 }]
  methods := #[]
  instanceTypes := #[(.object "java/lang/String"), .int, .int]
  staticTypes := #[]
  resolved := Array.replicate 204 none
  statics := none }

def pool6 : Array CpInfo := pool [(1, .class_ 2), (0, u "com/example/versions_to_view/versionstoview/lock/LockMode"), (0, .fieldref 1 4), (0, .nameAndType 5 6), (0, u "SHARED"), (0, u "Lcom/example/versions_to_view/versionstoview/lock/LockMode;"), (0, .fieldref 1 8), (0, .nameAndType 9 6), (0, u "EXCLUSIVE"), (2, u "GAP"), (2, u "INSERT_INTENTION"), (2, u "$VALUES"), (0, u "[Lcom/example/versions_to_view/versionstoview/lock/LockMode;"), (6, .class_ 28), (1, u "java/lang/Enum"), (27, u "(Lcom/example/versions_to_view/versionstoview/lock/LockMode;)Z"), (1, u "covers")] 6

def k6c0 : Code := { maxStack := 2, maxLocals := 2, code := prog_17_method_5_code, exceptionTable := #[], attributes := #[] }
def k6m0 : Method := { name := "covers", desc := "(Lcom/example/versions_to_view/versionstoview/lock/LockMode;)Z", sig := { parameters := [(.object "com/example/versions_to_view/versionstoview/lock/LockMode")], returnType := some .boolean }, accessFlags := 1, code := some k6c0 }
/-- com/example/versions_to_view/versionstoview/lock/LockMode -/
def k6 : Class := { plain "com/example/versions_to_view/versionstoview/lock/LockMode" (some 5) with
  accessFlags := 16433
  interfaces := #[]
  cf := some (fileOf pool6 1 #[] #[{ accessFlags := 1, nameIndex := 58, descriptorIndex := 56, attributes := #[] }] 16433 26 #[] #[{ accessFlags := 16409, nameIndex := 5, descriptorIndex := 6, attributes := #[] }, { accessFlags := 16409, nameIndex := 9, descriptorIndex := 6, attributes := #[] }, { accessFlags := 16409, nameIndex := 12, descriptorIndex := 6, attributes := #[] }, { accessFlags := 16409, nameIndex := 15, descriptorIndex := 6, attributes := #[] }, { accessFlags := 4122, nameIndex := 18, descriptorIndex := 19, attributes := #[] }])
  fields := #[{ name := "SHARED", type := (.object "com/example/versions_to_view/versionstoview/lock/LockMode"), accessFlags := 16409, slot := 0, constantValue := 0 }, { name := "EXCLUSIVE", type := (.object "com/example/versions_to_view/versionstoview/lock/LockMode"), accessFlags := 16409, slot := 1, constantValue := 0 }, { name := "GAP", type := (.object "com/example/versions_to_view/versionstoview/lock/LockMode"), accessFlags := 16409, slot := 2, constantValue := 0 }, { name := "INSERT_INTENTION", type := (.object "com/example/versions_to_view/versionstoview/lock/LockMode"), accessFlags := 16409, slot := 3, constantValue := 0 }, { name := "$VALUES", type := (.array (.object "com/example/versions_to_view/versionstoview/lock/LockMode")), accessFlags := 4122, slot := 4, constantValue := 0 }]
  methods := #[k6m0]
  instanceTypes := #[(.object "java/lang/String"), .int, .int]
  staticTypes := #[(.object "com/example/versions_to_view/versionstoview/lock/LockMode"), (.object "com/example/versions_to_view/versionstoview/lock/LockMode"), (.object "com/example/versions_to_view/versionstoview/lock/LockMode"), (.object "com/example/versions_to_view/versionstoview/lock/LockMode"), (.array (.object "com/example/versions_to_view/versionstoview/lock/LockMode"))]
  resolved := Array.replicate 65 none
  statics := some 0 }

def pool7 : Array CpInfo := pool [(1, u "java/lang/Cloneable"), (0, .class_ 1), (0, u "java/lang/Object"), (0, .class_ 3)] 3

/-- java/lang/Cloneable -/
def k7 : Class := { plain "java/lang/Cloneable" (some 0) with
  accessFlags := 1537
  interfaces := #[]
  cf := some (fileOf pool7 2 #[] #[] 1537 4 #[] #[])
  fields := #[]
  methods := #[]
  instanceTypes := #[]
  staticTypes := #[]
  resolved := Array.replicate 8 none
  statics := none }

/-- the primitive byte -/
def k8 : Class := { plain "byte" none with kind := .primitive 'B', accessFlags := 0x411 }
/-- [B -/
def k9 : Class := { plain "[B" (some 0) with kind := .array 8 .byte, interfaces := #[7, 4], accessFlags := 1041 }

/-- the primitive int -/
def k10 : Class := { plain "int" none with kind := .primitive 'I', accessFlags := 0x411 }
/-- [I -/
def k11 : Class := { plain "[I" (some 0) with kind := .array 10 .int, interfaces := #[7, 4], accessFlags := 1041 }

def heap : Heap := #[{ cls := 6, slots := #[.ref 1, .ref 3, .ref 4, .ref 2, .null], vm := .statics 6 },
  { cls := 6, slots := #[.null, .int 0, .int 0], vm := .none },
  { cls := 6, slots := #[.null, .int 3, .int 0], vm := .none },
  { cls := 6, slots := #[.null, .int 1, .int 0], vm := .none },
  { cls := 6, slots := #[.null, .int 2, .int 0], vm := .none }]
def classes : Array Class := #[k0, k1, k2, k3, k4, k5, k6, k7, k8, k9, k10, k11]
def interned : List (Array UInt16 × Addr) := []
def slotsUsed : Nat := 17
def theMethod : MethodId := ⟨1, 2⟩
def args0 : Array Value := #[.int 0, .int 0]
def aboutOver (below : List Frame) : State where
  vm := { classes := classes, interned := interned.toArray }
  heap := heap
  slotsUsed := slotsUsed
  threads := #[{ frames := .invoking theMethod args0 :: below }]
def below0 : List Frame := [.native { method := ⟨0, 0⟩, args := #[] }]
def about1 : State := aboutOver below0
def p0 : Program := .bare "" "" ""
def e0 : Env := launch0.env 0 0 0
theorem w_frames : about1.frames = Frame.invoking theMethod args0 :: below0 := rfl
set_option maxRecDepth 65536 in
theorem w_args : argsFit about1.vm theMethod args0 = true := by decide +kernel
set_option maxRecDepth 65536 in
theorem w_heap : heapFits about1 = true := by decide +kernel
set_option maxRecDepth 65536 in
theorem w_runnable : about1.curStatus? = some .runnable := by decide +kernel
set_option maxRecDepth 65536 in
theorem w_alone : about1.alone = true := by decide +kernel
set_option maxRecDepth 65536 in
theorem w_named : about1.methodNamed? x = some theMethod := by decide +kernel
set_option maxRecDepth 65536 in
theorem w_hears : about1.hears theMethod below0 = true := by decide +kernel
set_option maxRecDepth 65536 in
theorem w_ripe : about1.ripe theMethod args0 below0 = true := by decide +kernel
theorem w_running : about1.status = .running := rfl
set_option maxRecDepth 65536 in
theorem w_room : about1.hasRoom e0.platform room_1 = true :=
  launch0.hasRoom_least _ room_1 (by decide +kernel) (by decide +kernel) (by decide +kernel) (by decide +kernel) (by decide +kernel) (by decide +kernel)
theorem allAtoms_all (ts : List Jvm.Cond) (a : Array Jvm.Value) (st : Jvm.State) : (allAtoms ts).before a st = ts.all (fun c => c.before a st) := by
  induction ts with
  | nil => rfl
  | cons c t ih =>
    show (Jvm.Cond.and c (allAtoms t)).before a st = _
    rw [Jvm.Cond.before_and, ih, List.all_cons]
def words1 : List Jvm.Cond := Jvm.Cond.code x code maxLocals ret :: tables_1
/-- a 'code' word, met by the world's own term for the bytes: nothing is compared byte by byte -/
theorem code_word {y : MethodName} {bytes : ByteArray} {mx : Nat} {rt : Option FieldType} {a : Array Value} {s : State} {m : MethodId} {meth : Method} {c : Code} (h1 : s.methodNamed? y = some m) (h2 : s.vm.method? m = some meth) (h3 : meth.code = some c) (h4 : c.code = bytes)
    (h5 : (c.maxLocals == mx && c.exceptionTable.isEmpty && decide (c.maxStack ≤ mostOperands) && decide (meth.sig.returnType = rt) && !meth.locks && decide (parseMethodDescriptor y.desc = some meth.sig)) = true) : (Jvm.Cond.code y bytes mx rt).before a s = true := by
  simp only [Bool.and_eq_true, beq_iff_eq, Bool.not_eq_true', decide_eq_true_eq] at h5
  obtain ⟨⟨⟨⟨⟨g1, g2⟩, g3⟩, g4⟩, g5⟩, g6⟩ := h5
  simp [Cond.before, Cond.holds, Cond.value, h1, h2, h3, h4, g1, g2, g3, g4, g5, g6]
def isCode : Jvm.Cond → Bool
  | .code _ _ _ _ => true
  | _ => false
theorem all_split {L : List Jvm.Cond} {P : Jvm.Cond → Bool} (h1 : L.all (fun c => isCode c || P c) = true) (h2 : ∀ c ∈ L.filter isCode, P c = true) : L.all P = true := by
  refine List.all_eq_true.mpr fun c hc => ?_
  have h := List.all_eq_true.mp h1 c hc
  rcases Bool.eq_false_or_eq_true (isCode c) with hi | hi
  · exact h2 c (List.mem_filter.mpr ⟨hc, hi⟩)
  · simpa [hi] using h
set_option maxRecDepth 65536 in
theorem w_c0 : (Jvm.Cond.code x code maxLocals ret).before args0 about1 = true := code_word (m := ⟨1, 2⟩) (meth := k1m2) (c := k1c2) (by decide +kernel) rfl rfl rfl (by decide +kernel)
set_option maxRecDepth 65536 in
theorem w_c1 : (Jvm.Cond.code ({ cls := "com/example/versions_to_view/versionstoview/lock/LockModeCoversPinLaw", name := "mode", desc := "(I)Lcom/example/versions_to_view/versionstoview/lock/LockMode;" } : Jvm.MethodName) method_2_code (1 : Nat) (Option.some (Jvm.ClassFile.FieldType.object "com/example/versions_to_view/versionstoview/lock/LockMode"))).before args0 about1 = true := code_word (m := ⟨1, 1⟩) (meth := k1m1) (c := k1c1) (by decide +kernel) rfl rfl rfl (by decide +kernel)
set_option maxRecDepth 65536 in
theorem w_c2 : (Jvm.Cond.code ({ cls := "com/example/versions_to_view/versionstoview/lock/LockMode", name := "covers", desc := "(Lcom/example/versions_to_view/versionstoview/lock/LockMode;)Z" } : Jvm.MethodName) prog_17_method_5_code (2 : Nat) (Option.some Jvm.ClassFile.FieldType.boolean)).before args0 about1 = true := code_word (m := ⟨6, 0⟩) (meth := k6m0) (c := k6c0) (by decide +kernel) rfl rfl rfl (by decide +kernel)
def codes1 : List Jvm.Cond := [Jvm.Cond.code x code maxLocals ret, Jvm.Cond.code ({ cls := "com/example/versions_to_view/versionstoview/lock/LockModeCoversPinLaw", name := "mode", desc := "(I)Lcom/example/versions_to_view/versionstoview/lock/LockMode;" } : Jvm.MethodName) method_2_code (1 : Nat) (Option.some (Jvm.ClassFile.FieldType.object "com/example/versions_to_view/versionstoview/lock/LockMode")), Jvm.Cond.code ({ cls := "com/example/versions_to_view/versionstoview/lock/LockMode", name := "covers", desc := "(Lcom/example/versions_to_view/versionstoview/lock/LockMode;)Z" } : Jvm.MethodName) prog_17_method_5_code (2 : Nat) (Option.some Jvm.ClassFile.FieldType.boolean)]
set_option maxRecDepth 65536 in
theorem codes_eq : words1.filter isCode = codes1 := rfl
theorem w_codes : ∀ c ∈ words1.filter isCode, c.before args0 about1 = true := by
  rw [codes_eq]
  intro c hc
  simp only [codes1, List.mem_cons, List.not_mem_nil, or_false] at hc
  rcases hc with rfl | rfl | rfl
  · exact w_c0
  · exact w_c1
  · exact w_c2
set_option maxRecDepth 65536 in
theorem w_t1 : words1.all (fun c => isCode c || c.before args0 about1) = true := by decide +kernel
theorem w_tables : (allAtoms (Jvm.Cond.code x code maxLocals ret :: tables_1)).before args0 about1 = true := by
  rw [allAtoms_all]
  show words1.all (fun c => c.before args0 about1) = true
  refine all_split ?_ w_codes
  rw [w_t1]
set_option maxRecDepth 65536 in
theorem w_case : (Jvm.Cond.and given_1 narrow_1).before args0 about1 = true := by decide +kernel
theorem w_applies : (headSpec (Jvm.Cond.code x code maxLocals ret :: tables_1) room_1).applies x e0.platform about1 = true :=
  (Spec.applies_iff w_frames).mpr ⟨w_running, w_runnable, w_alone, w_named, w_hears, w_ripe, w_room, w_tables⟩
theorem atStart : AtStart classFile x code maxLocals ret World_1 tables_1 room_1 Calls_1 rest_1 Pre_1 launch0 p0 e0 about1 theMethod args0 below0 :=
  ⟨lists_1, trivial, launch0.admits_env _ _ _, launch0.least_env, fairChoices_fair.cas, fairChoices_fair.clock, w_frames, w_args, w_heap, w_applies, trivial, trivial, w_case⟩
end start1
theorem witness_1 : WitnessClaimed_1 := ⟨start1.p0, start1.e0, start1.about1, start1.theMethod, start1.args0, start1.below0, start1.atStart⟩
end Jvm.Pilot.@@N@@
