import JvmDerived
import JvmDerived.Pilot.@@N@@Statement
import JvmDerived.Pilot.@@N@@Code
set_option linter.unusedVariables false
set_option linter.unusedSimpArgs false
namespace Jvm.RoadKit
open Sem ClassFile Op Lib Jvm.Stand Jvm.Free Jvm.LawKit
section New
variable {p : Program} {l : Launch} {e : Env} {R : Room} {s : State} {m : MethodId} {args : Array Value} {below : List Frame} {meth : Method} {c : Code} {T : State} {locs : List Loc} {cells slots : Nat}
theorem retI (X : Stand p l e R s m args below meth c T locs cells slots) (hx : p.tables.exec = Jvm.exec) {pc : Nat} {Ls : Array Slot} {z : Int32} {rest : List Value} (hret : meth.sig.returnType = some .int) (hd : decode c.code pc = .ok (.ireturn, 1)) {fs : List Frame}
    (hl : ∀ (f : JFrame) (acts : List Action), f.method = m → f.locked = none → f.entered = [] → (doReturn e (T.setTop f) acts (some (.int z))).1 = T.setFrames fs) : Steps p.tables e below (T.setTop (mkF m pc Ls (.int z :: rest))) (T.setFrames fs) := by
  have hm' : T.vm.method? m = some meth := X.method'
  have hn : narrow .int (.int z) = .int z := rfl
  show Steps p.tables e below (T.setTop { method := m, pc := pc, locals := Ls, stack := _ :: rest, locked := none }) _
  jvm_step X.here [X.here.top, hx, hd, hm', hret, hn]
  first | (intro acts; rw [hl _ acts rfl rfl rfl]) | rw [hl _ _ rfl rfl rfl]
  exact Steps.refl _
end New
end Jvm.RoadKit
namespace Jvm.Pilot.@@N@@
open Jvm Jvm.ClassFile Sem Op Lib Jvm.Free Jvm.Stand Jvm.LawKit Jvm.RoadKit Bundle Jvm.Pilot.@@N@@.Jvm.D
def own_Goes (p : Program) (e : Env) (below : List Frame) (S : State) (K : State → Outcome → Prop) : Prop := ∃ s₂ o, Steps p.tables e below S s₂ ∧ s₂.status = .running ∧ Ended s₂ below o ∧ K s₂ o
theorem own_of {p : Program} {e : Env} {below : List Frame} {S S' : State} {K : State → Outcome → Prop} (k : ∀ t, Steps p.tables e below S' t → Steps p.tables e below S t) (h : own_Goes p e below S' K) : own_Goes p e below S K := by
  obtain ⟨t, o, h1, h2⟩ := h
  exact ⟨t, o, k t h1, h2⟩
theorem own_nameK {p : Program} {e : Env} {below : List Frame} {S : State} {K' : State → Outcome → Prop} (h : ∀ K, K = K' → own_Goes p e below S K) : own_Goes p e below S K' := h K' rfl
theorem own_nar {g : Int32} (h : g = (0 : Int32) ∨ g = (1 : Int32)) : nar .boolean g = g := by rcases h with rfl | rfl <;> rfl
theorem own_narV {g : Int32} (h : g = (0 : Int32) ∨ g = (1 : Int32)) : narrow .boolean (.int g) = .int g := by rcases h with rfl | rfl <;> rfl
theorem own_fitsZ {g : Int32} (h : g = (0 : Int32) ∨ g = (1 : Int32)) : fits .boolean (.int g) = true := by rcases h with rfl | rfl <;> rfl
theorem own_cat {v : Value} (h : v.isRef = true) : v.category = 1 := by
  rcases ref_cases h with rfl | ⟨a, rfl⟩ <;> rfl
theorem own_eqI {args : Array Value} {s : State} {t : Term} {k : Int32} (h : (Jvm.Cond.eq t (.int k)).value args s none s [] = some true) : t.eval args s none [] s = some (.int k) := by
  simp only [Cond.value, Term.eval] at h
  cases ht : t.eval args s none [] s with
  | none => simp [ht] at h
  | some x => cases x <;> simp [ht] at h ⊢; exact h
theorem own_eqL {args : Array Value} {s : State} {t : Term} {k : Int64} (h : (Jvm.Cond.eq t (.long k)).value args s none s [] = some true) : t.eval args s none [] s = some (.long k) := by
  simp only [Cond.value, Term.eval] at h
  cases ht : t.eval args s none [] s with
  | none => simp [ht] at h
  | some x => cases x <;> simp [ht] at h ⊢; exact h
def own_sel (k : Int32) (a b c d : Addr) : Addr := if k = (0 : Int32) then a else if k = (1 : Int32) then b else if k = (2 : Int32) then c else d
def own_ord (k : Int32) : Int32 := if k = (0 : Int32) then 0 else if k = (1 : Int32) then 1 else if k = (2 : Int32) then 2 else 3
theorem own_ord4 (k : Int32) : own_ord k = (0 : Int32) ∨ own_ord k = (1 : Int32) ∨ own_ord k = (2 : Int32) ∨ own_ord k = (3 : Int32) := by
  unfold own_ord
  split
  · exact Or.inl rfl
  · split
    · exact Or.inr (Or.inl rfl)
    · split
      · exact Or.inr (Or.inr (Or.inl rfl))
      · exact Or.inr (Or.inr (Or.inr rfl))
def own_gap (x c d : Addr) : Int32 := if x = c then 1 else if x = d then 1 else 0
def own_exp (k : Int32) : Int32 := if k = (0 : Int32) then 0 else if k = (1 : Int32) then 0 else if k = (2 : Int32) then 1 else 1
def own_w0 (y a b c : Addr) : Int32 := if y = b then 1 else 0
def own_w1 (y a b c : Addr) : Int32 := if y = a then 1 else if y = b then 1 else 0
def own_w2 (y a b c : Addr) : Int32 := 0
def own_w3 (y a b c : Addr) : Int32 := if y = c then 1 else 0
def own_wf (o : Int32) (y a b c : Addr) : Int32 := if o = (0 : Int32) then own_w0 y a b c else if o = (1 : Int32) then own_w1 y a b c else if o = (2 : Int32) then own_w2 y a b c else own_w3 y a b c
theorem own_m3 (p : Int32) : ∃ i : Fin 4, (p &&& (3 : Int32)) = Int32.ofNat i.1 := by
  have h := c_mask p 3 2 (by decide) (by decide)
  have r : (p &&& (3 : Int32)).toInt = 0 ∨ (p &&& (3 : Int32)).toInt = 1 ∨ (p &&& (3 : Int32)).toInt = 2 ∨ (p &&& (3 : Int32)).toInt = 3 := by omega
  rcases r with r | r | r | r
  · exact ⟨0, Int32.toInt_inj.mp (r.trans (by decide))⟩
  · exact ⟨1, Int32.toInt_inj.mp (r.trans (by decide))⟩
  · exact ⟨2, Int32.toInt_inj.mp (r.trans (by decide))⟩
  · exact ⟨3, Int32.toInt_inj.mp (r.trans (by decide))⟩
theorem own_key (p : Int32) (a b c d : Addr) (n1 : a ≠ b) (n2 : a ≠ c) (n3 : a ≠ d) (n4 : b ≠ c) (n5 : b ≠ d) (n6 : c ≠ d) {r : Addr} (hr : r = own_sel (p &&& (3 : Int32)) a b c d) :
    own_gap r c d = own_exp (p &&& (3 : Int32)) ∧ (¬ own_gap r c d = (0 : Int32) → own_wf (own_ord (p &&& (3 : Int32))) a a b c = (0 : Int32) ∧ own_wf (own_ord (p &&& (3 : Int32))) b a b c = (0 : Int32)) ∧ (own_gap r c d = (0 : Int32) → own_wf (own_ord (p &&& (3 : Int32))) b a b c = (1 : Int32)) := by
  obtain ⟨i, hi⟩ := own_m3 p
  rw [hi] at hr ⊢
  have s0 : own_sel (Int32.ofNat 0) a b c d = a := rfl
  have s1 : own_sel (Int32.ofNat 1) a b c d = b := rfl
  have s2 : own_sel (Int32.ofNat 2) a b c d = c := rfl
  have s3 : own_sel (Int32.ofNat 3) a b c d = d := rfl
  match i, hr with
  | 0, hr => rw [show r = a from hr]; exact ⟨by simp [own_gap, n2, n3]; rfl, fun u => absurd (by simp [own_gap, n2, n3]) u, fun _ => by show own_w0 b a b c = 1; simp [own_w0]⟩
  | 1, hr => rw [show r = b from hr]; exact ⟨by simp [own_gap, n4, n5]; rfl, fun u => absurd (by simp [own_gap, n4, n5]) u, fun _ => by show own_w1 b a b c = 1; simp [own_w1]⟩
  | 2, hr => rw [show r = c from hr]; exact ⟨by simp [own_gap]; rfl, fun _ => ⟨rfl, rfl⟩, fun u => absurd u (by simp [own_gap])⟩
  | 3, hr => rw [show r = d from hr]; exact ⟨by simp [own_gap]; rfl, fun _ => ⟨by show own_w3 a a b c = 0; simp [own_w3, n2], by show own_w3 b a b c = 0; simp [own_w3, n4]⟩, fun u => absurd u (by simp [own_gap])⟩
theorem d1_0 : decode method_2_code 0 = .ok (.iload_n 0, 1) := by decide +kernel
theorem d1_1 : decode method_2_code 1 = .ok (.ifCond .ne 7, 3) := by decide +kernel
theorem d1_4 : decode method_2_code 4 = .ok (.getstatic 7, 3) := by decide +kernel
theorem d1_7 : decode method_2_code 7 = .ok (.areturn, 1) := by decide +kernel
theorem d1_8 : decode method_2_code 8 = .ok (.iload_n 0, 1) := by decide +kernel
theorem d1_9 : decode method_2_code 9 = .ok (.iconst 1, 1) := by decide +kernel
theorem d1_10 : decode method_2_code 10 = .ok (.if_icmp .ne 7, 3) := by decide +kernel
theorem d1_13 : decode method_2_code 13 = .ok (.getstatic 13, 3) := by decide +kernel
theorem d1_16 : decode method_2_code 16 = .ok (.areturn, 1) := by decide +kernel
theorem d1_17 : decode method_2_code 17 = .ok (.iload_n 0, 1) := by decide +kernel
theorem d1_18 : decode method_2_code 18 = .ok (.iconst 2, 1) := by decide +kernel
theorem d1_19 : decode method_2_code 19 = .ok (.if_icmp .ne 7, 3) := by decide +kernel
theorem d1_22 : decode method_2_code 22 = .ok (.getstatic 16, 3) := by decide +kernel
theorem d1_25 : decode method_2_code 25 = .ok (.areturn, 1) := by decide +kernel
theorem d1_26 : decode method_2_code 26 = .ok (.getstatic 19, 3) := by decide +kernel
theorem d1_29 : decode method_2_code 29 = .ok (.areturn, 1) := by decide +kernel
theorem pn_1 : plainName "com/example/versions_to_view/versionstoview/lock/LockModeIsOnGapPinLaw" = true := by first | (simp [plainName, overriddenIn]; done) | decide +kernel
theorem ef_1 (m : MethodId) (p1 : Int32) : entryFrame m #[(.int p1)] 1 = mkF m 0 #[.val (.int p1)] [] := by first | (simp [entryFrame, mkF, argsToLocals, Value.category]; done) | rfl
def Q1 (Z : State) (p1 : Int32) (w_SHARED : Addr) (w_EXCLUSIVE : Addr) (w_GAP : Addr) (w_INSERT_INTENTION : Addr) (h0 : Heap) (n0 : Nat) (v : Option Value) (h : Heap) (L : List Loc) : Prop := ∃ r : Addr, (v = some (.ref r)) ∧ (Fr n0 L) ∧ (h = h0) ∧ (Exa Z h r "com/example/versions_to_view/versionstoview/lock/LockMode") ∧ (Fld Z h r "java/lang/Enum" "ordinal" "I" (.int (own_ord p1))) ∧ (r = own_sel p1 w_SHARED w_EXCLUSIVE w_GAP w_INSERT_INTENTION)
set_option maxRecDepth 65536 in
set_option maxHeartbeats 40000000 in
theorem rm1 (l : Launch) (Z : State) (a0 : Array Value) (hw : ∀ d ∈ tables_1, d.before a0 Z = true) (ws : List Jvm.Cond) (p1 : Int32) (w_SHARED : Addr) (w_EXCLUSIVE : Addr) (w_GAP : Addr) (w_INSERT_INTENTION : Addr) (h0 : Heap) (n0 : Nat) (Z0 : n0 ≤ h0.size) (S_SHARED : Sta Z h0 "com/example/versions_to_view/versionstoview/lock/LockMode" "SHARED" "Lcom/example/versions_to_view/versionstoview/lock/LockMode;" (.ref w_SHARED)) (S_EXCLUSIVE : Sta Z h0 "com/example/versions_to_view/versionstoview/lock/LockMode" "EXCLUSIVE" "Lcom/example/versions_to_view/versionstoview/lock/LockMode;" (.ref w_EXCLUSIVE)) (S_GAP : Sta Z h0 "com/example/versions_to_view/versionstoview/lock/LockMode" "GAP" "Lcom/example/versions_to_view/versionstoview/lock/LockMode;" (.ref w_GAP)) (S_INSERT_INTENTION : Sta Z h0 "com/example/versions_to_view/versionstoview/lock/LockMode" "INSERT_INTENTION" "Lcom/example/versions_to_view/versionstoview/lock/LockMode;" (.ref w_INSERT_INTENTION)) (E_w_SHARED : Exa Z h0 w_SHARED "com/example/versions_to_view/versionstoview/lock/LockMode") (E_w_EXCLUSIVE : Exa Z h0 w_EXCLUSIVE "com/example/versions_to_view/versionstoview/lock/LockMode") (E_w_GAP : Exa Z h0 w_GAP "com/example/versions_to_view/versionstoview/lock/LockMode") (E_w_INSERT_INTENTION : Exa Z h0 w_INSERT_INTENTION "com/example/versions_to_view/versionstoview/lock/LockMode") (F_ordinal_w_SHARED : Fld Z h0 w_SHARED "java/lang/Enum" "ordinal" "I" (.int (0 : Int32))) (F_ordinal_w_EXCLUSIVE : Fld Z h0 w_EXCLUSIVE "java/lang/Enum" "ordinal" "I" (.int (1 : Int32))) (F_ordinal_w_GAP : Fld Z h0 w_GAP "java/lang/Enum" "ordinal" "I" (.int (2 : Int32))) (F_ordinal_w_INSERT_INTENTION : Fld Z h0 w_INSERT_INTENTION "java/lang/Enum" "ordinal" "I" (.int (3 : Int32))) :
    MetFree l (⟨"com/example/versions_to_view/versionstoview/lock/LockModeIsOnGapPinLaw", "pick", "(I)Lcom/example/versions_to_view/versionstoview/lock/LockMode;"⟩ : MethodName) (head1 (Jvm.Cond.code (⟨"com/example/versions_to_view/versionstoview/lock/LockModeIsOnGapPinLaw", "pick", "(I)Lcom/example/versions_to_view/versionstoview/lock/LockMode;"⟩ : MethodName) method_2_code 1 (some (.object "com/example/versions_to_view/versionstoview/lock/LockMode")) :: ws) ({ frames := 0, cells := 0, slots := 0, locals := 0 } : Room)) (fun a U => a = #[(.int p1)] ∧ Z.Warmed39 U.vm ∧ U.heap = h0) (fun _ _ _ _ _ => True) (fun _ U o U' => ∃ v L, o = .returned v ∧ Q1 Z p1 w_SHARED w_EXCLUSIVE w_GAP w_INSERT_INTENTION h0 n0 v U'.heap L ∧ FrameEnd U o U' L ({ frames := 0, cells := 0, slots := 0, locals := 0 } : Room).cells ({ frames := 0, cells := 0, slots := 0, locals := 0 } : Room).slots) := by
  refine MetFree.of_bodySF (plainFor_of_name pn_1) hisR ?_
  intro p e s m args below meth c s₁ Bd hml0 hP hK
  obtain ⟨rfl, hZ, hh⟩ := hP
  have hx := Bd.exec
  have hby := Bd.bytes
  have hml : c.maxLocals = 1 := hml0
  have hown : s.vm.findClass "com/example/versions_to_view/versionstoview/lock/LockModeIsOnGapPinLaw" = some m.cls := findClass_of_methodNamed Bd.named
  have hnm := (name_of_methodNamed Bd.named Bd.method).1
  have X0 : Stand p l e ({ frames := 0, cells := 0, slots := 0, locals := 0 } : Room) s m #[(.int p1)] below meth c s₁ [] 0 0 := Stand.of_body Bd
  have e0 : s₁.heap = h0 := by rw [← hh, Bd.state]; rfl
  have N0 := Fr.nil n0
  refine own_of (S := s₁.setTop (entryFrame m #[(.int p1)] 1)) (S' := s₁.setTop (mkF m 0 #[.val (.int p1)] [])) (K := fun s₂ o => ∃ v L, o = .returned v ∧ Q1 Z p1 w_SHARED w_EXCLUSIVE w_GAP w_INSERT_INTENTION h0 n0 v s₂.heap L ∧ FrameEnd s o s₂ L ({ frames := 0, cells := 0, slots := 0, locals := 0 } : Room).cells ({ frames := 0, cells := 0, slots := 0, locals := 0 } : Room).slots) (fun t k => castTop (ef_1 m p1) k) ?_
  refine own_nameK fun K hKd => ?_
  refine own_of (S' := s₁.setTop (mkF m 1 #[.val (.int p1)] [(.int p1)])) (fun t k => XS.iloadN X0.here hx rfl (hb hby d1_0) rfl k) ?_
  by_cases hc1_1 : p1 = (0 : Int32)
  · refine own_of (S' := s₁.setTop (mkF m 4 #[.val (.int p1)] [])) (fun t k => XS.ifNo X0.here hx rfl (hb hby d1_1) rfl ((if0 _ _).trans (teq hc1_1).2) k) ?_
    obtain ⟨T2, X2, e2, st2⟩ := getS2 X0 hx hZ hown (host := "") (Or.inl (hw _ (List.mem_of_getElem? (i := 4) rfl))) Via.refl e0 S_SHARED (g := (mkF m 4 #[.val (.int p1)] [])) rfl (hb hby d1_4)
    refine own_of (S' := T2.setTop (mkF m 7 #[.val (.int p1)] [(.ref w_SHARED)])) st2 ?_
    obtain ⟨fs, hr, hrun, hended, hW, hsame⟩ := X2.leave (v := some (.ref w_SHARED)) (fun h => by rw [Bd.returns] at h; cases h)
    subst hKd
    exact ⟨_, _, (retOut X2 hx Bd.returns rfl (Or.inr (Or.inr (Or.inr (Or.inr ⟨rfl, rfl, rfl⟩)))) (hb hby d1_7) hr), hrun, hended, _, _, rfl, (by
      show Q1 Z p1 w_SHARED w_EXCLUSIVE w_GAP w_INSERT_INTENTION h0 n0 _ T2.heap _
      rw [show T2.heap = h0 from e2]
      exact ⟨w_SHARED, rfl, N0, rfl, E_w_SHARED, (by rw [own_ord, if_pos hc1_1]; exact F_ordinal_w_SHARED), (by rw [own_sel, if_pos hc1_1])⟩), ⟨_, rfl⟩, hW, hsame.mono (by decide) (by decide)⟩
  refine own_of (S' := s₁.setTop (mkF m 8 #[.val (.int p1)] [])) (fun t k => XS.ifYes X0.here hx rfl (pc0 := 1) (pc' := 8) rfl (hb hby d1_1) rfl ((if0 _ _).trans (feq hc1_1).2) (by decide) (by decide) k) ?_
  refine own_of (S' := s₁.setTop (mkF m 9 #[.val (.int p1)] [(.int p1)])) (fun t k => XS.iloadN X0.here hx rfl (hb hby d1_8) rfl k) ?_
  refine own_of (S' := s₁.setTop (mkF m 10 #[.val (.int p1)] [(.int (1 : Int32)), (.int p1)])) (fun t k => XS.iconst X0.here hx rfl (hb hby d1_9) k) ?_
  by_cases hc10_3 : p1 = (1 : Int32)
  · refine own_of (S' := s₁.setTop (mkF m 13 #[.val (.int p1)] [])) (fun t k => XS.icmpNo X0.here hx rfl (hb hby d1_10) rfl (teq hc10_3).2 k) ?_
    obtain ⟨T4, X4, e4, st4⟩ := getS2 X0 hx hZ hown (host := "") (Or.inl (hw _ (List.mem_of_getElem? (i := 19) rfl))) Via.refl e0 S_EXCLUSIVE (g := (mkF m 13 #[.val (.int p1)] [])) rfl (hb hby d1_13)
    refine own_of (S' := T4.setTop (mkF m 16 #[.val (.int p1)] [(.ref w_EXCLUSIVE)])) st4 ?_
    obtain ⟨fs, hr, hrun, hended, hW, hsame⟩ := X4.leave (v := some (.ref w_EXCLUSIVE)) (fun h => by rw [Bd.returns] at h; cases h)
    subst hKd
    exact ⟨_, _, (retOut X4 hx Bd.returns rfl (Or.inr (Or.inr (Or.inr (Or.inr ⟨rfl, rfl, rfl⟩)))) (hb hby d1_16) hr), hrun, hended, _, _, rfl, (by
      show Q1 Z p1 w_SHARED w_EXCLUSIVE w_GAP w_INSERT_INTENTION h0 n0 _ T4.heap _
      rw [show T4.heap = h0 from e4]
      exact ⟨w_EXCLUSIVE, rfl, N0, rfl, E_w_EXCLUSIVE, (by rw [own_ord, if_neg hc1_1, if_pos hc10_3]; exact F_ordinal_w_EXCLUSIVE), (by rw [own_sel, if_neg hc1_1, if_pos hc10_3])⟩), ⟨_, rfl⟩, hW, hsame.mono (by decide) (by decide)⟩
  refine own_of (S' := s₁.setTop (mkF m 17 #[.val (.int p1)] [])) (fun t k => XS.icmpYes X0.here hx rfl (pc0 := 10) (pc' := 17) rfl (hb hby d1_10) rfl (feq hc10_3).2 (by decide) (by decide) k) ?_
  refine own_of (S' := s₁.setTop (mkF m 18 #[.val (.int p1)] [(.int p1)])) (fun t k => XS.iloadN X0.here hx rfl (hb hby d1_17) rfl k) ?_
  refine own_of (S' := s₁.setTop (mkF m 19 #[.val (.int p1)] [(.int (2 : Int32)), (.int p1)])) (fun t k => XS.iconst X0.here hx rfl (hb hby d1_18) k) ?_
  by_cases hc19_5 : p1 = (2 : Int32)
  · refine own_of (S' := s₁.setTop (mkF m 22 #[.val (.int p1)] [])) (fun t k => XS.icmpNo X0.here hx rfl (hb hby d1_19) rfl (teq hc19_5).2 k) ?_
    obtain ⟨T6, X6, e6, st6⟩ := getS2 X0 hx hZ hown (host := "") (Or.inl (hw _ (List.mem_of_getElem? (i := 37) rfl))) Via.refl e0 S_GAP (g := (mkF m 22 #[.val (.int p1)] [])) rfl (hb hby d1_22)
    refine own_of (S' := T6.setTop (mkF m 25 #[.val (.int p1)] [(.ref w_GAP)])) st6 ?_
    obtain ⟨fs, hr, hrun, hended, hW, hsame⟩ := X6.leave (v := some (.ref w_GAP)) (fun h => by rw [Bd.returns] at h; cases h)
    subst hKd
    exact ⟨_, _, (retOut X6 hx Bd.returns rfl (Or.inr (Or.inr (Or.inr (Or.inr ⟨rfl, rfl, rfl⟩)))) (hb hby d1_25) hr), hrun, hended, _, _, rfl, (by
      show Q1 Z p1 w_SHARED w_EXCLUSIVE w_GAP w_INSERT_INTENTION h0 n0 _ T6.heap _
      rw [show T6.heap = h0 from e6]
      exact ⟨w_GAP, rfl, N0, rfl, E_w_GAP, (by rw [own_ord, if_neg hc1_1, if_neg hc10_3, if_pos hc19_5]; exact F_ordinal_w_GAP), (by rw [own_sel, if_neg hc1_1, if_neg hc10_3, if_pos hc19_5])⟩), ⟨_, rfl⟩, hW, hsame.mono (by decide) (by decide)⟩
  refine own_of (S' := s₁.setTop (mkF m 26 #[.val (.int p1)] [])) (fun t k => XS.icmpYes X0.here hx rfl (pc0 := 19) (pc' := 26) rfl (hb hby d1_19) rfl (feq hc19_5).2 (by decide) (by decide) k) ?_
  obtain ⟨T7, X7, e7, st7⟩ := getS2 X0 hx hZ hown (host := "") (Or.inl (hw _ (List.mem_of_getElem? (i := 36) rfl))) Via.refl e0 S_INSERT_INTENTION (g := (mkF m 26 #[.val (.int p1)] [])) rfl (hb hby d1_26)
  refine own_of (S' := T7.setTop (mkF m 29 #[.val (.int p1)] [(.ref w_INSERT_INTENTION)])) st7 ?_
  obtain ⟨fs, hr, hrun, hended, hW, hsame⟩ := X7.leave (v := some (.ref w_INSERT_INTENTION)) (fun h => by rw [Bd.returns] at h; cases h)
  subst hKd
  exact ⟨_, _, (retOut X7 hx Bd.returns rfl (Or.inr (Or.inr (Or.inr (Or.inr ⟨rfl, rfl, rfl⟩)))) (hb hby d1_29) hr), hrun, hended, _, _, rfl, (by
    show Q1 Z p1 w_SHARED w_EXCLUSIVE w_GAP w_INSERT_INTENTION h0 n0 _ T7.heap _
    rw [show T7.heap = h0 from e7]
    exact ⟨w_INSERT_INTENTION, rfl, N0, rfl, E_w_INSERT_INTENTION, (by rw [own_ord, if_neg hc1_1, if_neg hc10_3, if_neg hc19_5]; exact F_ordinal_w_INSERT_INTENTION), (by rw [own_sel, if_neg hc1_1, if_neg hc10_3, if_neg hc19_5])⟩), ⟨_, rfl⟩, hW, hsame.mono (by decide) (by decide)⟩
theorem d2_0 : decode prog_17_method_6_code 0 = .ok (.aload_n 0, 1) := by decide +kernel
theorem d2_1 : decode prog_17_method_6_code 1 = .ok (.getstatic 10, 3) := by decide +kernel
theorem d2_4 : decode prog_17_method_6_code 4 = .ok (.if_acmp .eq 10, 3) := by decide +kernel
theorem d2_7 : decode prog_17_method_6_code 7 = .ok (.aload_n 0, 1) := by decide +kernel
theorem d2_8 : decode prog_17_method_6_code 8 = .ok (.getstatic 13, 3) := by decide +kernel
theorem d2_11 : decode prog_17_method_6_code 11 = .ok (.if_acmp .ne 7, 3) := by decide +kernel
theorem d2_14 : decode prog_17_method_6_code 14 = .ok (.iconst 1, 1) := by decide +kernel
theorem d2_15 : decode prog_17_method_6_code 15 = .ok (.goto 4, 3) := by decide +kernel
theorem d2_18 : decode prog_17_method_6_code 18 = .ok (.iconst 0, 1) := by decide +kernel
theorem d2_19 : decode prog_17_method_6_code 19 = .ok (.ireturn, 1) := by decide +kernel
theorem pn_2 : plainName "com/example/versions_to_view/versionstoview/lock/LockMode" = true := by first | (simp [plainName, overriddenIn]; done) | decide +kernel
theorem ef_2 (m : MethodId) (a1 : Addr) : entryFrame m #[(.ref a1)] 1 = mkF m 0 #[.val (.ref a1)] [] := by first | (simp [entryFrame, mkF, argsToLocals, Value.category]; done) | rfl
def Q2 (Z : State) (a1 : Addr) (w_GAP : Addr) (w_INSERT_INTENTION : Addr) (h0 : Heap) (n0 : Nat) (v : Option Value) (h : Heap) (L : List Loc) : Prop := (v = some (.int (own_gap a1 w_GAP w_INSERT_INTENTION))) ∧ (Fr n0 L) ∧ (h = h0)
set_option maxRecDepth 65536 in
set_option maxHeartbeats 40000000 in
theorem rm2 (l : Launch) (Z : State) (a0 : Array Value) (hw : ∀ d ∈ tables_1, d.before a0 Z = true) (ws : List Jvm.Cond) (a1 : Addr) (w_GAP : Addr) (w_INSERT_INTENTION : Addr) (h0 : Heap) (n0 : Nat) (Z0 : n0 ≤ h0.size) (S_GAP : Sta Z h0 "com/example/versions_to_view/versionstoview/lock/LockMode" "GAP" "Lcom/example/versions_to_view/versionstoview/lock/LockMode;" (.ref w_GAP)) (S_INSERT_INTENTION : Sta Z h0 "com/example/versions_to_view/versionstoview/lock/LockMode" "INSERT_INTENTION" "Lcom/example/versions_to_view/versionstoview/lock/LockMode;" (.ref w_INSERT_INTENTION)) :
    MetFree l (⟨"com/example/versions_to_view/versionstoview/lock/LockMode", "isOnGap", "()Z"⟩ : MethodName) (head1 (Jvm.Cond.code (⟨"com/example/versions_to_view/versionstoview/lock/LockMode", "isOnGap", "()Z"⟩ : MethodName) prog_17_method_6_code 1 (some .boolean) :: ws) ({ frames := 0, cells := 0, slots := 0, locals := 0 } : Room)) (fun a U => a = #[(.ref a1)] ∧ Z.Warmed39 U.vm ∧ U.heap = h0) (fun _ _ _ _ _ => True) (fun _ U o U' => ∃ v L, o = .returned v ∧ Q2 Z a1 w_GAP w_INSERT_INTENTION h0 n0 v U'.heap L ∧ FrameEnd U o U' L ({ frames := 0, cells := 0, slots := 0, locals := 0 } : Room).cells ({ frames := 0, cells := 0, slots := 0, locals := 0 } : Room).slots) := by
  refine MetFree.of_bodySF (plainFor_of_name pn_2) hisR ?_
  intro p e s m args below meth c s₁ Bd hml0 hP hK
  obtain ⟨rfl, hZ, hh⟩ := hP
  have hx := Bd.exec
  have hby := Bd.bytes
  have hml : c.maxLocals = 1 := hml0
  have hown : s.vm.findClass "com/example/versions_to_view/versionstoview/lock/LockMode" = some m.cls := findClass_of_methodNamed Bd.named
  have hnm := (name_of_methodNamed Bd.named Bd.method).1
  have X0 : Stand p l e ({ frames := 0, cells := 0, slots := 0, locals := 0 } : Room) s m #[(.ref a1)] below meth c s₁ [] 0 0 := Stand.of_body Bd
  have e0 : s₁.heap = h0 := by rw [← hh, Bd.state]; rfl
  have N0 := Fr.nil n0
  refine own_of (S := s₁.setTop (entryFrame m #[(.ref a1)] 1)) (S' := s₁.setTop (mkF m 0 #[.val (.ref a1)] [])) (K := fun s₂ o => ∃ v L, o = .returned v ∧ Q2 Z a1 w_GAP w_INSERT_INTENTION h0 n0 v s₂.heap L ∧ FrameEnd s o s₂ L ({ frames := 0, cells := 0, slots := 0, locals := 0 } : Room).cells ({ frames := 0, cells := 0, slots := 0, locals := 0 } : Room).slots) (fun t k => castTop (ef_2 m a1) k) ?_
  refine own_nameK fun K hKd => ?_
  refine own_of (S' := s₁.setTop (mkF m 1 #[.val (.ref a1)] [(.ref a1)])) (fun t k => XS.aloadN X0.here hx rfl (hb hby d2_0) rfl rfl k) ?_
  obtain ⟨T1, X1, e1, st1⟩ := getS2 X0 hx hZ hown (host := "") (Or.inl (hw _ (List.mem_of_getElem? (i := 12) rfl))) Via.refl e0 S_GAP (g := (mkF m 1 #[.val (.ref a1)] [(.ref a1)])) rfl (hb hby d2_1)
  refine own_of (S' := T1.setTop (mkF m 4 #[.val (.ref a1)] [(.ref w_GAP), (.ref a1)])) st1 ?_
  by_cases ha4_2 : a1 = w_GAP
  · refine own_of (S' := T1.setTop (mkF m 14 #[.val (.ref a1)] [])) (fun t k => Jvm.RoadKit.acmp (g := (mkF m 4 #[.val (.ref a1)] [(.ref w_GAP), (.ref a1)])) X1 hx rfl rfl rfl (pc0 := 4) (pc' := 14) (same := true) rfl (hb hby d2_4) rfl (decide_eq_true (congrArg Value.ref ha4_2)) (by decide) (by decide) k) ?_
    refine own_of (S' := T1.setTop (mkF m 15 #[.val (.ref a1)] [(.int (1 : Int32))])) (fun t k => XS.iconst X1.here hx rfl (hb hby d2_14) k) ?_
    refine own_of (S' := T1.setTop (mkF m 19 #[.val (.ref a1)] [(.int (1 : Int32))])) (fun t k => XS.goto X1.here hx rfl (pc0 := 15) (pc' := 19) rfl (hb hby d2_15) (by decide) (by decide) k) ?_
    obtain ⟨fs, hr, hrun, hended, hW, hsame⟩ := X1.leave (v := some (.int (1 : Int32))) (fun h => by rw [Bd.returns] at h; cases h)
    subst hKd
    exact ⟨_, _, retN X1 hx (t := .boolean) Bd.returns (by simp) (hb hby d2_19) hr, hrun, hended, _, _, rfl, (by
      show Q2 Z a1 w_GAP w_INSERT_INTENTION h0 n0 _ T1.heap _
      rw [show T1.heap = h0 from e1]
      exact ⟨(by rw [own_gap, if_pos ha4_2]), N0, rfl⟩), ⟨_, rfl⟩, hW, hsame.mono (by decide) (by decide)⟩
  refine own_of (S' := T1.setTop (mkF m 7 #[.val (.ref a1)] [])) (fun t k => Jvm.RoadKit.acmp (g := (mkF m 4 #[.val (.ref a1)] [(.ref w_GAP), (.ref a1)])) X1 hx rfl rfl rfl (pc0 := 4) (pc' := 7) (same := false) rfl (hb hby d2_4) rfl (decide_eq_false fun q => ha4_2 (Value.ref.inj q)) (by decide) (by decide) k) ?_
  refine own_of (S' := T1.setTop (mkF m 8 #[.val (.ref a1)] [(.ref a1)])) (fun t k => XS.aloadN X1.here hx rfl (hb hby d2_7) rfl rfl k) ?_
  obtain ⟨T3, X3, e3, st3⟩ := getS2 X1 hx hZ hown (host := "") (Or.inl (hw _ (List.mem_of_getElem? (i := 14) rfl))) Via.refl e1 S_INSERT_INTENTION (g := (mkF m 8 #[.val (.ref a1)] [(.ref a1)])) rfl (hb hby d2_8)
  refine own_of (S' := T3.setTop (mkF m 11 #[.val (.ref a1)] [(.ref w_INSERT_INTENTION), (.ref a1)])) st3 ?_
  by_cases ha11_4 : a1 = w_INSERT_INTENTION
  · refine own_of (S' := T3.setTop (mkF m 14 #[.val (.ref a1)] [])) (fun t k => Jvm.RoadKit.acmp (g := (mkF m 11 #[.val (.ref a1)] [(.ref w_INSERT_INTENTION), (.ref a1)])) X3 hx rfl rfl rfl (pc0 := 11) (pc' := 14) (same := true) rfl (hb hby d2_11) rfl (decide_eq_true (congrArg Value.ref ha11_4)) (by decide) (by decide) k) ?_
    refine own_of (S' := T3.setTop (mkF m 15 #[.val (.ref a1)] [(.int (1 : Int32))])) (fun t k => XS.iconst X3.here hx rfl (hb hby d2_14) k) ?_
    refine own_of (S' := T3.setTop (mkF m 19 #[.val (.ref a1)] [(.int (1 : Int32))])) (fun t k => XS.goto X3.here hx rfl (pc0 := 15) (pc' := 19) rfl (hb hby d2_15) (by decide) (by decide) k) ?_
    obtain ⟨fs, hr, hrun, hended, hW, hsame⟩ := X3.leave (v := some (.int (1 : Int32))) (fun h => by rw [Bd.returns] at h; cases h)
    subst hKd
    exact ⟨_, _, retN X3 hx (t := .boolean) Bd.returns (by simp) (hb hby d2_19) hr, hrun, hended, _, _, rfl, (by
      show Q2 Z a1 w_GAP w_INSERT_INTENTION h0 n0 _ T3.heap _
      rw [show T3.heap = h0 from e3]
      exact ⟨(by rw [own_gap, if_neg ha4_2, if_pos ha11_4]), N0, rfl⟩), ⟨_, rfl⟩, hW, hsame.mono (by decide) (by decide)⟩
  refine own_of (S' := T3.setTop (mkF m 18 #[.val (.ref a1)] [])) (fun t k => Jvm.RoadKit.acmp (g := (mkF m 11 #[.val (.ref a1)] [(.ref w_INSERT_INTENTION), (.ref a1)])) X3 hx rfl rfl rfl (pc0 := 11) (pc' := 18) (same := false) rfl (hb hby d2_11) rfl (decide_eq_false fun q => ha11_4 (Value.ref.inj q)) (by decide) (by decide) k) ?_
  refine own_of (S' := T3.setTop (mkF m 19 #[.val (.ref a1)] [(.int (0 : Int32))])) (fun t k => XS.iconst X3.here hx rfl (hb hby d2_18) k) ?_
  obtain ⟨fs, hr, hrun, hended, hW, hsame⟩ := X3.leave (v := some (.int (0 : Int32))) (fun h => by rw [Bd.returns] at h; cases h)
  subst hKd
  exact ⟨_, _, retN X3 hx (t := .boolean) Bd.returns (by simp) (hb hby d2_19) hr, hrun, hended, _, _, rfl, (by
    show Q2 Z a1 w_GAP w_INSERT_INTENTION h0 n0 _ T3.heap _
    rw [show T3.heap = h0 from e3]
    exact ⟨(by rw [own_gap, if_neg ha4_2, if_neg ha11_4]), N0, rfl⟩), ⟨_, rfl⟩, hW, hsame.mono (by decide) (by decide)⟩
theorem d3_0 : decode method_3_code 0 = .ok (.iload_n 0, 1) := by decide +kernel
theorem d3_1 : decode method_3_code 1 = .ok (.ifCond .ne 5, 3) := by decide +kernel
theorem d3_4 : decode method_3_code 4 = .ok (.iconst 0, 1) := by decide +kernel
theorem d3_5 : decode method_3_code 5 = .ok (.ireturn, 1) := by decide +kernel
theorem d3_6 : decode method_3_code 6 = .ok (.iload_n 0, 1) := by decide +kernel
theorem d3_7 : decode method_3_code 7 = .ok (.iconst 1, 1) := by decide +kernel
theorem d3_8 : decode method_3_code 8 = .ok (.if_icmp .ne 5, 3) := by decide +kernel
theorem d3_11 : decode method_3_code 11 = .ok (.iconst 0, 1) := by decide +kernel
theorem d3_12 : decode method_3_code 12 = .ok (.ireturn, 1) := by decide +kernel
theorem d3_13 : decode method_3_code 13 = .ok (.iload_n 0, 1) := by decide +kernel
theorem d3_14 : decode method_3_code 14 = .ok (.iconst 2, 1) := by decide +kernel
theorem d3_15 : decode method_3_code 15 = .ok (.if_icmp .ne 5, 3) := by decide +kernel
theorem d3_18 : decode method_3_code 18 = .ok (.iconst 1, 1) := by decide +kernel
theorem d3_19 : decode method_3_code 19 = .ok (.ireturn, 1) := by decide +kernel
theorem d3_20 : decode method_3_code 20 = .ok (.iconst 1, 1) := by decide +kernel
theorem d3_21 : decode method_3_code 21 = .ok (.ireturn, 1) := by decide +kernel
theorem pn_3 : plainName "com/example/versions_to_view/versionstoview/lock/LockModeIsOnGapPinLaw" = true := by first | (simp [plainName, overriddenIn]; done) | decide +kernel
theorem ef_3 (m : MethodId) (p1 : Int32) : entryFrame m #[(.int p1)] 1 = mkF m 0 #[.val (.int p1)] [] := by first | (simp [entryFrame, mkF, argsToLocals, Value.category]; done) | rfl
def Q3 (Z : State) (p1 : Int32) (h0 : Heap) (n0 : Nat) (v : Option Value) (h : Heap) (L : List Loc) : Prop := (v = some (.int (own_exp p1))) ∧ (Fr n0 L) ∧ (h = h0)
set_option maxRecDepth 65536 in
set_option maxHeartbeats 40000000 in
theorem rm3 (l : Launch) (Z : State) (a0 : Array Value) (hw : ∀ d ∈ tables_1, d.before a0 Z = true) (ws : List Jvm.Cond) (p1 : Int32) (h0 : Heap) (n0 : Nat) (Z0 : n0 ≤ h0.size) :
    MetFree l (⟨"com/example/versions_to_view/versionstoview/lock/LockModeIsOnGapPinLaw", "expectedOnGap", "(I)Z"⟩ : MethodName) (head1 (Jvm.Cond.code (⟨"com/example/versions_to_view/versionstoview/lock/LockModeIsOnGapPinLaw", "expectedOnGap", "(I)Z"⟩ : MethodName) method_3_code 1 (some .boolean) :: ws) ({ frames := 0, cells := 0, slots := 0, locals := 0 } : Room)) (fun a U => a = #[(.int p1)] ∧ Z.Warmed39 U.vm ∧ U.heap = h0) (fun _ _ _ _ _ => True) (fun _ U o U' => ∃ v L, o = .returned v ∧ Q3 Z p1 h0 n0 v U'.heap L ∧ FrameEnd U o U' L ({ frames := 0, cells := 0, slots := 0, locals := 0 } : Room).cells ({ frames := 0, cells := 0, slots := 0, locals := 0 } : Room).slots) := by
  refine MetFree.of_bodySF (plainFor_of_name pn_3) hisR ?_
  intro p e s m args below meth c s₁ Bd hml0 hP hK
  obtain ⟨rfl, hZ, hh⟩ := hP
  have hx := Bd.exec
  have hby := Bd.bytes
  have hml : c.maxLocals = 1 := hml0
  have hown : s.vm.findClass "com/example/versions_to_view/versionstoview/lock/LockModeIsOnGapPinLaw" = some m.cls := findClass_of_methodNamed Bd.named
  have hnm := (name_of_methodNamed Bd.named Bd.method).1
  have X0 : Stand p l e ({ frames := 0, cells := 0, slots := 0, locals := 0 } : Room) s m #[(.int p1)] below meth c s₁ [] 0 0 := Stand.of_body Bd
  have e0 : s₁.heap = h0 := by rw [← hh, Bd.state]; rfl
  have N0 := Fr.nil n0
  refine own_of (S := s₁.setTop (entryFrame m #[(.int p1)] 1)) (S' := s₁.setTop (mkF m 0 #[.val (.int p1)] [])) (K := fun s₂ o => ∃ v L, o = .returned v ∧ Q3 Z p1 h0 n0 v s₂.heap L ∧ FrameEnd s o s₂ L ({ frames := 0, cells := 0, slots := 0, locals := 0 } : Room).cells ({ frames := 0, cells := 0, slots := 0, locals := 0 } : Room).slots) (fun t k => castTop (ef_3 m p1) k) ?_
  refine own_nameK fun K hKd => ?_
  refine own_of (S' := s₁.setTop (mkF m 1 #[.val (.int p1)] [(.int p1)])) (fun t k => XS.iloadN X0.here hx rfl (hb hby d3_0) rfl k) ?_
  by_cases hc1_1 : p1 = (0 : Int32)
  · refine own_of (S' := s₁.setTop (mkF m 4 #[.val (.int p1)] [])) (fun t k => XS.ifNo X0.here hx rfl (hb hby d3_1) rfl ((if0 _ _).trans (teq hc1_1).2) k) ?_
    refine own_of (S' := s₁.setTop (mkF m 5 #[.val (.int p1)] [(.int (0 : Int32))])) (fun t k => XS.iconst X0.here hx rfl (hb hby d3_4) k) ?_
    obtain ⟨fs, hr, hrun, hended, hW, hsame⟩ := X0.leave (v := some (.int (0 : Int32))) (fun h => by rw [Bd.returns] at h; cases h)
    subst hKd
    exact ⟨_, _, retN X0 hx (t := .boolean) Bd.returns (by simp) (hb hby d3_5) hr, hrun, hended, _, _, rfl, (by
      show Q3 Z p1 h0 n0 _ s₁.heap _
      rw [show s₁.heap = h0 from e0]
      exact ⟨(by rw [own_exp, if_pos hc1_1]), N0, rfl⟩), ⟨_, rfl⟩, hW, hsame.mono (by decide) (by decide)⟩
  refine own_of (S' := s₁.setTop (mkF m 6 #[.val (.int p1)] [])) (fun t k => XS.ifYes X0.here hx rfl (pc0 := 1) (pc' := 6) rfl (hb hby d3_1) rfl ((if0 _ _).trans (feq hc1_1).2) (by decide) (by decide) k) ?_
  refine own_of (S' := s₁.setTop (mkF m 7 #[.val (.int p1)] [(.int p1)])) (fun t k => XS.iloadN X0.here hx rfl (hb hby d3_6) rfl k) ?_
  refine own_of (S' := s₁.setTop (mkF m 8 #[.val (.int p1)] [(.int (1 : Int32)), (.int p1)])) (fun t k => XS.iconst X0.here hx rfl (hb hby d3_7) k) ?_
  by_cases hc8_2 : p1 = (1 : Int32)
  · refine own_of (S' := s₁.setTop (mkF m 11 #[.val (.int p1)] [])) (fun t k => XS.icmpNo X0.here hx rfl (hb hby d3_8) rfl (teq hc8_2).2 k) ?_
    refine own_of (S' := s₁.setTop (mkF m 12 #[.val (.int p1)] [(.int (0 : Int32))])) (fun t k => XS.iconst X0.here hx rfl (hb hby d3_11) k) ?_
    obtain ⟨fs, hr, hrun, hended, hW, hsame⟩ := X0.leave (v := some (.int (0 : Int32))) (fun h => by rw [Bd.returns] at h; cases h)
    subst hKd
    exact ⟨_, _, retN X0 hx (t := .boolean) Bd.returns (by simp) (hb hby d3_12) hr, hrun, hended, _, _, rfl, (by
      show Q3 Z p1 h0 n0 _ s₁.heap _
      rw [show s₁.heap = h0 from e0]
      exact ⟨(by rw [own_exp, if_neg hc1_1, if_pos hc8_2]), N0, rfl⟩), ⟨_, rfl⟩, hW, hsame.mono (by decide) (by decide)⟩
  refine own_of (S' := s₁.setTop (mkF m 13 #[.val (.int p1)] [])) (fun t k => XS.icmpYes X0.here hx rfl (pc0 := 8) (pc' := 13) rfl (hb hby d3_8) rfl (feq hc8_2).2 (by decide) (by decide) k) ?_
  refine own_of (S' := s₁.setTop (mkF m 14 #[.val (.int p1)] [(.int p1)])) (fun t k => XS.iloadN X0.here hx rfl (hb hby d3_13) rfl k) ?_
  refine own_of (S' := s₁.setTop (mkF m 15 #[.val (.int p1)] [(.int (2 : Int32)), (.int p1)])) (fun t k => XS.iconst X0.here hx rfl (hb hby d3_14) k) ?_
  by_cases hc15_3 : p1 = (2 : Int32)
  · refine own_of (S' := s₁.setTop (mkF m 18 #[.val (.int p1)] [])) (fun t k => XS.icmpNo X0.here hx rfl (hb hby d3_15) rfl (teq hc15_3).2 k) ?_
    refine own_of (S' := s₁.setTop (mkF m 19 #[.val (.int p1)] [(.int (1 : Int32))])) (fun t k => XS.iconst X0.here hx rfl (hb hby d3_18) k) ?_
    obtain ⟨fs, hr, hrun, hended, hW, hsame⟩ := X0.leave (v := some (.int (1 : Int32))) (fun h => by rw [Bd.returns] at h; cases h)
    subst hKd
    exact ⟨_, _, retN X0 hx (t := .boolean) Bd.returns (by simp) (hb hby d3_19) hr, hrun, hended, _, _, rfl, (by
      show Q3 Z p1 h0 n0 _ s₁.heap _
      rw [show s₁.heap = h0 from e0]
      exact ⟨(by rw [own_exp, if_neg hc1_1, if_neg hc8_2, if_pos hc15_3]), N0, rfl⟩), ⟨_, rfl⟩, hW, hsame.mono (by decide) (by decide)⟩
  refine own_of (S' := s₁.setTop (mkF m 20 #[.val (.int p1)] [])) (fun t k => XS.icmpYes X0.here hx rfl (pc0 := 15) (pc' := 20) rfl (hb hby d3_15) rfl (feq hc15_3).2 (by decide) (by decide) k) ?_
  refine own_of (S' := s₁.setTop (mkF m 21 #[.val (.int p1)] [(.int (1 : Int32))])) (fun t k => XS.iconst X0.here hx rfl (hb hby d3_20) k) ?_
  obtain ⟨fs, hr, hrun, hended, hW, hsame⟩ := X0.leave (v := some (.int (1 : Int32))) (fun h => by rw [Bd.returns] at h; cases h)
  subst hKd
  exact ⟨_, _, retN X0 hx (t := .boolean) Bd.returns (by simp) (hb hby d3_21) hr, hrun, hended, _, _, rfl, (by
    show Q3 Z p1 h0 n0 _ s₁.heap _
    rw [show s₁.heap = h0 from e0]
    exact ⟨(by rw [own_exp, if_neg hc1_1, if_neg hc8_2, if_neg hc15_3]), N0, rfl⟩), ⟨_, rfl⟩, hW, hsame.mono (by decide) (by decide)⟩
theorem d5_0 : decode jdk_37_method_2_code 0 = .ok (.aload_n 0, 1) := by decide +kernel
theorem d5_1 : decode jdk_37_method_2_code 1 = .ok (.getfield 7, 3) := by decide +kernel
theorem d5_4 : decode jdk_37_method_2_code 4 = .ok (.ireturn, 1) := by decide +kernel
theorem pn_5 : plainName "java/lang/Enum" = true := by first | (simp [plainName, overriddenIn]; done) | decide +kernel
theorem ef_5 (m : MethodId) (a1 : Addr) : entryFrame m #[(.ref a1)] 1 = mkF m 0 #[.val (.ref a1)] [] := by first | (simp [entryFrame, mkF, argsToLocals, Value.category]; done) | rfl
def Q5 (Z : State) (a1 : Addr) (od : Int32) (h0 : Heap) (n0 : Nat) (v : Option Value) (h : Heap) (L : List Loc) : Prop := (v = some (.int od)) ∧ (Fr n0 L) ∧ (h = h0)
set_option maxRecDepth 65536 in
set_option maxHeartbeats 40000000 in
theorem rm5 (l : Launch) (Z : State) (a0 : Array Value) (hw : ∀ d ∈ tables_1, d.before a0 Z = true) (ws : List Jvm.Cond) (a1 : Addr) (od : Int32) (h0 : Heap) (n0 : Nat) (Z0 : n0 ≤ h0.size) (F_ordinal_a1 : Fld Z h0 a1 "java/lang/Enum" "ordinal" "I" (.int od)) :
    MetFree l (⟨"java/lang/Enum", "ordinal", "()I"⟩ : MethodName) (head1 (Jvm.Cond.code (⟨"java/lang/Enum", "ordinal", "()I"⟩ : MethodName) jdk_37_method_2_code 1 (some .int) :: ws) ({ frames := 0, cells := 0, slots := 0, locals := 0 } : Room)) (fun a U => a = #[(.ref a1)] ∧ Z.Warmed39 U.vm ∧ U.heap = h0) (fun _ _ _ _ _ => True) (fun _ U o U' => ∃ v L, o = .returned v ∧ Q5 Z a1 od h0 n0 v U'.heap L ∧ FrameEnd U o U' L ({ frames := 0, cells := 0, slots := 0, locals := 0 } : Room).cells ({ frames := 0, cells := 0, slots := 0, locals := 0 } : Room).slots) := by
  refine MetFree.of_bodySF (plainFor_of_name pn_5) hisR ?_
  intro p e s m args below meth c s₁ Bd hml0 hP hK
  obtain ⟨rfl, hZ, hh⟩ := hP
  have hx := Bd.exec
  have hby := Bd.bytes
  have hml : c.maxLocals = 1 := hml0
  have hown : s.vm.findClass "java/lang/Enum" = some m.cls := findClass_of_methodNamed Bd.named
  have hnm := (name_of_methodNamed Bd.named Bd.method).1
  have X0 : Stand p l e ({ frames := 0, cells := 0, slots := 0, locals := 0 } : Room) s m #[(.ref a1)] below meth c s₁ [] 0 0 := Stand.of_body Bd
  have e0 : s₁.heap = h0 := by rw [← hh, Bd.state]; rfl
  have N0 := Fr.nil n0
  refine own_of (S := s₁.setTop (entryFrame m #[(.ref a1)] 1)) (S' := s₁.setTop (mkF m 0 #[.val (.ref a1)] [])) (K := fun s₂ o => ∃ v L, o = .returned v ∧ Q5 Z a1 od h0 n0 v s₂.heap L ∧ FrameEnd s o s₂ L ({ frames := 0, cells := 0, slots := 0, locals := 0 } : Room).cells ({ frames := 0, cells := 0, slots := 0, locals := 0 } : Room).slots) (fun t k => castTop (ef_5 m a1) k) ?_
  refine own_nameK fun K hKd => ?_
  refine own_of (S' := s₁.setTop (mkF m 1 #[.val (.ref a1)] [(.ref a1)])) (fun t k => XS.aloadN X0.here hx rfl (hb hby d5_0) rfl rfl k) ?_
  obtain ⟨T1, X1, e1, st1⟩ := getF X0 hx hZ hown (host := "") (Or.inl (hw _ (List.mem_of_getElem? (i := 33) rfl))) Via.refl e0 F_ordinal_a1 (g := (mkF m 1 #[.val (.ref a1)] [(.ref a1)])) rfl rfl (hb hby d5_1)
  refine own_of (S' := T1.setTop (mkF m 4 #[.val (.ref a1)] [(.int od)])) st1 ?_
  obtain ⟨fs, hr, hrun, hended, hW, hsame⟩ := X1.leave (v := some (.int od)) (fun h => by rw [Bd.returns] at h; cases h)
  subst hKd
  exact ⟨_, _, retI X1 hx Bd.returns (hb hby d5_4) hr, hrun, hended, _, _, rfl, (by
    show Q5 Z a1 od h0 n0 _ T1.heap _
    rw [show T1.heap = h0 from e1]
    exact ⟨rfl, N0, rfl⟩), ⟨_, rfl⟩, hW, hsame.mono (by decide) (by decide)⟩
theorem d4_0 : decode prog_17_method_4_code 0 = .ok (.aload_n 0, 1) := by decide +kernel
theorem d4_1 : decode prog_17_method_4_code 1 = .ok (.invokevirtual 35, 3) := by decide +kernel
theorem d4_4 : decode prog_17_method_4_code 4 = .ok (.tableswitch 78 0 3 #[32, 45, 78, 65], 32) := by decide +kernel
theorem d4_36 : decode prog_17_method_4_code 36 = .ok (.aload_n 1, 1) := by decide +kernel
theorem d4_37 : decode prog_17_method_4_code 37 = .ok (.getstatic 7, 3) := by decide +kernel
theorem d4_40 : decode prog_17_method_4_code 40 = .ok (.if_acmp .ne 7, 3) := by decide +kernel
theorem d4_43 : decode prog_17_method_4_code 43 = .ok (.iconst 1, 1) := by decide +kernel
theorem d4_44 : decode prog_17_method_4_code 44 = .ok (.goto 4, 3) := by decide +kernel
theorem d4_47 : decode prog_17_method_4_code 47 = .ok (.iconst 0, 1) := by decide +kernel
theorem d4_48 : decode prog_17_method_4_code 48 = .ok (.ireturn, 1) := by decide +kernel
theorem d4_49 : decode prog_17_method_4_code 49 = .ok (.aload_n 1, 1) := by decide +kernel
theorem d4_50 : decode prog_17_method_4_code 50 = .ok (.getstatic 3, 3) := by decide +kernel
theorem d4_53 : decode prog_17_method_4_code 53 = .ok (.if_acmp .eq 10, 3) := by decide +kernel
theorem d4_56 : decode prog_17_method_4_code 56 = .ok (.aload_n 1, 1) := by decide +kernel
theorem d4_57 : decode prog_17_method_4_code 57 = .ok (.getstatic 7, 3) := by decide +kernel
theorem d4_60 : decode prog_17_method_4_code 60 = .ok (.if_acmp .ne 7, 3) := by decide +kernel
theorem d4_63 : decode prog_17_method_4_code 63 = .ok (.iconst 1, 1) := by decide +kernel
theorem d4_64 : decode prog_17_method_4_code 64 = .ok (.goto 4, 3) := by decide +kernel
theorem d4_67 : decode prog_17_method_4_code 67 = .ok (.iconst 0, 1) := by decide +kernel
theorem d4_68 : decode prog_17_method_4_code 68 = .ok (.ireturn, 1) := by decide +kernel
theorem d4_69 : decode prog_17_method_4_code 69 = .ok (.aload_n 1, 1) := by decide +kernel
theorem d4_70 : decode prog_17_method_4_code 70 = .ok (.getstatic 10, 3) := by decide +kernel
theorem d4_73 : decode prog_17_method_4_code 73 = .ok (.if_acmp .ne 7, 3) := by decide +kernel
theorem d4_76 : decode prog_17_method_4_code 76 = .ok (.iconst 1, 1) := by decide +kernel
theorem d4_77 : decode prog_17_method_4_code 77 = .ok (.goto 4, 3) := by decide +kernel
theorem d4_80 : decode prog_17_method_4_code 80 = .ok (.iconst 0, 1) := by decide +kernel
theorem d4_81 : decode prog_17_method_4_code 81 = .ok (.ireturn, 1) := by decide +kernel
theorem d4_82 : decode prog_17_method_4_code 82 = .ok (.iconst 0, 1) := by decide +kernel
theorem d4_83 : decode prog_17_method_4_code 83 = .ok (.ireturn, 1) := by decide +kernel
theorem pn_4 : plainName "com/example/versions_to_view/versionstoview/lock/LockMode" = true := by first | (simp [plainName, overriddenIn]; done) | decide +kernel
theorem pd4_0 : parseMethodDescriptor "()I" = some ⟨[], some .int⟩ := by decide +kernel
theorem ef_4 (m : MethodId) (a1 : Addr) (a2 : Addr) : entryFrame m #[(.ref a1), (.ref a2)] 2 = mkF m 0 #[.val (.ref a1), .val (.ref a2)] [] := by first | (simp [entryFrame, mkF, argsToLocals, Value.category]; done) | rfl
def Q4 (Z : State) (a1 : Addr) (a2 : Addr) (od : Int32) (w_SHARED : Addr) (w_EXCLUSIVE : Addr) (w_GAP : Addr) (h0 : Heap) (n0 : Nat) (v : Option Value) (h : Heap) (L : List Loc) : Prop := (v = some (.int (own_wf od a2 w_SHARED w_EXCLUSIVE w_GAP))) ∧ (Fr n0 L) ∧ (h = h0)
set_option maxRecDepth 65536 in
set_option maxHeartbeats 40000000 in
theorem rm4 (l : Launch) (Z : State) (a0 : Array Value) (hw : ∀ d ∈ tables_1, d.before a0 Z = true) (ws : List Jvm.Cond) (a1 : Addr) (a2 : Addr) (od : Int32) (w_SHARED : Addr) (w_EXCLUSIVE : Addr) (w_GAP : Addr) (h0 : Heap) (n0 : Nat) (Z0 : n0 ≤ h0.size) (E_a1 : Exa Z h0 a1 "com/example/versions_to_view/versionstoview/lock/LockMode") (F_ordinal_a1 : Fld Z h0 a1 "java/lang/Enum" "ordinal" "I" (.int od)) (S_SHARED : Sta Z h0 "com/example/versions_to_view/versionstoview/lock/LockMode" "SHARED" "Lcom/example/versions_to_view/versionstoview/lock/LockMode;" (.ref w_SHARED)) (S_EXCLUSIVE : Sta Z h0 "com/example/versions_to_view/versionstoview/lock/LockMode" "EXCLUSIVE" "Lcom/example/versions_to_view/versionstoview/lock/LockMode;" (.ref w_EXCLUSIVE)) (S_GAP : Sta Z h0 "com/example/versions_to_view/versionstoview/lock/LockMode" "GAP" "Lcom/example/versions_to_view/versionstoview/lock/LockMode;" (.ref w_GAP)) (ho : od = (0 : Int32) ∨ od = (1 : Int32) ∨ od = (2 : Int32) ∨ od = (3 : Int32)) :
    MetFree l (⟨"com/example/versions_to_view/versionstoview/lock/LockMode", "waitsFor", "(Lcom/example/versions_to_view/versionstoview/lock/LockMode;)Z"⟩ : MethodName) (head1 (Jvm.Cond.code (⟨"com/example/versions_to_view/versionstoview/lock/LockMode", "waitsFor", "(Lcom/example/versions_to_view/versionstoview/lock/LockMode;)Z"⟩ : MethodName) prog_17_method_4_code 2 (some .boolean) :: ws) ({ frames := 1, cells := 0, slots := 0, locals := 12 } : Room)) (fun a U => a = #[(.ref a1), (.ref a2)] ∧ Z.Warmed39 U.vm ∧ U.heap = h0) (fun _ _ _ _ _ => True) (fun _ U o U' => ∃ v L, o = .returned v ∧ Q4 Z a1 a2 od w_SHARED w_EXCLUSIVE w_GAP h0 n0 v U'.heap L ∧ FrameEnd U o U' L ({ frames := 1, cells := 0, slots := 0, locals := 12 } : Room).cells ({ frames := 1, cells := 0, slots := 0, locals := 12 } : Room).slots) := by
  refine MetFree.of_bodySF (plainFor_of_name pn_4) hisR ?_
  intro p e s m args below meth c s₁ Bd hml0 hP hK
  obtain ⟨rfl, hZ, hh⟩ := hP
  have hx := Bd.exec
  have hby := Bd.bytes
  have hml : c.maxLocals = 2 := hml0
  have hown : s.vm.findClass "com/example/versions_to_view/versionstoview/lock/LockMode" = some m.cls := findClass_of_methodNamed Bd.named
  have hnm := (name_of_methodNamed Bd.named Bd.method).1
  have X0 : Stand p l e ({ frames := 1, cells := 0, slots := 0, locals := 12 } : Room) s m #[(.ref a1), (.ref a2)] below meth c s₁ [] 0 0 := Stand.of_body Bd
  have e0 : s₁.heap = h0 := by rw [← hh, Bd.state]; rfl
  have N0 := Fr.nil n0
  refine own_of (S := s₁.setTop (entryFrame m #[(.ref a1), (.ref a2)] 2)) (S' := s₁.setTop (mkF m 0 #[.val (.ref a1), .val (.ref a2)] [])) (K := fun s₂ o => ∃ v L, o = .returned v ∧ Q4 Z a1 a2 od w_SHARED w_EXCLUSIVE w_GAP h0 n0 v s₂.heap L ∧ FrameEnd s o s₂ L ({ frames := 1, cells := 0, slots := 0, locals := 12 } : Room).cells ({ frames := 1, cells := 0, slots := 0, locals := 12 } : Room).slots) (fun t k => castTop (ef_4 m a1 a2) k) ?_
  refine own_nameK fun K hKd => ?_
  refine own_of (S' := s₁.setTop (mkF m 1 #[.val (.ref a1), .val (.ref a2)] [(.ref a1)])) (fun t k => XS.aloadN X0.here hx rfl (hb hby d4_0) rfl rfl k) ?_
  obtain ⟨cq1, kq1, q1a, q1b, q1c⟩ := isOf hZ e0 E_a1
  obtain ⟨_, _, ⟨T1, L1, k1, n1⟩, -, X1, ⟨Lc1, hQ1, l1, y1, z1⟩, st1⟩ := X0.virtualBackUp hx (owner := "java/lang/Enum") (x := (⟨"com/example/versions_to_view/versionstoview/lock/LockMode", "ordinal", "()I"⟩ : MethodName)) (y := (⟨"java/lang/Enum", "ordinal", "()I"⟩ : MethodName)) hown (mvT hZ (hw _ (List.mem_of_getElem? (i := 26) rfl))) (mvT hZ (hw _ (List.mem_of_getElem? (i := 27) rfl))) (mvT hZ (hw _ (List.mem_of_getElem? (i := 28) rfl))) (by decide) (mvT hZ (hw _ (List.mem_of_getElem? (i := 30) rfl))) (mvT hZ (hw _ (List.mem_of_getElem? (i := 29) rfl))) (backOf (W := 0) (rm5 l Z a0 hw [] a1 od h0 n0 Z0 F_ordinal_a1) hZ (hw _ (List.mem_of_getElem? (i := 32) rfl)) (hw _ (List.mem_of_getElem? (i := 31) rfl)) (by decide) (by decide)) q1a q1c (g := (mkF m 1 #[.val (.ref a1), .val (.ref a2)] [(.ref a1)])) rfl (by rw [hml]; rfl) (Steps.refl _) (argsL := []) (rest := []) (lenOf pd4_0 rfl) rfl (by show 2 * 0 + _ ≤ _; exact Nat.le_of_eq rfl) (hb hby d4_1) (fun _ _ => ⟨rfl, e0, (by decide : 0 + _ ≤ _), (by decide : 0 + _ ≤ _)⟩)
  dsimp only [Pt.U, Pt.locs, Pt.cells, Pt.slots] at X1 l1 y1 z1 st1 hQ1
  subst l1 y1 z1
  obtain ⟨rfl, N1q, hh1⟩ := hQ1
  have N1 := Fr.app N0 N1q
  refine own_of (S' := T1.setTop (mkF m 4 #[.val (.ref a1), .val (.ref a2)] [(.int od)])) (fun t k => st1.trans k) ?_
  rcases ho with rfl | rfl | rfl | rfl
  · refine own_of (S' := T1.setTop (mkF m 36 #[.val (.ref a1), .val (.ref a2)] [])) (fun t k => XS.tswIn X1.here hx rfl (pc0 := 4) (pc' := 36) rfl (hb hby d4_4) rfl (by decide) (o := 32) (by decide) (by decide) (by decide) k) ?_
    refine own_of (S' := T1.setTop (mkF m 37 #[.val (.ref a1), .val (.ref a2)] [(.ref a2)])) (fun t k => XS.aloadN X1.here hx rfl (hb hby d4_36) rfl rfl k) ?_
    obtain ⟨T2, X2, e2, st2⟩ := getS2 X1 hx hZ hown (host := "") (Or.inl (hw _ (List.mem_of_getElem? (i := 35) rfl))) Via.refl (hh1) S_EXCLUSIVE (g := (mkF m 37 #[.val (.ref a1), .val (.ref a2)] [(.ref a2)])) rfl (hb hby d4_37)
    refine own_of (S' := T2.setTop (mkF m 40 #[.val (.ref a1), .val (.ref a2)] [(.ref w_EXCLUSIVE), (.ref a2)])) st2 ?_
    by_cases ha40_3 : a2 = w_EXCLUSIVE
    · refine own_of (S' := T2.setTop (mkF m 43 #[.val (.ref a1), .val (.ref a2)] [])) (fun t k => Jvm.RoadKit.acmp (g := (mkF m 40 #[.val (.ref a1), .val (.ref a2)] [(.ref w_EXCLUSIVE), (.ref a2)])) X2 hx rfl rfl rfl (pc0 := 40) (pc' := 43) (same := true) rfl (hb hby d4_40) rfl (decide_eq_true (congrArg Value.ref ha40_3)) (by decide) (by decide) k) ?_
      refine own_of (S' := T2.setTop (mkF m 44 #[.val (.ref a1), .val (.ref a2)] [(.int (1 : Int32))])) (fun t k => XS.iconst X2.here hx rfl (hb hby d4_43) k) ?_
      refine own_of (S' := T2.setTop (mkF m 48 #[.val (.ref a1), .val (.ref a2)] [(.int (1 : Int32))])) (fun t k => XS.goto X2.here hx rfl (pc0 := 44) (pc' := 48) rfl (hb hby d4_44) (by decide) (by decide) k) ?_
      obtain ⟨fs, hr, hrun, hended, hW, hsame⟩ := X2.leave (v := some (.int (1 : Int32))) (fun h => by rw [Bd.returns] at h; cases h)
      subst hKd
      exact ⟨_, _, retN X2 hx (t := .boolean) Bd.returns (by simp) (hb hby d4_48) hr, hrun, hended, _, _, rfl, (by
        show Q4 Z a1 a2 (0 : Int32) w_SHARED w_EXCLUSIVE w_GAP h0 n0 _ T2.heap _
        rw [show T2.heap = h0 from e2]
        exact ⟨(by show _ = some (Value.int (own_w0 a2 w_SHARED w_EXCLUSIVE w_GAP)); rw [own_w0, if_pos ha40_3]), N1, rfl⟩), ⟨_, rfl⟩, hW, hsame.mono (by decide) (by decide)⟩
    refine own_of (S' := T2.setTop (mkF m 47 #[.val (.ref a1), .val (.ref a2)] [])) (fun t k => Jvm.RoadKit.acmp (g := (mkF m 40 #[.val (.ref a1), .val (.ref a2)] [(.ref w_EXCLUSIVE), (.ref a2)])) X2 hx rfl rfl rfl (pc0 := 40) (pc' := 47) (same := false) rfl (hb hby d4_40) rfl (decide_eq_false fun q => ha40_3 (Value.ref.inj q)) (by decide) (by decide) k) ?_
    refine own_of (S' := T2.setTop (mkF m 48 #[.val (.ref a1), .val (.ref a2)] [(.int (0 : Int32))])) (fun t k => XS.iconst X2.here hx rfl (hb hby d4_47) k) ?_
    obtain ⟨fs, hr, hrun, hended, hW, hsame⟩ := X2.leave (v := some (.int (0 : Int32))) (fun h => by rw [Bd.returns] at h; cases h)
    subst hKd
    exact ⟨_, _, retN X2 hx (t := .boolean) Bd.returns (by simp) (hb hby d4_48) hr, hrun, hended, _, _, rfl, (by
      show Q4 Z a1 a2 (0 : Int32) w_SHARED w_EXCLUSIVE w_GAP h0 n0 _ T2.heap _
      rw [show T2.heap = h0 from e2]
      exact ⟨(by show _ = some (Value.int (own_w0 a2 w_SHARED w_EXCLUSIVE w_GAP)); rw [own_w0, if_neg ha40_3]), N1, rfl⟩), ⟨_, rfl⟩, hW, hsame.mono (by decide) (by decide)⟩
  · refine own_of (S' := T1.setTop (mkF m 49 #[.val (.ref a1), .val (.ref a2)] [])) (fun t k => XS.tswIn X1.here hx rfl (pc0 := 4) (pc' := 49) rfl (hb hby d4_4) rfl (by decide) (o := 45) (by decide) (by decide) (by decide) k) ?_
    refine own_of (S' := T1.setTop (mkF m 50 #[.val (.ref a1), .val (.ref a2)] [(.ref a2)])) (fun t k => XS.aloadN X1.here hx rfl (hb hby d4_49) rfl rfl k) ?_
    obtain ⟨T4, X4, e4, st4⟩ := getS2 X1 hx hZ hown (host := "") (Or.inl (hw _ (List.mem_of_getElem? (i := 38) rfl))) Via.refl (hh1) S_SHARED (g := (mkF m 50 #[.val (.ref a1), .val (.ref a2)] [(.ref a2)])) rfl (hb hby d4_50)
    refine own_of (S' := T4.setTop (mkF m 53 #[.val (.ref a1), .val (.ref a2)] [(.ref w_SHARED), (.ref a2)])) st4 ?_
    by_cases ha53_5 : a2 = w_SHARED
    · refine own_of (S' := T4.setTop (mkF m 63 #[.val (.ref a1), .val (.ref a2)] [])) (fun t k => Jvm.RoadKit.acmp (g := (mkF m 53 #[.val (.ref a1), .val (.ref a2)] [(.ref w_SHARED), (.ref a2)])) X4 hx rfl rfl rfl (pc0 := 53) (pc' := 63) (same := true) rfl (hb hby d4_53) rfl (decide_eq_true (congrArg Value.ref ha53_5)) (by decide) (by decide) k) ?_
      refine own_of (S' := T4.setTop (mkF m 64 #[.val (.ref a1), .val (.ref a2)] [(.int (1 : Int32))])) (fun t k => XS.iconst X4.here hx rfl (hb hby d4_63) k) ?_
      refine own_of (S' := T4.setTop (mkF m 68 #[.val (.ref a1), .val (.ref a2)] [(.int (1 : Int32))])) (fun t k => XS.goto X4.here hx rfl (pc0 := 64) (pc' := 68) rfl (hb hby d4_64) (by decide) (by decide) k) ?_
      obtain ⟨fs, hr, hrun, hended, hW, hsame⟩ := X4.leave (v := some (.int (1 : Int32))) (fun h => by rw [Bd.returns] at h; cases h)
      subst hKd
      exact ⟨_, _, retN X4 hx (t := .boolean) Bd.returns (by simp) (hb hby d4_68) hr, hrun, hended, _, _, rfl, (by
        show Q4 Z a1 a2 (1 : Int32) w_SHARED w_EXCLUSIVE w_GAP h0 n0 _ T4.heap _
        rw [show T4.heap = h0 from e4]
        exact ⟨(by show _ = some (Value.int (own_w1 a2 w_SHARED w_EXCLUSIVE w_GAP)); rw [own_w1, if_pos ha53_5]), N1, rfl⟩), ⟨_, rfl⟩, hW, hsame.mono (by decide) (by decide)⟩
    refine own_of (S' := T4.setTop (mkF m 56 #[.val (.ref a1), .val (.ref a2)] [])) (fun t k => Jvm.RoadKit.acmp (g := (mkF m 53 #[.val (.ref a1), .val (.ref a2)] [(.ref w_SHARED), (.ref a2)])) X4 hx rfl rfl rfl (pc0 := 53) (pc' := 56) (same := false) rfl (hb hby d4_53) rfl (decide_eq_false fun q => ha53_5 (Value.ref.inj q)) (by decide) (by decide) k) ?_
    refine own_of (S' := T4.setTop (mkF m 57 #[.val (.ref a1), .val (.ref a2)] [(.ref a2)])) (fun t k => XS.aloadN X4.here hx rfl (hb hby d4_56) rfl rfl k) ?_
    obtain ⟨T6, X6, e6, st6⟩ := getS2 X4 hx hZ hown (host := "") (Or.inl (hw _ (List.mem_of_getElem? (i := 35) rfl))) Via.refl e4 S_EXCLUSIVE (g := (mkF m 57 #[.val (.ref a1), .val (.ref a2)] [(.ref a2)])) rfl (hb hby d4_57)
    refine own_of (S' := T6.setTop (mkF m 60 #[.val (.ref a1), .val (.ref a2)] [(.ref w_EXCLUSIVE), (.ref a2)])) st6 ?_
    by_cases ha60_7 : a2 = w_EXCLUSIVE
    · refine own_of (S' := T6.setTop (mkF m 63 #[.val (.ref a1), .val (.ref a2)] [])) (fun t k => Jvm.RoadKit.acmp (g := (mkF m 60 #[.val (.ref a1), .val (.ref a2)] [(.ref w_EXCLUSIVE), (.ref a2)])) X6 hx rfl rfl rfl (pc0 := 60) (pc' := 63) (same := true) rfl (hb hby d4_60) rfl (decide_eq_true (congrArg Value.ref ha60_7)) (by decide) (by decide) k) ?_
      refine own_of (S' := T6.setTop (mkF m 64 #[.val (.ref a1), .val (.ref a2)] [(.int (1 : Int32))])) (fun t k => XS.iconst X6.here hx rfl (hb hby d4_63) k) ?_
      refine own_of (S' := T6.setTop (mkF m 68 #[.val (.ref a1), .val (.ref a2)] [(.int (1 : Int32))])) (fun t k => XS.goto X6.here hx rfl (pc0 := 64) (pc' := 68) rfl (hb hby d4_64) (by decide) (by decide) k) ?_
      obtain ⟨fs, hr, hrun, hended, hW, hsame⟩ := X6.leave (v := some (.int (1 : Int32))) (fun h => by rw [Bd.returns] at h; cases h)
      subst hKd
      exact ⟨_, _, retN X6 hx (t := .boolean) Bd.returns (by simp) (hb hby d4_68) hr, hrun, hended, _, _, rfl, (by
        show Q4 Z a1 a2 (1 : Int32) w_SHARED w_EXCLUSIVE w_GAP h0 n0 _ T6.heap _
        rw [show T6.heap = h0 from e6]
        exact ⟨(by show _ = some (Value.int (own_w1 a2 w_SHARED w_EXCLUSIVE w_GAP)); rw [own_w1, if_neg ha53_5, if_pos ha60_7]), N1, rfl⟩), ⟨_, rfl⟩, hW, hsame.mono (by decide) (by decide)⟩
    refine own_of (S' := T6.setTop (mkF m 67 #[.val (.ref a1), .val (.ref a2)] [])) (fun t k => Jvm.RoadKit.acmp (g := (mkF m 60 #[.val (.ref a1), .val (.ref a2)] [(.ref w_EXCLUSIVE), (.ref a2)])) X6 hx rfl rfl rfl (pc0 := 60) (pc' := 67) (same := false) rfl (hb hby d4_60) rfl (decide_eq_false fun q => ha60_7 (Value.ref.inj q)) (by decide) (by decide) k) ?_
    refine own_of (S' := T6.setTop (mkF m 68 #[.val (.ref a1), .val (.ref a2)] [(.int (0 : Int32))])) (fun t k => XS.iconst X6.here hx rfl (hb hby d4_67) k) ?_
    obtain ⟨fs, hr, hrun, hended, hW, hsame⟩ := X6.leave (v := some (.int (0 : Int32))) (fun h => by rw [Bd.returns] at h; cases h)
    subst hKd
    exact ⟨_, _, retN X6 hx (t := .boolean) Bd.returns (by simp) (hb hby d4_68) hr, hrun, hended, _, _, rfl, (by
      show Q4 Z a1 a2 (1 : Int32) w_SHARED w_EXCLUSIVE w_GAP h0 n0 _ T6.heap _
      rw [show T6.heap = h0 from e6]
      exact ⟨(by show _ = some (Value.int (own_w1 a2 w_SHARED w_EXCLUSIVE w_GAP)); rw [own_w1, if_neg ha53_5, if_neg ha60_7]), N1, rfl⟩), ⟨_, rfl⟩, hW, hsame.mono (by decide) (by decide)⟩
  · refine own_of (S' := T1.setTop (mkF m 82 #[.val (.ref a1), .val (.ref a2)] [])) (fun t k => XS.tswIn X1.here hx rfl (pc0 := 4) (pc' := 82) rfl (hb hby d4_4) rfl (by decide) (o := 78) (by decide) (by decide) (by decide) k) ?_
    refine own_of (S' := T1.setTop (mkF m 83 #[.val (.ref a1), .val (.ref a2)] [(.int (0 : Int32))])) (fun t k => XS.iconst X1.here hx rfl (hb hby d4_82) k) ?_
    obtain ⟨fs, hr, hrun, hended, hW, hsame⟩ := X1.leave (v := some (.int (0 : Int32))) (fun h => by rw [Bd.returns] at h; cases h)
    subst hKd
    exact ⟨_, _, retN X1 hx (t := .boolean) Bd.returns (by simp) (hb hby d4_83) hr, hrun, hended, _, _, rfl, (by
      show Q4 Z a1 a2 (2 : Int32) w_SHARED w_EXCLUSIVE w_GAP h0 n0 _ T1.heap _
      rw [show T1.heap = h0 from (hh1)]
      exact ⟨(by show _ = some (Value.int (own_w2 a2 w_SHARED w_EXCLUSIVE w_GAP)); rw [own_w2]), N1, rfl⟩), ⟨_, rfl⟩, hW, hsame.mono (by decide) (by decide)⟩
  refine own_of (S' := T1.setTop (mkF m 69 #[.val (.ref a1), .val (.ref a2)] [])) (fun t k => XS.tswIn X1.here hx rfl (pc0 := 4) (pc' := 69) rfl (hb hby d4_4) rfl (by decide) (o := 65) (by decide) (by decide) (by decide) k) ?_
  refine own_of (S' := T1.setTop (mkF m 70 #[.val (.ref a1), .val (.ref a2)] [(.ref a2)])) (fun t k => XS.aloadN X1.here hx rfl (hb hby d4_69) rfl rfl k) ?_
  obtain ⟨T8, X8, e8, st8⟩ := getS2 X1 hx hZ hown (host := "") (Or.inl (hw _ (List.mem_of_getElem? (i := 12) rfl))) Via.refl (hh1) S_GAP (g := (mkF m 70 #[.val (.ref a1), .val (.ref a2)] [(.ref a2)])) rfl (hb hby d4_70)
  refine own_of (S' := T8.setTop (mkF m 73 #[.val (.ref a1), .val (.ref a2)] [(.ref w_GAP), (.ref a2)])) st8 ?_
  by_cases ha73_9 : a2 = w_GAP
  · refine own_of (S' := T8.setTop (mkF m 76 #[.val (.ref a1), .val (.ref a2)] [])) (fun t k => Jvm.RoadKit.acmp (g := (mkF m 73 #[.val (.ref a1), .val (.ref a2)] [(.ref w_GAP), (.ref a2)])) X8 hx rfl rfl rfl (pc0 := 73) (pc' := 76) (same := true) rfl (hb hby d4_73) rfl (decide_eq_true (congrArg Value.ref ha73_9)) (by decide) (by decide) k) ?_
    refine own_of (S' := T8.setTop (mkF m 77 #[.val (.ref a1), .val (.ref a2)] [(.int (1 : Int32))])) (fun t k => XS.iconst X8.here hx rfl (hb hby d4_76) k) ?_
    refine own_of (S' := T8.setTop (mkF m 81 #[.val (.ref a1), .val (.ref a2)] [(.int (1 : Int32))])) (fun t k => XS.goto X8.here hx rfl (pc0 := 77) (pc' := 81) rfl (hb hby d4_77) (by decide) (by decide) k) ?_
    obtain ⟨fs, hr, hrun, hended, hW, hsame⟩ := X8.leave (v := some (.int (1 : Int32))) (fun h => by rw [Bd.returns] at h; cases h)
    subst hKd
    exact ⟨_, _, retN X8 hx (t := .boolean) Bd.returns (by simp) (hb hby d4_81) hr, hrun, hended, _, _, rfl, (by
      show Q4 Z a1 a2 (3 : Int32) w_SHARED w_EXCLUSIVE w_GAP h0 n0 _ T8.heap _
      rw [show T8.heap = h0 from e8]
      exact ⟨(by show _ = some (Value.int (own_w3 a2 w_SHARED w_EXCLUSIVE w_GAP)); rw [own_w3, if_pos ha73_9]), N1, rfl⟩), ⟨_, rfl⟩, hW, hsame.mono (by decide) (by decide)⟩
  refine own_of (S' := T8.setTop (mkF m 80 #[.val (.ref a1), .val (.ref a2)] [])) (fun t k => Jvm.RoadKit.acmp (g := (mkF m 73 #[.val (.ref a1), .val (.ref a2)] [(.ref w_GAP), (.ref a2)])) X8 hx rfl rfl rfl (pc0 := 73) (pc' := 80) (same := false) rfl (hb hby d4_73) rfl (decide_eq_false fun q => ha73_9 (Value.ref.inj q)) (by decide) (by decide) k) ?_
  refine own_of (S' := T8.setTop (mkF m 81 #[.val (.ref a1), .val (.ref a2)] [(.int (0 : Int32))])) (fun t k => XS.iconst X8.here hx rfl (hb hby d4_80) k) ?_
  obtain ⟨fs, hr, hrun, hended, hW, hsame⟩ := X8.leave (v := some (.int (0 : Int32))) (fun h => by rw [Bd.returns] at h; cases h)
  subst hKd
  exact ⟨_, _, retN X8 hx (t := .boolean) Bd.returns (by simp) (hb hby d4_81) hr, hrun, hended, _, _, rfl, (by
    show Q4 Z a1 a2 (3 : Int32) w_SHARED w_EXCLUSIVE w_GAP h0 n0 _ T8.heap _
    rw [show T8.heap = h0 from e8]
    exact ⟨(by show _ = some (Value.int (own_w3 a2 w_SHARED w_EXCLUSIVE w_GAP)); rw [own_w3, if_neg ha73_9]), N1, rfl⟩), ⟨_, rfl⟩, hW, hsame.mono (by decide) (by decide)⟩
theorem pn_0 : plainName "com/example/versions_to_view/versionstoview/lock/LockModeIsOnGapPinLaw" = true := by first | (simp [plainName, overriddenIn]; done) | decide +kernel
theorem pd0_0 : parseMethodDescriptor "(I)Lcom/example/versions_to_view/versionstoview/lock/LockMode;" = some ⟨[.int], some (.object "com/example/versions_to_view/versionstoview/lock/LockMode")⟩ := by decide +kernel
theorem pd0_1 : parseMethodDescriptor "()Z" = some ⟨[], some .boolean⟩ := by decide +kernel
theorem pd0_2 : parseMethodDescriptor "(I)Z" = some ⟨[.int], some .boolean⟩ := by decide +kernel
theorem pd0_3 : parseMethodDescriptor "(Lcom/example/versions_to_view/versionstoview/lock/LockMode;)Z" = some ⟨[(.object "com/example/versions_to_view/versionstoview/lock/LockMode")], some .boolean⟩ := by decide +kernel
theorem ef_0 (m : MethodId) (p1 : Int32) : entryFrame m #[(.int p1)] maxLocals = mkF m 0 #[.val (.int p1), .unset, .unset, .unset] [] := by first | (simp [entryFrame, mkF, argsToLocals, Value.category, maxLocals]; done) | rfl
def Q0 (Z : State) (p1 : Int32) (w_SHARED : Addr) (w_EXCLUSIVE : Addr) (w_GAP : Addr) (w_INSERT_INTENTION : Addr) (h0 : Heap) (n0 : Nat) (v : Option Value) (h : Heap) (L : List Loc) : Prop := (v = some (.int (1 : Int32))) ∧ (Fr n0 L)
set_option maxRecDepth 65536 in
set_option maxHeartbeats 40000000 in
theorem rm0 (l : Launch) (Z : State) (a0 : Array Value) (hw : ∀ d ∈ tables_1, d.before a0 Z = true) (ws : List Jvm.Cond) (p1 : Int32) (w_SHARED : Addr) (w_EXCLUSIVE : Addr) (w_GAP : Addr) (w_INSERT_INTENTION : Addr) (h0 : Heap) (n0 : Nat) (Z0 : n0 ≤ h0.size) (S_SHARED : Sta Z h0 "com/example/versions_to_view/versionstoview/lock/LockMode" "SHARED" "Lcom/example/versions_to_view/versionstoview/lock/LockMode;" (.ref w_SHARED)) (S_EXCLUSIVE : Sta Z h0 "com/example/versions_to_view/versionstoview/lock/LockMode" "EXCLUSIVE" "Lcom/example/versions_to_view/versionstoview/lock/LockMode;" (.ref w_EXCLUSIVE)) (S_GAP : Sta Z h0 "com/example/versions_to_view/versionstoview/lock/LockMode" "GAP" "Lcom/example/versions_to_view/versionstoview/lock/LockMode;" (.ref w_GAP)) (S_INSERT_INTENTION : Sta Z h0 "com/example/versions_to_view/versionstoview/lock/LockMode" "INSERT_INTENTION" "Lcom/example/versions_to_view/versionstoview/lock/LockMode;" (.ref w_INSERT_INTENTION)) (E_w_SHARED : Exa Z h0 w_SHARED "com/example/versions_to_view/versionstoview/lock/LockMode") (E_w_EXCLUSIVE : Exa Z h0 w_EXCLUSIVE "com/example/versions_to_view/versionstoview/lock/LockMode") (E_w_GAP : Exa Z h0 w_GAP "com/example/versions_to_view/versionstoview/lock/LockMode") (E_w_INSERT_INTENTION : Exa Z h0 w_INSERT_INTENTION "com/example/versions_to_view/versionstoview/lock/LockMode") (F_ordinal_w_SHARED : Fld Z h0 w_SHARED "java/lang/Enum" "ordinal" "I" (.int (0 : Int32))) (F_ordinal_w_EXCLUSIVE : Fld Z h0 w_EXCLUSIVE "java/lang/Enum" "ordinal" "I" (.int (1 : Int32))) (F_ordinal_w_GAP : Fld Z h0 w_GAP "java/lang/Enum" "ordinal" "I" (.int (2 : Int32))) (F_ordinal_w_INSERT_INTENTION : Fld Z h0 w_INSERT_INTENTION "java/lang/Enum" "ordinal" "I" (.int (3 : Int32))) (ne01 : w_SHARED ≠ w_EXCLUSIVE) (ne02 : w_SHARED ≠ w_GAP) (ne03 : w_SHARED ≠ w_INSERT_INTENTION) (ne12 : w_EXCLUSIVE ≠ w_GAP) (ne13 : w_EXCLUSIVE ≠ w_INSERT_INTENTION) (ne23 : w_GAP ≠ w_INSERT_INTENTION) :
    MetFree l x (head1 (Jvm.Cond.code x code maxLocals ret :: ws) room_1) (fun a U => a = #[(.int p1)] ∧ Z.Warmed39 U.vm ∧ U.heap = h0) (fun _ _ _ _ _ => True) (fun _ U o U' => ∃ v L, o = .returned v ∧ Q0 Z p1 w_SHARED w_EXCLUSIVE w_GAP w_INSERT_INTENTION h0 n0 v U'.heap L ∧ FrameEnd U o U' L room_1.cells room_1.slots) := by
  refine MetFree.of_bodySF (plainFor_of_name pn_0) hisR ?_
  intro p e s m args below meth c s₁ Bd hml0 hP hK
  obtain ⟨rfl, hZ, hh⟩ := hP
  have hx := Bd.exec
  have hby := Bd.bytes
  have hml : c.maxLocals = 4 := hml0
  have hown : s.vm.findClass "com/example/versions_to_view/versionstoview/lock/LockModeIsOnGapPinLaw" = some m.cls := findClass_of_methodNamed Bd.named
  have hnm := (name_of_methodNamed Bd.named Bd.method).1
  have X0 : Stand p l e room_1 s m #[(.int p1)] below meth c s₁ [] 0 0 := Stand.of_body Bd
  have e0 : s₁.heap = h0 := by rw [← hh, Bd.state]; rfl
  have N0 := Fr.nil n0
  refine own_of (S := s₁.setTop (entryFrame m #[(.int p1)] maxLocals)) (S' := s₁.setTop (mkF m 0 #[.val (.int p1), .unset, .unset, .unset] [])) (K := fun s₂ o => ∃ v L, o = .returned v ∧ Q0 Z p1 w_SHARED w_EXCLUSIVE w_GAP w_INSERT_INTENTION h0 n0 v s₂.heap L ∧ FrameEnd s o s₂ L room_1.cells room_1.slots) (fun t k => castTop (ef_0 m p1) k) ?_
  refine own_nameK fun K hKd => ?_
  refine own_of (S' := s₁.setTop (mkF m 1 #[.val (.int p1), .unset, .unset, .unset] [(.int p1)])) (fun t k => XS.iloadN X0.here hx rfl (hb hby at_0) rfl k) ?_
  refine own_of (S' := s₁.setTop (mkF m 2 #[.val (.int p1), .unset, .unset, .unset] [(.int (3 : Int32)), (.int p1)])) (fun t k => XS.iconst X0.here hx rfl (hb hby at_1) k) ?_
  refine own_of (S' := s₁.setTop (mkF m 3 #[.val (.int p1), .unset, .unset, .unset] [(.int (p1 &&& (3 : Int32)))])) (fun t k => XS.iand X0.here hx rfl (hb hby at_2) rfl k) ?_
  refine own_of (S' := s₁.setTop (mkF m 4 #[.val (.int p1), .val (.int (p1 &&& (3 : Int32))), .unset, .unset] [])) (fun t k => XS.istoreN X0.here hx rfl (hb hby at_3) rfl (l' := #[.val (.int p1), .val (.int (p1 &&& (3 : Int32))), .unset, .unset]) rfl k) ?_
  refine own_of (S' := s₁.setTop (mkF m 5 #[.val (.int p1), .val (.int (p1 &&& (3 : Int32))), .unset, .unset] [(.int (p1 &&& (3 : Int32)))])) (fun t k => XS.iloadN X0.here hx rfl (hb hby at_4) rfl k) ?_
  obtain ⟨_, _, ⟨T1, L1, k1, n1⟩, -, X1, ⟨Lc1, hQ1, l1, y1, z1⟩, st1⟩ := Jvm.LawKit.callS X0 hx (y := (⟨"com/example/versions_to_view/versionstoview/lock/LockModeIsOnGapPinLaw", "pick", "(I)Lcom/example/versions_to_view/versionstoview/lock/LockMode;"⟩ : MethodName)) hown (mvT hZ (hw _ (List.mem_of_getElem? (i := 0) rfl))) (mvT hZ (hw _ (List.mem_of_getElem? (i := 1) rfl))) (mvT hZ (hw _ (List.mem_of_getElem? (i := 2) rfl))) (mvT hZ (hw _ (List.mem_of_getElem? (i := 3) rfl))) (by decide) (backOf (W := 0) (rm1 l Z a0 hw [] (p1 &&& (3 : Int32)) w_SHARED w_EXCLUSIVE w_GAP w_INSERT_INTENTION h0 n0 Z0 S_SHARED S_EXCLUSIVE S_GAP S_INSERT_INTENTION E_w_SHARED E_w_EXCLUSIVE E_w_GAP E_w_INSERT_INTENTION F_ordinal_w_SHARED F_ordinal_w_EXCLUSIVE F_ordinal_w_GAP F_ordinal_w_INSERT_INTENTION) hZ (hw _ (List.mem_of_getElem? (i := 3) rfl)) (hw _ (List.mem_of_getElem? (i := 2) rfl)) (by decide) (by decide)) (g := (mkF m 5 #[.val (.int p1), .val (.int (p1 &&& (3 : Int32))), .unset, .unset] [(.int (p1 &&& (3 : Int32)))])) rfl (by rw [hml]; rfl) (argsL := [(.int (p1 &&& (3 : Int32)))]) (rest := []) (lenOf pd0_0 rfl) rfl (by show 2 * 0 + _ ≤ _; exact Nat.le_of_eq rfl) (hb hby at_5) (fun _ _ => ⟨rfl, e0, (by decide : 0 + _ ≤ _), (by decide : 0 + _ ≤ _)⟩)
  dsimp only [Pt.U, Pt.locs, Pt.cells, Pt.slots] at X1 l1 y1 z1 st1 hQ1
  subst l1 y1 z1
  obtain ⟨r_1, rfl, N1q, hh1, E_q1_0, F_ordinal_q1_1, hr_q1_2⟩ := hQ1
  have N1 := Fr.app N0 N1q
  rw [hh1] at E_q1_0 F_ordinal_q1_1
  refine own_of (S' := T1.setTop (mkF m 8 #[.val (.int p1), .val (.int (p1 &&& (3 : Int32))), .unset, .unset] [(.ref r_1)])) st1 ?_
  refine own_of (S' := T1.setTop (mkF m 9 #[.val (.int p1), .val (.int (p1 &&& (3 : Int32))), .val (.ref r_1), .unset] [])) (fun t k => XS.astoreN X1.here hx rfl (hb hby at_8) rfl rfl (l' := #[.val (.int p1), .val (.int (p1 &&& (3 : Int32))), .val (.ref r_1), .unset]) rfl k) ?_
  refine own_of (S' := T1.setTop (mkF m 10 #[.val (.int p1), .val (.int (p1 &&& (3 : Int32))), .val (.ref r_1), .unset] [(.ref r_1)])) (fun t k => XS.aloadN X1.here hx rfl (hb hby at_9) rfl rfl k) ?_
  obtain ⟨cq2, kq2, q2a, q2b, q2c⟩ := isOf hZ (hh1) E_q1_0
  obtain ⟨_, _, ⟨T2, L2, k2, n2⟩, -, X2, ⟨Lc2, hQ2, l2, y2, z2⟩, st2⟩ := X1.virtualBack hx (y := (⟨"com/example/versions_to_view/versionstoview/lock/LockMode", "isOnGap", "()Z"⟩ : MethodName)) (z := (⟨"com/example/versions_to_view/versionstoview/lock/LockMode", "isOnGap", "()Z"⟩ : MethodName)) hown (mvT hZ (hw _ (List.mem_of_getElem? (i := 7) rfl))) (mvT hZ (hw _ (List.mem_of_getElem? (i := 8) rfl))) (notFace_of_selects (args := #[]) (mvT hZ (hw _ (List.mem_of_getElem? (i := 10) rfl)))) (mvT hZ (hw _ (List.mem_of_getElem? (i := 10) rfl))) (mvT hZ (hw _ (List.mem_of_getElem? (i := 9) rfl))) (by decide) (backOf (W := 0) (rm2 l Z a0 hw [] r_1 w_GAP w_INSERT_INTENTION h0 n0 Z0 S_GAP S_INSERT_INTENTION) hZ (hw _ (List.mem_of_getElem? (i := 11) rfl)) (hw _ (List.mem_of_getElem? (i := 5) rfl)) (by decide) (by decide)) q2a q2c (g := (mkF m 10 #[.val (.int p1), .val (.int (p1 &&& (3 : Int32))), .val (.ref r_1), .unset] [(.ref r_1)])) rfl (by rw [hml]; rfl) (Steps.refl _) (argsL := []) (rest := []) (lenOf pd0_1 rfl) rfl (by show 2 * 0 + _ ≤ _; exact Nat.le_of_eq rfl) (hb hby at_10) (fun _ _ => ⟨rfl, (hh1), (by decide : (0 + 0) + _ ≤ _), (by decide : (0 + 0) + _ ≤ _)⟩)
  dsimp only [Pt.U, Pt.locs, Pt.cells, Pt.slots] at X2 l2 y2 z2 st2 hQ2
  subst l2 y2 z2
  obtain ⟨rfl, N2q, hh2⟩ := hQ2
  have N2 := Fr.app N1 N2q
  refine own_of (S' := T2.setTop (mkF m 13 #[.val (.int p1), .val (.int (p1 &&& (3 : Int32))), .val (.ref r_1), .unset] [(.int (own_gap r_1 w_GAP w_INSERT_INTENTION))])) (fun t k => st2.trans k) ?_
  refine own_of (S' := T2.setTop (mkF m 14 #[.val (.int p1), .val (.int (p1 &&& (3 : Int32))), .val (.ref r_1), .val (.int (own_gap r_1 w_GAP w_INSERT_INTENTION))] [])) (fun t k => XS.istoreN X2.here hx rfl (hb hby at_13) rfl (l' := #[.val (.int p1), .val (.int (p1 &&& (3 : Int32))), .val (.ref r_1), .val (.int (own_gap r_1 w_GAP w_INSERT_INTENTION))]) rfl k) ?_
  refine own_of (S' := T2.setTop (mkF m 15 #[.val (.int p1), .val (.int (p1 &&& (3 : Int32))), .val (.ref r_1), .val (.int (own_gap r_1 w_GAP w_INSERT_INTENTION))] [(.int (own_gap r_1 w_GAP w_INSERT_INTENTION))])) (fun t k => XS.iloadN X2.here hx rfl (hb hby at_14) rfl k) ?_
  refine own_of (S' := T2.setTop (mkF m 16 #[.val (.int p1), .val (.int (p1 &&& (3 : Int32))), .val (.ref r_1), .val (.int (own_gap r_1 w_GAP w_INSERT_INTENTION))] [(.int (p1 &&& (3 : Int32))), (.int (own_gap r_1 w_GAP w_INSERT_INTENTION))])) (fun t k => XS.iloadN X2.here hx rfl (hb hby at_15) rfl k) ?_
  obtain ⟨_, _, ⟨T3, L3, k3, n3⟩, -, X3, ⟨Lc3, hQ3, l3, y3, z3⟩, st3⟩ := Jvm.LawKit.callS X2 hx (y := (⟨"com/example/versions_to_view/versionstoview/lock/LockModeIsOnGapPinLaw", "expectedOnGap", "(I)Z"⟩ : MethodName)) hown (mvT hZ (hw _ (List.mem_of_getElem? (i := 16) rfl))) (mvT hZ (hw _ (List.mem_of_getElem? (i := 17) rfl))) (mvT hZ (hw _ (List.mem_of_getElem? (i := 2) rfl))) (mvT hZ (hw _ (List.mem_of_getElem? (i := 18) rfl))) (by decide) (backOf (W := 1) (rm3 l Z a0 hw [] (p1 &&& (3 : Int32)) h0 n0 Z0 ) hZ (hw _ (List.mem_of_getElem? (i := 18) rfl)) (hw _ (List.mem_of_getElem? (i := 2) rfl)) (by decide) (by decide)) (g := (mkF m 16 #[.val (.int p1), .val (.int (p1 &&& (3 : Int32))), .val (.ref r_1), .val (.int (own_gap r_1 w_GAP w_INSERT_INTENTION))] [(.int (p1 &&& (3 : Int32))), (.int (own_gap r_1 w_GAP w_INSERT_INTENTION))])) rfl (by rw [hml]; rfl) (argsL := [(.int (p1 &&& (3 : Int32)))]) (rest := [(.int (own_gap r_1 w_GAP w_INSERT_INTENTION))]) (lenOf pd0_2 rfl) rfl (by show 2 * 0 + _ ≤ _; exact Nat.le_of_eq rfl) (hb hby at_16) (fun _ _ => ⟨rfl, (hh2), (by decide : ((0 + 0) + 0) + _ ≤ _), (by decide : ((0 + 0) + 0) + _ ≤ _)⟩)
  dsimp only [Pt.U, Pt.locs, Pt.cells, Pt.slots] at X3 l3 y3 z3 st3 hQ3
  subst l3 y3 z3
  obtain ⟨rfl, N3q, hh3⟩ := hQ3
  have N3 := Fr.app N2 N3q
  refine own_of (S' := T3.setTop (mkF m 19 #[.val (.int p1), .val (.int (p1 &&& (3 : Int32))), .val (.ref r_1), .val (.int (own_gap r_1 w_GAP w_INSERT_INTENTION))] [(.int (own_exp (p1 &&& (3 : Int32)))), (.int (own_gap r_1 w_GAP w_INSERT_INTENTION))])) st3 ?_
  by_cases hc19_4 : (own_gap r_1 w_GAP w_INSERT_INTENTION) = (own_exp (p1 &&& (3 : Int32)))
  · refine own_of (S' := T3.setTop (mkF m 24 #[.val (.int p1), .val (.int (p1 &&& (3 : Int32))), .val (.ref r_1), .val (.int (own_gap r_1 w_GAP w_INSERT_INTENTION))] [])) (fun t k => XS.icmpYes X3.here hx rfl (pc0 := 19) (pc' := 24) rfl (hb hby at_19) rfl (teq hc19_4).1 (by decide) (by decide) k) ?_
    refine own_of (S' := T3.setTop (mkF m 25 #[.val (.int p1), .val (.int (p1 &&& (3 : Int32))), .val (.ref r_1), .val (.int (own_gap r_1 w_GAP w_INSERT_INTENTION))] [(.int (own_gap r_1 w_GAP w_INSERT_INTENTION))])) (fun t k => XS.iloadN X3.here hx rfl (hb hby at_24) rfl k) ?_
    by_cases hc25_5 : (own_gap r_1 w_GAP w_INSERT_INTENTION) = (0 : Int32)
    · refine own_of (S' := T3.setTop (mkF m 54 #[.val (.int p1), .val (.int (p1 &&& (3 : Int32))), .val (.ref r_1), .val (.int (own_gap r_1 w_GAP w_INSERT_INTENTION))] [])) (fun t k => XS.ifYes X3.here hx rfl (pc0 := 25) (pc' := 54) rfl (hb hby at_25) rfl ((if0 _ _).trans (teq hc25_5).1) (by decide) (by decide) k) ?_
      refine own_of (S' := T3.setTop (mkF m 55 #[.val (.int p1), .val (.int (p1 &&& (3 : Int32))), .val (.ref r_1), .val (.int (own_gap r_1 w_GAP w_INSERT_INTENTION))] [(.ref r_1)])) (fun t k => XS.aloadN X3.here hx rfl (hb hby at_54) rfl rfl k) ?_
      obtain ⟨T6, X6, e6, st6⟩ := getS2 X3 hx hZ hown (host := "") (Or.inl (hw _ (List.mem_of_getElem? (i := 19) rfl))) Via.refl (hh3) S_EXCLUSIVE (g := (mkF m 55 #[.val (.int p1), .val (.int (p1 &&& (3 : Int32))), .val (.ref r_1), .val (.int (own_gap r_1 w_GAP w_INSERT_INTENTION))] [(.ref r_1)])) rfl (hb hby at_55)
      refine own_of (S' := T6.setTop (mkF m 58 #[.val (.int p1), .val (.int (p1 &&& (3 : Int32))), .val (.ref r_1), .val (.int (own_gap r_1 w_GAP w_INSERT_INTENTION))] [(.ref w_EXCLUSIVE), (.ref r_1)])) st6 ?_
      obtain ⟨cq7, kq7, q7a, q7b, q7c⟩ := isOf hZ e6 E_q1_0
      obtain ⟨_, _, ⟨T7, L7, k7, n7⟩, -, X7, ⟨Lc7, hQ7, l7, y7, z7⟩, st7⟩ := X6.virtualBack hx (y := (⟨"com/example/versions_to_view/versionstoview/lock/LockMode", "waitsFor", "(Lcom/example/versions_to_view/versionstoview/lock/LockMode;)Z"⟩ : MethodName)) (z := (⟨"com/example/versions_to_view/versionstoview/lock/LockMode", "waitsFor", "(Lcom/example/versions_to_view/versionstoview/lock/LockMode;)Z"⟩ : MethodName)) hown (mvT hZ (hw _ (List.mem_of_getElem? (i := 21) rfl))) (mvT hZ (hw _ (List.mem_of_getElem? (i := 22) rfl))) (notFace_of_selects (args := #[]) (mvT hZ (hw _ (List.mem_of_getElem? (i := 24) rfl)))) (mvT hZ (hw _ (List.mem_of_getElem? (i := 24) rfl))) (mvT hZ (hw _ (List.mem_of_getElem? (i := 23) rfl))) (by decide) (backOf (W := 0) (rm4 l Z a0 hw [] r_1 w_EXCLUSIVE (own_ord (p1 &&& (3 : Int32))) w_SHARED w_EXCLUSIVE w_GAP h0 n0 Z0 E_q1_0 F_ordinal_q1_1 S_SHARED S_EXCLUSIVE S_GAP (own_ord4 _)) hZ (hw _ (List.mem_of_getElem? (i := 25) rfl)) (hw _ (List.mem_of_getElem? (i := 5) rfl)) (by decide) (by decide)) q7a q7c (g := (mkF m 58 #[.val (.int p1), .val (.int (p1 &&& (3 : Int32))), .val (.ref r_1), .val (.int (own_gap r_1 w_GAP w_INSERT_INTENTION))] [(.ref w_EXCLUSIVE), (.ref r_1)])) rfl (by rw [hml]; rfl) (Steps.refl _) (argsL := [(.ref w_EXCLUSIVE)]) (rest := []) (lenOf pd0_3 rfl) rfl (by show 2 * 0 + _ ≤ _; exact Nat.le_of_eq rfl) (hb hby at_58) (fun _ _ => ⟨rfl, e6, (by decide : (((0 + 0) + 0) + 0) + _ ≤ _), (by decide : (((0 + 0) + 0) + 0) + _ ≤ _)⟩)
      dsimp only [Pt.U, Pt.locs, Pt.cells, Pt.slots] at X7 l7 y7 z7 st7 hQ7
      subst l7 y7 z7
      obtain ⟨rfl, N7q, hh7⟩ := hQ7
      have N7 := Fr.app N3 N7q
      refine own_of (S' := T7.setTop (mkF m 61 #[.val (.int p1), .val (.int (p1 &&& (3 : Int32))), .val (.ref r_1), .val (.int (own_gap r_1 w_GAP w_INSERT_INTENTION))] [(.int (own_wf (own_ord (p1 &&& (3 : Int32))) w_EXCLUSIVE w_SHARED w_EXCLUSIVE w_GAP))])) (fun t k => st7.trans k) ?_
      obtain ⟨fs, hr, hrun, hended, hW, hsame⟩ := X7.leave (v := some (.int (nar .boolean (own_wf (own_ord (p1 &&& (3 : Int32))) w_EXCLUSIVE w_SHARED w_EXCLUSIVE w_GAP)))) (fun h => by rw [Bd.returns] at h; cases h)
      subst hKd
      exact ⟨_, _, retN X7 hx (t := .boolean) Bd.returns (by simp) (hb hby at_61) hr, hrun, hended, _, _, rfl, (by
        show Q0 Z p1 w_SHARED w_EXCLUSIVE w_GAP w_INSERT_INTENTION h0 n0 _ T7.heap _
        rw [show T7.heap = h0 from (hh7)]
        exact ⟨(by rw [(own_key p1 w_SHARED w_EXCLUSIVE w_GAP w_INSERT_INTENTION ne01 ne02 ne03 ne12 ne13 ne23 hr_q1_2).2.2 hc25_5]; rfl), N7⟩), ⟨_, rfl⟩, hW, hsame.mono (by decide) (by decide)⟩
    refine own_of (S' := T3.setTop (mkF m 28 #[.val (.int p1), .val (.int (p1 &&& (3 : Int32))), .val (.ref r_1), .val (.int (own_gap r_1 w_GAP w_INSERT_INTENTION))] [])) (fun t k => XS.ifNo X3.here hx rfl (hb hby at_25) rfl ((if0 _ _).trans (feq hc25_5).1) k) ?_
    refine own_of (S' := T3.setTop (mkF m 29 #[.val (.int p1), .val (.int (p1 &&& (3 : Int32))), .val (.ref r_1), .val (.int (own_gap r_1 w_GAP w_INSERT_INTENTION))] [(.ref r_1)])) (fun t k => XS.aloadN X3.here hx rfl (hb hby at_28) rfl rfl k) ?_
    obtain ⟨T8, X8, e8, st8⟩ := getS2 X3 hx hZ hown (host := "") (Or.inl (hw _ (List.mem_of_getElem? (i := 4) rfl))) Via.refl (hh3) S_SHARED (g := (mkF m 29 #[.val (.int p1), .val (.int (p1 &&& (3 : Int32))), .val (.ref r_1), .val (.int (own_gap r_1 w_GAP w_INSERT_INTENTION))] [(.ref r_1)])) rfl (hb hby at_29)
    refine own_of (S' := T8.setTop (mkF m 32 #[.val (.int p1), .val (.int (p1 &&& (3 : Int32))), .val (.ref r_1), .val (.int (own_gap r_1 w_GAP w_INSERT_INTENTION))] [(.ref w_SHARED), (.ref r_1)])) st8 ?_
    obtain ⟨cq9, kq9, q9a, q9b, q9c⟩ := isOf hZ e8 E_q1_0
    obtain ⟨_, _, ⟨T9, L9, k9, n9⟩, -, X9, ⟨Lc9, hQ9, l9, y9, z9⟩, st9⟩ := X8.virtualBack hx (y := (⟨"com/example/versions_to_view/versionstoview/lock/LockMode", "waitsFor", "(Lcom/example/versions_to_view/versionstoview/lock/LockMode;)Z"⟩ : MethodName)) (z := (⟨"com/example/versions_to_view/versionstoview/lock/LockMode", "waitsFor", "(Lcom/example/versions_to_view/versionstoview/lock/LockMode;)Z"⟩ : MethodName)) hown (mvT hZ (hw _ (List.mem_of_getElem? (i := 21) rfl))) (mvT hZ (hw _ (List.mem_of_getElem? (i := 22) rfl))) (notFace_of_selects (args := #[]) (mvT hZ (hw _ (List.mem_of_getElem? (i := 24) rfl)))) (mvT hZ (hw _ (List.mem_of_getElem? (i := 24) rfl))) (mvT hZ (hw _ (List.mem_of_getElem? (i := 23) rfl))) (by decide) (backOf (W := 0) (rm4 l Z a0 hw [] r_1 w_SHARED (own_ord (p1 &&& (3 : Int32))) w_SHARED w_EXCLUSIVE w_GAP h0 n0 Z0 E_q1_0 F_ordinal_q1_1 S_SHARED S_EXCLUSIVE S_GAP (own_ord4 _)) hZ (hw _ (List.mem_of_getElem? (i := 25) rfl)) (hw _ (List.mem_of_getElem? (i := 5) rfl)) (by decide) (by decide)) q9a q9c (g := (mkF m 32 #[.val (.int p1), .val (.int (p1 &&& (3 : Int32))), .val (.ref r_1), .val (.int (own_gap r_1 w_GAP w_INSERT_INTENTION))] [(.ref w_SHARED), (.ref r_1)])) rfl (by rw [hml]; rfl) (Steps.refl _) (argsL := [(.ref w_SHARED)]) (rest := []) (lenOf pd0_3 rfl) rfl (by show 2 * 0 + _ ≤ _; exact Nat.le_of_eq rfl) (hb hby at_32) (fun _ _ => ⟨rfl, e8, (by decide : (((0 + 0) + 0) + 0) + _ ≤ _), (by decide : (((0 + 0) + 0) + 0) + _ ≤ _)⟩)
    dsimp only [Pt.U, Pt.locs, Pt.cells, Pt.slots] at X9 l9 y9 z9 st9 hQ9
    subst l9 y9 z9
    obtain ⟨rfl, N9q, hh9⟩ := hQ9
    have N9 := Fr.app N3 N9q
    refine own_of (S' := T9.setTop (mkF m 35 #[.val (.int p1), .val (.int (p1 &&& (3 : Int32))), .val (.ref r_1), .val (.int (own_gap r_1 w_GAP w_INSERT_INTENTION))] [(.int (own_wf (own_ord (p1 &&& (3 : Int32))) w_SHARED w_SHARED w_EXCLUSIVE w_GAP))])) (fun t k => st9.trans k) ?_
    by_cases hc35_10 : (own_wf (own_ord (p1 &&& (3 : Int32))) w_SHARED w_SHARED w_EXCLUSIVE w_GAP) = (0 : Int32)
    · refine own_of (S' := T9.setTop (mkF m 38 #[.val (.int p1), .val (.int (p1 &&& (3 : Int32))), .val (.ref r_1), .val (.int (own_gap r_1 w_GAP w_INSERT_INTENTION))] [])) (fun t k => XS.ifNo X9.here hx rfl (hb hby at_35) rfl ((if0 _ _).trans (teq hc35_10).2) k) ?_
      refine own_of (S' := T9.setTop (mkF m 39 #[.val (.int p1), .val (.int (p1 &&& (3 : Int32))), .val (.ref r_1), .val (.int (own_gap r_1 w_GAP w_INSERT_INTENTION))] [(.ref r_1)])) (fun t k => XS.aloadN X9.here hx rfl (hb hby at_38) rfl rfl k) ?_
      obtain ⟨T11, X11, e11, st11⟩ := getS2 X9 hx hZ hown (host := "") (Or.inl (hw _ (List.mem_of_getElem? (i := 19) rfl))) Via.refl (hh9) S_EXCLUSIVE (g := (mkF m 39 #[.val (.int p1), .val (.int (p1 &&& (3 : Int32))), .val (.ref r_1), .val (.int (own_gap r_1 w_GAP w_INSERT_INTENTION))] [(.ref r_1)])) rfl (hb hby at_39)
      refine own_of (S' := T11.setTop (mkF m 42 #[.val (.int p1), .val (.int (p1 &&& (3 : Int32))), .val (.ref r_1), .val (.int (own_gap r_1 w_GAP w_INSERT_INTENTION))] [(.ref w_EXCLUSIVE), (.ref r_1)])) st11 ?_
      obtain ⟨cq12, kq12, q12a, q12b, q12c⟩ := isOf hZ e11 E_q1_0
      obtain ⟨_, _, ⟨T12, L12, k12, n12⟩, -, X12, ⟨Lc12, hQ12, l12, y12, z12⟩, st12⟩ := X11.virtualBack hx (y := (⟨"com/example/versions_to_view/versionstoview/lock/LockMode", "waitsFor", "(Lcom/example/versions_to_view/versionstoview/lock/LockMode;)Z"⟩ : MethodName)) (z := (⟨"com/example/versions_to_view/versionstoview/lock/LockMode", "waitsFor", "(Lcom/example/versions_to_view/versionstoview/lock/LockMode;)Z"⟩ : MethodName)) hown (mvT hZ (hw _ (List.mem_of_getElem? (i := 21) rfl))) (mvT hZ (hw _ (List.mem_of_getElem? (i := 22) rfl))) (notFace_of_selects (args := #[]) (mvT hZ (hw _ (List.mem_of_getElem? (i := 24) rfl)))) (mvT hZ (hw _ (List.mem_of_getElem? (i := 24) rfl))) (mvT hZ (hw _ (List.mem_of_getElem? (i := 23) rfl))) (by decide) (backOf (W := 0) (rm4 l Z a0 hw [] r_1 w_EXCLUSIVE (own_ord (p1 &&& (3 : Int32))) w_SHARED w_EXCLUSIVE w_GAP h0 n0 Z0 E_q1_0 F_ordinal_q1_1 S_SHARED S_EXCLUSIVE S_GAP (own_ord4 _)) hZ (hw _ (List.mem_of_getElem? (i := 25) rfl)) (hw _ (List.mem_of_getElem? (i := 5) rfl)) (by decide) (by decide)) q12a q12c (g := (mkF m 42 #[.val (.int p1), .val (.int (p1 &&& (3 : Int32))), .val (.ref r_1), .val (.int (own_gap r_1 w_GAP w_INSERT_INTENTION))] [(.ref w_EXCLUSIVE), (.ref r_1)])) rfl (by rw [hml]; rfl) (Steps.refl _) (argsL := [(.ref w_EXCLUSIVE)]) (rest := []) (lenOf pd0_3 rfl) rfl (by show 2 * 0 + _ ≤ _; exact Nat.le_of_eq rfl) (hb hby at_42) (fun _ _ => ⟨rfl, e11, (by decide : ((((0 + 0) + 0) + 0) + 0) + _ ≤ _), (by decide : ((((0 + 0) + 0) + 0) + 0) + _ ≤ _)⟩)
      dsimp only [Pt.U, Pt.locs, Pt.cells, Pt.slots] at X12 l12 y12 z12 st12 hQ12
      subst l12 y12 z12
      obtain ⟨rfl, N12q, hh12⟩ := hQ12
      have N12 := Fr.app N9 N12q
      refine own_of (S' := T12.setTop (mkF m 45 #[.val (.int p1), .val (.int (p1 &&& (3 : Int32))), .val (.ref r_1), .val (.int (own_gap r_1 w_GAP w_INSERT_INTENTION))] [(.int (own_wf (own_ord (p1 &&& (3 : Int32))) w_EXCLUSIVE w_SHARED w_EXCLUSIVE w_GAP))])) (fun t k => st12.trans k) ?_
      by_cases hc45_13 : (own_wf (own_ord (p1 &&& (3 : Int32))) w_EXCLUSIVE w_SHARED w_EXCLUSIVE w_GAP) = (0 : Int32)
      · refine own_of (S' := T12.setTop (mkF m 48 #[.val (.int p1), .val (.int (p1 &&& (3 : Int32))), .val (.ref r_1), .val (.int (own_gap r_1 w_GAP w_INSERT_INTENTION))] [])) (fun t k => XS.ifNo X12.here hx rfl (hb hby at_45) rfl ((if0 _ _).trans (teq hc45_13).2) k) ?_
        refine own_of (S' := T12.setTop (mkF m 49 #[.val (.int p1), .val (.int (p1 &&& (3 : Int32))), .val (.ref r_1), .val (.int (own_gap r_1 w_GAP w_INSERT_INTENTION))] [(.int (1 : Int32))])) (fun t k => XS.iconst X12.here hx rfl (hb hby at_48) k) ?_
        refine own_of (S' := T12.setTop (mkF m 53 #[.val (.int p1), .val (.int (p1 &&& (3 : Int32))), .val (.ref r_1), .val (.int (own_gap r_1 w_GAP w_INSERT_INTENTION))] [(.int (1 : Int32))])) (fun t k => XS.goto X12.here hx rfl (pc0 := 49) (pc' := 53) rfl (hb hby at_49) (by decide) (by decide) k) ?_
        obtain ⟨fs, hr, hrun, hended, hW, hsame⟩ := X12.leave (v := some (.int (1 : Int32))) (fun h => by rw [Bd.returns] at h; cases h)
        subst hKd
        exact ⟨_, _, retN X12 hx (t := .boolean) Bd.returns (by simp) (hb hby at_53) hr, hrun, hended, _, _, rfl, (by
          show Q0 Z p1 w_SHARED w_EXCLUSIVE w_GAP w_INSERT_INTENTION h0 n0 _ T12.heap _
          rw [show T12.heap = h0 from (hh12)]
          exact ⟨rfl, N12⟩), ⟨_, rfl⟩, hW, hsame.mono (by decide) (by decide)⟩
      refine own_of (S' := T12.setTop (mkF m 52 #[.val (.int p1), .val (.int (p1 &&& (3 : Int32))), .val (.ref r_1), .val (.int (own_gap r_1 w_GAP w_INSERT_INTENTION))] [])) (fun t k => XS.ifYes X12.here hx rfl (pc0 := 45) (pc' := 52) rfl (hb hby at_45) rfl ((if0 _ _).trans (feq hc45_13).2) (by decide) (by decide) k) ?_
      exact (hc45_13 ((own_key p1 w_SHARED w_EXCLUSIVE w_GAP w_INSERT_INTENTION ne01 ne02 ne03 ne12 ne13 ne23 hr_q1_2).2.1 hc25_5).2).elim
    refine own_of (S' := T9.setTop (mkF m 52 #[.val (.int p1), .val (.int (p1 &&& (3 : Int32))), .val (.ref r_1), .val (.int (own_gap r_1 w_GAP w_INSERT_INTENTION))] [])) (fun t k => XS.ifYes X9.here hx rfl (pc0 := 35) (pc' := 52) rfl (hb hby at_35) rfl ((if0 _ _).trans (feq hc35_10).2) (by decide) (by decide) k) ?_
    exact (hc35_10 ((own_key p1 w_SHARED w_EXCLUSIVE w_GAP w_INSERT_INTENTION ne01 ne02 ne03 ne12 ne13 ne23 hr_q1_2).2.1 hc25_5).1).elim
  refine own_of (S' := T3.setTop (mkF m 22 #[.val (.int p1), .val (.int (p1 &&& (3 : Int32))), .val (.ref r_1), .val (.int (own_gap r_1 w_GAP w_INSERT_INTENTION))] [])) (fun t k => XS.icmpNo X3.here hx rfl (hb hby at_19) rfl (feq hc19_4).1 k) ?_
  exact (hc19_4 (own_key p1 w_SHARED w_EXCLUSIVE w_GAP w_INSERT_INTENTION ne01 ne02 ne03 ne12 ne13 ne23 hr_q1_2).1).elim
set_option maxRecDepth 65536 in
set_option maxHeartbeats 40000000 in
theorem comes_1 {Post : Tables → Env → Array Value → State → Outcome → State → Prop} (hpost : ∀ tb e args s v u, (limb_1_1.after args s (.returned v) u = true ∧ limb_1_2.after args s (.returned v) u = true ∧ True) → FrameEnd s (.returned v) u (Jvm.fieldLocs frame_1_writes args s ++ Jvm.arrayLocs frame_1_arrays args s ++ Jvm.staticLocs frame_1_statics s) 0 0 → Post tb e args s (.returned v) u) :
    ArmFor flags0 classFile x code maxLocals ret World_1 tables_1 room_1 Calls_1 rest_1 Pre_1 Post := by
  intro l hfl _ _ p e ha hc hk s m args below hf hA hF happ hP
  obtain ⟨hcalls, hrest, hpre⟩ := hP
  obtain ⟨-, -, -, hnamed, -, -, -, hat⟩ := (Spec.applies_iff hf).mp happ
  obtain ⟨hg, hn⟩ := and_e (Cond.before_iff.mp (show (Jvm.Cond.and given_1 narrow_1).before args s = true from hpre))
  obtain ⟨g1a, g1b⟩ := and_e hg
  obtain ⟨g2a, g2b⟩ := and_e hn
  obtain ⟨g3a, g3b⟩ := and_e g2b
  obtain ⟨g4a, g4b⟩ := and_e g3b
  obtain ⟨g5a, g5b⟩ := and_e g4b
  obtain ⟨g6a, g6b⟩ := and_e g5b
  obtain ⟨g7a, g7b⟩ := and_e g6b
  obtain ⟨g8a, g8b⟩ := and_e g7b
  obtain ⟨w0_, rfl⟩ : ∃ w0_ : Value, args = #[w0_] := by
    have hs : args.size = 1 := by simpa [Cond.value, given_1] using g1a
    obtain ⟨L⟩ := args
    match L, hs with
    | [w0_], _ => exact ⟨w0_, rfl⟩
  have hw := fun d (hd : d ∈ tables_1) => atoms_spec (ws := Jvm.Cond.code x code maxLocals ret :: tables_1) hat d (List.mem_cons_of_mem _ hd)
  have hfit : Fit s := fun {y c} hc i hi => by
    obtain ⟨ha, rfl⟩ := Array.getElem?_eq_some_iff.mp hc
    have q := List.all_eq_true.mp ((Array.all_eq_true_iff_forall_mem.mp hF) _ (Array.getElem_mem ha)) i (List.mem_range.mpr hi)
    simpa [Array.getElem?_eq_getElem hi] using q
  obtain ⟨p1, ei0⟩ := is_v g1b
  obtain rfl : w0_ = (.int p1) := Option.some.inj ei0
  obtain ⟨w_SHARED, ev_w_SHARED⟩ := exa_v g2a
  have S_SHARED : Sta s s.heap "com/example/versions_to_view/versionstoview/lock/LockMode" "SHARED" "Lcom/example/versions_to_view/versionstoview/lock/LockMode;" (.ref w_SHARED) := Sta.start ev_w_SHARED (Or.inr ⟨(hw _ (List.mem_of_getElem? (i := 5) rfl)), (hw _ (List.mem_of_getElem? (i := 6) rfl))⟩)
  have E_w_SHARED : Exa s s.heap w_SHARED "com/example/versions_to_view/versionstoview/lock/LockMode" := Exa.start ev_w_SHARED g2a
  obtain ⟨w_GAP, ev_w_GAP⟩ := exa_v g3a
  have S_GAP : Sta s s.heap "com/example/versions_to_view/versionstoview/lock/LockMode" "GAP" "Lcom/example/versions_to_view/versionstoview/lock/LockMode;" (.ref w_GAP) := Sta.start ev_w_GAP (Or.inr ⟨(hw _ (List.mem_of_getElem? (i := 5) rfl)), (hw _ (List.mem_of_getElem? (i := 13) rfl))⟩)
  have E_w_GAP : Exa s s.heap w_GAP "com/example/versions_to_view/versionstoview/lock/LockMode" := Exa.start ev_w_GAP g3a
  obtain ⟨w_INSERT_INTENTION, ev_w_INSERT_INTENTION⟩ := exa_v g6a
  have S_INSERT_INTENTION : Sta s s.heap "com/example/versions_to_view/versionstoview/lock/LockMode" "INSERT_INTENTION" "Lcom/example/versions_to_view/versionstoview/lock/LockMode;" (.ref w_INSERT_INTENTION) := Sta.start ev_w_INSERT_INTENTION (Or.inr ⟨(hw _ (List.mem_of_getElem? (i := 5) rfl)), (hw _ (List.mem_of_getElem? (i := 15) rfl))⟩)
  have E_w_INSERT_INTENTION : Exa s s.heap w_INSERT_INTENTION "com/example/versions_to_view/versionstoview/lock/LockMode" := Exa.start ev_w_INSERT_INTENTION g6a
  obtain ⟨w_EXCLUSIVE, ev_w_EXCLUSIVE⟩ := exa_v g8a
  have S_EXCLUSIVE : Sta s s.heap "com/example/versions_to_view/versionstoview/lock/LockMode" "EXCLUSIVE" "Lcom/example/versions_to_view/versionstoview/lock/LockMode;" (.ref w_EXCLUSIVE) := Sta.start ev_w_EXCLUSIVE (Or.inr ⟨(hw _ (List.mem_of_getElem? (i := 5) rfl)), (hw _ (List.mem_of_getElem? (i := 20) rfl))⟩)
  have E_w_EXCLUSIVE : Exa s s.heap w_EXCLUSIVE "com/example/versions_to_view/versionstoview/lock/LockMode" := Exa.start ev_w_EXCLUSIVE g8a
  have F_ordinal_w_SHARED : Fld s s.heap w_SHARED "java/lang/Enum" "ordinal" "I" (.int (0 : Int32)) := Fld.start ((fld_at ev_w_SHARED).symm.trans (own_eqI g4a))
  have F_ordinal_w_GAP : Fld s s.heap w_GAP "java/lang/Enum" "ordinal" "I" (.int (2 : Int32)) := Fld.start ((fld_at ev_w_GAP).symm.trans (own_eqI g5a))
  have F_ordinal_w_INSERT_INTENTION : Fld s s.heap w_INSERT_INTENTION "java/lang/Enum" "ordinal" "I" (.int (3 : Int32)) := Fld.start ((fld_at ev_w_INSERT_INTENTION).symm.trans (own_eqI g7a))
  have F_ordinal_w_EXCLUSIVE : Fld s s.heap w_EXCLUSIVE "java/lang/Enum" "ordinal" "I" (.int (1 : Int32)) := Fld.start ((fld_at ev_w_EXCLUSIVE).symm.trans (own_eqI g8b))
  have ne01 : w_SHARED ≠ w_EXCLUSIVE := Fld.ne F_ordinal_w_SHARED F_ordinal_w_EXCLUSIVE (fun q => absurd (Value.int.inj q) (by decide))
  have ne02 : w_SHARED ≠ w_GAP := Fld.ne F_ordinal_w_SHARED F_ordinal_w_GAP (fun q => absurd (Value.int.inj q) (by decide))
  have ne03 : w_SHARED ≠ w_INSERT_INTENTION := Fld.ne F_ordinal_w_SHARED F_ordinal_w_INSERT_INTENTION (fun q => absurd (Value.int.inj q) (by decide))
  have ne12 : w_EXCLUSIVE ≠ w_GAP := Fld.ne F_ordinal_w_EXCLUSIVE F_ordinal_w_GAP (fun q => absurd (Value.int.inj q) (by decide))
  have ne13 : w_EXCLUSIVE ≠ w_INSERT_INTENTION := Fld.ne F_ordinal_w_EXCLUSIVE F_ordinal_w_INSERT_INTENTION (fun q => absurd (Value.int.inj q) (by decide))
  have ne23 : w_GAP ≠ w_INSERT_INTENTION := Fld.ne F_ordinal_w_GAP F_ordinal_w_INSERT_INTENTION (fun q => absurd (Value.int.inj q) (by decide))
  obtain ⟨n, o, h1, h2, h3, _, L, rfl, ⟨rfl, N⟩, hq⟩ := rm0 l s _ hw tables_1 p1 w_SHARED w_EXCLUSIVE w_GAP w_INSERT_INTENTION s.heap s.heap.size (Nat.le_refl _) S_SHARED S_EXCLUSIVE S_GAP S_INSERT_INTENTION E_w_SHARED E_w_EXCLUSIVE E_w_GAP E_w_INSERT_INTENTION F_ordinal_w_SHARED F_ordinal_w_EXCLUSIVE F_ordinal_w_GAP F_ordinal_w_INSERT_INTENTION ne01 ne02 ne03 ne12 ne13 ne23 p e ha hc hk s m _ below hf ((Spec.applies_iff_loose hf).mp happ).1 ⟨rfl, State.Warmed39.refl s, rfl⟩ trivial
  refine ⟨n, _, h1, h2, h3, hpost _ _ _ _ _ _ ⟨Cond.after_iff.mpr rfl, Cond.after_iff.mpr (eq_i res_at (Term.int_eval (1)) rfl), trivial⟩ ⟨hq.1, hq.2.1, (hq.2.2.sift fun y hy => Or.inr (N y hy)).mono (by decide) (by decide)⟩⟩
theorem main_1_1 : Claimed_1_1 := comes_1 fun _ _ _ _ _ _ h hF => ⟨h.1, hF⟩
theorem main_1_2 : Claimed_1_2 := comes_1 fun _ _ _ _ _ _ h hF => ⟨h.2.1, hF⟩
end Jvm.Pilot.@@N@@
namespace Jvm.Pilot.@@N@@
open Jvm Jvm.ClassFile Sem Op Lib Jvm.Free Jvm.Stand Jvm.Pilot.@@N@@.Jvm.D
/-! MADE BY PROGRAM (witnessworld.py) out of the Statement's table words and the real class files: 12 classes; the members and pool entries that the words name. The judged class is class 1, her method 3. -/
namespace start1
open Jvm.ClassFile
def u (s : String) : CpInfo := .utf8 (stringToUtf16 s)
/-- a pool by its gaps: so many unusable entries, then the entry; so many at the end -/
def gap : Nat → List CpInfo → List CpInfo
  | 0, r => r
  | n + 1, r => .unusable :: gap n r
def poolList (es : List (Nat × CpInfo)) (last : Nat) : List CpInfo := es.foldr (fun e r => gap e.1 (e.2 :: r)) (gap last [])
def pool (es : List (Nat × CpInfo)) (last : Nat) : Array CpInfo := ⟨poolList es last⟩
def fileOf (pool : Array CpInfo) (this : Nat) (attrs : Array Attribute := #[]) (ms : Array MethodInfo := #[]) (fl : Nat := 33) (sup : Nat := 0) (ifs : Array Nat := #[]) (fds : Array FieldInfo := #[]) : ClassFile where
  minorVersion := 0
  majorVersion := 65
  constantPool := pool
  accessFlags := fl
  thisClass := this
  superClass := sup
  interfaces := ifs
  fields := fds
  methods := ms
  attributes := attrs
def plain (name : String) (sup : Option ClassId) : Class where
  name := name
  kind := .ordinary
  loader := none
  accessFlags := 33
  super := sup
  interfaces := #[]
  cf := none
  fields := #[]
  methods := #[]
  instanceTypes := #[]
  staticTypes := #[]
  resolved := #[]
  callSites := []
  init := .initialized
  statics := none
  mirror := none

def pool0 : Array CpInfo := pool [(5, u "<init>"), (0, u "()V"), (1, .class_ 10), (1, u "java/lang/Object")] 113

def k0m0 : Method := { name := "<init>", desc := "()V", sig := { parameters := [], returnType := none }, accessFlags := 1, code := none }
/-- java/lang/Object -/
def k0 : Class := { plain "java/lang/Object" none with
  accessFlags := 33
  interfaces := #[]
  cf := some (fileOf pool0 8 #[] #[{ accessFlags := 1, nameIndex := 5, descriptorIndex := 6, attributes := #[] }] 33 0 #[] #[])
  fields := #[]
  methods := #[k0m0]
  instanceTypes := #[]
  staticTypes := #[]
  resolved := Array.replicate 124 none
  statics := none }

def pool1 : Array CpInfo := pool [(2, .class_ 4), (1, u "java/lang/Object"), (0, u "<init>"), (0, u "()V"), (0, .fieldref 8 9), (0, .class_ 10), (0, .nameAndType 11 12), (0, u "com/example/versions_to_view/versionstoview/lock/LockMode"), (0, u "SHARED"), (0, u "Lcom/example/versions_to_view/versionstoview/lock/LockMode;"), (0, .fieldref 8 14), (0, .nameAndType 15 12), (0, u "EXCLUSIVE"), (0, .fieldref 8 17), (0, .nameAndType 18 12), (0, u "GAP"), (0, .fieldref 8 20), (0, .nameAndType 21 12), (0, u "INSERT_INTENTION"), (0, .methodref 23 24), (0, .class_ 25), (0, .nameAndType 26 27), (0, u "com/example/versions_to_view/versionstoview/lock/LockModeIsOnGapPinLaw"), (0, u "pick"), (0, u "(I)Lcom/example/versions_to_view/versionstoview/lock/LockMode;"), (0, .methodref 8 29), (0, .nameAndType 30 31), (0, u "isOnGap"), (0, u "()Z"), (0, .methodref 23 33), (0, .nameAndType 34 35), (0, u "expectedOnGap"), (0, u "(I)Z"), (0, .methodref 8 37), (0, .nameAndType 38 39), (0, u "waitsFor"), (0, u "(Lcom/example/versions_to_view/versionstoview/lock/LockMode;)Z"), (3, u "law")] 2

def k1m0 : Method := { name := "<init>", desc := "()V", sig := { parameters := [], returnType := none }, accessFlags := 1, code := none }
def k1c1 : Code := { maxStack := 2, maxLocals := 1, code := method_2_code, exceptionTable := #[], attributes := #[] }
def k1m1 : Method := { name := "pick", desc := "(I)Lcom/example/versions_to_view/versionstoview/lock/LockMode;", sig := { parameters := [.int], returnType := some (.object "com/example/versions_to_view/versionstoview/lock/LockMode") }, accessFlags := 10, code := some k1c1 }
def k1c2 : Code := { maxStack := 2, maxLocals := 1, code := method_3_code, exceptionTable := #[], attributes := #[] }
def k1m2 : Method := { name := "expectedOnGap", desc := "(I)Z", sig := { parameters := [.int], returnType := some .boolean }, accessFlags := 10, code := some k1c2 }
def k1c3 : Code := { maxStack := 2, maxLocals := 4, code := code, exceptionTable := #[], attributes := #[] }
def k1m3 : Method := { name := "law", desc := "(I)Z", sig := { parameters := [.int], returnType := some .boolean }, accessFlags := 9, code := some k1c3 }
/-- com/example/versions_to_view/versionstoview/lock/LockModeIsOnGapPinLaw -/
def k1 : Class := { plain "com/example/versions_to_view/versionstoview/lock/LockModeIsOnGapPinLaw" (some 0) with
  accessFlags := 49
  interfaces := #[]
  cf := some (fileOf pool1 23 #[] #[{ accessFlags := 1, nameIndex := 5, descriptorIndex := 6, attributes := #[] }, { accessFlags := 10, nameIndex := 26, descriptorIndex := 27, attributes := #[] }, { accessFlags := 10, nameIndex := 34, descriptorIndex := 35, attributes := #[] }, { accessFlags := 9, nameIndex := 43, descriptorIndex := 35, attributes := #[] }] 49 2 #[] #[])
  fields := #[]
  methods := #[k1m0, k1m1, k1m2, k1m3]
  instanceTypes := #[]
  staticTypes := #[]
  resolved := Array.replicate 46 none
  statics := none }

def pool2 : Array CpInfo := pool [(1, .class_ 2), (0, u "java/lang/constant/Constable"), (0, .class_ 4), (0, u "java/lang/Object")] 6

/-- java/lang/constant/Constable -/
def k2 : Class := { plain "java/lang/constant/Constable" (some 0) with
  accessFlags := 1537
  interfaces := #[]
  cf := some (fileOf pool2 1 #[] #[] 1537 3 #[] #[])
  fields := #[]
  methods := #[]
  instanceTypes := #[]
  staticTypes := #[]
  resolved := Array.replicate 11 none
  statics := none }

def pool3 : Array CpInfo := pool [(1, .class_ 2), (0, u "java/lang/Comparable"), (0, .class_ 4), (0, u "java/lang/Object")] 7

/-- java/lang/Comparable -/
def k3 : Class := { plain "java/lang/Comparable" (some 0) with
  accessFlags := 1537
  interfaces := #[]
  cf := some (fileOf pool3 1 #[] #[] 1537 3 #[] #[])
  fields := #[]
  methods := #[]
  instanceTypes := #[]
  staticTypes := #[]
  resolved := Array.replicate 12 none
  statics := none }

def pool4 : Array CpInfo := pool [(1, .class_ 2), (0, u "java/io/Serializable"), (0, .class_ 4), (0, u "java/lang/Object")] 2

/-- java/io/Serializable -/
def k4 : Class := { plain "java/io/Serializable" (some 0) with
  accessFlags := 1537
  interfaces := #[]
  cf := some (fileOf pool4 1 #[] #[] 1537 3 #[] #[])
  fields := #[]
  methods := #[]
  instanceTypes := #[]
  staticTypes := #[]
  resolved := Array.replicate 7 none
  statics := none }

def pool5 : Array CpInfo := pool [(2, .class_ 4), (1, u "java/lang/Enum"), (0, u "name"), (0, u "Ljava/lang/String;"), (0, .fieldref 2 8), (0, .nameAndType 9 10), (0, u "ordinal"), (0, u "I"), (1, .class_ 14), (1, u "java/lang/Object"), (4, u "hash"), (86, .class_ 108), (1, u "java/lang/Enum$EnumDesc"), (2, .class_ 112), (0, u "java/lang/constant/Constable"), (0, .class_ 114), (0, u "java/lang/Comparable"), (0, .class_ 116), (0, u "java/io/Serializable"), (9, u "()I")] 77

def k5c0 : Code := { maxStack := 1, maxLocals := 1, code := jdk_37_method_2_code, exceptionTable := #[], attributes := #[] }
def k5m0 : Method := { name := "ordinal", desc := "()I", sig := { parameters := [], returnType := some .int }, accessFlags := 17, code := some k5c0 }
/-- java/lang/Enum -/
def k5 : Class := { plain "java/lang/Enum" (some 0) with
  accessFlags := 1057
  interfaces := #[2, 3, 4]
  cf := some (fileOf pool5 2 #[.nestMembers #[106]] #[{ accessFlags := 17, nameIndex := 9, descriptorIndex := 126, attributes := #[] }] 1057 12 #[111, 113, 115] #[{ accessFlags := 18, nameIndex := 5, descriptorIndex := 6, attributes := #[] }, { accessFlags := 18, nameIndex := 9, descriptorIndex := 10, attributes := #[] }, { accessFlags := 2, nameIndex := 19, descriptorIndex := 10, attributes := #[] }])
  fields := #[{ name := "name", type := (.object "java/lang/String"), accessFlags := 18, slot := 0, constantValue := 0 }, { name := "ordinal", type := .int, accessFlags := 18, slot := 1, constantValue := 0 }, { name := "hash", type := .int, accessFlags := 2, slot := 2, constantValue := 0 }]
  methods := #[k5m0]
  instanceTypes := #[(.object "java/lang/String"), .int, .int]
  staticTypes := #[]
  resolved := Array.replicate 204 none
  statics := none }

def pool6 : Array CpInfo := pool [(1, .class_ 2), (0, u "com/example/versions_to_view/versionstoview/lock/LockMode"), (0, .fieldref 1 4), (0, .nameAndType 5 6), (0, u "SHARED"), (0, u "Lcom/example/versions_to_view/versionstoview/lock/LockMode;"), (0, .fieldref 1 8), (0, .nameAndType 9 6), (0, u "EXCLUSIVE"), (0, .fieldref 1 11), (0, .nameAndType 12 6), (0, u "GAP"), (0, .fieldref 1 14), (0, .nameAndType 15 6), (0, u "INSERT_INTENTION"), (2, u "$VALUES"), (0, u "[Lcom/example/versions_to_view/versionstoview/lock/LockMode;"), (6, .class_ 28), (1, u "java/lang/Enum"), (6, .methodref 1 36), (0, .nameAndType 37 38), (0, u "ordinal"), (0, u "()I"), (16, u "waitsFor"), (0, u "(Lcom/example/versions_to_view/versionstoview/lock/LockMode;)Z"), (2, u "isOnGap"), (0, u "()Z")] 4

def k6c0 : Code := { maxStack := 2, maxLocals := 2, code := prog_17_method_4_code, exceptionTable := #[], attributes := #[] }
def k6m0 : Method := { name := "waitsFor", desc := "(Lcom/example/versions_to_view/versionstoview/lock/LockMode;)Z", sig := { parameters := [(.object "com/example/versions_to_view/versionstoview/lock/LockMode")], returnType := some .boolean }, accessFlags := 1, code := some k6c0 }
def k6c1 : Code := { maxStack := 2, maxLocals := 1, code := prog_17_method_6_code, exceptionTable := #[], attributes := #[] }
def k6m1 : Method := { name := "isOnGap", desc := "()Z", sig := { parameters := [], returnType := some .boolean }, accessFlags := 1, code := some k6c1 }
/-- com/example/versions_to_view/versionstoview/lock/LockMode -/
def k6 : Class := { plain "com/example/versions_to_view/versionstoview/lock/LockMode" (some 5) with
  accessFlags := 16433
  interfaces := #[]
  cf := some (fileOf pool6 1 #[] #[{ accessFlags := 1, nameIndex := 55, descriptorIndex := 56, attributes := #[] }, { accessFlags := 1, nameIndex := 59, descriptorIndex := 60, attributes := #[] }] 16433 26 #[] #[{ accessFlags := 16409, nameIndex := 5, descriptorIndex := 6, attributes := #[] }, { accessFlags := 16409, nameIndex := 9, descriptorIndex := 6, attributes := #[] }, { accessFlags := 16409, nameIndex := 12, descriptorIndex := 6, attributes := #[] }, { accessFlags := 16409, nameIndex := 15, descriptorIndex := 6, attributes := #[] }, { accessFlags := 4122, nameIndex := 18, descriptorIndex := 19, attributes := #[] }])
  fields := #[{ name := "SHARED", type := (.object "com/example/versions_to_view/versionstoview/lock/LockMode"), accessFlags := 16409, slot := 0, constantValue := 0 }, { name := "EXCLUSIVE", type := (.object "com/example/versions_to_view/versionstoview/lock/LockMode"), accessFlags := 16409, slot := 1, constantValue := 0 }, { name := "GAP", type := (.object "com/example/versions_to_view/versionstoview/lock/LockMode"), accessFlags := 16409, slot := 2, constantValue := 0 }, { name := "INSERT_INTENTION", type := (.object "com/example/versions_to_view/versionstoview/lock/LockMode"), accessFlags := 16409, slot := 3, constantValue := 0 }, { name := "$VALUES", type := (.array (.object "com/example/versions_to_view/versionstoview/lock/LockMode")), accessFlags := 4122, slot := 4, constantValue := 0 }]
  methods := #[k6m0, k6m1]
  instanceTypes := #[(.object "java/lang/String"), .int, .int]
  staticTypes := #[(.object "com/example/versions_to_view/versionstoview/lock/LockMode"), (.object "com/example/versions_to_view/versionstoview/lock/LockMode"), (.object "com/example/versions_to_view/versionstoview/lock/LockMode"), (.object "com/example/versions_to_view/versionstoview/lock/LockMode"), (.array (.object "com/example/versions_to_view/versionstoview/lock/LockMode"))]
  resolved := Array.replicate 65 none
  statics := some 0 }

def pool7 : Array CpInfo := pool [(1, u "java/lang/Cloneable"), (0, .class_ 1), (0, u "java/lang/Object"), (0, .class_ 3)] 3

/-- java/lang/Cloneable -/
def k7 : Class := { plain "java/lang/Cloneable" (some 0) with
  accessFlags := 1537
  interfaces := #[]
  cf := some (fileOf pool7 2 #[] #[] 1537 4 #[] #[])
  fields := #[]
  methods := #[]
  instanceTypes := #[]
  staticTypes := #[]
  resolved := Array.replicate 8 none
  statics := none }

/-- the primitive byte -/
def k8 : Class := { plain "byte" none with kind := .primitive 'B', accessFlags := 0x411 }
/-- [B -/
def k9 : Class := { plain "[B" (some 0) with kind := .array 8 .byte, interfaces := #[7, 4], accessFlags := 1041 }

/-- the primitive int -/
def k10 : Class := { plain "int" none with kind := .primitive 'I', accessFlags := 0x411 }
/-- [I -/
def k11 : Class := { plain "[I" (some 0) with kind := .array 10 .int, interfaces := #[7, 4], accessFlags := 1041 }

def heap : Heap := #[{ cls := 6, slots := #[.ref 1, .ref 4, .ref 2, .ref 3, .null], vm := .statics 6 },
  { cls := 6, slots := #[.null, .int 0, .int 0], vm := .none },
  { cls := 6, slots := #[.null, .int 2, .int 0], vm := .none },
  { cls := 6, slots := #[.null, .int 3, .int 0], vm := .none },
  { cls := 6, slots := #[.null, .int 1, .int 0], vm := .none }]
def classes : Array Class := #[k0, k1, k2, k3, k4, k5, k6, k7, k8, k9, k10, k11]
def interned : List (Array UInt16 × Addr) := []
def slotsUsed : Nat := 17
def theMethod : MethodId := ⟨1, 3⟩
def args0 : Array Value := #[.int 0]
def aboutOver (below : List Frame) : State where
  vm := { classes := classes, interned := interned.toArray }
  heap := heap
  slotsUsed := slotsUsed
  threads := #[{ frames := .invoking theMethod args0 :: below }]
def below0 : List Frame := [.native { method := ⟨0, 0⟩, args := #[] }]
def about1 : State := aboutOver below0
def p0 : Program := .bare "" "" ""
def e0 : Env := launch0.env 0 0 0
theorem w_frames : about1.frames = Frame.invoking theMethod args0 :: below0 := rfl
set_option maxRecDepth 65536 in
theorem w_args : argsFit about1.vm theMethod args0 = true := by decide +kernel
set_option maxRecDepth 65536 in
theorem w_heap : heapFits about1 = true := by decide +kernel
set_option maxRecDepth 65536 in
theorem w_runnable : about1.curStatus? = some .runnable := by decide +kernel
set_option maxRecDepth 65536 in
theorem w_alone : about1.alone = true := by decide +kernel
set_option maxRecDepth 65536 in
theorem w_named : about1.methodNamed? x = some theMethod := by decide +kernel
set_option maxRecDepth 65536 in
theorem w_hears : about1.hears theMethod below0 = true := by decide +kernel
set_option maxRecDepth 65536 in
theorem w_ripe : about1.ripe theMethod args0 below0 = true := by decide +kernel
theorem w_running : about1.status = .running := rfl
set_option maxRecDepth 65536 in
theorem w_room : about1.hasRoom e0.platform room_1 = true :=
  launch0.hasRoom_least _ room_1 (by decide +kernel) (by decide +kernel) (by decide +kernel) (by decide +kernel) (by decide +kernel) (by decide +kernel)
theorem allAtoms_all (ts : List Jvm.Cond) (a : Array Jvm.Value) (st : Jvm.State) : (allAtoms ts).before a st = ts.all (fun c => c.before a st) := by
  induction ts with
  | nil => rfl
  | cons c t ih =>
    show (Jvm.Cond.and c (allAtoms t)).before a st = _
    rw [Jvm.Cond.before_and, ih, List.all_cons]
def words1 : List Jvm.Cond := Jvm.Cond.code x code maxLocals ret :: tables_1
/-- a 'code' word, met by the world's own term for the bytes: nothing is compared byte by byte -/
theorem code_word {y : MethodName} {bytes : ByteArray} {mx : Nat} {rt : Option FieldType} {a : Array Value} {s : State} {m : MethodId} {meth : Method} {c : Code} (h1 : s.methodNamed? y = some m) (h2 : s.vm.method? m = some meth) (h3 : meth.code = some c) (h4 : c.code = bytes)
    (h5 : (c.maxLocals == mx && c.exceptionTable.isEmpty && decide (c.maxStack ≤ mostOperands) && decide (meth.sig.returnType = rt) && !meth.locks && decide (parseMethodDescriptor y.desc = some meth.sig)) = true) : (Jvm.Cond.code y bytes mx rt).before a s = true := by
  simp only [Bool.and_eq_true, beq_iff_eq, Bool.not_eq_true', decide_eq_true_eq] at h5
  obtain ⟨⟨⟨⟨⟨g1, g2⟩, g3⟩, g4⟩, g5⟩, g6⟩ := h5
  simp [Cond.before, Cond.holds, Cond.value, h1, h2, h3, h4, g1, g2, g3, g4, g5, g6]
def isCode : Jvm.Cond → Bool
  | .code _ _ _ _ => true
  | _ => false
theorem all_split {L : List Jvm.Cond} {P : Jvm.Cond → Bool} (h1 : L.all (fun c => isCode c || P c) = true) (h2 : ∀ c ∈ L.filter isCode, P c = true) : L.all P = true := by
  refine List.all_eq_true.mpr fun c hc => ?_
  have h := List.all_eq_true.mp h1 c hc
  rcases Bool.eq_false_or_eq_true (isCode c) with hi | hi
  · exact h2 c (List.mem_filter.mpr ⟨hc, hi⟩)
  · simpa [hi] using h
set_option maxRecDepth 65536 in
theorem w_c0 : (Jvm.Cond.code x code maxLocals ret).before args0 about1 = true := code_word (m := ⟨1, 3⟩) (meth := k1m3) (c := k1c3) (by decide +kernel) rfl rfl rfl (by decide +kernel)
set_option maxRecDepth 65536 in
theorem w_c1 : (Jvm.Cond.code ({ cls := "com/example/versions_to_view/versionstoview/lock/LockModeIsOnGapPinLaw", name := "pick", desc := "(I)Lcom/example/versions_to_view/versionstoview/lock/LockMode;" } : Jvm.MethodName) method_2_code (1 : Nat) (Option.some (Jvm.ClassFile.FieldType.object "com/example/versions_to_view/versionstoview/lock/LockMode"))).before args0 about1 = true := code_word (m := ⟨1, 1⟩) (meth := k1m1) (c := k1c1) (by decide +kernel) rfl rfl rfl (by decide +kernel)
set_option maxRecDepth 65536 in
theorem w_c2 : (Jvm.Cond.code ({ cls := "com/example/versions_to_view/versionstoview/lock/LockMode", name := "isOnGap", desc := "()Z" } : Jvm.MethodName) prog_17_method_6_code (1 : Nat) (Option.some Jvm.ClassFile.FieldType.boolean)).before args0 about1 = true := code_word (m := ⟨6, 1⟩) (meth := k6m1) (c := k6c1) (by decide +kernel) rfl rfl rfl (by decide +kernel)
set_option maxRecDepth 65536 in
theorem w_c3 : (Jvm.Cond.code ({ cls := "com/example/versions_to_view/versionstoview/lock/LockModeIsOnGapPinLaw", name := "expectedOnGap", desc := "(I)Z" } : Jvm.MethodName) method_3_code (1 : Nat) (Option.some Jvm.ClassFile.FieldType.boolean)).before args0 about1 = true := code_word (m := ⟨1, 2⟩) (meth := k1m2) (c := k1c2) (by decide +kernel) rfl rfl rfl (by decide +kernel)
set_option maxRecDepth 65536 in
theorem w_c4 : (Jvm.Cond.code ({ cls := "com/example/versions_to_view/versionstoview/lock/LockMode", name := "waitsFor", desc := "(Lcom/example/versions_to_view/versionstoview/lock/LockMode;)Z" } : Jvm.MethodName) prog_17_method_4_code (2 : Nat) (Option.some Jvm.ClassFile.FieldType.boolean)).before args0 about1 = true := code_word (m := ⟨6, 0⟩) (meth := k6m0) (c := k6c0) (by decide +kernel) rfl rfl rfl (by decide +kernel)
set_option maxRecDepth 65536 in
theorem w_c5 : (Jvm.Cond.code ({ cls := "java/lang/Enum", name := "ordinal", desc := "()I" } : Jvm.MethodName) jdk_37_method_2_code (1 : Nat) (Option.some Jvm.ClassFile.FieldType.int)).before args0 about1 = true := code_word (m := ⟨5, 0⟩) (meth := k5m0) (c := k5c0) (by decide +kernel) rfl rfl rfl (by decide +kernel)
def codes1 : List Jvm.Cond := [Jvm.Cond.code x code maxLocals ret, Jvm.Cond.code ({ cls := "com/example/versions_to_view/versionstoview/lock/LockModeIsOnGapPinLaw", name := "pick", desc := "(I)Lcom/example/versions_to_view/versionstoview/lock/LockMode;" } : Jvm.MethodName) method_2_code (1 : Nat) (Option.some (Jvm.ClassFile.FieldType.object "com/example/versions_to_view/versionstoview/lock/LockMode")), Jvm.Cond.code ({ cls := "com/example/versions_to_view/versionstoview/lock/LockMode", name := "isOnGap", desc := "()Z" } : Jvm.MethodName) prog_17_method_6_code (1 : Nat) (Option.some Jvm.ClassFile.FieldType.boolean), Jvm.Cond.code ({ cls := "com/example/versions_to_view/versionstoview/lock/LockModeIsOnGapPinLaw", name := "expectedOnGap", desc := "(I)Z" } : Jvm.MethodName) method_3_code (1 : Nat) (Option.some Jvm.ClassFile.FieldType.boolean), Jvm.Cond.code ({ cls := "com/example/versions_to_view/versionstoview/lock/LockMode", name := "waitsFor", desc := "(Lcom/example/versions_to_view/versionstoview/lock/LockMode;)Z" } : Jvm.MethodName) prog_17_method_4_code (2 : Nat) (Option.some Jvm.ClassFile.FieldType.boolean), Jvm.Cond.code ({ cls := "java/lang/Enum", name := "ordinal", desc := "()I" } : Jvm.MethodName) jdk_37_method_2_code (1 : Nat) (Option.some Jvm.ClassFile.FieldType.int)]
set_option maxRecDepth 65536 in
theorem codes_eq : words1.filter isCode = codes1 := rfl
theorem w_codes : ∀ c ∈ words1.filter isCode, c.before args0 about1 = true := by
  rw [codes_eq]
  intro c hc
  simp only [codes1, List.mem_cons, List.not_mem_nil, or_false] at hc
  rcases hc with rfl | rfl | rfl | rfl | rfl | rfl
  · exact w_c0
  · exact w_c1
  · exact w_c2
  · exact w_c3
  · exact w_c4
  · exact w_c5
set_option maxRecDepth 65536 in
theorem w_t1 : (words1.take 24).all (fun c => isCode c || c.before args0 about1) = true := by decide +kernel
set_option maxRecDepth 65536 in
theorem w_t2 : (words1.drop 24).all (fun c => isCode c || c.before args0 about1) = true := by decide +kernel
theorem w_tables : (allAtoms (Jvm.Cond.code x code maxLocals ret :: tables_1)).before args0 about1 = true := by
  rw [allAtoms_all]
  show words1.all (fun c => c.before args0 about1) = true
  refine all_split ?_ w_codes
  rw [← List.take_append_drop 24 words1, List.all_append, w_t1, w_t2]
  rfl
set_option maxRecDepth 65536 in
theorem w_case : (Jvm.Cond.and given_1 narrow_1).before args0 about1 = true := by decide +kernel
theorem w_applies : (headSpec (Jvm.Cond.code x code maxLocals ret :: tables_1) room_1).applies x e0.platform about1 = true :=
  (Spec.applies_iff w_frames).mpr ⟨w_running, w_runnable, w_alone, w_named, w_hears, w_ripe, w_room, w_tables⟩
theorem atStart : AtStart classFile x code maxLocals ret World_1 tables_1 room_1 Calls_1 rest_1 Pre_1 launch0 p0 e0 about1 theMethod args0 below0 :=
  ⟨lists_1, trivial, launch0.admits_env _ _ _, launch0.least_env, fairChoices_fair.cas, fairChoices_fair.clock, w_frames, w_args, w_heap, w_applies, trivial, trivial, w_case⟩
end start1
theorem witness_1 : WitnessClaimed_1 := ⟨start1.p0, start1.e0, start1.about1, start1.theMethod, start1.args0, start1.below0, start1.atStart⟩
end Jvm.Pilot.@@N@@
