import JvmDerived
import JvmDerived.Pilot.@@N@@Statement
import JvmDerived.Pilot.@@N@@Code
set_option linter.unusedVariables false
set_option linter.unusedSimpArgs false
namespace Jvm.RoadKit
open Sem ClassFile Op Lib Jvm.Stand Jvm.Free Jvm.LawKit
section New
variable {p : Program} {l : Launch} {e : Env} {R : Room} {s : State} {m : MethodId} {args : Array Value} {below : List Frame} {meth : Method} {c : Code} {T : State} {locs : List Loc} {cells slots : Nat}
theorem retI (X : Stand p l e R s m args below meth c T locs cells slots) (hx : p.tables.exec = Jvm.exec) {pc : Nat} {Ls : Array Slot} {z : Int32} {rest : List Value} (hret : meth.sig.returnType = some .int) (hd : decode c.code pc = .ok (.ireturn, 1)) {fs : List Frame}
    (hl : ∀ (f : JFrame) (acts : List Action), f.method = m → f.locked = none → f.entered = [] → (doReturn e (T.setTop f) acts (some (.int z))).1 = T.setFrames fs) : Steps p.tables e below (T.setTop (mkF m pc Ls (.int z :: rest))) (T.setFrames fs) := by
  have hm' : T.vm.method? m = some meth := X.method'
  have hn : narrow .int (.int z) = .int z := rfl
  show Steps p.tables e below (T.setTop { method := m, pc := pc, locals := Ls, stack := _ :: rest, locked := none }) _
  jvm_step X.here [X.here.top, hx, hd, hm', hret, hn]
  first | (intro acts; rw [hl _ acts rfl rfl rfl]) | rw [hl _ _ rfl rfl rfl]
  exact Steps.refl _
end New
end Jvm.RoadKit
namespace Jvm.Pilot.@@N@@
open Jvm Jvm.ClassFile Sem Op Lib Jvm.Free Jvm.Stand Jvm.LawKit Jvm.RoadKit Bundle Jvm.Pilot.@@N@@.Jvm.D
def own_Goes (p : Program) (e : Env) (below : List Frame) (S : State) (K : State → Outcome → Prop) : Prop := ∃ s₂ o, Steps p.tables e below S s₂ ∧ s₂.status = .running ∧ Ended s₂ below o ∧ K s₂ o
theorem own_of {p : Program} {e : Env} {below : List Frame} {S S' : State} {K : State → Outcome → Prop} (k : ∀ t, Steps p.tables e below S' t → Steps p.tables e below S t) (h : own_Goes p e below S' K) : own_Goes p e below S K := by
  obtain ⟨t, o, h1, h2⟩ := h
  exact ⟨t, o, k t h1, h2⟩
theorem own_nameK {p : Program} {e : Env} {below : List Frame} {S : State} {K' : State → Outcome → Prop} (h : ∀ K, K = K' → own_Goes p e below S K) : own_Goes p e below S K' := h K' rfl
theorem own_nar {g : Int32} (h : g = (0 : Int32) ∨ g = (1 : Int32)) : nar .boolean g = g := by rcases h with rfl | rfl <;> rfl
theorem own_narV {g : Int32} (h : g = (0 : Int32) ∨ g = (1 : Int32)) : narrow .boolean (.int g) = .int g := by rcases h with rfl | rfl <;> rfl
theorem own_fitsZ {g : Int32} (h : g = (0 : Int32) ∨ g = (1 : Int32)) : fits .boolean (.int g) = true := by rcases h with rfl | rfl <;> rfl
theorem own_cat {v : Value} (h : v.isRef = true) : v.category = 1 := by
  rcases ref_cases h with rfl | ⟨a, rfl⟩ <;> rfl
theorem own_eqI {args : Array Value} {s : State} {t : Term} {k : Int32} (h : (Jvm.Cond.eq t (.int k)).value args s none s [] = some true) : t.eval args s none [] s = some (.int k) := by
  simp only [Cond.value, Term.eval] at h
  cases ht : t.eval args s none [] s with
  | none => simp [ht] at h
  | some x => cases x <;> simp [ht] at h ⊢; exact h
theorem own_eqL {args : Array Value} {s : State} {t : Term} {k : Int64} (h : (Jvm.Cond.eq t (.long k)).value args s none s [] = some true) : t.eval args s none [] s = some (.long k) := by
  simp only [Cond.value, Term.eval] at h
  cases ht : t.eval args s none [] s with
  | none => simp [ht] at h
  | some x => cases x <;> simp [ht] at h ⊢; exact h
def own_inR (q a b : Int64) : Int32 := if (lcmpW q a) < (0 : Int32) then 0 else if (0 : Int32) < (lcmpW q b) then 0 else 1
theorem own_key (x : Int64) : x = x.toInt32.toInt64 ↔ ¬ x < (-2147483648 : Int64) ∧ ¬ (2147483647 : Int64) < x := by
  have a := c_l2i x
  have b := c_i2l x.toInt32
  have c := rng32 x.toInt32
  rw [← Int64.toInt_inj, b, Int64.lt_iff_toInt_lt, Int64.lt_iff_toInt_lt]
  have d : (-2147483648 : Int64).toInt = -2147483648 := by decide
  have e : (2147483647 : Int64).toInt = 2147483647 := by decide
  rw [d, e]
  constructor
  · intro h; omega
  · intro h; omega
theorem own_dead1 {x : Int64} (h1 : (lcmpW x ((x.toInt32).toInt64)) = (0 : Int32)) (h2 : ¬ (own_inR x (-2147483648 : Int64) (2147483647 : Int64)) = (1 : Int32)) : False := by
  have k := (own_key x).mp ((lw_eq _ _).mp h1)
  apply h2
  rw [own_inR, if_neg (fun q => k.1 ((lw_lt _ _).mp q)), if_neg (fun q => k.2 ((lw_gt _ _).mp q))]
theorem own_dead0 {x : Int64} (h1 : ¬ (lcmpW x ((x.toInt32).toInt64)) = (0 : Int32)) (h2 : ¬ (own_inR x (-2147483648 : Int64) (2147483647 : Int64)) = (0 : Int32)) : False := by
  apply h1
  rw [lw_eq, own_key]
  constructor
  · intro q; apply h2; rw [own_inR, if_pos ((lw_lt _ _).mpr q)]
  · intro q; apply h2
    by_cases u : (lcmpW x (-2147483648 : Int64)) < (0 : Int32)
    · rw [own_inR, if_pos u]
    · rw [own_inR, if_neg u, if_pos ((lw_gt _ _).mpr q)]
theorem d1_0 : decode prog_3_method_8_code 0 = .ok (.lload_n 1, 1) := by decide +kernel
theorem d1_1 : decode prog_3_method_8_code 1 = .ok (.aload_n 0, 1) := by decide +kernel
theorem d1_2 : decode prog_3_method_8_code 2 = .ok (.getfield 37, 3) := by decide +kernel
theorem d1_5 : decode prog_3_method_8_code 5 = .ok (.lcmp, 1) := by decide +kernel
theorem d1_6 : decode prog_3_method_8_code 6 = .ok (.ifCond .lt 16, 3) := by decide +kernel
theorem d1_9 : decode prog_3_method_8_code 9 = .ok (.lload_n 1, 1) := by decide +kernel
theorem d1_10 : decode prog_3_method_8_code 10 = .ok (.aload_n 0, 1) := by decide +kernel
theorem d1_11 : decode prog_3_method_8_code 11 = .ok (.getfield 41, 3) := by decide +kernel
theorem d1_14 : decode prog_3_method_8_code 14 = .ok (.lcmp, 1) := by decide +kernel
theorem d1_15 : decode prog_3_method_8_code 15 = .ok (.ifCond .gt 7, 3) := by decide +kernel
theorem d1_18 : decode prog_3_method_8_code 18 = .ok (.iconst 1, 1) := by decide +kernel
theorem d1_19 : decode prog_3_method_8_code 19 = .ok (.goto 4, 3) := by decide +kernel
theorem d1_22 : decode prog_3_method_8_code 22 = .ok (.iconst 0, 1) := by decide +kernel
theorem d1_23 : decode prog_3_method_8_code 23 = .ok (.ireturn, 1) := by decide +kernel
theorem pn_1 : plainName "com/example/keyfence/keyfence/ColumnType" = true := by first | (simp [plainName, overriddenIn]; done) | decide +kernel
theorem ef_1 (m : MethodId) (a1 : Addr) (q2 : Int64) : entryFrame m #[(.ref a1), (.long q2)] 3 = mkF m 0 #[.val (.ref a1), .val (.long q2), .second] [] := by first | (simp [entryFrame, mkF, argsToLocals, Value.category]; done) | rfl
def Q1 (Z : State) (a1 : Addr) (q2 : Int64) (w3 : Int64) (w5 : Int64) (h0 : Heap) (n0 : Nat) (v : Option Value) (h : Heap) (L : List Loc) : Prop := (v = some (.int (own_inR q2 w3 w5))) ∧ (Fr n0 L) ∧ (h = h0)
set_option maxRecDepth 65536 in
set_option maxHeartbeats 40000000 in
theorem rm1 (l : Launch) (Z : State) (a0 : Array Value) (hw : ∀ d ∈ tables_1, d.before a0 Z = true) (ws : List Jvm.Cond) (a1 : Addr) (q2 : Int64) (w3 : Int64) (w5 : Int64) (h0 : Heap) (n0 : Nat) (Z0 : n0 ≤ h0.size) (F_min_a1 : Fld Z h0 a1 "com/example/keyfence/keyfence/ColumnType" "min" "J" (.long w3)) (F_max_a1 : Fld Z h0 a1 "com/example/keyfence/keyfence/ColumnType" "max" "J" (.long w5)) :
    MetFree l (⟨"com/example/keyfence/keyfence/ColumnType", "inRange", "(J)Z"⟩ : MethodName) (head1 (Jvm.Cond.code (⟨"com/example/keyfence/keyfence/ColumnType", "inRange", "(J)Z"⟩ : MethodName) prog_3_method_8_code 3 (some .boolean) :: ws) ({ frames := 0, cells := 0, slots := 0, locals := 0 } : Room)) (fun a U => a = #[(.ref a1), (.long q2)] ∧ Z.Warmed39 U.vm ∧ U.heap = h0) (fun _ _ _ _ _ => True) (fun _ U o U' => ∃ v L, o = .returned v ∧ Q1 Z a1 q2 w3 w5 h0 n0 v U'.heap L ∧ FrameEnd U o U' L ({ frames := 0, cells := 0, slots := 0, locals := 0 } : Room).cells ({ frames := 0, cells := 0, slots := 0, locals := 0 } : Room).slots) := by
  refine MetFree.of_bodySF (plainFor_of_name pn_1) hisR ?_
  intro p e s m args below meth c s₁ Bd hml0 hP hK
  obtain ⟨rfl, hZ, hh⟩ := hP
  have hx := Bd.exec
  have hby := Bd.bytes
  have hml : c.maxLocals = 3 := hml0
  have hown : s.vm.findClass "com/example/keyfence/keyfence/ColumnType" = some m.cls := findClass_of_methodNamed Bd.named
  have hnm := (name_of_methodNamed Bd.named Bd.method).1
  have X0 : Stand p l e ({ frames := 0, cells := 0, slots := 0, locals := 0 } : Room) s m #[(.ref a1), (.long q2)] below meth c s₁ [] 0 0 := Stand.of_body Bd
  have e0 : s₁.heap = h0 := by rw [← hh, Bd.state]; rfl
  have N0 := Fr.nil n0
  refine own_of (S := s₁.setTop (entryFrame m #[(.ref a1), (.long q2)] 3)) (S' := s₁.setTop (mkF m 0 #[.val (.ref a1), .val (.long q2), .second] [])) (K := fun s₂ o => ∃ v L, o = .returned v ∧ Q1 Z a1 q2 w3 w5 h0 n0 v s₂.heap L ∧ FrameEnd s o s₂ L ({ frames := 0, cells := 0, slots := 0, locals := 0 } : Room).cells ({ frames := 0, cells := 0, slots := 0, locals := 0 } : Room).slots) (fun t k => castTop (ef_1 m a1 q2) k) ?_
  refine own_nameK fun K hKd => ?_
  refine own_of (S' := s₁.setTop (mkF m 1 #[.val (.ref a1), .val (.long q2), .second] [(.long q2)])) (fun t k => XS.lloadN X0.here hx rfl (hb hby d1_0) rfl k) ?_
  refine own_of (S' := s₁.setTop (mkF m 2 #[.val (.ref a1), .val (.long q2), .second] [(.ref a1), (.long q2)])) (fun t k => XS.aloadN X0.here hx rfl (hb hby d1_1) rfl rfl k) ?_
  obtain ⟨T1, X1, e1, st1⟩ := getF X0 hx hZ hown (host := "") (Or.inl (hw _ (List.mem_of_getElem? (i := 9) rfl))) Via.refl e0 F_min_a1 (g := (mkF m 2 #[.val (.ref a1), .val (.long q2), .second] [(.ref a1), (.long q2)])) rfl rfl (hb hby d1_2)
  refine own_of (S' := T1.setTop (mkF m 5 #[.val (.ref a1), .val (.long q2), .second] [(.long w3), (.long q2)])) st1 ?_
  refine own_of (S' := T1.setTop (mkF m 6 #[.val (.ref a1), .val (.long q2), .second] [(.int (lcmpW q2 w3))])) (fun t k => XS.lcmp X1.here hx rfl (hb hby d1_5) rfl k) ?_
  by_cases hc6_2 : (lcmpW q2 w3) < (0 : Int32)
  · refine own_of (S' := T1.setTop (mkF m 22 #[.val (.ref a1), .val (.long q2), .second] [])) (fun t k => XS.ifYes X1.here hx rfl (pc0 := 6) (pc' := 22) rfl (hb hby d1_6) rfl ((if0 _ _).trans (tlt hc6_2).1) (by decide) (by decide) k) ?_
    refine own_of (S' := T1.setTop (mkF m 23 #[.val (.ref a1), .val (.long q2), .second] [(.int (0 : Int32))])) (fun t k => XS.iconst X1.here hx rfl (hb hby d1_22) k) ?_
    obtain ⟨fs, hr, hrun, hended, hW, hsame⟩ := X1.leave (v := some (.int (0 : Int32))) (fun h => by rw [Bd.returns] at h; cases h)
    subst hKd
    exact ⟨_, _, retN X1 hx (t := .boolean) Bd.returns (by simp) (hb hby d1_23) hr, hrun, hended, _, _, rfl, (by
      show Q1 Z a1 q2 w3 w5 h0 n0 _ T1.heap _
      rw [show T1.heap = h0 from e1]
      exact ⟨(by rw [own_inR, if_pos hc6_2]), N0, rfl⟩), ⟨_, rfl⟩, hW, hsame.mono (by decide) (by decide)⟩
  refine own_of (S' := T1.setTop (mkF m 9 #[.val (.ref a1), .val (.long q2), .second] [])) (fun t k => XS.ifNo X1.here hx rfl (hb hby d1_6) rfl ((if0 _ _).trans (flt hc6_2).1) k) ?_
  refine own_of (S' := T1.setTop (mkF m 10 #[.val (.ref a1), .val (.long q2), .second] [(.long q2)])) (fun t k => XS.lloadN X1.here hx rfl (hb hby d1_9) rfl k) ?_
  refine own_of (S' := T1.setTop (mkF m 11 #[.val (.ref a1), .val (.long q2), .second] [(.ref a1), (.long q2)])) (fun t k => XS.aloadN X1.here hx rfl (hb hby d1_10) rfl rfl k) ?_
  obtain ⟨T3, X3, e3, st3⟩ := getF X1 hx hZ hown (host := "") (Or.inl (hw _ (List.mem_of_getElem? (i := 11) rfl))) Via.refl e1 F_max_a1 (g := (mkF m 11 #[.val (.ref a1), .val (.long q2), .second] [(.ref a1), (.long q2)])) rfl rfl (hb hby d1_11)
  refine own_of (S' := T3.setTop (mkF m 14 #[.val (.ref a1), .val (.long q2), .second] [(.long w5), (.long q2)])) st3 ?_
  refine own_of (S' := T3.setTop (mkF m 15 #[.val (.ref a1), .val (.long q2), .second] [(.int (lcmpW q2 w5))])) (fun t k => XS.lcmp X3.here hx rfl (hb hby d1_14) rfl k) ?_
  by_cases hc15_4 : (0 : Int32) < (lcmpW q2 w5)
  · refine own_of (S' := T3.setTop (mkF m 22 #[.val (.ref a1), .val (.long q2), .second] [])) (fun t k => XS.ifYes X3.here hx rfl (pc0 := 15) (pc' := 22) rfl (hb hby d1_15) rfl ((if0 _ _).trans (tlt hc15_4).2.2.1) (by decide) (by decide) k) ?_
    refine own_of (S' := T3.setTop (mkF m 23 #[.val (.ref a1), .val (.long q2), .second] [(.int (0 : Int32))])) (fun t k => XS.iconst X3.here hx rfl (hb hby d1_22) k) ?_
    obtain ⟨fs, hr, hrun, hended, hW, hsame⟩ := X3.leave (v := some (.int (0 : Int32))) (fun h => by rw [Bd.returns] at h; cases h)
    subst hKd
    exact ⟨_, _, retN X3 hx (t := .boolean) Bd.returns (by simp) (hb hby d1_23) hr, hrun, hended, _, _, rfl, (by
      show Q1 Z a1 q2 w3 w5 h0 n0 _ T3.heap _
      rw [show T3.heap = h0 from e3]
      exact ⟨(by rw [own_inR, if_neg hc6_2, if_pos hc15_4]), N0, rfl⟩), ⟨_, rfl⟩, hW, hsame.mono (by decide) (by decide)⟩
  refine own_of (S' := T3.setTop (mkF m 18 #[.val (.ref a1), .val (.long q2), .second] [])) (fun t k => XS.ifNo X3.here hx rfl (hb hby d1_15) rfl ((if0 _ _).trans (flt hc15_4).2.2.1) k) ?_
  refine own_of (S' := T3.setTop (mkF m 19 #[.val (.ref a1), .val (.long q2), .second] [(.int (1 : Int32))])) (fun t k => XS.iconst X3.here hx rfl (hb hby d1_18) k) ?_
  refine own_of (S' := T3.setTop (mkF m 23 #[.val (.ref a1), .val (.long q2), .second] [(.int (1 : Int32))])) (fun t k => XS.goto X3.here hx rfl (pc0 := 19) (pc' := 23) rfl (hb hby d1_19) (by decide) (by decide) k) ?_
  obtain ⟨fs, hr, hrun, hended, hW, hsame⟩ := X3.leave (v := some (.int (1 : Int32))) (fun h => by rw [Bd.returns] at h; cases h)
  subst hKd
  exact ⟨_, _, retN X3 hx (t := .boolean) Bd.returns (by simp) (hb hby d1_23) hr, hrun, hended, _, _, rfl, (by
    show Q1 Z a1 q2 w3 w5 h0 n0 _ T3.heap _
    rw [show T3.heap = h0 from e3]
    exact ⟨(by rw [own_inR, if_neg hc6_2, if_neg hc15_4]), N0, rfl⟩), ⟨_, rfl⟩, hW, hsame.mono (by decide) (by decide)⟩
theorem pn_0 : plainName "com/example/keyfence/keyfence/ColumnTypeInRangePinLaw" = true := by first | (simp [plainName, overriddenIn]; done) | decide +kernel
theorem pd0_0 : parseMethodDescriptor "(J)Z" = some ⟨[.long], some .boolean⟩ := by decide +kernel
theorem ef_0 (m : MethodId) (q1 : Int64) (p2 : Int32) (p3 : Int32) : entryFrame m #[(.long q1), (.int p2), (.int p3)] maxLocals = mkF m 0 #[.val (.long q1), .second, .val (.int p2), .val (.int p3), .unset, .unset, .unset, .unset, .unset, .unset] [] := by first | (simp [entryFrame, mkF, argsToLocals, Value.category, maxLocals]; done) | rfl
def Q0 (Z : State) (q1 : Int64) (p2 : Int32) (p3 : Int32) (w : Addr) (h0 : Heap) (n0 : Nat) (v : Option Value) (h : Heap) (L : List Loc) : Prop := (v = some (.int (1 : Int32))) ∧ (Fr n0 L)
set_option maxRecDepth 65536 in
set_option maxHeartbeats 40000000 in
theorem rm0 (l : Launch) (Z : State) (a0 : Array Value) (hw : ∀ d ∈ tables_1, d.before a0 Z = true) (ws : List Jvm.Cond) (q1 : Int64) (p2 : Int32) (p3 : Int32) (w : Addr) (h0 : Heap) (n0 : Nat) (Z0 : n0 ≤ h0.size) (S_INT : Sta Z h0 "com/example/keyfence/keyfence/ColumnType" "INT" "Lcom/example/keyfence/keyfence/ColumnType;" (.ref w)) (E_w : Exa Z h0 w "com/example/keyfence/keyfence/ColumnType") (F_min_w : Fld Z h0 w "com/example/keyfence/keyfence/ColumnType" "min" "J" (.long (-2147483648 : Int64))) (F_max_w : Fld Z h0 w "com/example/keyfence/keyfence/ColumnType" "max" "J" (.long (2147483647 : Int64))) :
    MetFree l x (head1 (Jvm.Cond.code x code maxLocals ret :: ws) room_1) (fun a U => a = #[(.long q1), (.int p2), (.int p3)] ∧ Z.Warmed39 U.vm ∧ U.heap = h0) (fun _ _ _ _ _ => True) (fun _ U o U' => ∃ v L, o = .returned v ∧ Q0 Z q1 p2 p3 w h0 n0 v U'.heap L ∧ FrameEnd U o U' L room_1.cells room_1.slots) := by
  refine MetFree.of_bodySF (plainFor_of_name pn_0) hisR ?_
  intro p e s m args below meth c s₁ Bd hml0 hP hK
  obtain ⟨rfl, hZ, hh⟩ := hP
  have hx := Bd.exec
  have hby := Bd.bytes
  have hml : c.maxLocals = 10 := hml0
  have hown : s.vm.findClass "com/example/keyfence/keyfence/ColumnTypeInRangePinLaw" = some m.cls := findClass_of_methodNamed Bd.named
  have hnm := (name_of_methodNamed Bd.named Bd.method).1
  have X0 : Stand p l e room_1 s m #[(.long q1), (.int p2), (.int p3)] below meth c s₁ [] 0 0 := Stand.of_body Bd
  have e0 : s₁.heap = h0 := by rw [← hh, Bd.state]; rfl
  have N0 := Fr.nil n0
  refine own_of (S := s₁.setTop (entryFrame m #[(.long q1), (.int p2), (.int p3)] maxLocals)) (S' := s₁.setTop (mkF m 0 #[.val (.long q1), .second, .val (.int p2), .val (.int p3), .unset, .unset, .unset, .unset, .unset, .unset] [])) (K := fun s₂ o => ∃ v L, o = .returned v ∧ Q0 Z q1 p2 p3 w h0 n0 v s₂.heap L ∧ FrameEnd s o s₂ L room_1.cells room_1.slots) (fun t k => castTop (ef_0 m q1 p2 p3) k) ?_
  refine own_nameK fun K hKd => ?_
  refine own_of (S' := s₁.setTop (mkF m 1 #[.val (.long q1), .second, .val (.int p2), .val (.int p3), .unset, .unset, .unset, .unset, .unset, .unset] [(.int p2)])) (fun t k => XS.iloadN X0.here hx rfl (hb hby at_0) rfl k) ?_
  refine own_of (S' := s₁.setTop (mkF m 2 #[.val (.long q1), .second, .val (.int p2), .val (.int p3), .unset, .unset, .unset, .unset, .unset, .unset] [(.int (4 : Int32)), (.int p2)])) (fun t k => XS.iconst X0.here hx rfl (hb hby at_1) k) ?_
  refine own_of (S' := s₁.setTop (mkF m 3 #[.val (.long q1), .second, .val (.int p2), .val (.int p3), .unset, .unset, .unset, .unset, .unset, .unset] [(.int (p2 % (4 : Int32)))])) (fun t k => iremM X0 hx rfl (hb hby at_2) rfl (by decide) k) ?_
  refine own_of (S' := s₁.setTop (mkF m 4 #[.val (.long q1), .second, .val (.int p2), .val (.int p3), .unset, .unset, .unset, .unset, .unset, .unset] [(.long ((p2 % (4 : Int32)).toInt64))])) (fun t k => XS.i2l X0.here hx rfl (hb hby at_3) rfl k) ?_
  refine own_of (S' := s₁.setTop (mkF m 6 #[.val (.long q1), .second, .val (.int p2), .val (.int p3), .val (.long ((p2 % (4 : Int32)).toInt64)), .second, .unset, .unset, .unset, .unset] [])) (fun t k => XS.lstore X0.here hx rfl (hb hby at_4) rfl (l' := #[.val (.long q1), .second, .val (.int p2), .val (.int p3), .val (.long ((p2 % (4 : Int32)).toInt64)), .second, .unset, .unset, .unset, .unset]) rfl k) ?_
  refine own_of (S' := s₁.setTop (mkF m 7 #[.val (.long q1), .second, .val (.int p2), .val (.int p3), .val (.long ((p2 % (4 : Int32)).toInt64)), .second, .unset, .unset, .unset, .unset] [(.int p3)])) (fun t k => XS.iloadN X0.here hx rfl (hb hby at_6) rfl k) ?_
  refine own_of (S' := s₁.setTop (mkF m 8 #[.val (.long q1), .second, .val (.int p2), .val (.int p3), .val (.long ((p2 % (4 : Int32)).toInt64)), .second, .unset, .unset, .unset, .unset] [(.int (3 : Int32)), (.int p3)])) (fun t k => XS.iconst X0.here hx rfl (hb hby at_7) k) ?_
  refine own_of (S' := s₁.setTop (mkF m 9 #[.val (.long q1), .second, .val (.int p2), .val (.int p3), .val (.long ((p2 % (4 : Int32)).toInt64)), .second, .unset, .unset, .unset, .unset] [(.int (p3 &&& (3 : Int32)))])) (fun t k => XS.iand X0.here hx rfl (hb hby at_8) rfl k) ?_
  refine own_of (S' := s₁.setTop (mkF m 11 #[.val (.long q1), .second, .val (.int p2), .val (.int p3), .val (.long ((p2 % (4 : Int32)).toInt64)), .second, .val (.int (p3 &&& (3 : Int32))), .unset, .unset, .unset] [])) (fun t k => XS.istore X0.here hx rfl (hb hby at_9) rfl (l' := #[.val (.long q1), .second, .val (.int p2), .val (.int p3), .val (.long ((p2 % (4 : Int32)).toInt64)), .second, .val (.int (p3 &&& (3 : Int32))), .unset, .unset, .unset]) rfl k) ?_
  refine own_of (S' := s₁.setTop (mkF m 13 #[.val (.long q1), .second, .val (.int p2), .val (.int p3), .val (.long ((p2 % (4 : Int32)).toInt64)), .second, .val (.int (p3 &&& (3 : Int32))), .unset, .unset, .unset] [(.int (p3 &&& (3 : Int32)))])) (fun t k => XS.iload X0.here hx rfl (hb hby at_11) rfl k) ?_
  by_cases hc13_1 : (p3 &&& (3 : Int32)) = (0 : Int32)
  · refine own_of (S' := s₁.setTop (mkF m 16 #[.val (.long q1), .second, .val (.int p2), .val (.int p3), .val (.long ((p2 % (4 : Int32)).toInt64)), .second, .val (.int (p3 &&& (3 : Int32))), .unset, .unset, .unset] [])) (fun t k => XS.ifNo X0.here hx rfl (hb hby at_13) rfl ((if0 _ _).trans (teq hc13_1).2) k) ?_
    refine own_of (S' := s₁.setTop (mkF m 17 #[.val (.long q1), .second, .val (.int p2), .val (.int p3), .val (.long ((p2 % (4 : Int32)).toInt64)), .second, .val (.int (p3 &&& (3 : Int32))), .unset, .unset, .unset] [(.long q1)])) (fun t k => XS.lloadN X0.here hx rfl (hb hby at_16) rfl k) ?_
    refine own_of (S' := s₁.setTop (mkF m 19 #[.val (.long q1), .second, .val (.int p2), .val (.int p3), .val (.long ((p2 % (4 : Int32)).toInt64)), .second, .val (.int (p3 &&& (3 : Int32))), .val (.long q1), .second, .unset] [])) (fun t k => XS.lstore X0.here hx rfl (hb hby at_17) rfl (l' := #[.val (.long q1), .second, .val (.int p2), .val (.int p3), .val (.long ((p2 % (4 : Int32)).toInt64)), .second, .val (.int (p3 &&& (3 : Int32))), .val (.long q1), .second, .unset]) rfl k) ?_
    refine own_of (S' := s₁.setTop (mkF m 60 #[.val (.long q1), .second, .val (.int p2), .val (.int p3), .val (.long ((p2 % (4 : Int32)).toInt64)), .second, .val (.int (p3 &&& (3 : Int32))), .val (.long q1), .second, .unset] [])) (fun t k => XS.goto X0.here hx rfl (pc0 := 19) (pc' := 60) rfl (hb hby at_19) (by decide) (by decide) k) ?_
    refine own_of (S' := s₁.setTop (mkF m 62 #[.val (.long q1), .second, .val (.int p2), .val (.int p3), .val (.long ((p2 % (4 : Int32)).toInt64)), .second, .val (.int (p3 &&& (3 : Int32))), .val (.long q1), .second, .unset] [(.long q1)])) (fun t k => XS.lload X0.here hx rfl (hb hby at_60) rfl k) ?_
    refine own_of (S' := s₁.setTop (mkF m 64 #[.val (.long q1), .second, .val (.int p2), .val (.int p3), .val (.long ((p2 % (4 : Int32)).toInt64)), .second, .val (.int (p3 &&& (3 : Int32))), .val (.long q1), .second, .unset] [(.long q1), (.long q1)])) (fun t k => XS.lload X0.here hx rfl (hb hby at_62) rfl k) ?_
    refine own_of (S' := s₁.setTop (mkF m 65 #[.val (.long q1), .second, .val (.int p2), .val (.int p3), .val (.long ((p2 % (4 : Int32)).toInt64)), .second, .val (.int (p3 &&& (3 : Int32))), .val (.long q1), .second, .unset] [(.int (q1.toInt32)), (.long q1)])) (fun t k => XS.l2i X0.here hx rfl (hb hby at_64) rfl k) ?_
    refine own_of (S' := s₁.setTop (mkF m 66 #[.val (.long q1), .second, .val (.int p2), .val (.int p3), .val (.long ((p2 % (4 : Int32)).toInt64)), .second, .val (.int (p3 &&& (3 : Int32))), .val (.long q1), .second, .unset] [(.long ((q1.toInt32).toInt64)), (.long q1)])) (fun t k => XS.i2l X0.here hx rfl (hb hby at_65) rfl k) ?_
    refine own_of (S' := s₁.setTop (mkF m 67 #[.val (.long q1), .second, .val (.int p2), .val (.int p3), .val (.long ((p2 % (4 : Int32)).toInt64)), .second, .val (.int (p3 &&& (3 : Int32))), .val (.long q1), .second, .unset] [(.int (lcmpW q1 ((q1.toInt32).toInt64)))])) (fun t k => XS.lcmp X0.here hx rfl (hb hby at_66) rfl k) ?_
    by_cases hc67_2 : (lcmpW q1 ((q1.toInt32).toInt64)) = (0 : Int32)
    · refine own_of (S' := s₁.setTop (mkF m 70 #[.val (.long q1), .second, .val (.int p2), .val (.int p3), .val (.long ((p2 % (4 : Int32)).toInt64)), .second, .val (.int (p3 &&& (3 : Int32))), .val (.long q1), .second, .unset] [])) (fun t k => XS.ifNo X0.here hx rfl (hb hby at_67) rfl ((if0 _ _).trans (teq hc67_2).2) k) ?_
      refine own_of (S' := s₁.setTop (mkF m 71 #[.val (.long q1), .second, .val (.int p2), .val (.int p3), .val (.long ((p2 % (4 : Int32)).toInt64)), .second, .val (.int (p3 &&& (3 : Int32))), .val (.long q1), .second, .unset] [(.int (1 : Int32))])) (fun t k => XS.iconst X0.here hx rfl (hb hby at_70) k) ?_
      refine own_of (S' := s₁.setTop (mkF m 75 #[.val (.long q1), .second, .val (.int p2), .val (.int p3), .val (.long ((p2 % (4 : Int32)).toInt64)), .second, .val (.int (p3 &&& (3 : Int32))), .val (.long q1), .second, .unset] [(.int (1 : Int32))])) (fun t k => XS.goto X0.here hx rfl (pc0 := 71) (pc' := 75) rfl (hb hby at_71) (by decide) (by decide) k) ?_
      refine own_of (S' := s₁.setTop (mkF m 77 #[.val (.long q1), .second, .val (.int p2), .val (.int p3), .val (.long ((p2 % (4 : Int32)).toInt64)), .second, .val (.int (p3 &&& (3 : Int32))), .val (.long q1), .second, .val (.int (1 : Int32))] [])) (fun t k => XS.istore X0.here hx rfl (hb hby at_75) rfl (l' := #[.val (.long q1), .second, .val (.int p2), .val (.int p3), .val (.long ((p2 % (4 : Int32)).toInt64)), .second, .val (.int (p3 &&& (3 : Int32))), .val (.long q1), .second, .val (.int (1 : Int32))]) rfl k) ?_
      obtain ⟨T3, X3, e3, st3⟩ := getS2 X0 hx hZ hown (host := "") (Or.inl (hw _ (List.mem_of_getElem? (i := 1) rfl))) Via.refl e0 S_INT (g := (mkF m 77 #[.val (.long q1), .second, .val (.int p2), .val (.int p3), .val (.long ((p2 % (4 : Int32)).toInt64)), .second, .val (.int (p3 &&& (3 : Int32))), .val (.long q1), .second, .val (.int (1 : Int32))] [])) rfl (hb hby at_77)
      refine own_of (S' := T3.setTop (mkF m 80 #[.val (.long q1), .second, .val (.int p2), .val (.int p3), .val (.long ((p2 % (4 : Int32)).toInt64)), .second, .val (.int (p3 &&& (3 : Int32))), .val (.long q1), .second, .val (.int (1 : Int32))] [(.ref w)])) st3 ?_
      refine own_of (S' := T3.setTop (mkF m 82 #[.val (.long q1), .second, .val (.int p2), .val (.int p3), .val (.long ((p2 % (4 : Int32)).toInt64)), .second, .val (.int (p3 &&& (3 : Int32))), .val (.long q1), .second, .val (.int (1 : Int32))] [(.long q1), (.ref w)])) (fun t k => XS.lload X3.here hx rfl (hb hby at_80) rfl k) ?_
      obtain ⟨cq4, kq4, q4a, q4b, q4c⟩ := isOf hZ e3 E_w
      obtain ⟨_, _, ⟨T4, L4, k4, n4⟩, -, X4, ⟨Lc4, hQ4, l4, y4, z4⟩, st4⟩ := X3.virtualBack hx (y := (⟨"com/example/keyfence/keyfence/ColumnType", "inRange", "(J)Z"⟩ : MethodName)) (z := (⟨"com/example/keyfence/keyfence/ColumnType", "inRange", "(J)Z"⟩ : MethodName)) hown (mvT hZ (hw _ (List.mem_of_getElem? (i := 4) rfl))) (mvT hZ (hw _ (List.mem_of_getElem? (i := 5) rfl))) (notFace_of_selects (args := #[]) (mvT hZ (hw _ (List.mem_of_getElem? (i := 7) rfl)))) (mvT hZ (hw _ (List.mem_of_getElem? (i := 7) rfl))) (mvT hZ (hw _ (List.mem_of_getElem? (i := 6) rfl))) (by decide) (backOf (W := 0) (rm1 l Z a0 hw [] w q1 (-2147483648 : Int64) (2147483647 : Int64) h0 n0 Z0 F_min_w F_max_w) hZ (hw _ (List.mem_of_getElem? (i := 8) rfl)) (hw _ (List.mem_of_getElem? (i := 2) rfl)) (by decide) (by decide)) q4a q4c (g := (mkF m 82 #[.val (.long q1), .second, .val (.int p2), .val (.int p3), .val (.long ((p2 % (4 : Int32)).toInt64)), .second, .val (.int (p3 &&& (3 : Int32))), .val (.long q1), .second, .val (.int (1 : Int32))] [(.long q1), (.ref w)])) rfl (by rw [hml]; rfl) (Steps.refl _) (argsL := [(.long q1)]) (rest := []) (lenOf pd0_0 rfl) rfl (by show 2 * 0 + _ ≤ _; exact Nat.le_of_eq rfl) (hb hby at_82) (fun _ _ => ⟨rfl, e3, (by decide : 0 + _ ≤ _), (by decide : 0 + _ ≤ _)⟩)
      dsimp only [Pt.U, Pt.locs, Pt.cells, Pt.slots] at X4 l4 y4 z4 st4 hQ4
      subst l4 y4 z4
      obtain ⟨rfl, N4q, hh4⟩ := hQ4
      have N4 := Fr.app N0 N4q
      refine own_of (S' := T4.setTop (mkF m 85 #[.val (.long q1), .second, .val (.int p2), .val (.int p3), .val (.long ((p2 % (4 : Int32)).toInt64)), .second, .val (.int (p3 &&& (3 : Int32))), .val (.long q1), .second, .val (.int (1 : Int32))] [(.int (own_inR q1 (-2147483648 : Int64) (2147483647 : Int64)))])) (fun t k => st4.trans k) ?_
      refine own_of (S' := T4.setTop (mkF m 87 #[.val (.long q1), .second, .val (.int p2), .val (.int p3), .val (.long ((p2 % (4 : Int32)).toInt64)), .second, .val (.int (p3 &&& (3 : Int32))), .val (.long q1), .second, .val (.int (1 : Int32))] [(.int (1 : Int32)), (.int (own_inR q1 (-2147483648 : Int64) (2147483647 : Int64)))])) (fun t k => XS.iload X4.here hx rfl (hb hby at_85) rfl k) ?_
      by_cases hc87_5 : (own_inR q1 (-2147483648 : Int64) (2147483647 : Int64)) = (1 : Int32)
      · refine own_of (S' := T4.setTop (mkF m 90 #[.val (.long q1), .second, .val (.int p2), .val (.int p3), .val (.long ((p2 % (4 : Int32)).toInt64)), .second, .val (.int (p3 &&& (3 : Int32))), .val (.long q1), .second, .val (.int (1 : Int32))] [])) (fun t k => XS.icmpNo X4.here hx rfl (hb hby at_87) rfl (teq hc87_5).2 k) ?_
        refine own_of (S' := T4.setTop (mkF m 91 #[.val (.long q1), .second, .val (.int p2), .val (.int p3), .val (.long ((p2 % (4 : Int32)).toInt64)), .second, .val (.int (p3 &&& (3 : Int32))), .val (.long q1), .second, .val (.int (1 : Int32))] [(.int (1 : Int32))])) (fun t k => XS.iconst X4.here hx rfl (hb hby at_90) k) ?_
        refine own_of (S' := T4.setTop (mkF m 95 #[.val (.long q1), .second, .val (.int p2), .val (.int p3), .val (.long ((p2 % (4 : Int32)).toInt64)), .second, .val (.int (p3 &&& (3 : Int32))), .val (.long q1), .second, .val (.int (1 : Int32))] [(.int (1 : Int32))])) (fun t k => XS.goto X4.here hx rfl (pc0 := 91) (pc' := 95) rfl (hb hby at_91) (by decide) (by decide) k) ?_
        obtain ⟨fs, hr, hrun, hended, hW, hsame⟩ := X4.leave (v := some (.int (1 : Int32))) (fun h => by rw [Bd.returns] at h; cases h)
        subst hKd
        exact ⟨_, _, retN X4 hx (t := .boolean) Bd.returns (by simp) (hb hby at_95) hr, hrun, hended, _, _, rfl, (by
          show Q0 Z q1 p2 p3 w h0 n0 _ T4.heap _
          rw [show T4.heap = h0 from (hh4)]
          exact ⟨rfl, N4⟩), ⟨_, rfl⟩, hW, hsame.mono (by decide) (by decide)⟩
      refine own_of (S' := T4.setTop (mkF m 94 #[.val (.long q1), .second, .val (.int p2), .val (.int p3), .val (.long ((p2 % (4 : Int32)).toInt64)), .second, .val (.int (p3 &&& (3 : Int32))), .val (.long q1), .second, .val (.int (1 : Int32))] [])) (fun t k => XS.icmpYes X4.here hx rfl (pc0 := 87) (pc' := 94) rfl (hb hby at_87) rfl (feq hc87_5).2 (by decide) (by decide) k) ?_
      exact (own_dead1 hc67_2 hc87_5).elim
    refine own_of (S' := s₁.setTop (mkF m 74 #[.val (.long q1), .second, .val (.int p2), .val (.int p3), .val (.long ((p2 % (4 : Int32)).toInt64)), .second, .val (.int (p3 &&& (3 : Int32))), .val (.long q1), .second, .unset] [])) (fun t k => XS.ifYes X0.here hx rfl (pc0 := 67) (pc' := 74) rfl (hb hby at_67) rfl ((if0 _ _).trans (feq hc67_2).2) (by decide) (by decide) k) ?_
    refine own_of (S' := s₁.setTop (mkF m 75 #[.val (.long q1), .second, .val (.int p2), .val (.int p3), .val (.long ((p2 % (4 : Int32)).toInt64)), .second, .val (.int (p3 &&& (3 : Int32))), .val (.long q1), .second, .unset] [(.int (0 : Int32))])) (fun t k => XS.iconst X0.here hx rfl (hb hby at_74) k) ?_
    refine own_of (S' := s₁.setTop (mkF m 77 #[.val (.long q1), .second, .val (.int p2), .val (.int p3), .val (.long ((p2 % (4 : Int32)).toInt64)), .second, .val (.int (p3 &&& (3 : Int32))), .val (.long q1), .second, .val (.int (0 : Int32))] [])) (fun t k => XS.istore X0.here hx rfl (hb hby at_75) rfl (l' := #[.val (.long q1), .second, .val (.int p2), .val (.int p3), .val (.long ((p2 % (4 : Int32)).toInt64)), .second, .val (.int (p3 &&& (3 : Int32))), .val (.long q1), .second, .val (.int (0 : Int32))]) rfl k) ?_
    obtain ⟨T6, X6, e6, st6⟩ := getS2 X0 hx hZ hown (host := "") (Or.inl (hw _ (List.mem_of_getElem? (i := 1) rfl))) Via.refl e0 S_INT (g := (mkF m 77 #[.val (.long q1), .second, .val (.int p2), .val (.int p3), .val (.long ((p2 % (4 : Int32)).toInt64)), .second, .val (.int (p3 &&& (3 : Int32))), .val (.long q1), .second, .val (.int (0 : Int32))] [])) rfl (hb hby at_77)
    refine own_of (S' := T6.setTop (mkF m 80 #[.val (.long q1), .second, .val (.int p2), .val (.int p3), .val (.long ((p2 % (4 : Int32)).toInt64)), .second, .val (.int (p3 &&& (3 : Int32))), .val (.long q1), .second, .val (.int (0 : Int32))] [(.ref w)])) st6 ?_
    refine own_of (S' := T6.setTop (mkF m 82 #[.val (.long q1), .second, .val (.int p2), .val (.int p3), .val (.long ((p2 % (4 : Int32)).toInt64)), .second, .val (.int (p3 &&& (3 : Int32))), .val (.long q1), .second, .val (.int (0 : Int32))] [(.long q1), (.ref w)])) (fun t k => XS.lload X6.here hx rfl (hb hby at_80) rfl k) ?_
    obtain ⟨cq7, kq7, q7a, q7b, q7c⟩ := isOf hZ e6 E_w
    obtain ⟨_, _, ⟨T7, L7, k7, n7⟩, -, X7, ⟨Lc7, hQ7, l7, y7, z7⟩, st7⟩ := X6.virtualBack hx (y := (⟨"com/example/keyfence/keyfence/ColumnType", "inRange", "(J)Z"⟩ : MethodName)) (z := (⟨"com/example/keyfence/keyfence/ColumnType", "inRange", "(J)Z"⟩ : MethodName)) hown (mvT hZ (hw _ (List.mem_of_getElem? (i := 4) rfl))) (mvT hZ (hw _ (List.mem_of_getElem? (i := 5) rfl))) (notFace_of_selects (args := #[]) (mvT hZ (hw _ (List.mem_of_getElem? (i := 7) rfl)))) (mvT hZ (hw _ (List.mem_of_getElem? (i := 7) rfl))) (mvT hZ (hw _ (List.mem_of_getElem? (i := 6) rfl))) (by decide) (backOf (W := 0) (rm1 l Z a0 hw [] w q1 (-2147483648 : Int64) (2147483647 : Int64) h0 n0 Z0 F_min_w F_max_w) hZ (hw _ (List.mem_of_getElem? (i := 8) rfl)) (hw _ (List.mem_of_getElem? (i := 2) rfl)) (by decide) (by decide)) q7a q7c (g := (mkF m 82 #[.val (.long q1), .second, .val (.int p2), .val (.int p3), .val (.long ((p2 % (4 : Int32)).toInt64)), .second, .val (.int (p3 &&& (3 : Int32))), .val (.long q1), .second, .val (.int (0 : Int32))] [(.long q1), (.ref w)])) rfl (by rw [hml]; rfl) (Steps.refl _) (argsL := [(.long q1)]) (rest := []) (lenOf pd0_0 rfl) rfl (by show 2 * 0 + _ ≤ _; exact Nat.le_of_eq rfl) (hb hby at_82) (fun _ _ => ⟨rfl, e6, (by decide : 0 + _ ≤ _), (by decide : 0 + _ ≤ _)⟩)
    dsimp only [Pt.U, Pt.locs, Pt.cells, Pt.slots] at X7 l7 y7 z7 st7 hQ7
    subst l7 y7 z7
    obtain ⟨rfl, N7q, hh7⟩ := hQ7
    have N7 := Fr.app N0 N7q
    refine own_of (S' := T7.setTop (mkF m 85 #[.val (.long q1), .second, .val (.int p2), .val (.int p3), .val (.long ((p2 % (4 : Int32)).toInt64)), .second, .val (.int (p3 &&& (3 : Int32))), .val (.long q1), .second, .val (.int (0 : Int32))] [(.int (own_inR q1 (-2147483648 : Int64) (2147483647 : Int64)))])) (fun t k => st7.trans k) ?_
    refine own_of (S' := T7.setTop (mkF m 87 #[.val (.long q1), .second, .val (.int p2), .val (.int p3), .val (.long ((p2 % (4 : Int32)).toInt64)), .second, .val (.int (p3 &&& (3 : Int32))), .val (.long q1), .second, .val (.int (0 : Int32))] [(.int (0 : Int32)), (.int (own_inR q1 (-2147483648 : Int64) (2147483647 : Int64)))])) (fun t k => XS.iload X7.here hx rfl (hb hby at_85) rfl k) ?_
    by_cases hc87_8 : (own_inR q1 (-2147483648 : Int64) (2147483647 : Int64)) = (0 : Int32)
    · refine own_of (S' := T7.setTop (mkF m 90 #[.val (.long q1), .second, .val (.int p2), .val (.int p3), .val (.long ((p2 % (4 : Int32)).toInt64)), .second, .val (.int (p3 &&& (3 : Int32))), .val (.long q1), .second, .val (.int (0 : Int32))] [])) (fun t k => XS.icmpNo X7.here hx rfl (hb hby at_87) rfl (teq hc87_8).2 k) ?_
      refine own_of (S' := T7.setTop (mkF m 91 #[.val (.long q1), .second, .val (.int p2), .val (.int p3), .val (.long ((p2 % (4 : Int32)).toInt64)), .second, .val (.int (p3 &&& (3 : Int32))), .val (.long q1), .second, .val (.int (0 : Int32))] [(.int (1 : Int32))])) (fun t k => XS.iconst X7.here hx rfl (hb hby at_90) k) ?_
      refine own_of (S' := T7.setTop (mkF m 95 #[.val (.long q1), .second, .val (.int p2), .val (.int p3), .val (.long ((p2 % (4 : Int32)).toInt64)), .second, .val (.int (p3 &&& (3 : Int32))), .val (.long q1), .second, .val (.int (0 : Int32))] [(.int (1 : Int32))])) (fun t k => XS.goto X7.here hx rfl (pc0 := 91) (pc' := 95) rfl (hb hby at_91) (by decide) (by decide) k) ?_
      obtain ⟨fs, hr, hrun, hended, hW, hsame⟩ := X7.leave (v := some (.int (1 : Int32))) (fun h => by rw [Bd.returns] at h; cases h)
      subst hKd
      exact ⟨_, _, retN X7 hx (t := .boolean) Bd.returns (by simp) (hb hby at_95) hr, hrun, hended, _, _, rfl, (by
        show Q0 Z q1 p2 p3 w h0 n0 _ T7.heap _
        rw [show T7.heap = h0 from (hh7)]
        exact ⟨rfl, N7⟩), ⟨_, rfl⟩, hW, hsame.mono (by decide) (by decide)⟩
    refine own_of (S' := T7.setTop (mkF m 94 #[.val (.long q1), .second, .val (.int p2), .val (.int p3), .val (.long ((p2 % (4 : Int32)).toInt64)), .second, .val (.int (p3 &&& (3 : Int32))), .val (.long q1), .second, .val (.int (0 : Int32))] [])) (fun t k => XS.icmpYes X7.here hx rfl (pc0 := 87) (pc' := 94) rfl (hb hby at_87) rfl (feq hc87_8).2 (by decide) (by decide) k) ?_
    exact (own_dead0 hc67_2 hc87_8).elim
  refine own_of (S' := s₁.setTop (mkF m 22 #[.val (.long q1), .second, .val (.int p2), .val (.int p3), .val (.long ((p2 % (4 : Int32)).toInt64)), .second, .val (.int (p3 &&& (3 : Int32))), .unset, .unset, .unset] [])) (fun t k => XS.ifYes X0.here hx rfl (pc0 := 13) (pc' := 22) rfl (hb hby at_13) rfl ((if0 _ _).trans (feq hc13_1).2) (by decide) (by decide) k) ?_
  refine own_of (S' := s₁.setTop (mkF m 24 #[.val (.long q1), .second, .val (.int p2), .val (.int p3), .val (.long ((p2 % (4 : Int32)).toInt64)), .second, .val (.int (p3 &&& (3 : Int32))), .unset, .unset, .unset] [(.int (p3 &&& (3 : Int32)))])) (fun t k => XS.iload X0.here hx rfl (hb hby at_22) rfl k) ?_
  refine own_of (S' := s₁.setTop (mkF m 25 #[.val (.long q1), .second, .val (.int p2), .val (.int p3), .val (.long ((p2 % (4 : Int32)).toInt64)), .second, .val (.int (p3 &&& (3 : Int32))), .unset, .unset, .unset] [(.int (1 : Int32)), (.int (p3 &&& (3 : Int32)))])) (fun t k => XS.iconst X0.here hx rfl (hb hby at_24) k) ?_
  by_cases hc25_9 : (p3 &&& (3 : Int32)) = (1 : Int32)
  · refine own_of (S' := s₁.setTop (mkF m 28 #[.val (.long q1), .second, .val (.int p2), .val (.int p3), .val (.long ((p2 % (4 : Int32)).toInt64)), .second, .val (.int (p3 &&& (3 : Int32))), .unset, .unset, .unset] [])) (fun t k => XS.icmpNo X0.here hx rfl (hb hby at_25) rfl (teq hc25_9).2 k) ?_
    refine own_of (S' := s₁.setTop (mkF m 31 #[.val (.long q1), .second, .val (.int p2), .val (.int p3), .val (.long ((p2 % (4 : Int32)).toInt64)), .second, .val (.int (p3 &&& (3 : Int32))), .unset, .unset, .unset] [(.long (2147483647 : Int64))])) (X0.ldc2Long hx hown (mvT hZ (hw _ (List.mem_of_getElem? (i := 0) rfl))) (g := (mkF m 28 #[.val (.long q1), .second, .val (.int p2), .val (.int p3), .val (.long ((p2 % (4 : Int32)).toInt64)), .second, .val (.int (p3 &&& (3 : Int32))), .unset, .unset, .unset] [])) rfl (hb hby at_28)) ?_
    refine own_of (S' := s₁.setTop (mkF m 33 #[.val (.long q1), .second, .val (.int p2), .val (.int p3), .val (.long ((p2 % (4 : Int32)).toInt64)), .second, .val (.int (p3 &&& (3 : Int32))), .unset, .unset, .unset] [(.long ((p2 % (4 : Int32)).toInt64)), (.long (2147483647 : Int64))])) (fun t k => XS.lload X0.here hx rfl (hb hby at_31) rfl k) ?_
    refine own_of (S' := s₁.setTop (mkF m 34 #[.val (.long q1), .second, .val (.int p2), .val (.int p3), .val (.long ((p2 % (4 : Int32)).toInt64)), .second, .val (.int (p3 &&& (3 : Int32))), .unset, .unset, .unset] [(.long ((2147483647 : Int64) + ((p2 % (4 : Int32)).toInt64)))])) (fun t k => XS.ladd X0.here hx rfl (hb hby at_33) rfl k) ?_
    refine own_of (S' := s₁.setTop (mkF m 36 #[.val (.long q1), .second, .val (.int p2), .val (.int p3), .val (.long ((p2 % (4 : Int32)).toInt64)), .second, .val (.int (p3 &&& (3 : Int32))), .val (.long ((2147483647 : Int64) + ((p2 % (4 : Int32)).toInt64))), .second, .unset] [])) (fun t k => XS.lstore X0.here hx rfl (hb hby at_34) rfl (l' := #[.val (.long q1), .second, .val (.int p2), .val (.int p3), .val (.long ((p2 % (4 : Int32)).toInt64)), .second, .val (.int (p3 &&& (3 : Int32))), .val (.long ((2147483647 : Int64) + ((p2 % (4 : Int32)).toInt64))), .second, .unset]) rfl k) ?_
    refine own_of (S' := s₁.setTop (mkF m 60 #[.val (.long q1), .second, .val (.int p2), .val (.int p3), .val (.long ((p2 % (4 : Int32)).toInt64)), .second, .val (.int (p3 &&& (3 : Int32))), .val (.long ((2147483647 : Int64) + ((p2 % (4 : Int32)).toInt64))), .second, .unset] [])) (fun t k => XS.goto X0.here hx rfl (pc0 := 36) (pc' := 60) rfl (hb hby at_36) (by decide) (by decide) k) ?_
    refine own_of (S' := s₁.setTop (mkF m 62 #[.val (.long q1), .second, .val (.int p2), .val (.int p3), .val (.long ((p2 % (4 : Int32)).toInt64)), .second, .val (.int (p3 &&& (3 : Int32))), .val (.long ((2147483647 : Int64) + ((p2 % (4 : Int32)).toInt64))), .second, .unset] [(.long ((2147483647 : Int64) + ((p2 % (4 : Int32)).toInt64)))])) (fun t k => XS.lload X0.here hx rfl (hb hby at_60) rfl k) ?_
    refine own_of (S' := s₁.setTop (mkF m 64 #[.val (.long q1), .second, .val (.int p2), .val (.int p3), .val (.long ((p2 % (4 : Int32)).toInt64)), .second, .val (.int (p3 &&& (3 : Int32))), .val (.long ((2147483647 : Int64) + ((p2 % (4 : Int32)).toInt64))), .second, .unset] [(.long ((2147483647 : Int64) + ((p2 % (4 : Int32)).toInt64))), (.long ((2147483647 : Int64) + ((p2 % (4 : Int32)).toInt64)))])) (fun t k => XS.lload X0.here hx rfl (hb hby at_62) rfl k) ?_
    refine own_of (S' := s₁.setTop (mkF m 65 #[.val (.long q1), .second, .val (.int p2), .val (.int p3), .val (.long ((p2 % (4 : Int32)).toInt64)), .second, .val (.int (p3 &&& (3 : Int32))), .val (.long ((2147483647 : Int64) + ((p2 % (4 : Int32)).toInt64))), .second, .unset] [(.int (((2147483647 : Int64) + ((p2 % (4 : Int32)).toInt64)).toInt32)), (.long ((2147483647 : Int64) + ((p2 % (4 : Int32)).toInt64)))])) (fun t k => XS.l2i X0.here hx rfl (hb hby at_64) rfl k) ?_
    refine own_of (S' := s₁.setTop (mkF m 66 #[.val (.long q1), .second, .val (.int p2), .val (.int p3), .val (.long ((p2 % (4 : Int32)).toInt64)), .second, .val (.int (p3 &&& (3 : Int32))), .val (.long ((2147483647 : Int64) + ((p2 % (4 : Int32)).toInt64))), .second, .unset] [(.long ((((2147483647 : Int64) + ((p2 % (4 : Int32)).toInt64)).toInt32).toInt64)), (.long ((2147483647 : Int64) + ((p2 % (4 : Int32)).toInt64)))])) (fun t k => XS.i2l X0.here hx rfl (hb hby at_65) rfl k) ?_
    refine own_of (S' := s₁.setTop (mkF m 67 #[.val (.long q1), .second, .val (.int p2), .val (.int p3), .val (.long ((p2 % (4 : Int32)).toInt64)), .second, .val (.int (p3 &&& (3 : Int32))), .val (.long ((2147483647 : Int64) + ((p2 % (4 : Int32)).toInt64))), .second, .unset] [(.int (lcmpW ((2147483647 : Int64) + ((p2 % (4 : Int32)).toInt64)) ((((2147483647 : Int64) + ((p2 % (4 : Int32)).toInt64)).toInt32).toInt64)))])) (fun t k => XS.lcmp X0.here hx rfl (hb hby at_66) rfl k) ?_
    by_cases hc67_10 : (lcmpW ((2147483647 : Int64) + ((p2 % (4 : Int32)).toInt64)) ((((2147483647 : Int64) + ((p2 % (4 : Int32)).toInt64)).toInt32).toInt64)) = (0 : Int32)
    · refine own_of (S' := s₁.setTop (mkF m 70 #[.val (.long q1), .second, .val (.int p2), .val (.int p3), .val (.long ((p2 % (4 : Int32)).toInt64)), .second, .val (.int (p3 &&& (3 : Int32))), .val (.long ((2147483647 : Int64) + ((p2 % (4 : Int32)).toInt64))), .second, .unset] [])) (fun t k => XS.ifNo X0.here hx rfl (hb hby at_67) rfl ((if0 _ _).trans (teq hc67_10).2) k) ?_
      refine own_of (S' := s₁.setTop (mkF m 71 #[.val (.long q1), .second, .val (.int p2), .val (.int p3), .val (.long ((p2 % (4 : Int32)).toInt64)), .second, .val (.int (p3 &&& (3 : Int32))), .val (.long ((2147483647 : Int64) + ((p2 % (4 : Int32)).toInt64))), .second, .unset] [(.int (1 : Int32))])) (fun t k => XS.iconst X0.here hx rfl (hb hby at_70) k) ?_
      refine own_of (S' := s₁.setTop (mkF m 75 #[.val (.long q1), .second, .val (.int p2), .val (.int p3), .val (.long ((p2 % (4 : Int32)).toInt64)), .second, .val (.int (p3 &&& (3 : Int32))), .val (.long ((2147483647 : Int64) + ((p2 % (4 : Int32)).toInt64))), .second, .unset] [(.int (1 : Int32))])) (fun t k => XS.goto X0.here hx rfl (pc0 := 71) (pc' := 75) rfl (hb hby at_71) (by decide) (by decide) k) ?_
      refine own_of (S' := s₁.setTop (mkF m 77 #[.val (.long q1), .second, .val (.int p2), .val (.int p3), .val (.long ((p2 % (4 : Int32)).toInt64)), .second, .val (.int (p3 &&& (3 : Int32))), .val (.long ((2147483647 : Int64) + ((p2 % (4 : Int32)).toInt64))), .second, .val (.int (1 : Int32))] [])) (fun t k => XS.istore X0.here hx rfl (hb hby at_75) rfl (l' := #[.val (.long q1), .second, .val (.int p2), .val (.int p3), .val (.long ((p2 % (4 : Int32)).toInt64)), .second, .val (.int (p3 &&& (3 : Int32))), .val (.long ((2147483647 : Int64) + ((p2 % (4 : Int32)).toInt64))), .second, .val (.int (1 : Int32))]) rfl k) ?_
      obtain ⟨T11, X11, e11, st11⟩ := getS2 X0 hx hZ hown (host := "") (Or.inl (hw _ (List.mem_of_getElem? (i := 1) rfl))) Via.refl e0 S_INT (g := (mkF m 77 #[.val (.long q1), .second, .val (.int p2), .val (.int p3), .val (.long ((p2 % (4 : Int32)).toInt64)), .second, .val (.int (p3 &&& (3 : Int32))), .val (.long ((2147483647 : Int64) + ((p2 % (4 : Int32)).toInt64))), .second, .val (.int (1 : Int32))] [])) rfl (hb hby at_77)
      refine own_of (S' := T11.setTop (mkF m 80 #[.val (.long q1), .second, .val (.int p2), .val (.int p3), .val (.long ((p2 % (4 : Int32)).toInt64)), .second, .val (.int (p3 &&& (3 : Int32))), .val (.long ((2147483647 : Int64) + ((p2 % (4 : Int32)).toInt64))), .second, .val (.int (1 : Int32))] [(.ref w)])) st11 ?_
      refine own_of (S' := T11.setTop (mkF m 82 #[.val (.long q1), .second, .val (.int p2), .val (.int p3), .val (.long ((p2 % (4 : Int32)).toInt64)), .second, .val (.int (p3 &&& (3 : Int32))), .val (.long ((2147483647 : Int64) + ((p2 % (4 : Int32)).toInt64))), .second, .val (.int (1 : Int32))] [(.long ((2147483647 : Int64) + ((p2 % (4 : Int32)).toInt64))), (.ref w)])) (fun t k => XS.lload X11.here hx rfl (hb hby at_80) rfl k) ?_
      obtain ⟨cq12, kq12, q12a, q12b, q12c⟩ := isOf hZ e11 E_w
      obtain ⟨_, _, ⟨T12, L12, k12, n12⟩, -, X12, ⟨Lc12, hQ12, l12, y12, z12⟩, st12⟩ := X11.virtualBack hx (y := (⟨"com/example/keyfence/keyfence/ColumnType", "inRange", "(J)Z"⟩ : MethodName)) (z := (⟨"com/example/keyfence/keyfence/ColumnType", "inRange", "(J)Z"⟩ : MethodName)) hown (mvT hZ (hw _ (List.mem_of_getElem? (i := 4) rfl))) (mvT hZ (hw _ (List.mem_of_getElem? (i := 5) rfl))) (notFace_of_selects (args := #[]) (mvT hZ (hw _ (List.mem_of_getElem? (i := 7) rfl)))) (mvT hZ (hw _ (List.mem_of_getElem? (i := 7) rfl))) (mvT hZ (hw _ (List.mem_of_getElem? (i := 6) rfl))) (by decide) (backOf (W := 0) (rm1 l Z a0 hw [] w ((2147483647 : Int64) + ((p2 % (4 : Int32)).toInt64)) (-2147483648 : Int64) (2147483647 : Int64) h0 n0 Z0 F_min_w F_max_w) hZ (hw _ (List.mem_of_getElem? (i := 8) rfl)) (hw _ (List.mem_of_getElem? (i := 2) rfl)) (by decide) (by decide)) q12a q12c (g := (mkF m 82 #[.val (.long q1), .second, .val (.int p2), .val (.int p3), .val (.long ((p2 % (4 : Int32)).toInt64)), .second, .val (.int (p3 &&& (3 : Int32))), .val (.long ((2147483647 : Int64) + ((p2 % (4 : Int32)).toInt64))), .second, .val (.int (1 : Int32))] [(.long ((2147483647 : Int64) + ((p2 % (4 : Int32)).toInt64))), (.ref w)])) rfl (by rw [hml]; rfl) (Steps.refl _) (argsL := [(.long ((2147483647 : Int64) + ((p2 % (4 : Int32)).toInt64)))]) (rest := []) (lenOf pd0_0 rfl) rfl (by show 2 * 0 + _ ≤ _; exact Nat.le_of_eq rfl) (hb hby at_82) (fun _ _ => ⟨rfl, e11, (by decide : 0 + _ ≤ _), (by decide : 0 + _ ≤ _)⟩)
      dsimp only [Pt.U, Pt.locs, Pt.cells, Pt.slots] at X12 l12 y12 z12 st12 hQ12
      subst l12 y12 z12
      obtain ⟨rfl, N12q, hh12⟩ := hQ12
      have N12 := Fr.app N0 N12q
      refine own_of (S' := T12.setTop (mkF m 85 #[.val (.long q1), .second, .val (.int p2), .val (.int p3), .val (.long ((p2 % (4 : Int32)).toInt64)), .second, .val (.int (p3 &&& (3 : Int32))), .val (.long ((2147483647 : Int64) + ((p2 % (4 : Int32)).toInt64))), .second, .val (.int (1 : Int32))] [(.int (own_inR ((2147483647 : Int64) + ((p2 % (4 : Int32)).toInt64)) (-2147483648 : Int64) (2147483647 : Int64)))])) (fun t k => st12.trans k) ?_
      refine own_of (S' := T12.setTop (mkF m 87 #[.val (.long q1), .second, .val (.int p2), .val (.int p3), .val (.long ((p2 % (4 : Int32)).toInt64)), .second, .val (.int (p3 &&& (3 : Int32))), .val (.long ((2147483647 : Int64) + ((p2 % (4 : Int32)).toInt64))), .second, .val (.int (1 : Int32))] [(.int (1 : Int32)), (.int (own_inR ((2147483647 : Int64) + ((p2 % (4 : Int32)).toInt64)) (-2147483648 : Int64) (2147483647 : Int64)))])) (fun t k => XS.iload X12.here hx rfl (hb hby at_85) rfl k) ?_
      by_cases hc87_13 : (own_inR ((2147483647 : Int64) + ((p2 % (4 : Int32)).toInt64)) (-2147483648 : Int64) (2147483647 : Int64)) = (1 : Int32)
      · refine own_of (S' := T12.setTop (mkF m 90 #[.val (.long q1), .second, .val (.int p2), .val (.int p3), .val (.long ((p2 % (4 : Int32)).toInt64)), .second, .val (.int (p3 &&& (3 : Int32))), .val (.long ((2147483647 : Int64) + ((p2 % (4 : Int32)).toInt64))), .second, .val (.int (1 : Int32))] [])) (fun t k => XS.icmpNo X12.here hx rfl (hb hby at_87) rfl (teq hc87_13).2 k) ?_
        refine own_of (S' := T12.setTop (mkF m 91 #[.val (.long q1), .second, .val (.int p2), .val (.int p3), .val (.long ((p2 % (4 : Int32)).toInt64)), .second, .val (.int (p3 &&& (3 : Int32))), .val (.long ((2147483647 : Int64) + ((p2 % (4 : Int32)).toInt64))), .second, .val (.int (1 : Int32))] [(.int (1 : Int32))])) (fun t k => XS.iconst X12.here hx rfl (hb hby at_90) k) ?_
        refine own_of (S' := T12.setTop (mkF m 95 #[.val (.long q1), .second, .val (.int p2), .val (.int p3), .val (.long ((p2 % (4 : Int32)).toInt64)), .second, .val (.int (p3 &&& (3 : Int32))), .val (.long ((2147483647 : Int64) + ((p2 % (4 : Int32)).toInt64))), .second, .val (.int (1 : Int32))] [(.int (1 : Int32))])) (fun t k => XS.goto X12.here hx rfl (pc0 := 91) (pc' := 95) rfl (hb hby at_91) (by decide) (by decide) k) ?_
        obtain ⟨fs, hr, hrun, hended, hW, hsame⟩ := X12.leave (v := some (.int (1 : Int32))) (fun h => by rw [Bd.returns] at h; cases h)
        subst hKd
        exact ⟨_, _, retN X12 hx (t := .boolean) Bd.returns (by simp) (hb hby at_95) hr, hrun, hended, _, _, rfl, (by
          show Q0 Z q1 p2 p3 w h0 n0 _ T12.heap _
          rw [show T12.heap = h0 from (hh12)]
          exact ⟨rfl, N12⟩), ⟨_, rfl⟩, hW, hsame.mono (by decide) (by decide)⟩
      refine own_of (S' := T12.setTop (mkF m 94 #[.val (.long q1), .second, .val (.int p2), .val (.int p3), .val (.long ((p2 % (4 : Int32)).toInt64)), .second, .val (.int (p3 &&& (3 : Int32))), .val (.long ((2147483647 : Int64) + ((p2 % (4 : Int32)).toInt64))), .second, .val (.int (1 : Int32))] [])) (fun t k => XS.icmpYes X12.here hx rfl (pc0 := 87) (pc' := 94) rfl (hb hby at_87) rfl (feq hc87_13).2 (by decide) (by decide) k) ?_
      exact (own_dead1 hc67_10 hc87_13).elim
    refine own_of (S' := s₁.setTop (mkF m 74 #[.val (.long q1), .second, .val (.int p2), .val (.int p3), .val (.long ((p2 % (4 : Int32)).toInt64)), .second, .val (.int (p3 &&& (3 : Int32))), .val (.long ((2147483647 : Int64) + ((p2 % (4 : Int32)).toInt64))), .second, .unset] [])) (fun t k => XS.ifYes X0.here hx rfl (pc0 := 67) (pc' := 74) rfl (hb hby at_67) rfl ((if0 _ _).trans (feq hc67_10).2) (by decide) (by decide) k) ?_
    refine own_of (S' := s₁.setTop (mkF m 75 #[.val (.long q1), .second, .val (.int p2), .val (.int p3), .val (.long ((p2 % (4 : Int32)).toInt64)), .second, .val (.int (p3 &&& (3 : Int32))), .val (.long ((2147483647 : Int64) + ((p2 % (4 : Int32)).toInt64))), .second, .unset] [(.int (0 : Int32))])) (fun t k => XS.iconst X0.here hx rfl (hb hby at_74) k) ?_
    refine own_of (S' := s₁.setTop (mkF m 77 #[.val (.long q1), .second, .val (.int p2), .val (.int p3), .val (.long ((p2 % (4 : Int32)).toInt64)), .second, .val (.int (p3 &&& (3 : Int32))), .val (.long ((2147483647 : Int64) + ((p2 % (4 : Int32)).toInt64))), .second, .val (.int (0 : Int32))] [])) (fun t k => XS.istore X0.here hx rfl (hb hby at_75) rfl (l' := #[.val (.long q1), .second, .val (.int p2), .val (.int p3), .val (.long ((p2 % (4 : Int32)).toInt64)), .second, .val (.int (p3 &&& (3 : Int32))), .val (.long ((2147483647 : Int64) + ((p2 % (4 : Int32)).toInt64))), .second, .val (.int (0 : Int32))]) rfl k) ?_
    obtain ⟨T14, X14, e14, st14⟩ := getS2 X0 hx hZ hown (host := "") (Or.inl (hw _ (List.mem_of_getElem? (i := 1) rfl))) Via.refl e0 S_INT (g := (mkF m 77 #[.val (.long q1), .second, .val (.int p2), .val (.int p3), .val (.long ((p2 % (4 : Int32)).toInt64)), .second, .val (.int (p3 &&& (3 : Int32))), .val (.long ((2147483647 : Int64) + ((p2 % (4 : Int32)).toInt64))), .second, .val (.int (0 : Int32))] [])) rfl (hb hby at_77)
    refine own_of (S' := T14.setTop (mkF m 80 #[.val (.long q1), .second, .val (.int p2), .val (.int p3), .val (.long ((p2 % (4 : Int32)).toInt64)), .second, .val (.int (p3 &&& (3 : Int32))), .val (.long ((2147483647 : Int64) + ((p2 % (4 : Int32)).toInt64))), .second, .val (.int (0 : Int32))] [(.ref w)])) st14 ?_
    refine own_of (S' := T14.setTop (mkF m 82 #[.val (.long q1), .second, .val (.int p2), .val (.int p3), .val (.long ((p2 % (4 : Int32)).toInt64)), .second, .val (.int (p3 &&& (3 : Int32))), .val (.long ((2147483647 : Int64) + ((p2 % (4 : Int32)).toInt64))), .second, .val (.int (0 : Int32))] [(.long ((2147483647 : Int64) + ((p2 % (4 : Int32)).toInt64))), (.ref w)])) (fun t k => XS.lload X14.here hx rfl (hb hby at_80) rfl k) ?_
    obtain ⟨cq15, kq15, q15a, q15b, q15c⟩ := isOf hZ e14 E_w
    obtain ⟨_, _, ⟨T15, L15, k15, n15⟩, -, X15, ⟨Lc15, hQ15, l15, y15, z15⟩, st15⟩ := X14.virtualBack hx (y := (⟨"com/example/keyfence/keyfence/ColumnType", "inRange", "(J)Z"⟩ : MethodName)) (z := (⟨"com/example/keyfence/keyfence/ColumnType", "inRange", "(J)Z"⟩ : MethodName)) hown (mvT hZ (hw _ (List.mem_of_getElem? (i := 4) rfl))) (mvT hZ (hw _ (List.mem_of_getElem? (i := 5) rfl))) (notFace_of_selects (args := #[]) (mvT hZ (hw _ (List.mem_of_getElem? (i := 7) rfl)))) (mvT hZ (hw _ (List.mem_of_getElem? (i := 7) rfl))) (mvT hZ (hw _ (List.mem_of_getElem? (i := 6) rfl))) (by decide) (backOf (W := 0) (rm1 l Z a0 hw [] w ((2147483647 : Int64) + ((p2 % (4 : Int32)).toInt64)) (-2147483648 : Int64) (2147483647 : Int64) h0 n0 Z0 F_min_w F_max_w) hZ (hw _ (List.mem_of_getElem? (i := 8) rfl)) (hw _ (List.mem_of_getElem? (i := 2) rfl)) (by decide) (by decide)) q15a q15c (g := (mkF m 82 #[.val (.long q1), .second, .val (.int p2), .val (.int p3), .val (.long ((p2 % (4 : Int32)).toInt64)), .second, .val (.int (p3 &&& (3 : Int32))), .val (.long ((2147483647 : Int64) + ((p2 % (4 : Int32)).toInt64))), .second, .val (.int (0 : Int32))] [(.long ((2147483647 : Int64) + ((p2 % (4 : Int32)).toInt64))), (.ref w)])) rfl (by rw [hml]; rfl) (Steps.refl _) (argsL := [(.long ((2147483647 : Int64) + ((p2 % (4 : Int32)).toInt64)))]) (rest := []) (lenOf pd0_0 rfl) rfl (by show 2 * 0 + _ ≤ _; exact Nat.le_of_eq rfl) (hb hby at_82) (fun _ _ => ⟨rfl, e14, (by decide : 0 + _ ≤ _), (by decide : 0 + _ ≤ _)⟩)
    dsimp only [Pt.U, Pt.locs, Pt.cells, Pt.slots] at X15 l15 y15 z15 st15 hQ15
    subst l15 y15 z15
    obtain ⟨rfl, N15q, hh15⟩ := hQ15
    have N15 := Fr.app N0 N15q
    refine own_of (S' := T15.setTop (mkF m 85 #[.val (.long q1), .second, .val (.int p2), .val (.int p3), .val (.long ((p2 % (4 : Int32)).toInt64)), .second, .val (.int (p3 &&& (3 : Int32))), .val (.long ((2147483647 : Int64) + ((p2 % (4 : Int32)).toInt64))), .second, .val (.int (0 : Int32))] [(.int (own_inR ((2147483647 : Int64) + ((p2 % (4 : Int32)).toInt64)) (-2147483648 : Int64) (2147483647 : Int64)))])) (fun t k => st15.trans k) ?_
    refine own_of (S' := T15.setTop (mkF m 87 #[.val (.long q1), .second, .val (.int p2), .val (.int p3), .val (.long ((p2 % (4 : Int32)).toInt64)), .second, .val (.int (p3 &&& (3 : Int32))), .val (.long ((2147483647 : Int64) + ((p2 % (4 : Int32)).toInt64))), .second, .val (.int (0 : Int32))] [(.int (0 : Int32)), (.int (own_inR ((2147483647 : Int64) + ((p2 % (4 : Int32)).toInt64)) (-2147483648 : Int64) (2147483647 : Int64)))])) (fun t k => XS.iload X15.here hx rfl (hb hby at_85) rfl k) ?_
    by_cases hc87_16 : (own_inR ((2147483647 : Int64) + ((p2 % (4 : Int32)).toInt64)) (-2147483648 : Int64) (2147483647 : Int64)) = (0 : Int32)
    · refine own_of (S' := T15.setTop (mkF m 90 #[.val (.long q1), .second, .val (.int p2), .val (.int p3), .val (.long ((p2 % (4 : Int32)).toInt64)), .second, .val (.int (p3 &&& (3 : Int32))), .val (.long ((2147483647 : Int64) + ((p2 % (4 : Int32)).toInt64))), .second, .val (.int (0 : Int32))] [])) (fun t k => XS.icmpNo X15.here hx rfl (hb hby at_87) rfl (teq hc87_16).2 k) ?_
      refine own_of (S' := T15.setTop (mkF m 91 #[.val (.long q1), .second, .val (.int p2), .val (.int p3), .val (.long ((p2 % (4 : Int32)).toInt64)), .second, .val (.int (p3 &&& (3 : Int32))), .val (.long ((2147483647 : Int64) + ((p2 % (4 : Int32)).toInt64))), .second, .val (.int (0 : Int32))] [(.int (1 : Int32))])) (fun t k => XS.iconst X15.here hx rfl (hb hby at_90) k) ?_
      refine own_of (S' := T15.setTop (mkF m 95 #[.val (.long q1), .second, .val (.int p2), .val (.int p3), .val (.long ((p2 % (4 : Int32)).toInt64)), .second, .val (.int (p3 &&& (3 : Int32))), .val (.long ((2147483647 : Int64) + ((p2 % (4 : Int32)).toInt64))), .second, .val (.int (0 : Int32))] [(.int (1 : Int32))])) (fun t k => XS.goto X15.here hx rfl (pc0 := 91) (pc' := 95) rfl (hb hby at_91) (by decide) (by decide) k) ?_
      obtain ⟨fs, hr, hrun, hended, hW, hsame⟩ := X15.leave (v := some (.int (1 : Int32))) (fun h => by rw [Bd.returns] at h; cases h)
      subst hKd
      exact ⟨_, _, retN X15 hx (t := .boolean) Bd.returns (by simp) (hb hby at_95) hr, hrun, hended, _, _, rfl, (by
        show Q0 Z q1 p2 p3 w h0 n0 _ T15.heap _
        rw [show T15.heap = h0 from (hh15)]
        exact ⟨rfl, N15⟩), ⟨_, rfl⟩, hW, hsame.mono (by decide) (by decide)⟩
    refine own_of (S' := T15.setTop (mkF m 94 #[.val (.long q1), .second, .val (.int p2), .val (.int p3), .val (.long ((p2 % (4 : Int32)).toInt64)), .second, .val (.int (p3 &&& (3 : Int32))), .val (.long ((2147483647 : Int64) + ((p2 % (4 : Int32)).toInt64))), .second, .val (.int (0 : Int32))] [])) (fun t k => XS.icmpYes X15.here hx rfl (pc0 := 87) (pc' := 94) rfl (hb hby at_87) rfl (feq hc87_16).2 (by decide) (by decide) k) ?_
    exact (own_dead0 hc67_10 hc87_16).elim
  refine own_of (S' := s₁.setTop (mkF m 39 #[.val (.long q1), .second, .val (.int p2), .val (.int p3), .val (.long ((p2 % (4 : Int32)).toInt64)), .second, .val (.int (p3 &&& (3 : Int32))), .unset, .unset, .unset] [])) (fun t k => XS.icmpYes X0.here hx rfl (pc0 := 25) (pc' := 39) rfl (hb hby at_25) rfl (feq hc25_9).2 (by decide) (by decide) k) ?_
  refine own_of (S' := s₁.setTop (mkF m 41 #[.val (.long q1), .second, .val (.int p2), .val (.int p3), .val (.long ((p2 % (4 : Int32)).toInt64)), .second, .val (.int (p3 &&& (3 : Int32))), .unset, .unset, .unset] [(.int (p3 &&& (3 : Int32)))])) (fun t k => XS.iload X0.here hx rfl (hb hby at_39) rfl k) ?_
  refine own_of (S' := s₁.setTop (mkF m 42 #[.val (.long q1), .second, .val (.int p2), .val (.int p3), .val (.long ((p2 % (4 : Int32)).toInt64)), .second, .val (.int (p3 &&& (3 : Int32))), .unset, .unset, .unset] [(.int (2 : Int32)), (.int (p3 &&& (3 : Int32)))])) (fun t k => XS.iconst X0.here hx rfl (hb hby at_41) k) ?_
  by_cases hc42_17 : (p3 &&& (3 : Int32)) = (2 : Int32)
  · refine own_of (S' := s₁.setTop (mkF m 45 #[.val (.long q1), .second, .val (.int p2), .val (.int p3), .val (.long ((p2 % (4 : Int32)).toInt64)), .second, .val (.int (p3 &&& (3 : Int32))), .unset, .unset, .unset] [])) (fun t k => XS.icmpNo X0.here hx rfl (hb hby at_42) rfl (teq hc42_17).2 k) ?_
    refine own_of (S' := s₁.setTop (mkF m 48 #[.val (.long q1), .second, .val (.int p2), .val (.int p3), .val (.long ((p2 % (4 : Int32)).toInt64)), .second, .val (.int (p3 &&& (3 : Int32))), .unset, .unset, .unset] [(.long (-2147483648 : Int64))])) (X0.ldc2Long hx hown (mvT hZ (hw _ (List.mem_of_getElem? (i := 13) rfl))) (g := (mkF m 45 #[.val (.long q1), .second, .val (.int p2), .val (.int p3), .val (.long ((p2 % (4 : Int32)).toInt64)), .second, .val (.int (p3 &&& (3 : Int32))), .unset, .unset, .unset] [])) rfl (hb hby at_45)) ?_
    refine own_of (S' := s₁.setTop (mkF m 50 #[.val (.long q1), .second, .val (.int p2), .val (.int p3), .val (.long ((p2 % (4 : Int32)).toInt64)), .second, .val (.int (p3 &&& (3 : Int32))), .unset, .unset, .unset] [(.long ((p2 % (4 : Int32)).toInt64)), (.long (-2147483648 : Int64))])) (fun t k => XS.lload X0.here hx rfl (hb hby at_48) rfl k) ?_
    refine own_of (S' := s₁.setTop (mkF m 51 #[.val (.long q1), .second, .val (.int p2), .val (.int p3), .val (.long ((p2 % (4 : Int32)).toInt64)), .second, .val (.int (p3 &&& (3 : Int32))), .unset, .unset, .unset] [(.long ((-2147483648 : Int64) + ((p2 % (4 : Int32)).toInt64)))])) (fun t k => XS.ladd X0.here hx rfl (hb hby at_50) rfl k) ?_
    refine own_of (S' := s₁.setTop (mkF m 53 #[.val (.long q1), .second, .val (.int p2), .val (.int p3), .val (.long ((p2 % (4 : Int32)).toInt64)), .second, .val (.int (p3 &&& (3 : Int32))), .val (.long ((-2147483648 : Int64) + ((p2 % (4 : Int32)).toInt64))), .second, .unset] [])) (fun t k => XS.lstore X0.here hx rfl (hb hby at_51) rfl (l' := #[.val (.long q1), .second, .val (.int p2), .val (.int p3), .val (.long ((p2 % (4 : Int32)).toInt64)), .second, .val (.int (p3 &&& (3 : Int32))), .val (.long ((-2147483648 : Int64) + ((p2 % (4 : Int32)).toInt64))), .second, .unset]) rfl k) ?_
    refine own_of (S' := s₁.setTop (mkF m 60 #[.val (.long q1), .second, .val (.int p2), .val (.int p3), .val (.long ((p2 % (4 : Int32)).toInt64)), .second, .val (.int (p3 &&& (3 : Int32))), .val (.long ((-2147483648 : Int64) + ((p2 % (4 : Int32)).toInt64))), .second, .unset] [])) (fun t k => XS.goto X0.here hx rfl (pc0 := 53) (pc' := 60) rfl (hb hby at_53) (by decide) (by decide) k) ?_
    refine own_of (S' := s₁.setTop (mkF m 62 #[.val (.long q1), .second, .val (.int p2), .val (.int p3), .val (.long ((p2 % (4 : Int32)).toInt64)), .second, .val (.int (p3 &&& (3 : Int32))), .val (.long ((-2147483648 : Int64) + ((p2 % (4 : Int32)).toInt64))), .second, .unset] [(.long ((-2147483648 : Int64) + ((p2 % (4 : Int32)).toInt64)))])) (fun t k => XS.lload X0.here hx rfl (hb hby at_60) rfl k) ?_
    refine own_of (S' := s₁.setTop (mkF m 64 #[.val (.long q1), .second, .val (.int p2), .val (.int p3), .val (.long ((p2 % (4 : Int32)).toInt64)), .second, .val (.int (p3 &&& (3 : Int32))), .val (.long ((-2147483648 : Int64) + ((p2 % (4 : Int32)).toInt64))), .second, .unset] [(.long ((-2147483648 : Int64) + ((p2 % (4 : Int32)).toInt64))), (.long ((-2147483648 : Int64) + ((p2 % (4 : Int32)).toInt64)))])) (fun t k => XS.lload X0.here hx rfl (hb hby at_62) rfl k) ?_
    refine own_of (S' := s₁.setTop (mkF m 65 #[.val (.long q1), .second, .val (.int p2), .val (.int p3), .val (.long ((p2 % (4 : Int32)).toInt64)), .second, .val (.int (p3 &&& (3 : Int32))), .val (.long ((-2147483648 : Int64) + ((p2 % (4 : Int32)).toInt64))), .second, .unset] [(.int (((-2147483648 : Int64) + ((p2 % (4 : Int32)).toInt64)).toInt32)), (.long ((-2147483648 : Int64) + ((p2 % (4 : Int32)).toInt64)))])) (fun t k => XS.l2i X0.here hx rfl (hb hby at_64) rfl k) ?_
    refine own_of (S' := s₁.setTop (mkF m 66 #[.val (.long q1), .second, .val (.int p2), .val (.int p3), .val (.long ((p2 % (4 : Int32)).toInt64)), .second, .val (.int (p3 &&& (3 : Int32))), .val (.long ((-2147483648 : Int64) + ((p2 % (4 : Int32)).toInt64))), .second, .unset] [(.long ((((-2147483648 : Int64) + ((p2 % (4 : Int32)).toInt64)).toInt32).toInt64)), (.long ((-2147483648 : Int64) + ((p2 % (4 : Int32)).toInt64)))])) (fun t k => XS.i2l X0.here hx rfl (hb hby at_65) rfl k) ?_
    refine own_of (S' := s₁.setTop (mkF m 67 #[.val (.long q1), .second, .val (.int p2), .val (.int p3), .val (.long ((p2 % (4 : Int32)).toInt64)), .second, .val (.int (p3 &&& (3 : Int32))), .val (.long ((-2147483648 : Int64) + ((p2 % (4 : Int32)).toInt64))), .second, .unset] [(.int (lcmpW ((-2147483648 : Int64) + ((p2 % (4 : Int32)).toInt64)) ((((-2147483648 : Int64) + ((p2 % (4 : Int32)).toInt64)).toInt32).toInt64)))])) (fun t k => XS.lcmp X0.here hx rfl (hb hby at_66) rfl k) ?_
    by_cases hc67_18 : (lcmpW ((-2147483648 : Int64) + ((p2 % (4 : Int32)).toInt64)) ((((-2147483648 : Int64) + ((p2 % (4 : Int32)).toInt64)).toInt32).toInt64)) = (0 : Int32)
    · refine own_of (S' := s₁.setTop (mkF m 70 #[.val (.long q1), .second, .val (.int p2), .val (.int p3), .val (.long ((p2 % (4 : Int32)).toInt64)), .second, .val (.int (p3 &&& (3 : Int32))), .val (.long ((-2147483648 : Int64) + ((p2 % (4 : Int32)).toInt64))), .second, .unset] [])) (fun t k => XS.ifNo X0.here hx rfl (hb hby at_67) rfl ((if0 _ _).trans (teq hc67_18).2) k) ?_
      refine own_of (S' := s₁.setTop (mkF m 71 #[.val (.long q1), .second, .val (.int p2), .val (.int p3), .val (.long ((p2 % (4 : Int32)).toInt64)), .second, .val (.int (p3 &&& (3 : Int32))), .val (.long ((-2147483648 : Int64) + ((p2 % (4 : Int32)).toInt64))), .second, .unset] [(.int (1 : Int32))])) (fun t k => XS.iconst X0.here hx rfl (hb hby at_70) k) ?_
      refine own_of (S' := s₁.setTop (mkF m 75 #[.val (.long q1), .second, .val (.int p2), .val (.int p3), .val (.long ((p2 % (4 : Int32)).toInt64)), .second, .val (.int (p3 &&& (3 : Int32))), .val (.long ((-2147483648 : Int64) + ((p2 % (4 : Int32)).toInt64))), .second, .unset] [(.int (1 : Int32))])) (fun t k => XS.goto X0.here hx rfl (pc0 := 71) (pc' := 75) rfl (hb hby at_71) (by decide) (by decide) k) ?_
      refine own_of (S' := s₁.setTop (mkF m 77 #[.val (.long q1), .second, .val (.int p2), .val (.int p3), .val (.long ((p2 % (4 : Int32)).toInt64)), .second, .val (.int (p3 &&& (3 : Int32))), .val (.long ((-2147483648 : Int64) + ((p2 % (4 : Int32)).toInt64))), .second, .val (.int (1 : Int32))] [])) (fun t k => XS.istore X0.here hx rfl (hb hby at_75) rfl (l' := #[.val (.long q1), .second, .val (.int p2), .val (.int p3), .val (.long ((p2 % (4 : Int32)).toInt64)), .second, .val (.int (p3 &&& (3 : Int32))), .val (.long ((-2147483648 : Int64) + ((p2 % (4 : Int32)).toInt64))), .second, .val (.int (1 : Int32))]) rfl k) ?_
      obtain ⟨T19, X19, e19, st19⟩ := getS2 X0 hx hZ hown (host := "") (Or.inl (hw _ (List.mem_of_getElem? (i := 1) rfl))) Via.refl e0 S_INT (g := (mkF m 77 #[.val (.long q1), .second, .val (.int p2), .val (.int p3), .val (.long ((p2 % (4 : Int32)).toInt64)), .second, .val (.int (p3 &&& (3 : Int32))), .val (.long ((-2147483648 : Int64) + ((p2 % (4 : Int32)).toInt64))), .second, .val (.int (1 : Int32))] [])) rfl (hb hby at_77)
      refine own_of (S' := T19.setTop (mkF m 80 #[.val (.long q1), .second, .val (.int p2), .val (.int p3), .val (.long ((p2 % (4 : Int32)).toInt64)), .second, .val (.int (p3 &&& (3 : Int32))), .val (.long ((-2147483648 : Int64) + ((p2 % (4 : Int32)).toInt64))), .second, .val (.int (1 : Int32))] [(.ref w)])) st19 ?_
      refine own_of (S' := T19.setTop (mkF m 82 #[.val (.long q1), .second, .val (.int p2), .val (.int p3), .val (.long ((p2 % (4 : Int32)).toInt64)), .second, .val (.int (p3 &&& (3 : Int32))), .val (.long ((-2147483648 : Int64) + ((p2 % (4 : Int32)).toInt64))), .second, .val (.int (1 : Int32))] [(.long ((-2147483648 : Int64) + ((p2 % (4 : Int32)).toInt64))), (.ref w)])) (fun t k => XS.lload X19.here hx rfl (hb hby at_80) rfl k) ?_
      obtain ⟨cq20, kq20, q20a, q20b, q20c⟩ := isOf hZ e19 E_w
      obtain ⟨_, _, ⟨T20, L20, k20, n20⟩, -, X20, ⟨Lc20, hQ20, l20, y20, z20⟩, st20⟩ := X19.virtualBack hx (y := (⟨"com/example/keyfence/keyfence/ColumnType", "inRange", "(J)Z"⟩ : MethodName)) (z := (⟨"com/example/keyfence/keyfence/ColumnType", "inRange", "(J)Z"⟩ : MethodName)) hown (mvT hZ (hw _ (List.mem_of_getElem? (i := 4) rfl))) (mvT hZ (hw _ (List.mem_of_getElem? (i := 5) rfl))) (notFace_of_selects (args := #[]) (mvT hZ (hw _ (List.mem_of_getElem? (i := 7) rfl)))) (mvT hZ (hw _ (List.mem_of_getElem? (i := 7) rfl))) (mvT hZ (hw _ (List.mem_of_getElem? (i := 6) rfl))) (by decide) (backOf (W := 0) (rm1 l Z a0 hw [] w ((-2147483648 : Int64) + ((p2 % (4 : Int32)).toInt64)) (-2147483648 : Int64) (2147483647 : Int64) h0 n0 Z0 F_min_w F_max_w) hZ (hw _ (List.mem_of_getElem? (i := 8) rfl)) (hw _ (List.mem_of_getElem? (i := 2) rfl)) (by decide) (by decide)) q20a q20c (g := (mkF m 82 #[.val (.long q1), .second, .val (.int p2), .val (.int p3), .val (.long ((p2 % (4 : Int32)).toInt64)), .second, .val (.int (p3 &&& (3 : Int32))), .val (.long ((-2147483648 : Int64) + ((p2 % (4 : Int32)).toInt64))), .second, .val (.int (1 : Int32))] [(.long ((-2147483648 : Int64) + ((p2 % (4 : Int32)).toInt64))), (.ref w)])) rfl (by rw [hml]; rfl) (Steps.refl _) (argsL := [(.long ((-2147483648 : Int64) + ((p2 % (4 : Int32)).toInt64)))]) (rest := []) (lenOf pd0_0 rfl) rfl (by show 2 * 0 + _ ≤ _; exact Nat.le_of_eq rfl) (hb hby at_82) (fun _ _ => ⟨rfl, e19, (by decide : 0 + _ ≤ _), (by decide : 0 + _ ≤ _)⟩)
      dsimp only [Pt.U, Pt.locs, Pt.cells, Pt.slots] at X20 l20 y20 z20 st20 hQ20
      subst l20 y20 z20
      obtain ⟨rfl, N20q, hh20⟩ := hQ20
      have N20 := Fr.app N0 N20q
      refine own_of (S' := T20.setTop (mkF m 85 #[.val (.long q1), .second, .val (.int p2), .val (.int p3), .val (.long ((p2 % (4 : Int32)).toInt64)), .second, .val (.int (p3 &&& (3 : Int32))), .val (.long ((-2147483648 : Int64) + ((p2 % (4 : Int32)).toInt64))), .second, .val (.int (1 : Int32))] [(.int (own_inR ((-2147483648 : Int64) + ((p2 % (4 : Int32)).toInt64)) (-2147483648 : Int64) (2147483647 : Int64)))])) (fun t k => st20.trans k) ?_
      refine own_of (S' := T20.setTop (mkF m 87 #[.val (.long q1), .second, .val (.int p2), .val (.int p3), .val (.long ((p2 % (4 : Int32)).toInt64)), .second, .val (.int (p3 &&& (3 : Int32))), .val (.long ((-2147483648 : Int64) + ((p2 % (4 : Int32)).toInt64))), .second, .val (.int (1 : Int32))] [(.int (1 : Int32)), (.int (own_inR ((-2147483648 : Int64) + ((p2 % (4 : Int32)).toInt64)) (-2147483648 : Int64) (2147483647 : Int64)))])) (fun t k => XS.iload X20.here hx rfl (hb hby at_85) rfl k) ?_
      by_cases hc87_21 : (own_inR ((-2147483648 : Int64) + ((p2 % (4 : Int32)).toInt64)) (-2147483648 : Int64) (2147483647 : Int64)) = (1 : Int32)
      · refine own_of (S' := T20.setTop (mkF m 90 #[.val (.long q1), .second, .val (.int p2), .val (.int p3), .val (.long ((p2 % (4 : Int32)).toInt64)), .second, .val (.int (p3 &&& (3 : Int32))), .val (.long ((-2147483648 : Int64) + ((p2 % (4 : Int32)).toInt64))), .second, .val (.int (1 : Int32))] [])) (fun t k => XS.icmpNo X20.here hx rfl (hb hby at_87) rfl (teq hc87_21).2 k) ?_
        refine own_of (S' := T20.setTop (mkF m 91 #[.val (.long q1), .second, .val (.int p2), .val (.int p3), .val (.long ((p2 % (4 : Int32)).toInt64)), .second, .val (.int (p3 &&& (3 : Int32))), .val (.long ((-2147483648 : Int64) + ((p2 % (4 : Int32)).toInt64))), .second, .val (.int (1 : Int32))] [(.int (1 : Int32))])) (fun t k => XS.iconst X20.here hx rfl (hb hby at_90) k) ?_
        refine own_of (S' := T20.setTop (mkF m 95 #[.val (.long q1), .second, .val (.int p2), .val (.int p3), .val (.long ((p2 % (4 : Int32)).toInt64)), .second, .val (.int (p3 &&& (3 : Int32))), .val (.long ((-2147483648 : Int64) + ((p2 % (4 : Int32)).toInt64))), .second, .val (.int (1 : Int32))] [(.int (1 : Int32))])) (fun t k => XS.goto X20.here hx rfl (pc0 := 91) (pc' := 95) rfl (hb hby at_91) (by decide) (by decide) k) ?_
        obtain ⟨fs, hr, hrun, hended, hW, hsame⟩ := X20.leave (v := some (.int (1 : Int32))) (fun h => by rw [Bd.returns] at h; cases h)
        subst hKd
        exact ⟨_, _, retN X20 hx (t := .boolean) Bd.returns (by simp) (hb hby at_95) hr, hrun, hended, _, _, rfl, (by
          show Q0 Z q1 p2 p3 w h0 n0 _ T20.heap _
          rw [show T20.heap = h0 from (hh20)]
          exact ⟨rfl, N20⟩), ⟨_, rfl⟩, hW, hsame.mono (by decide) (by decide)⟩
      refine own_of (S' := T20.setTop (mkF m 94 #[.val (.long q1), .second, .val (.int p2), .val (.int p3), .val (.long ((p2 % (4 : Int32)).toInt64)), .second, .val (.int (p3 &&& (3 : Int32))), .val (.long ((-2147483648 : Int64) + ((p2 % (4 : Int32)).toInt64))), .second, .val (.int (1 : Int32))] [])) (fun t k => XS.icmpYes X20.here hx rfl (pc0 := 87) (pc' := 94) rfl (hb hby at_87) rfl (feq hc87_21).2 (by decide) (by decide) k) ?_
      exact (own_dead1 hc67_18 hc87_21).elim
    refine own_of (S' := s₁.setTop (mkF m 74 #[.val (.long q1), .second, .val (.int p2), .val (.int p3), .val (.long ((p2 % (4 : Int32)).toInt64)), .second, .val (.int (p3 &&& (3 : Int32))), .val (.long ((-2147483648 : Int64) + ((p2 % (4 : Int32)).toInt64))), .second, .unset] [])) (fun t k => XS.ifYes X0.here hx rfl (pc0 := 67) (pc' := 74) rfl (hb hby at_67) rfl ((if0 _ _).trans (feq hc67_18).2) (by decide) (by decide) k) ?_
    refine own_of (S' := s₁.setTop (mkF m 75 #[.val (.long q1), .second, .val (.int p2), .val (.int p3), .val (.long ((p2 % (4 : Int32)).toInt64)), .second, .val (.int (p3 &&& (3 : Int32))), .val (.long ((-2147483648 : Int64) + ((p2 % (4 : Int32)).toInt64))), .second, .unset] [(.int (0 : Int32))])) (fun t k => XS.iconst X0.here hx rfl (hb hby at_74) k) ?_
    refine own_of (S' := s₁.setTop (mkF m 77 #[.val (.long q1), .second, .val (.int p2), .val (.int p3), .val (.long ((p2 % (4 : Int32)).toInt64)), .second, .val (.int (p3 &&& (3 : Int32))), .val (.long ((-2147483648 : Int64) + ((p2 % (4 : Int32)).toInt64))), .second, .val (.int (0 : Int32))] [])) (fun t k => XS.istore X0.here hx rfl (hb hby at_75) rfl (l' := #[.val (.long q1), .second, .val (.int p2), .val (.int p3), .val (.long ((p2 % (4 : Int32)).toInt64)), .second, .val (.int (p3 &&& (3 : Int32))), .val (.long ((-2147483648 : Int64) + ((p2 % (4 : Int32)).toInt64))), .second, .val (.int (0 : Int32))]) rfl k) ?_
    obtain ⟨T22, X22, e22, st22⟩ := getS2 X0 hx hZ hown (host := "") (Or.inl (hw _ (List.mem_of_getElem? (i := 1) rfl))) Via.refl e0 S_INT (g := (mkF m 77 #[.val (.long q1), .second, .val (.int p2), .val (.int p3), .val (.long ((p2 % (4 : Int32)).toInt64)), .second, .val (.int (p3 &&& (3 : Int32))), .val (.long ((-2147483648 : Int64) + ((p2 % (4 : Int32)).toInt64))), .second, .val (.int (0 : Int32))] [])) rfl (hb hby at_77)
    refine own_of (S' := T22.setTop (mkF m 80 #[.val (.long q1), .second, .val (.int p2), .val (.int p3), .val (.long ((p2 % (4 : Int32)).toInt64)), .second, .val (.int (p3 &&& (3 : Int32))), .val (.long ((-2147483648 : Int64) + ((p2 % (4 : Int32)).toInt64))), .second, .val (.int (0 : Int32))] [(.ref w)])) st22 ?_
    refine own_of (S' := T22.setTop (mkF m 82 #[.val (.long q1), .second, .val (.int p2), .val (.int p3), .val (.long ((p2 % (4 : Int32)).toInt64)), .second, .val (.int (p3 &&& (3 : Int32))), .val (.long ((-2147483648 : Int64) + ((p2 % (4 : Int32)).toInt64))), .second, .val (.int (0 : Int32))] [(.long ((-2147483648 : Int64) + ((p2 % (4 : Int32)).toInt64))), (.ref w)])) (fun t k => XS.lload X22.here hx rfl (hb hby at_80) rfl k) ?_
    obtain ⟨cq23, kq23, q23a, q23b, q23c⟩ := isOf hZ e22 E_w
    obtain ⟨_, _, ⟨T23, L23, k23, n23⟩, -, X23, ⟨Lc23, hQ23, l23, y23, z23⟩, st23⟩ := X22.virtualBack hx (y := (⟨"com/example/keyfence/keyfence/ColumnType", "inRange", "(J)Z"⟩ : MethodName)) (z := (⟨"com/example/keyfence/keyfence/ColumnType", "inRange", "(J)Z"⟩ : MethodName)) hown (mvT hZ (hw _ (List.mem_of_getElem? (i := 4) rfl))) (mvT hZ (hw _ (List.mem_of_getElem? (i := 5) rfl))) (notFace_of_selects (args := #[]) (mvT hZ (hw _ (List.mem_of_getElem? (i := 7) rfl)))) (mvT hZ (hw _ (List.mem_of_getElem? (i := 7) rfl))) (mvT hZ (hw _ (List.mem_of_getElem? (i := 6) rfl))) (by decide) (backOf (W := 0) (rm1 l Z a0 hw [] w ((-2147483648 : Int64) + ((p2 % (4 : Int32)).toInt64)) (-2147483648 : Int64) (2147483647 : Int64) h0 n0 Z0 F_min_w F_max_w) hZ (hw _ (List.mem_of_getElem? (i := 8) rfl)) (hw _ (List.mem_of_getElem? (i := 2) rfl)) (by decide) (by decide)) q23a q23c (g := (mkF m 82 #[.val (.long q1), .second, .val (.int p2), .val (.int p3), .val (.long ((p2 % (4 : Int32)).toInt64)), .second, .val (.int (p3 &&& (3 : Int32))), .val (.long ((-2147483648 : Int64) + ((p2 % (4 : Int32)).toInt64))), .second, .val (.int (0 : Int32))] [(.long ((-2147483648 : Int64) + ((p2 % (4 : Int32)).toInt64))), (.ref w)])) rfl (by rw [hml]; rfl) (Steps.refl _) (argsL := [(.long ((-2147483648 : Int64) + ((p2 % (4 : Int32)).toInt64)))]) (rest := []) (lenOf pd0_0 rfl) rfl (by show 2 * 0 + _ ≤ _; exact Nat.le_of_eq rfl) (hb hby at_82) (fun _ _ => ⟨rfl, e22, (by decide : 0 + _ ≤ _), (by decide : 0 + _ ≤ _)⟩)
    dsimp only [Pt.U, Pt.locs, Pt.cells, Pt.slots] at X23 l23 y23 z23 st23 hQ23
    subst l23 y23 z23
    obtain ⟨rfl, N23q, hh23⟩ := hQ23
    have N23 := Fr.app N0 N23q
    refine own_of (S' := T23.setTop (mkF m 85 #[.val (.long q1), .second, .val (.int p2), .val (.int p3), .val (.long ((p2 % (4 : Int32)).toInt64)), .second, .val (.int (p3 &&& (3 : Int32))), .val (.long ((-2147483648 : Int64) + ((p2 % (4 : Int32)).toInt64))), .second, .val (.int (0 : Int32))] [(.int (own_inR ((-2147483648 : Int64) + ((p2 % (4 : Int32)).toInt64)) (-2147483648 : Int64) (2147483647 : Int64)))])) (fun t k => st23.trans k) ?_
    refine own_of (S' := T23.setTop (mkF m 87 #[.val (.long q1), .second, .val (.int p2), .val (.int p3), .val (.long ((p2 % (4 : Int32)).toInt64)), .second, .val (.int (p3 &&& (3 : Int32))), .val (.long ((-2147483648 : Int64) + ((p2 % (4 : Int32)).toInt64))), .second, .val (.int (0 : Int32))] [(.int (0 : Int32)), (.int (own_inR ((-2147483648 : Int64) + ((p2 % (4 : Int32)).toInt64)) (-2147483648 : Int64) (2147483647 : Int64)))])) (fun t k => XS.iload X23.here hx rfl (hb hby at_85) rfl k) ?_
    by_cases hc87_24 : (own_inR ((-2147483648 : Int64) + ((p2 % (4 : Int32)).toInt64)) (-2147483648 : Int64) (2147483647 : Int64)) = (0 : Int32)
    · refine own_of (S' := T23.setTop (mkF m 90 #[.val (.long q1), .second, .val (.int p2), .val (.int p3), .val (.long ((p2 % (4 : Int32)).toInt64)), .second, .val (.int (p3 &&& (3 : Int32))), .val (.long ((-2147483648 : Int64) + ((p2 % (4 : Int32)).toInt64))), .second, .val (.int (0 : Int32))] [])) (fun t k => XS.icmpNo X23.here hx rfl (hb hby at_87) rfl (teq hc87_24).2 k) ?_
      refine own_of (S' := T23.setTop (mkF m 91 #[.val (.long q1), .second, .val (.int p2), .val (.int p3), .val (.long ((p2 % (4 : Int32)).toInt64)), .second, .val (.int (p3 &&& (3 : Int32))), .val (.long ((-2147483648 : Int64) + ((p2 % (4 : Int32)).toInt64))), .second, .val (.int (0 : Int32))] [(.int (1 : Int32))])) (fun t k => XS.iconst X23.here hx rfl (hb hby at_90) k) ?_
      refine own_of (S' := T23.setTop (mkF m 95 #[.val (.long q1), .second, .val (.int p2), .val (.int p3), .val (.long ((p2 % (4 : Int32)).toInt64)), .second, .val (.int (p3 &&& (3 : Int32))), .val (.long ((-2147483648 : Int64) + ((p2 % (4 : Int32)).toInt64))), .second, .val (.int (0 : Int32))] [(.int (1 : Int32))])) (fun t k => XS.goto X23.here hx rfl (pc0 := 91) (pc' := 95) rfl (hb hby at_91) (by decide) (by decide) k) ?_
      obtain ⟨fs, hr, hrun, hended, hW, hsame⟩ := X23.leave (v := some (.int (1 : Int32))) (fun h => by rw [Bd.returns] at h; cases h)
      subst hKd
      exact ⟨_, _, retN X23 hx (t := .boolean) Bd.returns (by simp) (hb hby at_95) hr, hrun, hended, _, _, rfl, (by
        show Q0 Z q1 p2 p3 w h0 n0 _ T23.heap _
        rw [show T23.heap = h0 from (hh23)]
        exact ⟨rfl, N23⟩), ⟨_, rfl⟩, hW, hsame.mono (by decide) (by decide)⟩
    refine own_of (S' := T23.setTop (mkF m 94 #[.val (.long q1), .second, .val (.int p2), .val (.int p3), .val (.long ((p2 % (4 : Int32)).toInt64)), .second, .val (.int (p3 &&& (3 : Int32))), .val (.long ((-2147483648 : Int64) + ((p2 % (4 : Int32)).toInt64))), .second, .val (.int (0 : Int32))] [])) (fun t k => XS.icmpYes X23.here hx rfl (pc0 := 87) (pc' := 94) rfl (hb hby at_87) rfl (feq hc87_24).2 (by decide) (by decide) k) ?_
    exact (own_dead0 hc67_18 hc87_24).elim
  refine own_of (S' := s₁.setTop (mkF m 56 #[.val (.long q1), .second, .val (.int p2), .val (.int p3), .val (.long ((p2 % (4 : Int32)).toInt64)), .second, .val (.int (p3 &&& (3 : Int32))), .unset, .unset, .unset] [])) (fun t k => XS.icmpYes X0.here hx rfl (pc0 := 42) (pc' := 56) rfl (hb hby at_42) rfl (feq hc42_17).2 (by decide) (by decide) k) ?_
  refine own_of (S' := s₁.setTop (mkF m 58 #[.val (.long q1), .second, .val (.int p2), .val (.int p3), .val (.long ((p2 % (4 : Int32)).toInt64)), .second, .val (.int (p3 &&& (3 : Int32))), .unset, .unset, .unset] [(.long ((p2 % (4 : Int32)).toInt64))])) (fun t k => XS.lload X0.here hx rfl (hb hby at_56) rfl k) ?_
  refine own_of (S' := s₁.setTop (mkF m 60 #[.val (.long q1), .second, .val (.int p2), .val (.int p3), .val (.long ((p2 % (4 : Int32)).toInt64)), .second, .val (.int (p3 &&& (3 : Int32))), .val (.long ((p2 % (4 : Int32)).toInt64)), .second, .unset] [])) (fun t k => XS.lstore X0.here hx rfl (hb hby at_58) rfl (l' := #[.val (.long q1), .second, .val (.int p2), .val (.int p3), .val (.long ((p2 % (4 : Int32)).toInt64)), .second, .val (.int (p3 &&& (3 : Int32))), .val (.long ((p2 % (4 : Int32)).toInt64)), .second, .unset]) rfl k) ?_
  refine own_of (S' := s₁.setTop (mkF m 62 #[.val (.long q1), .second, .val (.int p2), .val (.int p3), .val (.long ((p2 % (4 : Int32)).toInt64)), .second, .val (.int (p3 &&& (3 : Int32))), .val (.long ((p2 % (4 : Int32)).toInt64)), .second, .unset] [(.long ((p2 % (4 : Int32)).toInt64))])) (fun t k => XS.lload X0.here hx rfl (hb hby at_60) rfl k) ?_
  refine own_of (S' := s₁.setTop (mkF m 64 #[.val (.long q1), .second, .val (.int p2), .val (.int p3), .val (.long ((p2 % (4 : Int32)).toInt64)), .second, .val (.int (p3 &&& (3 : Int32))), .val (.long ((p2 % (4 : Int32)).toInt64)), .second, .unset] [(.long ((p2 % (4 : Int32)).toInt64)), (.long ((p2 % (4 : Int32)).toInt64))])) (fun t k => XS.lload X0.here hx rfl (hb hby at_62) rfl k) ?_
  refine own_of (S' := s₁.setTop (mkF m 65 #[.val (.long q1), .second, .val (.int p2), .val (.int p3), .val (.long ((p2 % (4 : Int32)).toInt64)), .second, .val (.int (p3 &&& (3 : Int32))), .val (.long ((p2 % (4 : Int32)).toInt64)), .second, .unset] [(.int (((p2 % (4 : Int32)).toInt64).toInt32)), (.long ((p2 % (4 : Int32)).toInt64))])) (fun t k => XS.l2i X0.here hx rfl (hb hby at_64) rfl k) ?_
  refine own_of (S' := s₁.setTop (mkF m 66 #[.val (.long q1), .second, .val (.int p2), .val (.int p3), .val (.long ((p2 % (4 : Int32)).toInt64)), .second, .val (.int (p3 &&& (3 : Int32))), .val (.long ((p2 % (4 : Int32)).toInt64)), .second, .unset] [(.long ((((p2 % (4 : Int32)).toInt64).toInt32).toInt64)), (.long ((p2 % (4 : Int32)).toInt64))])) (fun t k => XS.i2l X0.here hx rfl (hb hby at_65) rfl k) ?_
  refine own_of (S' := s₁.setTop (mkF m 67 #[.val (.long q1), .second, .val (.int p2), .val (.int p3), .val (.long ((p2 % (4 : Int32)).toInt64)), .second, .val (.int (p3 &&& (3 : Int32))), .val (.long ((p2 % (4 : Int32)).toInt64)), .second, .unset] [(.int (lcmpW ((p2 % (4 : Int32)).toInt64) ((((p2 % (4 : Int32)).toInt64).toInt32).toInt64)))])) (fun t k => XS.lcmp X0.here hx rfl (hb hby at_66) rfl k) ?_
  by_cases hc67_25 : (lcmpW ((p2 % (4 : Int32)).toInt64) ((((p2 % (4 : Int32)).toInt64).toInt32).toInt64)) = (0 : Int32)
  · refine own_of (S' := s₁.setTop (mkF m 70 #[.val (.long q1), .second, .val (.int p2), .val (.int p3), .val (.long ((p2 % (4 : Int32)).toInt64)), .second, .val (.int (p3 &&& (3 : Int32))), .val (.long ((p2 % (4 : Int32)).toInt64)), .second, .unset] [])) (fun t k => XS.ifNo X0.here hx rfl (hb hby at_67) rfl ((if0 _ _).trans (teq hc67_25).2) k) ?_
    refine own_of (S' := s₁.setTop (mkF m 71 #[.val (.long q1), .second, .val (.int p2), .val (.int p3), .val (.long ((p2 % (4 : Int32)).toInt64)), .second, .val (.int (p3 &&& (3 : Int32))), .val (.long ((p2 % (4 : Int32)).toInt64)), .second, .unset] [(.int (1 : Int32))])) (fun t k => XS.iconst X0.here hx rfl (hb hby at_70) k) ?_
    refine own_of (S' := s₁.setTop (mkF m 75 #[.val (.long q1), .second, .val (.int p2), .val (.int p3), .val (.long ((p2 % (4 : Int32)).toInt64)), .second, .val (.int (p3 &&& (3 : Int32))), .val (.long ((p2 % (4 : Int32)).toInt64)), .second, .unset] [(.int (1 : Int32))])) (fun t k => XS.goto X0.here hx rfl (pc0 := 71) (pc' := 75) rfl (hb hby at_71) (by decide) (by decide) k) ?_
    refine own_of (S' := s₁.setTop (mkF m 77 #[.val (.long q1), .second, .val (.int p2), .val (.int p3), .val (.long ((p2 % (4 : Int32)).toInt64)), .second, .val (.int (p3 &&& (3 : Int32))), .val (.long ((p2 % (4 : Int32)).toInt64)), .second, .val (.int (1 : Int32))] [])) (fun t k => XS.istore X0.here hx rfl (hb hby at_75) rfl (l' := #[.val (.long q1), .second, .val (.int p2), .val (.int p3), .val (.long ((p2 % (4 : Int32)).toInt64)), .second, .val (.int (p3 &&& (3 : Int32))), .val (.long ((p2 % (4 : Int32)).toInt64)), .second, .val (.int (1 : Int32))]) rfl k) ?_
    obtain ⟨T26, X26, e26, st26⟩ := getS2 X0 hx hZ hown (host := "") (Or.inl (hw _ (List.mem_of_getElem? (i := 1) rfl))) Via.refl e0 S_INT (g := (mkF m 77 #[.val (.long q1), .second, .val (.int p2), .val (.int p3), .val (.long ((p2 % (4 : Int32)).toInt64)), .second, .val (.int (p3 &&& (3 : Int32))), .val (.long ((p2 % (4 : Int32)).toInt64)), .second, .val (.int (1 : Int32))] [])) rfl (hb hby at_77)
    refine own_of (S' := T26.setTop (mkF m 80 #[.val (.long q1), .second, .val (.int p2), .val (.int p3), .val (.long ((p2 % (4 : Int32)).toInt64)), .second, .val (.int (p3 &&& (3 : Int32))), .val (.long ((p2 % (4 : Int32)).toInt64)), .second, .val (.int (1 : Int32))] [(.ref w)])) st26 ?_
    refine own_of (S' := T26.setTop (mkF m 82 #[.val (.long q1), .second, .val (.int p2), .val (.int p3), .val (.long ((p2 % (4 : Int32)).toInt64)), .second, .val (.int (p3 &&& (3 : Int32))), .val (.long ((p2 % (4 : Int32)).toInt64)), .second, .val (.int (1 : Int32))] [(.long ((p2 % (4 : Int32)).toInt64)), (.ref w)])) (fun t k => XS.lload X26.here hx rfl (hb hby at_80) rfl k) ?_
    obtain ⟨cq27, kq27, q27a, q27b, q27c⟩ := isOf hZ e26 E_w
    obtain ⟨_, _, ⟨T27, L27, k27, n27⟩, -, X27, ⟨Lc27, hQ27, l27, y27, z27⟩, st27⟩ := X26.virtualBack hx (y := (⟨"com/example/keyfence/keyfence/ColumnType", "inRange", "(J)Z"⟩ : MethodName)) (z := (⟨"com/example/keyfence/keyfence/ColumnType", "inRange", "(J)Z"⟩ : MethodName)) hown (mvT hZ (hw _ (List.mem_of_getElem? (i := 4) rfl))) (mvT hZ (hw _ (List.mem_of_getElem? (i := 5) rfl))) (notFace_of_selects (args := #[]) (mvT hZ (hw _ (List.mem_of_getElem? (i := 7) rfl)))) (mvT hZ (hw _ (List.mem_of_getElem? (i := 7) rfl))) (mvT hZ (hw _ (List.mem_of_getElem? (i := 6) rfl))) (by decide) (backOf (W := 0) (rm1 l Z a0 hw [] w ((p2 % (4 : Int32)).toInt64) (-2147483648 : Int64) (2147483647 : Int64) h0 n0 Z0 F_min_w F_max_w) hZ (hw _ (List.mem_of_getElem? (i := 8) rfl)) (hw _ (List.mem_of_getElem? (i := 2) rfl)) (by decide) (by decide)) q27a q27c (g := (mkF m 82 #[.val (.long q1), .second, .val (.int p2), .val (.int p3), .val (.long ((p2 % (4 : Int32)).toInt64)), .second, .val (.int (p3 &&& (3 : Int32))), .val (.long ((p2 % (4 : Int32)).toInt64)), .second, .val (.int (1 : Int32))] [(.long ((p2 % (4 : Int32)).toInt64)), (.ref w)])) rfl (by rw [hml]; rfl) (Steps.refl _) (argsL := [(.long ((p2 % (4 : Int32)).toInt64))]) (rest := []) (lenOf pd0_0 rfl) rfl (by show 2 * 0 + _ ≤ _; exact Nat.le_of_eq rfl) (hb hby at_82) (fun _ _ => ⟨rfl, e26, (by decide : 0 + _ ≤ _), (by decide : 0 + _ ≤ _)⟩)
    dsimp only [Pt.U, Pt.locs, Pt.cells, Pt.slots] at X27 l27 y27 z27 st27 hQ27
    subst l27 y27 z27
    obtain ⟨rfl, N27q, hh27⟩ := hQ27
    have N27 := Fr.app N0 N27q
    refine own_of (S' := T27.setTop (mkF m 85 #[.val (.long q1), .second, .val (.int p2), .val (.int p3), .val (.long ((p2 % (4 : Int32)).toInt64)), .second, .val (.int (p3 &&& (3 : Int32))), .val (.long ((p2 % (4 : Int32)).toInt64)), .second, .val (.int (1 : Int32))] [(.int (own_inR ((p2 % (4 : Int32)).toInt64) (-2147483648 : Int64) (2147483647 : Int64)))])) (fun t k => st27.trans k) ?_
    refine own_of (S' := T27.setTop (mkF m 87 #[.val (.long q1), .second, .val (.int p2), .val (.int p3), .val (.long ((p2 % (4 : Int32)).toInt64)), .second, .val (.int (p3 &&& (3 : Int32))), .val (.long ((p2 % (4 : Int32)).toInt64)), .second, .val (.int (1 : Int32))] [(.int (1 : Int32)), (.int (own_inR ((p2 % (4 : Int32)).toInt64) (-2147483648 : Int64) (2147483647 : Int64)))])) (fun t k => XS.iload X27.here hx rfl (hb hby at_85) rfl k) ?_
    by_cases hc87_28 : (own_inR ((p2 % (4 : Int32)).toInt64) (-2147483648 : Int64) (2147483647 : Int64)) = (1 : Int32)
    · refine own_of (S' := T27.setTop (mkF m 90 #[.val (.long q1), .second, .val (.int p2), .val (.int p3), .val (.long ((p2 % (4 : Int32)).toInt64)), .second, .val (.int (p3 &&& (3 : Int32))), .val (.long ((p2 % (4 : Int32)).toInt64)), .second, .val (.int (1 : Int32))] [])) (fun t k => XS.icmpNo X27.here hx rfl (hb hby at_87) rfl (teq hc87_28).2 k) ?_
      refine own_of (S' := T27.setTop (mkF m 91 #[.val (.long q1), .second, .val (.int p2), .val (.int p3), .val (.long ((p2 % (4 : Int32)).toInt64)), .second, .val (.int (p3 &&& (3 : Int32))), .val (.long ((p2 % (4 : Int32)).toInt64)), .second, .val (.int (1 : Int32))] [(.int (1 : Int32))])) (fun t k => XS.iconst X27.here hx rfl (hb hby at_90) k) ?_
      refine own_of (S' := T27.setTop (mkF m 95 #[.val (.long q1), .second, .val (.int p2), .val (.int p3), .val (.long ((p2 % (4 : Int32)).toInt64)), .second, .val (.int (p3 &&& (3 : Int32))), .val (.long ((p2 % (4 : Int32)).toInt64)), .second, .val (.int (1 : Int32))] [(.int (1 : Int32))])) (fun t k => XS.goto X27.here hx rfl (pc0 := 91) (pc' := 95) rfl (hb hby at_91) (by decide) (by decide) k) ?_
      obtain ⟨fs, hr, hrun, hended, hW, hsame⟩ := X27.leave (v := some (.int (1 : Int32))) (fun h => by rw [Bd.returns] at h; cases h)
      subst hKd
      exact ⟨_, _, retN X27 hx (t := .boolean) Bd.returns (by simp) (hb hby at_95) hr, hrun, hended, _, _, rfl, (by
        show Q0 Z q1 p2 p3 w h0 n0 _ T27.heap _
        rw [show T27.heap = h0 from (hh27)]
        exact ⟨rfl, N27⟩), ⟨_, rfl⟩, hW, hsame.mono (by decide) (by decide)⟩
    refine own_of (S' := T27.setTop (mkF m 94 #[.val (.long q1), .second, .val (.int p2), .val (.int p3), .val (.long ((p2 % (4 : Int32)).toInt64)), .second, .val (.int (p3 &&& (3 : Int32))), .val (.long ((p2 % (4 : Int32)).toInt64)), .second, .val (.int (1 : Int32))] [])) (fun t k => XS.icmpYes X27.here hx rfl (pc0 := 87) (pc' := 94) rfl (hb hby at_87) rfl (feq hc87_28).2 (by decide) (by decide) k) ?_
    exact (own_dead1 hc67_25 hc87_28).elim
  refine own_of (S' := s₁.setTop (mkF m 74 #[.val (.long q1), .second, .val (.int p2), .val (.int p3), .val (.long ((p2 % (4 : Int32)).toInt64)), .second, .val (.int (p3 &&& (3 : Int32))), .val (.long ((p2 % (4 : Int32)).toInt64)), .second, .unset] [])) (fun t k => XS.ifYes X0.here hx rfl (pc0 := 67) (pc' := 74) rfl (hb hby at_67) rfl ((if0 _ _).trans (feq hc67_25).2) (by decide) (by decide) k) ?_
  refine own_of (S' := s₁.setTop (mkF m 75 #[.val (.long q1), .second, .val (.int p2), .val (.int p3), .val (.long ((p2 % (4 : Int32)).toInt64)), .second, .val (.int (p3 &&& (3 : Int32))), .val (.long ((p2 % (4 : Int32)).toInt64)), .second, .unset] [(.int (0 : Int32))])) (fun t k => XS.iconst X0.here hx rfl (hb hby at_74) k) ?_
  refine own_of (S' := s₁.setTop (mkF m 77 #[.val (.long q1), .second, .val (.int p2), .val (.int p3), .val (.long ((p2 % (4 : Int32)).toInt64)), .second, .val (.int (p3 &&& (3 : Int32))), .val (.long ((p2 % (4 : Int32)).toInt64)), .second, .val (.int (0 : Int32))] [])) (fun t k => XS.istore X0.here hx rfl (hb hby at_75) rfl (l' := #[.val (.long q1), .second, .val (.int p2), .val (.int p3), .val (.long ((p2 % (4 : Int32)).toInt64)), .second, .val (.int (p3 &&& (3 : Int32))), .val (.long ((p2 % (4 : Int32)).toInt64)), .second, .val (.int (0 : Int32))]) rfl k) ?_
  obtain ⟨T29, X29, e29, st29⟩ := getS2 X0 hx hZ hown (host := "") (Or.inl (hw _ (List.mem_of_getElem? (i := 1) rfl))) Via.refl e0 S_INT (g := (mkF m 77 #[.val (.long q1), .second, .val (.int p2), .val (.int p3), .val (.long ((p2 % (4 : Int32)).toInt64)), .second, .val (.int (p3 &&& (3 : Int32))), .val (.long ((p2 % (4 : Int32)).toInt64)), .second, .val (.int (0 : Int32))] [])) rfl (hb hby at_77)
  refine own_of (S' := T29.setTop (mkF m 80 #[.val (.long q1), .second, .val (.int p2), .val (.int p3), .val (.long ((p2 % (4 : Int32)).toInt64)), .second, .val (.int (p3 &&& (3 : Int32))), .val (.long ((p2 % (4 : Int32)).toInt64)), .second, .val (.int (0 : Int32))] [(.ref w)])) st29 ?_
  refine own_of (S' := T29.setTop (mkF m 82 #[.val (.long q1), .second, .val (.int p2), .val (.int p3), .val (.long ((p2 % (4 : Int32)).toInt64)), .second, .val (.int (p3 &&& (3 : Int32))), .val (.long ((p2 % (4 : Int32)).toInt64)), .second, .val (.int (0 : Int32))] [(.long ((p2 % (4 : Int32)).toInt64)), (.ref w)])) (fun t k => XS.lload X29.here hx rfl (hb hby at_80) rfl k) ?_
  obtain ⟨cq30, kq30, q30a, q30b, q30c⟩ := isOf hZ e29 E_w
  obtain ⟨_, _, ⟨T30, L30, k30, n30⟩, -, X30, ⟨Lc30, hQ30, l30, y30, z30⟩, st30⟩ := X29.virtualBack hx (y := (⟨"com/example/keyfence/keyfence/ColumnType", "inRange", "(J)Z"⟩ : MethodName)) (z := (⟨"com/example/keyfence/keyfence/ColumnType", "inRange", "(J)Z"⟩ : MethodName)) hown (mvT hZ (hw _ (List.mem_of_getElem? (i := 4) rfl))) (mvT hZ (hw _ (List.mem_of_getElem? (i := 5) rfl))) (notFace_of_selects (args := #[]) (mvT hZ (hw _ (List.mem_of_getElem? (i := 7) rfl)))) (mvT hZ (hw _ (List.mem_of_getElem? (i := 7) rfl))) (mvT hZ (hw _ (List.mem_of_getElem? (i := 6) rfl))) (by decide) (backOf (W := 0) (rm1 l Z a0 hw [] w ((p2 % (4 : Int32)).toInt64) (-2147483648 : Int64) (2147483647 : Int64) h0 n0 Z0 F_min_w F_max_w) hZ (hw _ (List.mem_of_getElem? (i := 8) rfl)) (hw _ (List.mem_of_getElem? (i := 2) rfl)) (by decide) (by decide)) q30a q30c (g := (mkF m 82 #[.val (.long q1), .second, .val (.int p2), .val (.int p3), .val (.long ((p2 % (4 : Int32)).toInt64)), .second, .val (.int (p3 &&& (3 : Int32))), .val (.long ((p2 % (4 : Int32)).toInt64)), .second, .val (.int (0 : Int32))] [(.long ((p2 % (4 : Int32)).toInt64)), (.ref w)])) rfl (by rw [hml]; rfl) (Steps.refl _) (argsL := [(.long ((p2 % (4 : Int32)).toInt64))]) (rest := []) (lenOf pd0_0 rfl) rfl (by show 2 * 0 + _ ≤ _; exact Nat.le_of_eq rfl) (hb hby at_82) (fun _ _ => ⟨rfl, e29, (by decide : 0 + _ ≤ _), (by decide : 0 + _ ≤ _)⟩)
  dsimp only [Pt.U, Pt.locs, Pt.cells, Pt.slots] at X30 l30 y30 z30 st30 hQ30
  subst l30 y30 z30
  obtain ⟨rfl, N30q, hh30⟩ := hQ30
  have N30 := Fr.app N0 N30q
  refine own_of (S' := T30.setTop (mkF m 85 #[.val (.long q1), .second, .val (.int p2), .val (.int p3), .val (.long ((p2 % (4 : Int32)).toInt64)), .second, .val (.int (p3 &&& (3 : Int32))), .val (.long ((p2 % (4 : Int32)).toInt64)), .second, .val (.int (0 : Int32))] [(.int (own_inR ((p2 % (4 : Int32)).toInt64) (-2147483648 : Int64) (2147483647 : Int64)))])) (fun t k => st30.trans k) ?_
  refine own_of (S' := T30.setTop (mkF m 87 #[.val (.long q1), .second, .val (.int p2), .val (.int p3), .val (.long ((p2 % (4 : Int32)).toInt64)), .second, .val (.int (p3 &&& (3 : Int32))), .val (.long ((p2 % (4 : Int32)).toInt64)), .second, .val (.int (0 : Int32))] [(.int (0 : Int32)), (.int (own_inR ((p2 % (4 : Int32)).toInt64) (-2147483648 : Int64) (2147483647 : Int64)))])) (fun t k => XS.iload X30.here hx rfl (hb hby at_85) rfl k) ?_
  by_cases hc87_31 : (own_inR ((p2 % (4 : Int32)).toInt64) (-2147483648 : Int64) (2147483647 : Int64)) = (0 : Int32)
  · refine own_of (S' := T30.setTop (mkF m 90 #[.val (.long q1), .second, .val (.int p2), .val (.int p3), .val (.long ((p2 % (4 : Int32)).toInt64)), .second, .val (.int (p3 &&& (3 : Int32))), .val (.long ((p2 % (4 : Int32)).toInt64)), .second, .val (.int (0 : Int32))] [])) (fun t k => XS.icmpNo X30.here hx rfl (hb hby at_87) rfl (teq hc87_31).2 k) ?_
    refine own_of (S' := T30.setTop (mkF m 91 #[.val (.long q1), .second, .val (.int p2), .val (.int p3), .val (.long ((p2 % (4 : Int32)).toInt64)), .second, .val (.int (p3 &&& (3 : Int32))), .val (.long ((p2 % (4 : Int32)).toInt64)), .second, .val (.int (0 : Int32))] [(.int (1 : Int32))])) (fun t k => XS.iconst X30.here hx rfl (hb hby at_90) k) ?_
    refine own_of (S' := T30.setTop (mkF m 95 #[.val (.long q1), .second, .val (.int p2), .val (.int p3), .val (.long ((p2 % (4 : Int32)).toInt64)), .second, .val (.int (p3 &&& (3 : Int32))), .val (.long ((p2 % (4 : Int32)).toInt64)), .second, .val (.int (0 : Int32))] [(.int (1 : Int32))])) (fun t k => XS.goto X30.here hx rfl (pc0 := 91) (pc' := 95) rfl (hb hby at_91) (by decide) (by decide) k) ?_
    obtain ⟨fs, hr, hrun, hended, hW, hsame⟩ := X30.leave (v := some (.int (1 : Int32))) (fun h => by rw [Bd.returns] at h; cases h)
    subst hKd
    exact ⟨_, _, retN X30 hx (t := .boolean) Bd.returns (by simp) (hb hby at_95) hr, hrun, hended, _, _, rfl, (by
      show Q0 Z q1 p2 p3 w h0 n0 _ T30.heap _
      rw [show T30.heap = h0 from (hh30)]
      exact ⟨rfl, N30⟩), ⟨_, rfl⟩, hW, hsame.mono (by decide) (by decide)⟩
  refine own_of (S' := T30.setTop (mkF m 94 #[.val (.long q1), .second, .val (.int p2), .val (.int p3), .val (.long ((p2 % (4 : Int32)).toInt64)), .second, .val (.int (p3 &&& (3 : Int32))), .val (.long ((p2 % (4 : Int32)).toInt64)), .second, .val (.int (0 : Int32))] [])) (fun t k => XS.icmpYes X30.here hx rfl (pc0 := 87) (pc' := 94) rfl (hb hby at_87) rfl (feq hc87_31).2 (by decide) (by decide) k) ?_
  exact (own_dead0 hc67_25 hc87_31).elim
set_option maxRecDepth 65536 in
set_option maxHeartbeats 40000000 in
theorem comes_1 {Post : Tables → Env → Array Value → State → Outcome → State → Prop} (hpost : ∀ tb e args s v u, (limb_1_1.after args s (.returned v) u = true ∧ limb_1_2.after args s (.returned v) u = true ∧ True) → FrameEnd s (.returned v) u (Jvm.fieldLocs frame_1_writes args s ++ Jvm.arrayLocs frame_1_arrays args s ++ Jvm.staticLocs frame_1_statics s) 0 0 → Post tb e args s (.returned v) u) :
    ArmFor flags0 classFile x code maxLocals ret World_1 tables_1 room_1 Calls_1 rest_1 Pre_1 Post := by
  intro l hfl _ _ p e ha hc hk s m args below hf hA hF happ hP
  obtain ⟨hcalls, hrest, hpre⟩ := hP
  obtain ⟨-, -, -, hnamed, -, -, -, hat⟩ := (Spec.applies_iff hf).mp happ
  obtain ⟨hg, hn⟩ := and_e (Cond.before_iff.mp (show (Jvm.Cond.and given_1 narrow_1).before args s = true from hpre))
  obtain ⟨g1a, g1b⟩ := and_e hg
  obtain ⟨g2a, g2b⟩ := and_e g1b
  obtain ⟨g3a, g3b⟩ := and_e g2b
  obtain ⟨g4a, g4b⟩ := and_e hn
  obtain ⟨g5a, g5b⟩ := and_e g4b
  obtain ⟨w0_, w1_, w2_, rfl⟩ : ∃ w0_ w1_ w2_ : Value, args = #[w0_, w1_, w2_] := by
    have hs : args.size = 3 := by simpa [Cond.value, given_1] using g1a
    obtain ⟨L⟩ := args
    match L, hs with
    | [w0_, w1_, w2_], _ => exact ⟨w0_, w1_, w2_, rfl⟩
  have hw := fun d (hd : d ∈ tables_1) => atoms_spec (ws := Jvm.Cond.code x code maxLocals ret :: tables_1) hat d (List.mem_cons_of_mem _ hd)
  have hfit : Fit s := fun {y c} hc i hi => by
    obtain ⟨ha, rfl⟩ := Array.getElem?_eq_some_iff.mp hc
    have q := List.all_eq_true.mp ((Array.all_eq_true_iff_forall_mem.mp hF) _ (Array.getElem_mem ha)) i (List.mem_range.mpr hi)
    simpa [Array.getElem?_eq_getElem hi] using q
  obtain ⟨q1, ei0⟩ := isL_v g2a
  obtain rfl : w0_ = (.long q1) := Option.some.inj ei0
  obtain ⟨p2, ei1⟩ := is_v g3a
  obtain rfl : w1_ = (.int p2) := Option.some.inj ei1
  obtain ⟨p3, ei2⟩ := is_v g3b
  obtain rfl : w2_ = (.int p3) := Option.some.inj ei2
  obtain ⟨w_INT, ev_w_INT⟩ := exa_v g4a
  have S_INT : Sta s s.heap "com/example/keyfence/keyfence/ColumnType" "INT" "Lcom/example/keyfence/keyfence/ColumnType;" (.ref w_INT) := Sta.start ev_w_INT (Or.inr ⟨(hw _ (List.mem_of_getElem? (i := 2) rfl)), (hw _ (List.mem_of_getElem? (i := 3) rfl))⟩)
  have E_w_INT : Exa s s.heap w_INT "com/example/keyfence/keyfence/ColumnType" := Exa.start ev_w_INT g4a
  have F_min_w_INT : Fld s s.heap w_INT "com/example/keyfence/keyfence/ColumnType" "min" "J" (.long (-2147483648 : Int64)) := Fld.start ((fld_at ev_w_INT).symm.trans (own_eqL g5a))
  have F_max_w_INT : Fld s s.heap w_INT "com/example/keyfence/keyfence/ColumnType" "max" "J" (.long (2147483647 : Int64)) := Fld.start ((fld_at ev_w_INT).symm.trans (own_eqL g5b))
  obtain ⟨n, o, h1, h2, h3, _, L, rfl, ⟨rfl, N⟩, hq⟩ := rm0 l s _ hw tables_1 q1 p2 p3 w_INT s.heap s.heap.size (Nat.le_refl _) S_INT E_w_INT F_min_w_INT F_max_w_INT p e ha hc hk s m _ below hf ((Spec.applies_iff_loose hf).mp happ).1 ⟨rfl, State.Warmed39.refl s, rfl⟩ trivial
  refine ⟨n, _, h1, h2, h3, hpost _ _ _ _ _ _ ⟨Cond.after_iff.mpr rfl, Cond.after_iff.mpr (eq_i res_at (Term.int_eval (1)) rfl), trivial⟩ ⟨hq.1, hq.2.1, (hq.2.2.sift fun y hy => Or.inr (N y hy)).mono (by decide) (by decide)⟩⟩
theorem main_1_1 : Claimed_1_1 := comes_1 fun _ _ _ _ _ _ h hF => ⟨h.1, hF⟩
theorem main_1_2 : Claimed_1_2 := comes_1 fun _ _ _ _ _ _ h hF => ⟨h.2.1, hF⟩
end Jvm.Pilot.@@N@@
namespace Jvm.Pilot.@@N@@
open Jvm Jvm.ClassFile Sem Op Lib Jvm.Free Jvm.Stand Jvm.Pilot.@@N@@.Jvm.D
/-! MADE BY PROGRAM (witnessworld.py) out of the Statement's table words and the real class files: 12 classes; the members and pool entries that the words name. The judged class is class 1, her method 1. -/
namespace start1
open Jvm.ClassFile
def u (s : String) : CpInfo := .utf8 (stringToUtf16 s)
/-- a pool by its gaps: so many unusable entries, then the entry; so many at the end -/
def gap : Nat → List CpInfo → List CpInfo
  | 0, r => r
  | n + 1, r => .unusable :: gap n r
def poolList (es : List (Nat × CpInfo)) (last : Nat) : List CpInfo := es.foldr (fun e r => gap e.1 (e.2 :: r)) (gap last [])
def pool (es : List (Nat × CpInfo)) (last : Nat) : Array CpInfo := ⟨poolList es last⟩
def fileOf (pool : Array CpInfo) (this : Nat) (attrs : Array Attribute := #[]) (ms : Array MethodInfo := #[]) (fl : Nat := 33) (sup : Nat := 0) (ifs : Array Nat := #[]) (fds : Array FieldInfo := #[]) : ClassFile where
  minorVersion := 0
  majorVersion := 65
  constantPool := pool
  accessFlags := fl
  thisClass := this
  superClass := sup
  interfaces := ifs
  fields := fds
  methods := ms
  attributes := attrs
def plain (name : String) (sup : Option ClassId) : Class where
  name := name
  kind := .ordinary
  loader := none
  accessFlags := 33
  super := sup
  interfaces := #[]
  cf := none
  fields := #[]
  methods := #[]
  instanceTypes := #[]
  staticTypes := #[]
  resolved := #[]
  callSites := []
  init := .initialized
  statics := none
  mirror := none

def pool0 : Array CpInfo := pool [(5, u "<init>"), (0, u "()V"), (1, .class_ 10), (1, u "java/lang/Object")] 113

def k0m0 : Method := { name := "<init>", desc := "()V", sig := { parameters := [], returnType := none }, accessFlags := 1, code := none }
/-- java/lang/Object -/
def k0 : Class := { plain "java/lang/Object" none with
  accessFlags := 33
  interfaces := #[]
  cf := some (fileOf pool0 8 #[] #[{ accessFlags := 1, nameIndex := 5, descriptorIndex := 6, attributes := #[] }] 33 0 #[] #[])
  fields := #[]
  methods := #[k0m0]
  instanceTypes := #[]
  staticTypes := #[]
  resolved := Array.replicate 124 none
  statics := none }

def pool1 : Array CpInfo := pool [(2, .class_ 4), (1, u "java/lang/Object"), (0, u "<init>"), (0, u "()V"), (0, .long 2147483647), (1, .long 18446744071562067968), (1, .fieldref 12 13), (0, .class_ 14), (0, .nameAndType 15 16), (0, u "com/example/keyfence/keyfence/ColumnType"), (0, u "INT"), (0, u "Lcom/example/keyfence/keyfence/ColumnType;"), (0, .methodref 12 18), (0, .nameAndType 19 20), (0, u "inRange"), (0, u "(J)Z"), (0, .class_ 22), (0, u "com/example/keyfence/keyfence/ColumnTypeInRangePinLaw"), (2, u "law"), (0, u "(JII)Z")] 3

def k1m0 : Method := { name := "<init>", desc := "()V", sig := { parameters := [], returnType := none }, accessFlags := 1, code := none }
def k1c1 : Code := { maxStack := 4, maxLocals := 10, code := code, exceptionTable := #[], attributes := #[] }
def k1m1 : Method := { name := "law", desc := "(JII)Z", sig := { parameters := [.long, .int, .int], returnType := some .boolean }, accessFlags := 9, code := some k1c1 }
/-- com/example/keyfence/keyfence/ColumnTypeInRangePinLaw -/
def k1 : Class := { plain "com/example/keyfence/keyfence/ColumnTypeInRangePinLaw" (some 0) with
  accessFlags := 49
  interfaces := #[]
  cf := some (fileOf pool1 21 #[] #[{ accessFlags := 1, nameIndex := 5, descriptorIndex := 6, attributes := #[] }, { accessFlags := 9, nameIndex := 25, descriptorIndex := 26, attributes := #[] }] 49 2 #[] #[])
  fields := #[]
  methods := #[k1m0, k1m1]
  instanceTypes := #[]
  staticTypes := #[]
  resolved := Array.replicate 30 none
  statics := none }

def pool2 : Array CpInfo := pool [(1, .class_ 2), (0, u "java/lang/constant/Constable"), (0, .class_ 4), (0, u "java/lang/Object")] 6

/-- java/lang/constant/Constable -/
def k2 : Class := { plain "java/lang/constant/Constable" (some 0) with
  accessFlags := 1537
  interfaces := #[]
  cf := some (fileOf pool2 1 #[] #[] 1537 3 #[] #[])
  fields := #[]
  methods := #[]
  instanceTypes := #[]
  staticTypes := #[]
  resolved := Array.replicate 11 none
  statics := none }

def pool3 : Array CpInfo := pool [(1, .class_ 2), (0, u "java/lang/Comparable"), (0, .class_ 4), (0, u "java/lang/Object")] 7

/-- java/lang/Comparable -/
def k3 : Class := { plain "java/lang/Comparable" (some 0) with
  accessFlags := 1537
  interfaces := #[]
  cf := some (fileOf pool3 1 #[] #[] 1537 3 #[] #[])
  fields := #[]
  methods := #[]
  instanceTypes := #[]
  staticTypes := #[]
  resolved := Array.replicate 12 none
  statics := none }

def pool4 : Array CpInfo := pool [(1, .class_ 2), (0, u "java/io/Serializable"), (0, .class_ 4), (0, u "java/lang/Object")] 2

/-- java/io/Serializable -/
def k4 : Class := { plain "java/io/Serializable" (some 0) with
  accessFlags := 1537
  interfaces := #[]
  cf := some (fileOf pool4 1 #[] #[] 1537 3 #[] #[])
  fields := #[]
  methods := #[]
  instanceTypes := #[]
  staticTypes := #[]
  resolved := Array.replicate 7 none
  statics := none }

def pool5 : Array CpInfo := pool [(2, .class_ 4), (1, u "java/lang/Enum"), (0, u "name"), (0, u "Ljava/lang/String;"), (2, u "ordinal"), (0, u "I"), (1, .class_ 14), (1, u "java/lang/Object"), (4, u "hash"), (86, .class_ 108), (1, u "java/lang/Enum$EnumDesc"), (2, .class_ 112), (0, u "java/lang/constant/Constable"), (0, .class_ 114), (0, u "java/lang/Comparable"), (0, .class_ 116), (0, u "java/io/Serializable")] 87

/-- java/lang/Enum -/
def k5 : Class := { plain "java/lang/Enum" (some 0) with
  accessFlags := 1057
  interfaces := #[2, 3, 4]
  cf := some (fileOf pool5 2 #[.nestMembers #[106]] #[] 1057 12 #[111, 113, 115] #[{ accessFlags := 18, nameIndex := 5, descriptorIndex := 6, attributes := #[] }, { accessFlags := 18, nameIndex := 9, descriptorIndex := 10, attributes := #[] }, { accessFlags := 2, nameIndex := 19, descriptorIndex := 10, attributes := #[] }])
  fields := #[{ name := "name", type := (.object "java/lang/String"), accessFlags := 18, slot := 0, constantValue := 0 }, { name := "ordinal", type := .int, accessFlags := 18, slot := 1, constantValue := 0 }, { name := "hash", type := .int, accessFlags := 2, slot := 2, constantValue := 0 }]
  methods := #[]
  instanceTypes := #[(.object "java/lang/String"), .int, .int]
  staticTypes := #[]
  resolved := Array.replicate 204 none
  statics := none }

def pool6 : Array CpInfo := pool [(1, .class_ 2), (0, u "com/example/keyfence/keyfence/ColumnType"), (2, u "INT"), (0, u "Lcom/example/keyfence/keyfence/ColumnType;"), (2, u "VARCHAR"), (2, u "$VALUES"), (0, u "[Lcom/example/keyfence/keyfence/ColumnType;"), (6, .class_ 22), (1, u "java/lang/Enum"), (8, u "valueType"), (0, u "Lcom/example/keyfence/keyfence/SqlType;"), (2, u "hasLength"), (0, u "Z"), (0, .fieldref 1 38), (0, .nameAndType 39 40), (0, u "min"), (0, u "J"), (0, .fieldref 1 42), (0, .nameAndType 43 40), (0, u "max"), (8, u "names"), (0, u "Ljava/util/List;"), (44, u "inRange"), (0, u "(J)Z")] 6

def k6c0 : Code := { maxStack := 4, maxLocals := 3, code := prog_3_method_8_code, exceptionTable := #[], attributes := #[] }
def k6m0 : Method := { name := "inRange", desc := "(J)Z", sig := { parameters := [.long], returnType := some .boolean }, accessFlags := 0, code := some k6c0 }
/-- com/example/keyfence/keyfence/ColumnType -/
def k6 : Class := { plain "com/example/keyfence/keyfence/ColumnType" (some 5) with
  accessFlags := 16433
  interfaces := #[]
  cf := some (fileOf pool6 1 #[] #[{ accessFlags := 0, nameIndex := 98, descriptorIndex := 99, attributes := #[] }] 16433 20 #[] #[{ accessFlags := 16409, nameIndex := 5, descriptorIndex := 6, attributes := #[] }, { accessFlags := 16409, nameIndex := 9, descriptorIndex := 6, attributes := #[] }, { accessFlags := 18, nameIndex := 31, descriptorIndex := 32, attributes := #[] }, { accessFlags := 18, nameIndex := 35, descriptorIndex := 36, attributes := #[] }, { accessFlags := 18, nameIndex := 39, descriptorIndex := 40, attributes := #[] }, { accessFlags := 18, nameIndex := 43, descriptorIndex := 40, attributes := #[] }, { accessFlags := 18, nameIndex := 52, descriptorIndex := 53, attributes := #[] }, { accessFlags := 4122, nameIndex := 12, descriptorIndex := 13, attributes := #[] }])
  fields := #[{ name := "INT", type := (.object "com/example/keyfence/keyfence/ColumnType"), accessFlags := 16409, slot := 0, constantValue := 0 }, { name := "VARCHAR", type := (.object "com/example/keyfence/keyfence/ColumnType"), accessFlags := 16409, slot := 1, constantValue := 0 }, { name := "valueType", type := (.object "com/example/keyfence/keyfence/SqlType"), accessFlags := 18, slot := 3, constantValue := 0 }, { name := "hasLength", type := .boolean, accessFlags := 18, slot := 4, constantValue := 0 }, { name := "min", type := .long, accessFlags := 18, slot := 5, constantValue := 0 }, { name := "max", type := .long, accessFlags := 18, slot := 6, constantValue := 0 }, { name := "names", type := (.object "java/util/List"), accessFlags := 18, slot := 7, constantValue := 0 }, { name := "$VALUES", type := (.array (.object "com/example/keyfence/keyfence/ColumnType")), accessFlags := 4122, slot := 2, constantValue := 0 }]
  methods := #[k6m0]
  instanceTypes := #[(.object "java/lang/String"), .int, .int, (.object "com/example/keyfence/keyfence/SqlType"), .boolean, .long, .long, (.object "java/util/List")]
  staticTypes := #[(.object "com/example/keyfence/keyfence/ColumnType"), (.object "com/example/keyfence/keyfence/ColumnType"), (.array (.object "com/example/keyfence/keyfence/ColumnType"))]
  resolved := Array.replicate 106 none
  statics := some 0 }

def pool7 : Array CpInfo := pool [(1, u "java/lang/Cloneable"), (0, .class_ 1), (0, u "java/lang/Object"), (0, .class_ 3)] 3

/-- java/lang/Cloneable -/
def k7 : Class := { plain "java/lang/Cloneable" (some 0) with
  accessFlags := 1537
  interfaces := #[]
  cf := some (fileOf pool7 2 #[] #[] 1537 4 #[] #[])
  fields := #[]
  methods := #[]
  instanceTypes := #[]
  staticTypes := #[]
  resolved := Array.replicate 8 none
  statics := none }

/-- the primitive byte -/
def k8 : Class := { plain "byte" none with kind := .primitive 'B', accessFlags := 0x411 }
/-- [B -/
def k9 : Class := { plain "[B" (some 0) with kind := .array 8 .byte, interfaces := #[7, 4], accessFlags := 1041 }

/-- the primitive int -/
def k10 : Class := { plain "int" none with kind := .primitive 'I', accessFlags := 0x411 }
/-- [I -/
def k11 : Class := { plain "[I" (some 0) with kind := .array 10 .int, interfaces := #[7, 4], accessFlags := 1041 }

def heap : Heap := #[{ cls := 6, slots := #[.ref 1, .null, .null], vm := .statics 6 },
  { cls := 6, slots := #[.null, .int 0, .int 0, .null, .int 0, .long (-2147483648), .long 2147483647, .null], vm := .none }]
def classes : Array Class := #[k0, k1, k2, k3, k4, k5, k6, k7, k8, k9, k10, k11]
def interned : List (Array UInt16 × Addr) := []
def slotsUsed : Nat := 11
def theMethod : MethodId := ⟨1, 1⟩
def args0 : Array Value := #[.long 5, .int 1, .int 0]
def aboutOver (below : List Frame) : State where
  vm := { classes := classes, interned := interned.toArray }
  heap := heap
  slotsUsed := slotsUsed
  threads := #[{ frames := .invoking theMethod args0 :: below }]
def below0 : List Frame := [.native { method := ⟨0, 0⟩, args := #[] }]
def about1 : State := aboutOver below0
def p0 : Program := .bare "" "" ""
def e0 : Env := launch0.env 0 0 0
theorem w_frames : about1.frames = Frame.invoking theMethod args0 :: below0 := rfl
set_option maxRecDepth 65536 in
theorem w_args : argsFit about1.vm theMethod args0 = true := by decide +kernel
set_option maxRecDepth 65536 in
theorem w_heap : heapFits about1 = true := by decide +kernel
set_option maxRecDepth 65536 in
theorem w_runnable : about1.curStatus? = some .runnable := by decide +kernel
set_option maxRecDepth 65536 in
theorem w_alone : about1.alone = true := by decide +kernel
set_option maxRecDepth 65536 in
theorem w_named : about1.methodNamed? x = some theMethod := by decide +kernel
set_option maxRecDepth 65536 in
theorem w_hears : about1.hears theMethod below0 = true := by decide +kernel
set_option maxRecDepth 65536 in
theorem w_ripe : about1.ripe theMethod args0 below0 = true := by decide +kernel
theorem w_running : about1.status = .running := rfl
set_option maxRecDepth 65536 in
theorem w_room : about1.hasRoom e0.platform room_1 = true :=
  launch0.hasRoom_least _ room_1 (by decide +kernel) (by decide +kernel) (by decide +kernel) (by decide +kernel) (by decide +kernel) (by decide +kernel)
theorem allAtoms_all (ts : List Jvm.Cond) (a : Array Jvm.Value) (st : Jvm.State) : (allAtoms ts).before a st = ts.all (fun c => c.before a st) := by
  induction ts with
  | nil => rfl
  | cons c t ih =>
    show (Jvm.Cond.and c (allAtoms t)).before a st = _
    rw [Jvm.Cond.before_and, ih, List.all_cons]
def words1 : List Jvm.Cond := Jvm.Cond.code x code maxLocals ret :: tables_1
/-- a 'code' word, met by the world's own term for the bytes: nothing is compared byte by byte -/
theorem code_word {y : MethodName} {bytes : ByteArray} {mx : Nat} {rt : Option FieldType} {a : Array Value} {s : State} {m : MethodId} {meth : Method} {c : Code} (h1 : s.methodNamed? y = some m) (h2 : s.vm.method? m = some meth) (h3 : meth.code = some c) (h4 : c.code = bytes)
    (h5 : (c.maxLocals == mx && c.exceptionTable.isEmpty && decide (c.maxStack ≤ mostOperands) && decide (meth.sig.returnType = rt) && !meth.locks && decide (parseMethodDescriptor y.desc = some meth.sig)) = true) : (Jvm.Cond.code y bytes mx rt).before a s = true := by
  simp only [Bool.and_eq_true, beq_iff_eq, Bool.not_eq_true', decide_eq_true_eq] at h5
  obtain ⟨⟨⟨⟨⟨g1, g2⟩, g3⟩, g4⟩, g5⟩, g6⟩ := h5
  simp [Cond.before, Cond.holds, Cond.value, h1, h2, h3, h4, g1, g2, g3, g4, g5, g6]
def isCode : Jvm.Cond → Bool
  | .code _ _ _ _ => true
  | _ => false
theorem all_split {L : List Jvm.Cond} {P : Jvm.Cond → Bool} (h1 : L.all (fun c => isCode c || P c) = true) (h2 : ∀ c ∈ L.filter isCode, P c = true) : L.all P = true := by
  refine List.all_eq_true.mpr fun c hc => ?_
  have h := List.all_eq_true.mp h1 c hc
  rcases Bool.eq_false_or_eq_true (isCode c) with hi | hi
  · exact h2 c (List.mem_filter.mpr ⟨hc, hi⟩)
  · simpa [hi] using h
set_option maxRecDepth 65536 in
theorem w_c0 : (Jvm.Cond.code x code maxLocals ret).before args0 about1 = true := code_word (m := ⟨1, 1⟩) (meth := k1m1) (c := k1c1) (by decide +kernel) rfl rfl rfl (by decide +kernel)
set_option maxRecDepth 65536 in
theorem w_c1 : (Jvm.Cond.code ({ cls := "com/example/keyfence/keyfence/ColumnType", name := "inRange", desc := "(J)Z" } : Jvm.MethodName) prog_3_method_8_code (3 : Nat) (Option.some Jvm.ClassFile.FieldType.boolean)).before args0 about1 = true := code_word (m := ⟨6, 0⟩) (meth := k6m0) (c := k6c0) (by decide +kernel) rfl rfl rfl (by decide +kernel)
def codes1 : List Jvm.Cond := [Jvm.Cond.code x code maxLocals ret, Jvm.Cond.code ({ cls := "com/example/keyfence/keyfence/ColumnType", name := "inRange", desc := "(J)Z" } : Jvm.MethodName) prog_3_method_8_code (3 : Nat) (Option.some Jvm.ClassFile.FieldType.boolean)]
set_option maxRecDepth 65536 in
theorem codes_eq : words1.filter isCode = codes1 := rfl
theorem w_codes : ∀ c ∈ words1.filter isCode, c.before args0 about1 = true := by
  rw [codes_eq]
  intro c hc
  simp only [codes1, List.mem_cons, List.not_mem_nil, or_false] at hc
  rcases hc with rfl | rfl
  · exact w_c0
  · exact w_c1
set_option maxRecDepth 65536 in
theorem w_t1 : words1.all (fun c => isCode c || c.before args0 about1) = true := by decide +kernel
theorem w_tables : (allAtoms (Jvm.Cond.code x code maxLocals ret :: tables_1)).before args0 about1 = true := by
  rw [allAtoms_all]
  show words1.all (fun c => c.before args0 about1) = true
  refine all_split ?_ w_codes
  rw [w_t1]
set_option maxRecDepth 65536 in
theorem w_case : (Jvm.Cond.and given_1 narrow_1).before args0 about1 = true := by decide +kernel
theorem w_applies : (headSpec (Jvm.Cond.code x code maxLocals ret :: tables_1) room_1).applies x e0.platform about1 = true :=
  (Spec.applies_iff w_frames).mpr ⟨w_running, w_runnable, w_alone, w_named, w_hears, w_ripe, w_room, w_tables⟩
theorem atStart : AtStart classFile x code maxLocals ret World_1 tables_1 room_1 Calls_1 rest_1 Pre_1 launch0 p0 e0 about1 theMethod args0 below0 :=
  ⟨lists_1, trivial, launch0.admits_env _ _ _, launch0.least_env, fairChoices_fair.cas, fairChoices_fair.clock, w_frames, w_args, w_heap, w_applies, trivial, trivial, w_case⟩
end start1
theorem witness_1 : WitnessClaimed_1 := ⟨start1.p0, start1.e0, start1.about1, start1.theMethod, start1.args0, start1.below0, start1.atStart⟩
end Jvm.Pilot.@@N@@
