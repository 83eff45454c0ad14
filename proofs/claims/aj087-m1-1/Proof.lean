import JvmDerived
import JvmDerived.Pilot.@@N@@Statement
import JvmDerived.Pilot.@@N@@Code
set_option linter.unusedVariables false
set_option linter.unusedSimpArgs false
namespace Jvm.RoadKit
open Sem ClassFile Op Lib Jvm.Stand Jvm.Free Jvm.LawKit
section New
variable {p : Program} {l : Launch} {e : Env} {R : Room} {s : State} {m : MethodId} {args : Array Value} {below : List Frame} {meth : Method} {c : Code} {T : State} {locs : List Loc} {cells slots : Nat}
theorem retI (X : Stand p l e R s m args below meth c T locs cells slots) (hx : p.tables.exec = Jvm.exec) {pc : Nat} {Ls : Array Slot} {z : Int32} {rest : List Value} (hret : meth.sig.returnType = some .int) (hd : decode c.code pc = .ok (.ireturn, 1)) {fs : List Frame}
    (hl : ∀ (f : JFrame) (acts : List Action), f.method = m → f.locked = none → f.entered = [] → (doReturn e (T.setTop f) acts (some (.int z))).1 = T.setFrames fs) : Steps p.tables e below (T.setTop (mkF m pc Ls (.int z :: rest))) (T.setFrames fs) := by
  have hm' : T.vm.method? m = some meth := X.method'
  have hn : narrow .int (.int z) = .int z := rfl
  show Steps p.tables e below (T.setTop { method := m, pc := pc, locals := Ls, stack := _ :: rest, locked := none }) _
  jvm_step X.here [X.here.top, hx, hd, hm', hret, hn]
  first | (intro acts; rw [hl _ acts rfl rfl rfl]) | rw [hl _ _ rfl rfl rfl]
  exact Steps.refl _
end New
end Jvm.RoadKit
namespace Jvm.Pilot.@@N@@
open Jvm Jvm.ClassFile Sem Op Lib Jvm.Free Jvm.Stand Jvm.LawKit Jvm.RoadKit Bundle Jvm.Pilot.@@N@@.Jvm.D
theorem own_same {h0 h : Heap} {ws : List Addr} (q : h = h0) : Keep h0 h ws := q ▸ Keep.refl _ _
theorem own_ext {h0 h : Heap} (K : Keep h0 h []) : Ext h0 h := ⟨K.1, fun a c q => K.2.1 a c q (by simp)⟩
theorem own_eqi {args : Array Value} {s : State} {t : Term} {k : Int32} (h : (Jvm.Cond.eq t (Term.int k)).value args s none s [] = some true) : t.eval args s none [] s = some (.int k) := by
  obtain ⟨x, y, hx, hy, k1, k2⟩ := cmp_v (Or.inl h)
  cases (Term.int_eval k).symm.trans hy
  obtain ⟨z, rfl⟩ := k2
  simp [Jvm.Cond.value, hx, Term.int_eval] at h
  rw [hx, h]
theorem own_fint {args : Array Value} {s : State} {t : Term} {a : Addr} {C n d : String} {k : Int32} (ht : t.eval args s none [] s = some (.ref a)) (h : (Jvm.Cond.eq (Term.field t C n d) (Term.int k)).value args s none s [] = some true) : Fld s s.heap a C n d (.int k) := by
  have q := own_eqi h
  rw [fld_at ht] at q
  exact Fld.start q
theorem own_ne {Z : State} {h : Heap} {a b : Addr} {C n d : String} {v w : Value} (F : Fld Z h a C n d v) (G : Fld Z h b C n d w) (hn : v ≠ w) : ¬ (a = b) := fun e => by
  subst e
  obtain ⟨c, cf, k, i, f, h1, h2, -, -, -, -, h7⟩ := F
  obtain ⟨c', cf', k', i', f', g1, g2, -, -, -, -, g7⟩ := G
  cases h1.symm.trans g1
  cases h2.symm.trans g2
  exact hn (Option.some.inj (h7.symm.trans g7))
theorem d1_0 : decode prog_46_method_4_code 0 = .ok (.aload_n 0, 1) := by decide +kernel
theorem d1_1 : decode prog_46_method_4_code 1 = .ok (.getstatic 47, 3) := by decide +kernel
theorem d1_4 : decode prog_46_method_4_code 4 = .ok (.if_acmp .ne 10, 3) := by decide +kernel
theorem d1_7 : decode prog_46_method_4_code 7 = .ok (.getstatic 3, 3) := by decide +kernel
theorem d1_10 : decode prog_46_method_4_code 10 = .ok (.astore_n 2, 1) := by decide +kernel
theorem d1_11 : decode prog_46_method_4_code 11 = .ok (.goto 18, 3) := by decide +kernel
theorem d1_29 : decode prog_46_method_4_code 29 = .ok (.aload_n 2, 1) := by decide +kernel
theorem d1_30 : decode prog_46_method_4_code 30 = .ok (.areturn, 1) := by decide +kernel
theorem pn_1 : plainName "com/example/demarcation/demarcation/UnitLog$Ending" = true := by first | (simp [plainName, overriddenIn]; done) | decide +kernel
theorem ef_1 (m : MethodId) (x0 : Addr) (x1 : Int32) : entryFrame m #[(.ref x0), (.int x1)] 3 = mkF m 0 #[.val (.ref x0), .val (.int x1), .unset] [] := by first | (simp [entryFrame, mkF, argsToLocals, Value.category]; done) | rfl
def Q1c (Z : State) (a1 : Addr) (p2 : Int32) (w3 : Addr) (w5 : Addr) (h0 : Heap) (n0 : Nat) (v : Option Value) (h : Heap) (L : List Loc) : Prop := v = some (.ref w5) ∧ Fr n0 L ∧ h = h0
set_option maxRecDepth 65536 in
set_option maxHeartbeats 40000000 in
theorem rm1c (l : Launch) (Z : State) (a0 : Array Value) (hw : ∀ d ∈ tables_1, d.before a0 Z = true) (ws : List Jvm.Cond) (a1 : Addr) (p2 : Int32) (w3 : Addr) (w5 : Addr) (h0 : Heap) (n0 : Nat) (Z0 : n0 ≤ h0.size) (S_Outcome_COMMITTED : Sta Z h0 "com/example/demarcation/demarcation/CompletionCallback$Outcome" "COMMITTED" "Lcom/example/demarcation/demarcation/CompletionCallback$Outcome;" (.ref w3)) (S_Ending_COMMITTED : Sta Z h0 "com/example/demarcation/demarcation/UnitLog$Ending" "COMMITTED" "Lcom/example/demarcation/demarcation/UnitLog$Ending;" (.ref w5)) (ha4 : a1 = w3) :
    MetFree l (⟨"com/example/demarcation/demarcation/UnitLog$Ending", "ofTransaction", "(Lcom/example/demarcation/demarcation/CompletionCallback$Outcome;Z)Lcom/example/demarcation/demarcation/UnitLog$Ending;"⟩ : MethodName) (head1 (Jvm.Cond.code (⟨"com/example/demarcation/demarcation/UnitLog$Ending", "ofTransaction", "(Lcom/example/demarcation/demarcation/CompletionCallback$Outcome;Z)Lcom/example/demarcation/demarcation/UnitLog$Ending;"⟩ : MethodName) prog_46_method_4_code 3 (some (.object "com/example/demarcation/demarcation/UnitLog$Ending")) :: ws) ({ frames := 0, cells := 0, slots := 0, locals := 0 } : Room)) (fun a U => a = #[(.ref a1), (.int p2)] ∧ Z.Warmed39 U.vm ∧ U.heap = h0) (fun _ _ _ _ _ => True) (fun _ U o U' => ∃ v L, o = .returned v ∧ Q1c Z a1 p2 w3 w5 h0 n0 v U'.heap L ∧ FrameEnd U o U' L ({ frames := 0, cells := 0, slots := 0, locals := 0 } : Room).cells ({ frames := 0, cells := 0, slots := 0, locals := 0 } : Room).slots) := by
  refine MetFree.of_bodySF (plainFor_of_name pn_1) hisR ?_
  intro p e s m args below meth c s₁ Bd hml0 hP hK
  obtain ⟨rfl, hZ, hh⟩ := hP
  have hx := Bd.exec
  have hby := Bd.bytes
  have hml : c.maxLocals = 3 := hml0
  have hown : s.vm.findClass "com/example/demarcation/demarcation/UnitLog$Ending" = some m.cls := findClass_of_methodNamed Bd.named
  have hnm := (name_of_methodNamed Bd.named Bd.method).1
  have X0 : Stand p l e ({ frames := 0, cells := 0, slots := 0, locals := 0 } : Room) s m #[(.ref a1), (.int p2)] below meth c s₁ [] 0 0 := Stand.of_body Bd
  have e0 : s₁.heap = h0 := by rw [← hh, Bd.state]; rfl
  have N0 := Fr.nil n0
  have pre0 : ∀ t, Steps p.tables e below (s₁.setTop (mkF m 0 #[.val (.ref a1), .val (.int p2), .unset] [])) t → Steps p.tables e below (s₁.setTop (entryFrame m #[(.ref a1), (.int p2)] 3)) t := fun t k => castTop (ef_1 m a1 p2) k
  -- 3. LAWS
  obtain ⟨T4, X4, e4, st4⟩ := getS2 X0 hx hZ hown (host := "") (Or.inl (hw _ (List.mem_of_getElem? (i := 16) rfl))) Via.refl e0 S_Outcome_COMMITTED (g := (mkF m 1 #[.val (.ref a1), .val (.int p2), .unset] [(.ref a1)])) rfl (hb hby d1_1)
  obtain ⟨T6, X6, e6, st6⟩ := getS2 X4 hx hZ hown (host := "") (Or.inl (hw _ (List.mem_of_getElem? (i := 21) rfl))) Via.refl e4 S_Ending_COMMITTED (g := (mkF m 7 #[.val (.ref a1), .val (.int p2), .unset] [])) rfl (hb hby d1_7)
  obtain ⟨fs, hr, hrun, hended, hW, hsame⟩ := X6.leave (v := some (.ref w5)) (fun h => by rw [Bd.returns] at h; cases h)
  refine ⟨_, _, pre0 _ ?_, hrun, hended, _, _, rfl, ?_, ⟨_, rfl⟩, hW, hsame.mono (by decide) (by decide)⟩
  -- 4. STEPS
  · show Steps p.tables e below (s₁.setTop (mkF m 0 #[.val (.ref a1), .val (.int p2), .unset] [])) _
    refine XS.aloadN X0.here hx rfl (hb hby d1_0) rfl rfl ?_
    show Steps p.tables e below (s₁.setTop (mkF m 1 #[.val (.ref a1), .val (.int p2), .unset] [(.ref a1)])) _
    refine st4 _ ?_
    show Steps p.tables e below (T4.setTop (mkF m 4 #[.val (.ref a1), .val (.int p2), .unset] [(.ref w3), (.ref a1)])) _
    refine Jvm.RoadKit.acmp (g := (mkF m 4 #[.val (.ref a1), .val (.int p2), .unset] [(.ref w3), (.ref a1)])) X4 hx rfl rfl rfl (pc0 := 4) (pc' := 7) (same := true) rfl (hb hby d1_4) rfl (decide_eq_true (congrArg Value.ref ha4)) (by decide) (by decide) ?_
    show Steps p.tables e below (T4.setTop (mkF m 7 #[.val (.ref a1), .val (.int p2), .unset] [])) _
    refine st6 _ ?_
    show Steps p.tables e below (T6.setTop (mkF m 10 #[.val (.ref a1), .val (.int p2), .unset] [(.ref w5)])) _
    refine XS.astoreN X6.here hx rfl (hb hby d1_10) rfl rfl (l' := #[.val (.ref a1), .val (.int p2), .val (.ref w5)]) rfl ?_
    show Steps p.tables e below (T6.setTop (mkF m 11 #[.val (.ref a1), .val (.int p2), .val (.ref w5)] [])) _
    refine XS.goto X6.here hx rfl (pc0 := 11) (pc' := 29) rfl (hb hby d1_11) (by decide) (by decide) ?_
    show Steps p.tables e below (T6.setTop (mkF m 29 #[.val (.ref a1), .val (.int p2), .val (.ref w5)] [])) _
    refine XS.aloadN X6.here hx rfl (hb hby d1_29) rfl rfl ?_
    show Steps p.tables e below (T6.setTop (mkF m 30 #[.val (.ref a1), .val (.int p2), .val (.ref w5)] [(.ref w5)])) _
    jvm_step X6.here [X6.here.top, hx, (hb hby d1_30), X6.method', Bd.returns, Value.isRef, FieldType.isReference]
    first | (intro acts; rw [hr _ acts rfl rfl rfl]) | rw [hr _ _ rfl rfl rfl]
    exact Steps.refl _
  · show Q1c Z a1 p2 w3 w5 h0 n0 _ T6.heap _
    rw [e6]
    exact ⟨rfl, N0, rfl⟩
theorem d1_14 : decode prog_46_method_4_code 14 = .ok (.iload_n 1, 1) := by decide +kernel
theorem d1_15 : decode prog_46_method_4_code 15 = .ok (.ifCond .eq 10, 3) := by decide +kernel
theorem d1_18 : decode prog_46_method_4_code 18 = .ok (.getstatic 7, 3) := by decide +kernel
theorem d1_21 : decode prog_46_method_4_code 21 = .ok (.astore_n 2, 1) := by decide +kernel
theorem d1_22 : decode prog_46_method_4_code 22 = .ok (.goto 7, 3) := by decide +kernel
def Q1b (Z : State) (a1 : Addr) (p2 : Int32) (w3 : Addr) (w5 : Addr) (h0 : Heap) (n0 : Nat) (v : Option Value) (h : Heap) (L : List Loc) : Prop := v = some (.ref w5) ∧ Fr n0 L ∧ h = h0
set_option maxRecDepth 65536 in
set_option maxHeartbeats 40000000 in
theorem rm1b (l : Launch) (Z : State) (a0 : Array Value) (hw : ∀ d ∈ tables_1, d.before a0 Z = true) (ws : List Jvm.Cond) (a1 : Addr) (p2 : Int32) (w3 : Addr) (w5 : Addr) (h0 : Heap) (n0 : Nat) (Z0 : n0 ≤ h0.size) (S_Outcome_COMMITTED : Sta Z h0 "com/example/demarcation/demarcation/CompletionCallback$Outcome" "COMMITTED" "Lcom/example/demarcation/demarcation/CompletionCallback$Outcome;" (.ref w3)) (S_Ending_ROLLED_BACK : Sta Z h0 "com/example/demarcation/demarcation/UnitLog$Ending" "ROLLED_BACK" "Lcom/example/demarcation/demarcation/UnitLog$Ending;" (.ref w5)) (ha4 : ¬ (a1 = w3)) (hc15 : ¬ (p2 = (0 : Int32))) :
    MetFree l (⟨"com/example/demarcation/demarcation/UnitLog$Ending", "ofTransaction", "(Lcom/example/demarcation/demarcation/CompletionCallback$Outcome;Z)Lcom/example/demarcation/demarcation/UnitLog$Ending;"⟩ : MethodName) (head1 (Jvm.Cond.code (⟨"com/example/demarcation/demarcation/UnitLog$Ending", "ofTransaction", "(Lcom/example/demarcation/demarcation/CompletionCallback$Outcome;Z)Lcom/example/demarcation/demarcation/UnitLog$Ending;"⟩ : MethodName) prog_46_method_4_code 3 (some (.object "com/example/demarcation/demarcation/UnitLog$Ending")) :: ws) ({ frames := 0, cells := 0, slots := 0, locals := 0 } : Room)) (fun a U => a = #[(.ref a1), (.int p2)] ∧ Z.Warmed39 U.vm ∧ U.heap = h0) (fun _ _ _ _ _ => True) (fun _ U o U' => ∃ v L, o = .returned v ∧ Q1b Z a1 p2 w3 w5 h0 n0 v U'.heap L ∧ FrameEnd U o U' L ({ frames := 0, cells := 0, slots := 0, locals := 0 } : Room).cells ({ frames := 0, cells := 0, slots := 0, locals := 0 } : Room).slots) := by
  refine MetFree.of_bodySF (plainFor_of_name pn_1) hisR ?_
  intro p e s m args below meth c s₁ Bd hml0 hP hK
  obtain ⟨rfl, hZ, hh⟩ := hP
  have hx := Bd.exec
  have hby := Bd.bytes
  have hml : c.maxLocals = 3 := hml0
  have hown : s.vm.findClass "com/example/demarcation/demarcation/UnitLog$Ending" = some m.cls := findClass_of_methodNamed Bd.named
  have hnm := (name_of_methodNamed Bd.named Bd.method).1
  have X0 : Stand p l e ({ frames := 0, cells := 0, slots := 0, locals := 0 } : Room) s m #[(.ref a1), (.int p2)] below meth c s₁ [] 0 0 := Stand.of_body Bd
  have e0 : s₁.heap = h0 := by rw [← hh, Bd.state]; rfl
  have N0 := Fr.nil n0
  have pre0 : ∀ t, Steps p.tables e below (s₁.setTop (mkF m 0 #[.val (.ref a1), .val (.int p2), .unset] [])) t → Steps p.tables e below (s₁.setTop (entryFrame m #[(.ref a1), (.int p2)] 3)) t := fun t k => castTop (ef_1 m a1 p2) k
  -- 3. LAWS
  obtain ⟨T4, X4, e4, st4⟩ := getS2 X0 hx hZ hown (host := "") (Or.inl (hw _ (List.mem_of_getElem? (i := 16) rfl))) Via.refl e0 S_Outcome_COMMITTED (g := (mkF m 1 #[.val (.ref a1), .val (.int p2), .unset] [(.ref a1)])) rfl (hb hby d1_1)
  obtain ⟨T6, X6, e6, st6⟩ := getS2 X4 hx hZ hown (host := "") (Or.inl (hw _ (List.mem_of_getElem? (i := 18) rfl))) Via.refl e4 S_Ending_ROLLED_BACK (g := (mkF m 18 #[.val (.ref a1), .val (.int p2), .unset] [])) rfl (hb hby d1_18)
  obtain ⟨fs, hr, hrun, hended, hW, hsame⟩ := X6.leave (v := some (.ref w5)) (fun h => by rw [Bd.returns] at h; cases h)
  refine ⟨_, _, pre0 _ ?_, hrun, hended, _, _, rfl, ?_, ⟨_, rfl⟩, hW, hsame.mono (by decide) (by decide)⟩
  -- 4. STEPS
  · show Steps p.tables e below (s₁.setTop (mkF m 0 #[.val (.ref a1), .val (.int p2), .unset] [])) _
    refine XS.aloadN X0.here hx rfl (hb hby d1_0) rfl rfl ?_
    show Steps p.tables e below (s₁.setTop (mkF m 1 #[.val (.ref a1), .val (.int p2), .unset] [(.ref a1)])) _
    refine st4 _ ?_
    show Steps p.tables e below (T4.setTop (mkF m 4 #[.val (.ref a1), .val (.int p2), .unset] [(.ref w3), (.ref a1)])) _
    refine Jvm.RoadKit.acmp (g := (mkF m 4 #[.val (.ref a1), .val (.int p2), .unset] [(.ref w3), (.ref a1)])) X4 hx rfl rfl rfl (pc0 := 4) (pc' := 14) (same := false) rfl (hb hby d1_4) rfl (decide_eq_false fun q => ha4 (Value.ref.inj q)) (by decide) (by decide) ?_
    show Steps p.tables e below (T4.setTop (mkF m 14 #[.val (.ref a1), .val (.int p2), .unset] [])) _
    refine XS.iloadN X4.here hx rfl (hb hby d1_14) rfl ?_
    show Steps p.tables e below (T4.setTop (mkF m 15 #[.val (.ref a1), .val (.int p2), .unset] [(.int p2)])) _
    refine XS.ifNo X4.here hx rfl (hb hby d1_15) rfl ((if0 _ _).trans (feq hc15).1) ?_
    show Steps p.tables e below (T4.setTop (mkF m 18 #[.val (.ref a1), .val (.int p2), .unset] [])) _
    refine st6 _ ?_
    show Steps p.tables e below (T6.setTop (mkF m 21 #[.val (.ref a1), .val (.int p2), .unset] [(.ref w5)])) _
    refine XS.astoreN X6.here hx rfl (hb hby d1_21) rfl rfl (l' := #[.val (.ref a1), .val (.int p2), .val (.ref w5)]) rfl ?_
    show Steps p.tables e below (T6.setTop (mkF m 22 #[.val (.ref a1), .val (.int p2), .val (.ref w5)] [])) _
    refine XS.goto X6.here hx rfl (pc0 := 22) (pc' := 29) rfl (hb hby d1_22) (by decide) (by decide) ?_
    show Steps p.tables e below (T6.setTop (mkF m 29 #[.val (.ref a1), .val (.int p2), .val (.ref w5)] [])) _
    refine XS.aloadN X6.here hx rfl (hb hby d1_29) rfl rfl ?_
    show Steps p.tables e below (T6.setTop (mkF m 30 #[.val (.ref a1), .val (.int p2), .val (.ref w5)] [(.ref w5)])) _
    jvm_step X6.here [X6.here.top, hx, (hb hby d1_30), X6.method', Bd.returns, Value.isRef, FieldType.isReference]
    first | (intro acts; rw [hr _ acts rfl rfl rfl]) | rw [hr _ _ rfl rfl rfl]
    exact Steps.refl _
  · show Q1b Z a1 p2 w3 w5 h0 n0 _ T6.heap _
    rw [e6]
    exact ⟨rfl, N0, rfl⟩
theorem d1_25 : decode prog_46_method_4_code 25 = .ok (.getstatic 10, 3) := by decide +kernel
theorem d1_28 : decode prog_46_method_4_code 28 = .ok (.astore_n 2, 1) := by decide +kernel
def Q1r (Z : State) (a1 : Addr) (p2 : Int32) (w3 : Addr) (w5 : Addr) (h0 : Heap) (n0 : Nat) (v : Option Value) (h : Heap) (L : List Loc) : Prop := v = some (.ref w5) ∧ Fr n0 L ∧ h = h0
set_option maxRecDepth 65536 in
set_option maxHeartbeats 40000000 in
theorem rm1r (l : Launch) (Z : State) (a0 : Array Value) (hw : ∀ d ∈ tables_1, d.before a0 Z = true) (ws : List Jvm.Cond) (a1 : Addr) (p2 : Int32) (w3 : Addr) (w5 : Addr) (h0 : Heap) (n0 : Nat) (Z0 : n0 ≤ h0.size) (S_Outcome_COMMITTED : Sta Z h0 "com/example/demarcation/demarcation/CompletionCallback$Outcome" "COMMITTED" "Lcom/example/demarcation/demarcation/CompletionCallback$Outcome;" (.ref w3)) (S_Ending_ROLLBACK_REFUSED : Sta Z h0 "com/example/demarcation/demarcation/UnitLog$Ending" "ROLLBACK_REFUSED" "Lcom/example/demarcation/demarcation/UnitLog$Ending;" (.ref w5)) (ha4 : ¬ (a1 = w3)) (hc15 : p2 = (0 : Int32)) :
    MetFree l (⟨"com/example/demarcation/demarcation/UnitLog$Ending", "ofTransaction", "(Lcom/example/demarcation/demarcation/CompletionCallback$Outcome;Z)Lcom/example/demarcation/demarcation/UnitLog$Ending;"⟩ : MethodName) (head1 (Jvm.Cond.code (⟨"com/example/demarcation/demarcation/UnitLog$Ending", "ofTransaction", "(Lcom/example/demarcation/demarcation/CompletionCallback$Outcome;Z)Lcom/example/demarcation/demarcation/UnitLog$Ending;"⟩ : MethodName) prog_46_method_4_code 3 (some (.object "com/example/demarcation/demarcation/UnitLog$Ending")) :: ws) ({ frames := 0, cells := 0, slots := 0, locals := 0 } : Room)) (fun a U => a = #[(.ref a1), (.int p2)] ∧ Z.Warmed39 U.vm ∧ U.heap = h0) (fun _ _ _ _ _ => True) (fun _ U o U' => ∃ v L, o = .returned v ∧ Q1r Z a1 p2 w3 w5 h0 n0 v U'.heap L ∧ FrameEnd U o U' L ({ frames := 0, cells := 0, slots := 0, locals := 0 } : Room).cells ({ frames := 0, cells := 0, slots := 0, locals := 0 } : Room).slots) := by
  refine MetFree.of_bodySF (plainFor_of_name pn_1) hisR ?_
  intro p e s m args below meth c s₁ Bd hml0 hP hK
  obtain ⟨rfl, hZ, hh⟩ := hP
  have hx := Bd.exec
  have hby := Bd.bytes
  have hml : c.maxLocals = 3 := hml0
  have hown : s.vm.findClass "com/example/demarcation/demarcation/UnitLog$Ending" = some m.cls := findClass_of_methodNamed Bd.named
  have hnm := (name_of_methodNamed Bd.named Bd.method).1
  have X0 : Stand p l e ({ frames := 0, cells := 0, slots := 0, locals := 0 } : Room) s m #[(.ref a1), (.int p2)] below meth c s₁ [] 0 0 := Stand.of_body Bd
  have e0 : s₁.heap = h0 := by rw [← hh, Bd.state]; rfl
  have N0 := Fr.nil n0
  have pre0 : ∀ t, Steps p.tables e below (s₁.setTop (mkF m 0 #[.val (.ref a1), .val (.int p2), .unset] [])) t → Steps p.tables e below (s₁.setTop (entryFrame m #[(.ref a1), (.int p2)] 3)) t := fun t k => castTop (ef_1 m a1 p2) k
  -- 3. LAWS
  obtain ⟨T4, X4, e4, st4⟩ := getS2 X0 hx hZ hown (host := "") (Or.inl (hw _ (List.mem_of_getElem? (i := 16) rfl))) Via.refl e0 S_Outcome_COMMITTED (g := (mkF m 1 #[.val (.ref a1), .val (.int p2), .unset] [(.ref a1)])) rfl (hb hby d1_1)
  obtain ⟨T6, X6, e6, st6⟩ := getS2 X4 hx hZ hown (host := "") (Or.inl (hw _ (List.mem_of_getElem? (i := 19) rfl))) Via.refl e4 S_Ending_ROLLBACK_REFUSED (g := (mkF m 25 #[.val (.ref a1), .val (.int p2), .unset] [])) rfl (hb hby d1_25)
  obtain ⟨fs, hr, hrun, hended, hW, hsame⟩ := X6.leave (v := some (.ref w5)) (fun h => by rw [Bd.returns] at h; cases h)
  refine ⟨_, _, pre0 _ ?_, hrun, hended, _, _, rfl, ?_, ⟨_, rfl⟩, hW, hsame.mono (by decide) (by decide)⟩
  -- 4. STEPS
  · show Steps p.tables e below (s₁.setTop (mkF m 0 #[.val (.ref a1), .val (.int p2), .unset] [])) _
    refine XS.aloadN X0.here hx rfl (hb hby d1_0) rfl rfl ?_
    show Steps p.tables e below (s₁.setTop (mkF m 1 #[.val (.ref a1), .val (.int p2), .unset] [(.ref a1)])) _
    refine st4 _ ?_
    show Steps p.tables e below (T4.setTop (mkF m 4 #[.val (.ref a1), .val (.int p2), .unset] [(.ref w3), (.ref a1)])) _
    refine Jvm.RoadKit.acmp (g := (mkF m 4 #[.val (.ref a1), .val (.int p2), .unset] [(.ref w3), (.ref a1)])) X4 hx rfl rfl rfl (pc0 := 4) (pc' := 14) (same := false) rfl (hb hby d1_4) rfl (decide_eq_false fun q => ha4 (Value.ref.inj q)) (by decide) (by decide) ?_
    show Steps p.tables e below (T4.setTop (mkF m 14 #[.val (.ref a1), .val (.int p2), .unset] [])) _
    refine XS.iloadN X4.here hx rfl (hb hby d1_14) rfl ?_
    show Steps p.tables e below (T4.setTop (mkF m 15 #[.val (.ref a1), .val (.int p2), .unset] [(.int p2)])) _
    refine XS.ifYes X4.here hx rfl (pc0 := 15) (pc' := 25) rfl (hb hby d1_15) rfl ((if0 _ _).trans (teq hc15).1) (by decide) (by decide) ?_
    show Steps p.tables e below (T4.setTop (mkF m 25 #[.val (.ref a1), .val (.int p2), .unset] [])) _
    refine st6 _ ?_
    show Steps p.tables e below (T6.setTop (mkF m 28 #[.val (.ref a1), .val (.int p2), .unset] [(.ref w5)])) _
    refine XS.astoreN X6.here hx rfl (hb hby d1_28) rfl rfl (l' := #[.val (.ref a1), .val (.int p2), .val (.ref w5)]) rfl ?_
    show Steps p.tables e below (T6.setTop (mkF m 29 #[.val (.ref a1), .val (.int p2), .val (.ref w5)] [])) _
    refine XS.aloadN X6.here hx rfl (hb hby d1_29) rfl rfl ?_
    show Steps p.tables e below (T6.setTop (mkF m 30 #[.val (.ref a1), .val (.int p2), .val (.ref w5)] [(.ref w5)])) _
    jvm_step X6.here [X6.here.top, hx, (hb hby d1_30), X6.method', Bd.returns, Value.isRef, FieldType.isReference]
    first | (intro acts; rw [hr _ acts rfl rfl rfl]) | rw [hr _ _ rfl rfl rfl]
    exact Steps.refl _
  · show Q1r Z a1 p2 w3 w5 h0 n0 _ T6.heap _
    rw [e6]
    exact ⟨rfl, N0, rfl⟩
theorem pn_0 : plainName "com/example/demarcation/demarcation/UnitLogOfTransactionPinLaw" = true := by first | (simp [plainName, overriddenIn]; done) | decide +kernel
theorem pd_0_0 : parseMethodDescriptor "(Lcom/example/demarcation/demarcation/CompletionCallback$Outcome;Z)Lcom/example/demarcation/demarcation/UnitLog$Ending;" = some ⟨[(.object "com/example/demarcation/demarcation/CompletionCallback$Outcome"), .boolean], some (.object "com/example/demarcation/demarcation/UnitLog$Ending")⟩ := by decide +kernel
theorem ef_0 (m : MethodId) (x0 : Int32) (x1 : Int32) : entryFrame m #[(.int x0), (.int x1)] maxLocals = mkF m 0 #[.val (.int x0), .val (.int x1), .unset, .unset, .unset, .unset, .unset, .unset] [] := by first | (simp [entryFrame, mkF, argsToLocals, Value.category, maxLocals]; done) | rfl
def Q011 (n0 : Nat) (v : Option Value) (h : Heap) (L : List Loc) : Prop := v = some (.int (1 : Int32)) ∧ Fr n0 L
set_option maxRecDepth 65536 in
set_option maxHeartbeats 40000000 in
theorem rm011 (l : Launch) (Z : State) (a0 : Array Value) (hw : ∀ d ∈ tables_1, d.before a0 Z = true) (ws : List Jvm.Cond) (p1 : Int32) (p2 : Int32) (oC : Addr) (oR : Addr) (eF : Addr) (eR : Addr) (eC : Addr) (h0 : Heap) (n0 : Nat) (Z0 : n0 ≤ h0.size) (SoC : Sta Z h0 "com/example/demarcation/demarcation/CompletionCallback$Outcome" "COMMITTED" "Lcom/example/demarcation/demarcation/CompletionCallback$Outcome;" (.ref oC)) (SoR : Sta Z h0 "com/example/demarcation/demarcation/CompletionCallback$Outcome" "ROLLED_BACK" "Lcom/example/demarcation/demarcation/CompletionCallback$Outcome;" (.ref oR)) (SeF : Sta Z h0 "com/example/demarcation/demarcation/UnitLog$Ending" "ROLLBACK_REFUSED" "Lcom/example/demarcation/demarcation/UnitLog$Ending;" (.ref eF)) (SeR : Sta Z h0 "com/example/demarcation/demarcation/UnitLog$Ending" "ROLLED_BACK" "Lcom/example/demarcation/demarcation/UnitLog$Ending;" (.ref eR)) (SeC : Sta Z h0 "com/example/demarcation/demarcation/UnitLog$Ending" "COMMITTED" "Lcom/example/demarcation/demarcation/UnitLog$Ending;" (.ref eC)) (E_eF : Exa Z h0 eF "com/example/demarcation/demarcation/UnitLog$Ending") (E_eR : Exa Z h0 eR "com/example/demarcation/demarcation/UnitLog$Ending") (E_eC : Exa Z h0 eC "com/example/demarcation/demarcation/UnitLog$Ending") (hoRC : ¬ (oR = oC)) (hc3 : ¬ ((p1 &&& (1 : Int32)) = (0 : Int32))) (hc15 : ¬ ((p2 &&& (1 : Int32)) = (0 : Int32))) :
    MetFree l x (head1 (Jvm.Cond.code x code maxLocals ret :: ws) room_1) (fun a U => a = #[(.int p1), (.int p2)] ∧ Z.Warmed39 U.vm ∧ U.heap = h0) (fun _ _ _ _ _ => True) (fun _ U o U' => ∃ v L, o = .returned v ∧ Q011 n0 v U'.heap L ∧ FrameEnd U o U' L room_1.cells room_1.slots) := by
  refine MetFree.of_bodySF (plainFor_of_name pn_0) hisR ?_
  intro p e s m args below meth c s₁ Bd hml0 hP hK
  obtain ⟨rfl, hZ, hh⟩ := hP
  have hx := Bd.exec
  have hby := Bd.bytes
  have hml : c.maxLocals = 8 := hml0
  have hown : s.vm.findClass "com/example/demarcation/demarcation/UnitLogOfTransactionPinLaw" = some m.cls := findClass_of_methodNamed Bd.named
  have hnm := (name_of_methodNamed Bd.named Bd.method).1
  have X0 : Stand p l e room_1 s m #[(.int p1), (.int p2)] below meth c s₁ [] 0 0 := Stand.of_body Bd
  have e0 : s₁.heap = h0 := by rw [← hh, Bd.state]; rfl
  have N0 := Fr.nil n0
  have pre0 : ∀ t, Steps p.tables e below (s₁.setTop (mkF m 0 #[.val (.int p1), .val (.int p2), .unset, .unset, .unset, .unset, .unset, .unset] [])) t → Steps p.tables e below (s₁.setTop (entryFrame m #[(.int p1), (.int p2)] maxLocals)) t := fun t k => castTop (ef_0 m p1 p2) k
  obtain ⟨T4, X4, e4, st4⟩ := getS2 X0 hx hZ hown (host := "") (Or.inl (hw _ (List.mem_of_getElem? (i := 20) rfl))) Via.refl e0 SoC (g := (mkF m 28 #[.val (.int p1), .val (.int p2), .val (.int (1 : Int32)), .val (.int (1 : Int32)), .unset, .unset, .unset, .unset] [])) rfl (hb hby at_28)
  obtain ⟨T5, h5, k5, X5, e5, E5, A5, O5, st5⟩ := newR X4 hx hZ hown (hw _ (List.mem_of_getElem? (i := 3) rfl)) (hw _ (List.mem_of_getElem? (i := 4) rfl)) e4 (g := (mkF m 40 #[.val (.int p1), .val (.int p2), .val (.int (1 : Int32)), .val (.int (1 : Int32)), .val (.ref oC), .unset, .unset, .unset] [(.int (4 : Int32))])) rfl (hb hby at_40) rfl (by decide) (cap := 4) (by decide) (by decide) (by decide) (by decide)
  obtain ⟨b5, g5⟩ : ∃ z, z = h0.size := ⟨_, rfl⟩      -- the fresh array's address
  rw [← g5] at A5 st5
  have V_b5 := (Arv.new A5 (by decide)).pad (vs' := [.null, .null, .null, .null]) (pad_rep [] .null 4)
  have g_b5 : n0 ≤ b5 := Nat.le_trans Z0 (Nat.le_of_eq g5.symm)
  have sz_b5 : h0.size ≤ b5 := (Nat.le_trans (Keep.refl h0 []).1 (Nat.le_of_eq g5.symm))
  have K5 : Keep h0 h5 [] := (Keep.refl h0 []).ext E5
  obtain ⟨T7, X7, e7, st7⟩ := getS2 X5 hx hZ hown (host := "") (Or.inl (hw _ (List.mem_of_getElem? (i := 5) rfl))) Via.refl e5 (SeF.ext (own_ext K5)) (g := (mkF m 48 #[.val (.int p1), .val (.int p2), .val (.int (1 : Int32)), .val (.int (1 : Int32)), .val (.ref oC), .val (.ref b5), .unset, .unset] [(.int (0 : Int32)), (.ref b5)])) rfl (hb hby at_48)
  obtain ⟨cl_b5_51, Ar_b5, q_b5, S_b5, N_b5, H_b5, G_b5⟩ := V_b5
  have hin51 : ¬ ((0 : Int32) < 0 ∨ cl_b5_51.slots.size ≤ ((0 : Int32)).toNatClampNeg) := inb_of S_b5 ⟨by decide, by decide⟩
  have Sto51 := Sto.ofV Ar_b5 q_b5 O5 (Ins.self (E_eF.ext (own_ext K5)))
  obtain ⟨T8, h8, X8, e8, W8, st8⟩ := stR X7 hx hZ e7 Ar_b5 (j := (0 : Int32)) hin51 rfl Sto51 (g := (mkF m 51 #[.val (.int p1), .val (.int p2), .val (.int (1 : Int32)), .val (.int (1 : Int32)), .val (.ref oC), .val (.ref b5), .unset, .unset] [(.ref eF), (.int (0 : Int32)), (.ref b5)])) rfl rfl (hb hby at_51)
  have V_b5_8 := Arv.set Ar_b5 q_b5 S_b5 N_b5 H_b5 G_b5 (v := .ref eF) rfl W8 0 rfl (Nat.le_of_ble_eq_true rfl)
  have N8 := Fr.snoc X8 N0 g_b5
  have K8 : Keep h0 h8 [] := K5.wr W8 (Or.inr sz_b5)
  obtain ⟨T10, X10, e10, st10⟩ := getS2 X8 hx hZ hown (host := "") (Or.inl (hw _ (List.mem_of_getElem? (i := 9) rfl))) Via.refl e8 (SeR.ext (own_ext K8)) (g := (mkF m 55 #[.val (.int p1), .val (.int p2), .val (.int (1 : Int32)), .val (.int (1 : Int32)), .val (.ref oC), .val (.ref b5), .unset, .unset] [(.int (1 : Int32)), (.ref b5)])) rfl (hb hby at_55)
  obtain ⟨cl_b5_58, Ar_b5, q_b5, S_b5, N_b5, H_b5, G_b5⟩ := V_b5_8
  have hin58 : ¬ ((1 : Int32) < 0 ∨ cl_b5_58.slots.size ≤ ((1 : Int32)).toNatClampNeg) := inb_of S_b5 ⟨by decide, by decide⟩
  have Sto58 := Sto.ofV Ar_b5 q_b5 O5 (Ins.self (E_eR.ext (own_ext K8)))
  obtain ⟨T11, h11, X11, e11, W11, st11⟩ := stR X10 hx hZ e10 Ar_b5 (j := (1 : Int32)) hin58 rfl Sto58 (g := (mkF m 58 #[.val (.int p1), .val (.int p2), .val (.int (1 : Int32)), .val (.int (1 : Int32)), .val (.ref oC), .val (.ref b5), .unset, .unset] [(.ref eR), (.int (1 : Int32)), (.ref b5)])) rfl rfl (hb hby at_58)
  have V_b5_11 := Arv.set Ar_b5 q_b5 S_b5 N_b5 H_b5 G_b5 (v := .ref eR) rfl W11 1 rfl (Nat.le_of_ble_eq_true rfl)
  have N11 := Fr.snoc X11 N8 g_b5
  have K11 : Keep h0 h11 [] := K8.wr W11 (Or.inr sz_b5)
  obtain ⟨T13, X13, e13, st13⟩ := getS2 X11 hx hZ hown (host := "") (Or.inl (hw _ (List.mem_of_getElem? (i := 11) rfl))) Via.refl e11 (SeC.ext (own_ext K11)) (g := (mkF m 62 #[.val (.int p1), .val (.int p2), .val (.int (1 : Int32)), .val (.int (1 : Int32)), .val (.ref oC), .val (.ref b5), .unset, .unset] [(.int (2 : Int32)), (.ref b5)])) rfl (hb hby at_62)
  obtain ⟨cl_b5_65, Ar_b5, q_b5, S_b5, N_b5, H_b5, G_b5⟩ := V_b5_11
  have hin65 : ¬ ((2 : Int32) < 0 ∨ cl_b5_65.slots.size ≤ ((2 : Int32)).toNatClampNeg) := inb_of S_b5 ⟨by decide, by decide⟩
  have Sto65 := Sto.ofV Ar_b5 q_b5 O5 (Ins.self (E_eC.ext (own_ext K11)))
  obtain ⟨T14, h14, X14, e14, W14, st14⟩ := stR X13 hx hZ e13 Ar_b5 (j := (2 : Int32)) hin65 rfl Sto65 (g := (mkF m 65 #[.val (.int p1), .val (.int p2), .val (.int (1 : Int32)), .val (.int (1 : Int32)), .val (.ref oC), .val (.ref b5), .unset, .unset] [(.ref eC), (.int (2 : Int32)), (.ref b5)])) rfl rfl (hb hby at_65)
  have V_b5_14 := Arv.set Ar_b5 q_b5 S_b5 N_b5 H_b5 G_b5 (v := .ref eC) rfl W14 2 rfl (Nat.le_of_ble_eq_true rfl)
  have N14 := Fr.snoc X14 N11 g_b5
  have K14 : Keep h0 h14 [] := K11.wr W14 (Or.inr sz_b5)
  obtain ⟨T15, X15, e15, st15⟩ := getS2 X14 hx hZ hown (host := "") (Or.inl (hw _ (List.mem_of_getElem? (i := 11) rfl))) Via.refl e14 (SeC.ext (own_ext K14)) (g := (mkF m 69 #[.val (.int p1), .val (.int p2), .val (.int (1 : Int32)), .val (.int (1 : Int32)), .val (.ref oC), .val (.ref b5), .unset, .unset] [(.int (3 : Int32)), (.ref b5)])) rfl (hb hby at_69)
  obtain ⟨cl_b5_72, Ar_b5, q_b5, S_b5, N_b5, H_b5, G_b5⟩ := V_b5_14
  have hin72 : ¬ ((3 : Int32) < 0 ∨ cl_b5_72.slots.size ≤ ((3 : Int32)).toNatClampNeg) := inb_of S_b5 ⟨by decide, by decide⟩
  have Sto72 := Sto.ofV Ar_b5 q_b5 O5 (Ins.self (E_eC.ext (own_ext K14)))
  obtain ⟨T16, h16, X16, e16, W16, st16⟩ := stR X15 hx hZ e15 Ar_b5 (j := (3 : Int32)) hin72 rfl Sto72 (g := (mkF m 72 #[.val (.int p1), .val (.int p2), .val (.int (1 : Int32)), .val (.int (1 : Int32)), .val (.ref oC), .val (.ref b5), .unset, .unset] [(.ref eC), (.int (3 : Int32)), (.ref b5)])) rfl rfl (hb hby at_72)
  have V_b5_16 := Arv.set Ar_b5 q_b5 S_b5 N_b5 H_b5 G_b5 (v := .ref eC) rfl W16 3 rfl (Nat.le_of_ble_eq_true rfl)
  have N16 := Fr.snoc X16 N14 g_b5
  have K16 : Keep h0 h16 [] := K14.wr W16 (Or.inr sz_b5)
  have OH : Ext h0 h16 := own_ext K16
  have ZH : n0 ≤ h16.size := Nat.le_trans Z0 K16.1
  obtain ⟨_, _, ⟨T17, L17, k17, n17⟩, -, X17, ⟨Lc17, hQ17, l17, y17, z17⟩, st17⟩ := Jvm.LawKit.callS X16 hx (y := (⟨"com/example/demarcation/demarcation/UnitLog$Ending", "ofTransaction", "(Lcom/example/demarcation/demarcation/CompletionCallback$Outcome;Z)Lcom/example/demarcation/demarcation/UnitLog$Ending;"⟩ : MethodName)) hown (mvT hZ (hw _ (List.mem_of_getElem? (i := 13) rfl))) (mvT hZ (hw _ (List.mem_of_getElem? (i := 14) rfl))) (mvT hZ (hw _ (List.mem_of_getElem? (i := 6) rfl))) (mvT hZ (hw _ (List.mem_of_getElem? (i := 15) rfl))) (by decide) (backOf (W := 0) (rm1c l Z a0 hw [] oC (1 : Int32) oC eC h16 n0 ZH (SoC.ext OH) (SeC.ext OH) rfl) hZ (hw _ (List.mem_of_getElem? (i := 15) rfl)) (hw _ (List.mem_of_getElem? (i := 6) rfl)) (by decide) (by decide)) (g := (mkF m 97 #[.val (.int p1), .val (.int p2), .val (.int (1 : Int32)), .val (.int (1 : Int32)), .val (.ref oC), .val (.ref b5), .val (.int ((2 : Int32) + (1 : Int32))), .unset] [(.int (1 : Int32)), (.ref oC)])) rfl (by rw [hml]; rfl) (argsL := [(.ref oC), (.int (1 : Int32))]) (rest := []) (lenOf pd_0_0 rfl) rfl (by show 2 * 0 + _ ≤ _; exact Nat.le_of_eq rfl) (hb hby at_97) (fun _ _ => ⟨rfl, e16, (by decide : 1 + 0 ≤ _), (by decide : 4 + 0 ≤ _)⟩)
  dsimp only [Pt.U, Pt.locs, Pt.cells, Pt.slots] at X17 l17 y17 z17 st17 hQ17
  subst l17 y17 z17
  obtain ⟨rfl, N17q, eqc⟩ := hQ17
  have V_A := V_b5_16.keep (own_same eqc (ws := [])) (by simp)
  obtain ⟨cl_b5_108, Ar_b5, q_b5, S_b5, N_b5, H_b5, G_b5⟩ := V_A
  have hin108 : ¬ (((2 : Int32) + (1 : Int32)) < 0 ∨ cl_b5_108.slots.size ≤ (((2 : Int32) + (1 : Int32))).toNatClampNeg) := inb_of S_b5 ⟨by decide, by decide⟩
  have hat108 : cl_b5_108.slots[(((2 : Int32) + (1 : Int32))).toNatClampNeg]? = some (.ref eC) := Has.at H_b5 hin108 rfl      -- what it returned, that it wrote nothing old, and the rest of your Q1
  have N17 := Fr.app N16 N17q
  obtain ⟨fs, hr, hrun, hended, hW, hsame⟩ := X17.leave (v := some (.int (1 : Int32))) (fun h => by rw [Bd.returns] at h; cases h)
  refine ⟨_, _, pre0 _ ?_, hrun, hended, _, _, rfl, ?_, ⟨_, rfl⟩, hW, hsame.mono (by decide) (by decide)⟩
  · show Steps p.tables e below (s₁.setTop (mkF m 0 #[.val (.int p1), .val (.int p2), .unset, .unset, .unset, .unset, .unset, .unset] [])) _
    refine XS.iloadN X0.here hx rfl (hb hby at_0) rfl ?_
    show Steps p.tables e below (s₁.setTop (mkF m 1 #[.val (.int p1), .val (.int p2), .unset, .unset, .unset, .unset, .unset, .unset] [(.int p1)])) _
    refine XS.iconst X0.here hx rfl (hb hby at_1) ?_
    show Steps p.tables e below (s₁.setTop (mkF m 2 #[.val (.int p1), .val (.int p2), .unset, .unset, .unset, .unset, .unset, .unset] [(.int (1 : Int32)), (.int p1)])) _
    refine XS.iand X0.here hx rfl (hb hby at_2) rfl ?_
    show Steps p.tables e below (s₁.setTop (mkF m 3 #[.val (.int p1), .val (.int p2), .unset, .unset, .unset, .unset, .unset, .unset] [(.int (p1 &&& (1 : Int32)))])) _
    refine XS.ifNo X0.here hx rfl (hb hby at_3) rfl ((if0 _ _).trans (feq hc3).1) ?_
    show Steps p.tables e below (s₁.setTop (mkF m 6 #[.val (.int p1), .val (.int p2), .unset, .unset, .unset, .unset, .unset, .unset] [])) _
    refine XS.iconst X0.here hx rfl (hb hby at_6) ?_
    show Steps p.tables e below (s₁.setTop (mkF m 7 #[.val (.int p1), .val (.int p2), .unset, .unset, .unset, .unset, .unset, .unset] [(.int (1 : Int32))])) _
    refine XS.goto X0.here hx rfl (pc0 := 7) (pc' := 11) rfl (hb hby at_7) (by decide) (by decide) ?_
    show Steps p.tables e below (s₁.setTop (mkF m 11 #[.val (.int p1), .val (.int p2), .unset, .unset, .unset, .unset, .unset, .unset] [(.int (1 : Int32))])) _
    refine XS.istoreN X0.here hx rfl (hb hby at_11) rfl (l' := #[.val (.int p1), .val (.int p2), .val (.int (1 : Int32)), .unset, .unset, .unset, .unset, .unset]) rfl ?_
    show Steps p.tables e below (s₁.setTop (mkF m 12 #[.val (.int p1), .val (.int p2), .val (.int (1 : Int32)), .unset, .unset, .unset, .unset, .unset] [])) _
    refine XS.iloadN X0.here hx rfl (hb hby at_12) rfl ?_
    show Steps p.tables e below (s₁.setTop (mkF m 13 #[.val (.int p1), .val (.int p2), .val (.int (1 : Int32)), .unset, .unset, .unset, .unset, .unset] [(.int p2)])) _
    refine XS.iconst X0.here hx rfl (hb hby at_13) ?_
    show Steps p.tables e below (s₁.setTop (mkF m 14 #[.val (.int p1), .val (.int p2), .val (.int (1 : Int32)), .unset, .unset, .unset, .unset, .unset] [(.int (1 : Int32)), (.int p2)])) _
    refine XS.iand X0.here hx rfl (hb hby at_14) rfl ?_
    show Steps p.tables e below (s₁.setTop (mkF m 15 #[.val (.int p1), .val (.int p2), .val (.int (1 : Int32)), .unset, .unset, .unset, .unset, .unset] [(.int (p2 &&& (1 : Int32)))])) _
    refine XS.ifNo X0.here hx rfl (hb hby at_15) rfl ((if0 _ _).trans (feq hc15).1) ?_
    show Steps p.tables e below (s₁.setTop (mkF m 18 #[.val (.int p1), .val (.int p2), .val (.int (1 : Int32)), .unset, .unset, .unset, .unset, .unset] [])) _
    refine XS.iconst X0.here hx rfl (hb hby at_18) ?_
    show Steps p.tables e below (s₁.setTop (mkF m 19 #[.val (.int p1), .val (.int p2), .val (.int (1 : Int32)), .unset, .unset, .unset, .unset, .unset] [(.int (1 : Int32))])) _
    refine XS.goto X0.here hx rfl (pc0 := 19) (pc' := 23) rfl (hb hby at_19) (by decide) (by decide) ?_
    show Steps p.tables e below (s₁.setTop (mkF m 23 #[.val (.int p1), .val (.int p2), .val (.int (1 : Int32)), .unset, .unset, .unset, .unset, .unset] [(.int (1 : Int32))])) _
    refine XS.istoreN X0.here hx rfl (hb hby at_23) rfl (l' := #[.val (.int p1), .val (.int p2), .val (.int (1 : Int32)), .val (.int (1 : Int32)), .unset, .unset, .unset, .unset]) rfl ?_
    show Steps p.tables e below (s₁.setTop (mkF m 24 #[.val (.int p1), .val (.int p2), .val (.int (1 : Int32)), .val (.int (1 : Int32)), .unset, .unset, .unset, .unset] [])) _
    refine XS.iloadN X0.here hx rfl (hb hby at_24) rfl ?_
    show Steps p.tables e below (s₁.setTop (mkF m 25 #[.val (.int p1), .val (.int p2), .val (.int (1 : Int32)), .val (.int (1 : Int32)), .unset, .unset, .unset, .unset] [(.int (1 : Int32))])) _
    refine XS.ifNo X0.here hx rfl (hb hby at_25) rfl ((if0 _ _).trans (feq (by decide)).1) ?_
    show Steps p.tables e below (s₁.setTop (mkF m 28 #[.val (.int p1), .val (.int p2), .val (.int (1 : Int32)), .val (.int (1 : Int32)), .unset, .unset, .unset, .unset] [])) _
    refine st4 _ ?_
    show Steps p.tables e below (T4.setTop (mkF m 31 #[.val (.int p1), .val (.int p2), .val (.int (1 : Int32)), .val (.int (1 : Int32)), .unset, .unset, .unset, .unset] [(.ref oC)])) _
    refine XS.goto X4.here hx rfl (pc0 := 31) (pc' := 37) rfl (hb hby at_31) (by decide) (by decide) ?_
    show Steps p.tables e below (T4.setTop (mkF m 37 #[.val (.int p1), .val (.int p2), .val (.int (1 : Int32)), .val (.int (1 : Int32)), .unset, .unset, .unset, .unset] [(.ref oC)])) _
    refine XS.astore X4.here hx rfl (hb hby at_37) rfl rfl (l' := #[.val (.int p1), .val (.int p2), .val (.int (1 : Int32)), .val (.int (1 : Int32)), .val (.ref oC), .unset, .unset, .unset]) rfl ?_
    show Steps p.tables e below (T4.setTop (mkF m 39 #[.val (.int p1), .val (.int p2), .val (.int (1 : Int32)), .val (.int (1 : Int32)), .val (.ref oC), .unset, .unset, .unset] [])) _
    refine XS.iconst X4.here hx rfl (hb hby at_39) ?_
    show Steps p.tables e below (T4.setTop (mkF m 40 #[.val (.int p1), .val (.int p2), .val (.int (1 : Int32)), .val (.int (1 : Int32)), .val (.ref oC), .unset, .unset, .unset] [(.int (4 : Int32))])) _
    refine st5 _ ?_
    show Steps p.tables e below (T5.setTop (mkF m 43 #[.val (.int p1), .val (.int p2), .val (.int (1 : Int32)), .val (.int (1 : Int32)), .val (.ref oC), .unset, .unset, .unset] [(.ref b5)])) _
    refine XS.astore X5.here hx rfl (hb hby at_43) rfl rfl (l' := #[.val (.int p1), .val (.int p2), .val (.int (1 : Int32)), .val (.int (1 : Int32)), .val (.ref oC), .val (.ref b5), .unset, .unset]) rfl ?_
    show Steps p.tables e below (T5.setTop (mkF m 45 #[.val (.int p1), .val (.int p2), .val (.int (1 : Int32)), .val (.int (1 : Int32)), .val (.ref oC), .val (.ref b5), .unset, .unset] [])) _
    refine XS.aload X5.here hx rfl (hb hby at_45) rfl rfl ?_
    show Steps p.tables e below (T5.setTop (mkF m 47 #[.val (.int p1), .val (.int p2), .val (.int (1 : Int32)), .val (.int (1 : Int32)), .val (.ref oC), .val (.ref b5), .unset, .unset] [(.ref b5)])) _
    refine XS.iconst X5.here hx rfl (hb hby at_47) ?_
    show Steps p.tables e below (T5.setTop (mkF m 48 #[.val (.int p1), .val (.int p2), .val (.int (1 : Int32)), .val (.int (1 : Int32)), .val (.ref oC), .val (.ref b5), .unset, .unset] [(.int (0 : Int32)), (.ref b5)])) _
    refine st7 _ ?_
    show Steps p.tables e below (T7.setTop (mkF m 51 #[.val (.int p1), .val (.int p2), .val (.int (1 : Int32)), .val (.int (1 : Int32)), .val (.ref oC), .val (.ref b5), .unset, .unset] [(.ref eF), (.int (0 : Int32)), (.ref b5)])) _
    refine st8 _ ?_
    show Steps p.tables e below (T8.setTop (mkF m 52 #[.val (.int p1), .val (.int p2), .val (.int (1 : Int32)), .val (.int (1 : Int32)), .val (.ref oC), .val (.ref b5), .unset, .unset] [])) _
    refine XS.aload X8.here hx rfl (hb hby at_52) rfl rfl ?_
    show Steps p.tables e below (T8.setTop (mkF m 54 #[.val (.int p1), .val (.int p2), .val (.int (1 : Int32)), .val (.int (1 : Int32)), .val (.ref oC), .val (.ref b5), .unset, .unset] [(.ref b5)])) _
    refine XS.iconst X8.here hx rfl (hb hby at_54) ?_
    show Steps p.tables e below (T8.setTop (mkF m 55 #[.val (.int p1), .val (.int p2), .val (.int (1 : Int32)), .val (.int (1 : Int32)), .val (.ref oC), .val (.ref b5), .unset, .unset] [(.int (1 : Int32)), (.ref b5)])) _
    refine st10 _ ?_
    show Steps p.tables e below (T10.setTop (mkF m 58 #[.val (.int p1), .val (.int p2), .val (.int (1 : Int32)), .val (.int (1 : Int32)), .val (.ref oC), .val (.ref b5), .unset, .unset] [(.ref eR), (.int (1 : Int32)), (.ref b5)])) _
    refine st11 _ ?_
    show Steps p.tables e below (T11.setTop (mkF m 59 #[.val (.int p1), .val (.int p2), .val (.int (1 : Int32)), .val (.int (1 : Int32)), .val (.ref oC), .val (.ref b5), .unset, .unset] [])) _
    refine XS.aload X11.here hx rfl (hb hby at_59) rfl rfl ?_
    show Steps p.tables e below (T11.setTop (mkF m 61 #[.val (.int p1), .val (.int p2), .val (.int (1 : Int32)), .val (.int (1 : Int32)), .val (.ref oC), .val (.ref b5), .unset, .unset] [(.ref b5)])) _
    refine XS.iconst X11.here hx rfl (hb hby at_61) ?_
    show Steps p.tables e below (T11.setTop (mkF m 62 #[.val (.int p1), .val (.int p2), .val (.int (1 : Int32)), .val (.int (1 : Int32)), .val (.ref oC), .val (.ref b5), .unset, .unset] [(.int (2 : Int32)), (.ref b5)])) _
    refine st13 _ ?_
    show Steps p.tables e below (T13.setTop (mkF m 65 #[.val (.int p1), .val (.int p2), .val (.int (1 : Int32)), .val (.int (1 : Int32)), .val (.ref oC), .val (.ref b5), .unset, .unset] [(.ref eC), (.int (2 : Int32)), (.ref b5)])) _
    refine st14 _ ?_
    show Steps p.tables e below (T14.setTop (mkF m 66 #[.val (.int p1), .val (.int p2), .val (.int (1 : Int32)), .val (.int (1 : Int32)), .val (.ref oC), .val (.ref b5), .unset, .unset] [])) _
    refine XS.aload X14.here hx rfl (hb hby at_66) rfl rfl ?_
    show Steps p.tables e below (T14.setTop (mkF m 68 #[.val (.int p1), .val (.int p2), .val (.int (1 : Int32)), .val (.int (1 : Int32)), .val (.ref oC), .val (.ref b5), .unset, .unset] [(.ref b5)])) _
    refine XS.iconst X14.here hx rfl (hb hby at_68) ?_
    show Steps p.tables e below (T14.setTop (mkF m 69 #[.val (.int p1), .val (.int p2), .val (.int (1 : Int32)), .val (.int (1 : Int32)), .val (.ref oC), .val (.ref b5), .unset, .unset] [(.int (3 : Int32)), (.ref b5)])) _
    refine st15 _ ?_
    show Steps p.tables e below (T15.setTop (mkF m 72 #[.val (.int p1), .val (.int p2), .val (.int (1 : Int32)), .val (.int (1 : Int32)), .val (.ref oC), .val (.ref b5), .unset, .unset] [(.ref eC), (.int (3 : Int32)), (.ref b5)])) _
    refine st16 _ ?_
    show Steps p.tables e below (T16.setTop (mkF m 73 #[.val (.int p1), .val (.int p2), .val (.int (1 : Int32)), .val (.int (1 : Int32)), .val (.ref oC), .val (.ref b5), .unset, .unset] [])) _
    refine XS.iloadN X16.here hx rfl (hb hby at_73) rfl ?_
    show Steps p.tables e below (T16.setTop (mkF m 74 #[.val (.int p1), .val (.int p2), .val (.int (1 : Int32)), .val (.int (1 : Int32)), .val (.ref oC), .val (.ref b5), .unset, .unset] [(.int (1 : Int32))])) _
    refine XS.ifNo X16.here hx rfl (hb hby at_74) rfl ((if0 _ _).trans (feq (by decide)).1) ?_
    show Steps p.tables e below (T16.setTop (mkF m 77 #[.val (.int p1), .val (.int p2), .val (.int (1 : Int32)), .val (.int (1 : Int32)), .val (.ref oC), .val (.ref b5), .unset, .unset] [])) _
    refine XS.iconst X16.here hx rfl (hb hby at_77) ?_
    show Steps p.tables e below (T16.setTop (mkF m 78 #[.val (.int p1), .val (.int p2), .val (.int (1 : Int32)), .val (.int (1 : Int32)), .val (.ref oC), .val (.ref b5), .unset, .unset] [(.int (2 : Int32))])) _
    refine XS.goto X16.here hx rfl (pc0 := 78) (pc' := 82) rfl (hb hby at_78) (by decide) (by decide) ?_
    show Steps p.tables e below (T16.setTop (mkF m 82 #[.val (.int p1), .val (.int p2), .val (.int (1 : Int32)), .val (.int (1 : Int32)), .val (.ref oC), .val (.ref b5), .unset, .unset] [(.int (2 : Int32))])) _
    refine XS.iloadN X16.here hx rfl (hb hby at_82) rfl ?_
    show Steps p.tables e below (T16.setTop (mkF m 83 #[.val (.int p1), .val (.int p2), .val (.int (1 : Int32)), .val (.int (1 : Int32)), .val (.ref oC), .val (.ref b5), .unset, .unset] [(.int (1 : Int32)), (.int (2 : Int32))])) _
    refine XS.ifNo X16.here hx rfl (hb hby at_83) rfl ((if0 _ _).trans (feq (by decide)).1) ?_
    show Steps p.tables e below (T16.setTop (mkF m 86 #[.val (.int p1), .val (.int p2), .val (.int (1 : Int32)), .val (.int (1 : Int32)), .val (.ref oC), .val (.ref b5), .unset, .unset] [(.int (2 : Int32))])) _
    refine XS.iconst X16.here hx rfl (hb hby at_86) ?_
    show Steps p.tables e below (T16.setTop (mkF m 87 #[.val (.int p1), .val (.int p2), .val (.int (1 : Int32)), .val (.int (1 : Int32)), .val (.ref oC), .val (.ref b5), .unset, .unset] [(.int (1 : Int32)), (.int (2 : Int32))])) _
    refine XS.goto X16.here hx rfl (pc0 := 87) (pc' := 91) rfl (hb hby at_87) (by decide) (by decide) ?_
    show Steps p.tables e below (T16.setTop (mkF m 91 #[.val (.int p1), .val (.int p2), .val (.int (1 : Int32)), .val (.int (1 : Int32)), .val (.ref oC), .val (.ref b5), .unset, .unset] [(.int (1 : Int32)), (.int (2 : Int32))])) _
    refine XS.iadd X16.here hx rfl (hb hby at_91) rfl ?_
    show Steps p.tables e below (T16.setTop (mkF m 92 #[.val (.int p1), .val (.int p2), .val (.int (1 : Int32)), .val (.int (1 : Int32)), .val (.ref oC), .val (.ref b5), .unset, .unset] [(.int ((2 : Int32) + (1 : Int32)))])) _
    refine XS.istore X16.here hx rfl (hb hby at_92) rfl (l' := #[.val (.int p1), .val (.int p2), .val (.int (1 : Int32)), .val (.int (1 : Int32)), .val (.ref oC), .val (.ref b5), .val (.int ((2 : Int32) + (1 : Int32))), .unset]) rfl ?_
    show Steps p.tables e below (T16.setTop (mkF m 94 #[.val (.int p1), .val (.int p2), .val (.int (1 : Int32)), .val (.int (1 : Int32)), .val (.ref oC), .val (.ref b5), .val (.int ((2 : Int32) + (1 : Int32))), .unset] [])) _
    refine XS.aload X16.here hx rfl (hb hby at_94) rfl rfl ?_
    show Steps p.tables e below (T16.setTop (mkF m 96 #[.val (.int p1), .val (.int p2), .val (.int (1 : Int32)), .val (.int (1 : Int32)), .val (.ref oC), .val (.ref b5), .val (.int ((2 : Int32) + (1 : Int32))), .unset] [(.ref oC)])) _
    refine XS.iloadN X16.here hx rfl (hb hby at_96) rfl ?_
    show Steps p.tables e below (T16.setTop (mkF m 97 #[.val (.int p1), .val (.int p2), .val (.int (1 : Int32)), .val (.int (1 : Int32)), .val (.ref oC), .val (.ref b5), .val (.int ((2 : Int32) + (1 : Int32))), .unset] [(.int (1 : Int32)), (.ref oC)])) _
    refine st17 _ ?_
    show Steps p.tables e below (T17.setTop (mkF m 100 #[.val (.int p1), .val (.int p2), .val (.int (1 : Int32)), .val (.int (1 : Int32)), .val (.ref oC), .val (.ref b5), .val (.int ((2 : Int32) + (1 : Int32))), .unset] [(.ref eC)])) _
    refine XS.astore X17.here hx rfl (hb hby at_100) rfl rfl (l' := #[.val (.int p1), .val (.int p2), .val (.int (1 : Int32)), .val (.int (1 : Int32)), .val (.ref oC), .val (.ref b5), .val (.int ((2 : Int32) + (1 : Int32))), .val (.ref eC)]) rfl ?_
    show Steps p.tables e below (T17.setTop (mkF m 102 #[.val (.int p1), .val (.int p2), .val (.int (1 : Int32)), .val (.int (1 : Int32)), .val (.ref oC), .val (.ref b5), .val (.int ((2 : Int32) + (1 : Int32))), .val (.ref eC)] [])) _
    refine XS.aload X17.here hx rfl (hb hby at_102) rfl rfl ?_
    show Steps p.tables e below (T17.setTop (mkF m 104 #[.val (.int p1), .val (.int p2), .val (.int (1 : Int32)), .val (.int (1 : Int32)), .val (.ref oC), .val (.ref b5), .val (.int ((2 : Int32) + (1 : Int32))), .val (.ref eC)] [(.ref eC)])) _
    refine XS.aload X17.here hx rfl (hb hby at_104) rfl rfl ?_
    show Steps p.tables e below (T17.setTop (mkF m 106 #[.val (.int p1), .val (.int p2), .val (.int (1 : Int32)), .val (.int (1 : Int32)), .val (.ref oC), .val (.ref b5), .val (.int ((2 : Int32) + (1 : Int32))), .val (.ref eC)] [(.ref b5), (.ref eC)])) _
    refine XS.iload X17.here hx rfl (hb hby at_106) rfl ?_
    show Steps p.tables e below (T17.setTop (mkF m 108 #[.val (.int p1), .val (.int p2), .val (.int (1 : Int32)), .val (.int (1 : Int32)), .val (.ref oC), .val (.ref b5), .val (.int ((2 : Int32) + (1 : Int32))), .val (.ref eC)] [(.int ((2 : Int32) + (1 : Int32))), (.ref b5), (.ref eC)])) _
    refine X17.aaload hx (j := ((2 : Int32) + (1 : Int32))) (v := (.ref eC)) Ar_b5.1 (State.isArrayOf_alike hZ.alike Ar_b5.2.1) rfl Ar_b5.2.2 hin108 hat108 (g := (mkF m 108 #[.val (.int p1), .val (.int p2), .val (.int (1 : Int32)), .val (.int (1 : Int32)), .val (.ref oC), .val (.ref b5), .val (.int ((2 : Int32) + (1 : Int32))), .val (.ref eC)] [(.int ((2 : Int32) + (1 : Int32))), (.ref b5), (.ref eC)])) rfl rfl (hb hby at_108) _ ?_
    show Steps p.tables e below (T17.setTop (mkF m 109 #[.val (.int p1), .val (.int p2), .val (.int (1 : Int32)), .val (.int (1 : Int32)), .val (.ref oC), .val (.ref b5), .val (.int ((2 : Int32) + (1 : Int32))), .val (.ref eC)] [(.ref eC), (.ref eC)])) _
    refine Jvm.RoadKit.acmp (g := (mkF m 109 #[.val (.int p1), .val (.int p2), .val (.int (1 : Int32)), .val (.int (1 : Int32)), .val (.ref oC), .val (.ref b5), .val (.int ((2 : Int32) + (1 : Int32))), .val (.ref eC)] [(.ref eC), (.ref eC)])) X17 hx rfl rfl rfl (pc0 := 109) (pc' := 112) (same := true) rfl (hb hby at_109) rfl (decide_eq_true (rfl)) (by decide) (by decide) ?_
    show Steps p.tables e below (T17.setTop (mkF m 112 #[.val (.int p1), .val (.int p2), .val (.int (1 : Int32)), .val (.int (1 : Int32)), .val (.ref oC), .val (.ref b5), .val (.int ((2 : Int32) + (1 : Int32))), .val (.ref eC)] [])) _
    refine XS.iconst X17.here hx rfl (hb hby at_112) ?_
    show Steps p.tables e below (T17.setTop (mkF m 113 #[.val (.int p1), .val (.int p2), .val (.int (1 : Int32)), .val (.int (1 : Int32)), .val (.ref oC), .val (.ref b5), .val (.int ((2 : Int32) + (1 : Int32))), .val (.ref eC)] [(.int (1 : Int32))])) _
    refine XS.goto X17.here hx rfl (pc0 := 113) (pc' := 117) rfl (hb hby at_113) (by decide) (by decide) ?_
    show Steps p.tables e below (T17.setTop (mkF m 117 #[.val (.int p1), .val (.int p2), .val (.int (1 : Int32)), .val (.int (1 : Int32)), .val (.ref oC), .val (.ref b5), .val (.int ((2 : Int32) + (1 : Int32))), .val (.ref eC)] [(.int (1 : Int32))])) _
    exact retN X17 hx (t := .boolean) Bd.returns (by simp) (hb hby at_117) hr
  · show Q011 n0 _ T17.heap _
    exact ⟨rfl, N17⟩
def Q010 (n0 : Nat) (v : Option Value) (h : Heap) (L : List Loc) : Prop := v = some (.int (1 : Int32)) ∧ Fr n0 L
set_option maxRecDepth 65536 in
set_option maxHeartbeats 40000000 in
theorem rm010 (l : Launch) (Z : State) (a0 : Array Value) (hw : ∀ d ∈ tables_1, d.before a0 Z = true) (ws : List Jvm.Cond) (p1 : Int32) (p2 : Int32) (oC : Addr) (oR : Addr) (eF : Addr) (eR : Addr) (eC : Addr) (h0 : Heap) (n0 : Nat) (Z0 : n0 ≤ h0.size) (SoC : Sta Z h0 "com/example/demarcation/demarcation/CompletionCallback$Outcome" "COMMITTED" "Lcom/example/demarcation/demarcation/CompletionCallback$Outcome;" (.ref oC)) (SoR : Sta Z h0 "com/example/demarcation/demarcation/CompletionCallback$Outcome" "ROLLED_BACK" "Lcom/example/demarcation/demarcation/CompletionCallback$Outcome;" (.ref oR)) (SeF : Sta Z h0 "com/example/demarcation/demarcation/UnitLog$Ending" "ROLLBACK_REFUSED" "Lcom/example/demarcation/demarcation/UnitLog$Ending;" (.ref eF)) (SeR : Sta Z h0 "com/example/demarcation/demarcation/UnitLog$Ending" "ROLLED_BACK" "Lcom/example/demarcation/demarcation/UnitLog$Ending;" (.ref eR)) (SeC : Sta Z h0 "com/example/demarcation/demarcation/UnitLog$Ending" "COMMITTED" "Lcom/example/demarcation/demarcation/UnitLog$Ending;" (.ref eC)) (E_eF : Exa Z h0 eF "com/example/demarcation/demarcation/UnitLog$Ending") (E_eR : Exa Z h0 eR "com/example/demarcation/demarcation/UnitLog$Ending") (E_eC : Exa Z h0 eC "com/example/demarcation/demarcation/UnitLog$Ending") (hoRC : ¬ (oR = oC)) (hc3 : ¬ ((p1 &&& (1 : Int32)) = (0 : Int32))) (hc15 : (p2 &&& (1 : Int32)) = (0 : Int32)) :
    MetFree l x (head1 (Jvm.Cond.code x code maxLocals ret :: ws) room_1) (fun a U => a = #[(.int p1), (.int p2)] ∧ Z.Warmed39 U.vm ∧ U.heap = h0) (fun _ _ _ _ _ => True) (fun _ U o U' => ∃ v L, o = .returned v ∧ Q010 n0 v U'.heap L ∧ FrameEnd U o U' L room_1.cells room_1.slots) := by
  refine MetFree.of_bodySF (plainFor_of_name pn_0) hisR ?_
  intro p e s m args below meth c s₁ Bd hml0 hP hK
  obtain ⟨rfl, hZ, hh⟩ := hP
  have hx := Bd.exec
  have hby := Bd.bytes
  have hml : c.maxLocals = 8 := hml0
  have hown : s.vm.findClass "com/example/demarcation/demarcation/UnitLogOfTransactionPinLaw" = some m.cls := findClass_of_methodNamed Bd.named
  have hnm := (name_of_methodNamed Bd.named Bd.method).1
  have X0 : Stand p l e room_1 s m #[(.int p1), (.int p2)] below meth c s₁ [] 0 0 := Stand.of_body Bd
  have e0 : s₁.heap = h0 := by rw [← hh, Bd.state]; rfl
  have N0 := Fr.nil n0
  have pre0 : ∀ t, Steps p.tables e below (s₁.setTop (mkF m 0 #[.val (.int p1), .val (.int p2), .unset, .unset, .unset, .unset, .unset, .unset] [])) t → Steps p.tables e below (s₁.setTop (entryFrame m #[(.int p1), (.int p2)] maxLocals)) t := fun t k => castTop (ef_0 m p1 p2) k
  obtain ⟨T4, X4, e4, st4⟩ := getS2 X0 hx hZ hown (host := "") (Or.inl (hw _ (List.mem_of_getElem? (i := 20) rfl))) Via.refl e0 SoC (g := (mkF m 28 #[.val (.int p1), .val (.int p2), .val (.int (1 : Int32)), .val (.int (0 : Int32)), .unset, .unset, .unset, .unset] [])) rfl (hb hby at_28)
  obtain ⟨T5, h5, k5, X5, e5, E5, A5, O5, st5⟩ := newR X4 hx hZ hown (hw _ (List.mem_of_getElem? (i := 3) rfl)) (hw _ (List.mem_of_getElem? (i := 4) rfl)) e4 (g := (mkF m 40 #[.val (.int p1), .val (.int p2), .val (.int (1 : Int32)), .val (.int (0 : Int32)), .val (.ref oC), .unset, .unset, .unset] [(.int (4 : Int32))])) rfl (hb hby at_40) rfl (by decide) (cap := 4) (by decide) (by decide) (by decide) (by decide)
  obtain ⟨b5, g5⟩ : ∃ z, z = h0.size := ⟨_, rfl⟩      -- the fresh array's address
  rw [← g5] at A5 st5
  have V_b5 := (Arv.new A5 (by decide)).pad (vs' := [.null, .null, .null, .null]) (pad_rep [] .null 4)
  have g_b5 : n0 ≤ b5 := Nat.le_trans Z0 (Nat.le_of_eq g5.symm)
  have sz_b5 : h0.size ≤ b5 := (Nat.le_trans (Keep.refl h0 []).1 (Nat.le_of_eq g5.symm))
  have K5 : Keep h0 h5 [] := (Keep.refl h0 []).ext E5
  obtain ⟨T7, X7, e7, st7⟩ := getS2 X5 hx hZ hown (host := "") (Or.inl (hw _ (List.mem_of_getElem? (i := 5) rfl))) Via.refl e5 (SeF.ext (own_ext K5)) (g := (mkF m 48 #[.val (.int p1), .val (.int p2), .val (.int (1 : Int32)), .val (.int (0 : Int32)), .val (.ref oC), .val (.ref b5), .unset, .unset] [(.int (0 : Int32)), (.ref b5)])) rfl (hb hby at_48)
  obtain ⟨cl_b5_51, Ar_b5, q_b5, S_b5, N_b5, H_b5, G_b5⟩ := V_b5
  have hin51 : ¬ ((0 : Int32) < 0 ∨ cl_b5_51.slots.size ≤ ((0 : Int32)).toNatClampNeg) := inb_of S_b5 ⟨by decide, by decide⟩
  have Sto51 := Sto.ofV Ar_b5 q_b5 O5 (Ins.self (E_eF.ext (own_ext K5)))
  obtain ⟨T8, h8, X8, e8, W8, st8⟩ := stR X7 hx hZ e7 Ar_b5 (j := (0 : Int32)) hin51 rfl Sto51 (g := (mkF m 51 #[.val (.int p1), .val (.int p2), .val (.int (1 : Int32)), .val (.int (0 : Int32)), .val (.ref oC), .val (.ref b5), .unset, .unset] [(.ref eF), (.int (0 : Int32)), (.ref b5)])) rfl rfl (hb hby at_51)
  have V_b5_8 := Arv.set Ar_b5 q_b5 S_b5 N_b5 H_b5 G_b5 (v := .ref eF) rfl W8 0 rfl (Nat.le_of_ble_eq_true rfl)
  have N8 := Fr.snoc X8 N0 g_b5
  have K8 : Keep h0 h8 [] := K5.wr W8 (Or.inr sz_b5)
  obtain ⟨T10, X10, e10, st10⟩ := getS2 X8 hx hZ hown (host := "") (Or.inl (hw _ (List.mem_of_getElem? (i := 9) rfl))) Via.refl e8 (SeR.ext (own_ext K8)) (g := (mkF m 55 #[.val (.int p1), .val (.int p2), .val (.int (1 : Int32)), .val (.int (0 : Int32)), .val (.ref oC), .val (.ref b5), .unset, .unset] [(.int (1 : Int32)), (.ref b5)])) rfl (hb hby at_55)
  obtain ⟨cl_b5_58, Ar_b5, q_b5, S_b5, N_b5, H_b5, G_b5⟩ := V_b5_8
  have hin58 : ¬ ((1 : Int32) < 0 ∨ cl_b5_58.slots.size ≤ ((1 : Int32)).toNatClampNeg) := inb_of S_b5 ⟨by decide, by decide⟩
  have Sto58 := Sto.ofV Ar_b5 q_b5 O5 (Ins.self (E_eR.ext (own_ext K8)))
  obtain ⟨T11, h11, X11, e11, W11, st11⟩ := stR X10 hx hZ e10 Ar_b5 (j := (1 : Int32)) hin58 rfl Sto58 (g := (mkF m 58 #[.val (.int p1), .val (.int p2), .val (.int (1 : Int32)), .val (.int (0 : Int32)), .val (.ref oC), .val (.ref b5), .unset, .unset] [(.ref eR), (.int (1 : Int32)), (.ref b5)])) rfl rfl (hb hby at_58)
  have V_b5_11 := Arv.set Ar_b5 q_b5 S_b5 N_b5 H_b5 G_b5 (v := .ref eR) rfl W11 1 rfl (Nat.le_of_ble_eq_true rfl)
  have N11 := Fr.snoc X11 N8 g_b5
  have K11 : Keep h0 h11 [] := K8.wr W11 (Or.inr sz_b5)
  obtain ⟨T13, X13, e13, st13⟩ := getS2 X11 hx hZ hown (host := "") (Or.inl (hw _ (List.mem_of_getElem? (i := 11) rfl))) Via.refl e11 (SeC.ext (own_ext K11)) (g := (mkF m 62 #[.val (.int p1), .val (.int p2), .val (.int (1 : Int32)), .val (.int (0 : Int32)), .val (.ref oC), .val (.ref b5), .unset, .unset] [(.int (2 : Int32)), (.ref b5)])) rfl (hb hby at_62)
  obtain ⟨cl_b5_65, Ar_b5, q_b5, S_b5, N_b5, H_b5, G_b5⟩ := V_b5_11
  have hin65 : ¬ ((2 : Int32) < 0 ∨ cl_b5_65.slots.size ≤ ((2 : Int32)).toNatClampNeg) := inb_of S_b5 ⟨by decide, by decide⟩
  have Sto65 := Sto.ofV Ar_b5 q_b5 O5 (Ins.self (E_eC.ext (own_ext K11)))
  obtain ⟨T14, h14, X14, e14, W14, st14⟩ := stR X13 hx hZ e13 Ar_b5 (j := (2 : Int32)) hin65 rfl Sto65 (g := (mkF m 65 #[.val (.int p1), .val (.int p2), .val (.int (1 : Int32)), .val (.int (0 : Int32)), .val (.ref oC), .val (.ref b5), .unset, .unset] [(.ref eC), (.int (2 : Int32)), (.ref b5)])) rfl rfl (hb hby at_65)
  have V_b5_14 := Arv.set Ar_b5 q_b5 S_b5 N_b5 H_b5 G_b5 (v := .ref eC) rfl W14 2 rfl (Nat.le_of_ble_eq_true rfl)
  have N14 := Fr.snoc X14 N11 g_b5
  have K14 : Keep h0 h14 [] := K11.wr W14 (Or.inr sz_b5)
  obtain ⟨T15, X15, e15, st15⟩ := getS2 X14 hx hZ hown (host := "") (Or.inl (hw _ (List.mem_of_getElem? (i := 11) rfl))) Via.refl e14 (SeC.ext (own_ext K14)) (g := (mkF m 69 #[.val (.int p1), .val (.int p2), .val (.int (1 : Int32)), .val (.int (0 : Int32)), .val (.ref oC), .val (.ref b5), .unset, .unset] [(.int (3 : Int32)), (.ref b5)])) rfl (hb hby at_69)
  obtain ⟨cl_b5_72, Ar_b5, q_b5, S_b5, N_b5, H_b5, G_b5⟩ := V_b5_14
  have hin72 : ¬ ((3 : Int32) < 0 ∨ cl_b5_72.slots.size ≤ ((3 : Int32)).toNatClampNeg) := inb_of S_b5 ⟨by decide, by decide⟩
  have Sto72 := Sto.ofV Ar_b5 q_b5 O5 (Ins.self (E_eC.ext (own_ext K14)))
  obtain ⟨T16, h16, X16, e16, W16, st16⟩ := stR X15 hx hZ e15 Ar_b5 (j := (3 : Int32)) hin72 rfl Sto72 (g := (mkF m 72 #[.val (.int p1), .val (.int p2), .val (.int (1 : Int32)), .val (.int (0 : Int32)), .val (.ref oC), .val (.ref b5), .unset, .unset] [(.ref eC), (.int (3 : Int32)), (.ref b5)])) rfl rfl (hb hby at_72)
  have V_b5_16 := Arv.set Ar_b5 q_b5 S_b5 N_b5 H_b5 G_b5 (v := .ref eC) rfl W16 3 rfl (Nat.le_of_ble_eq_true rfl)
  have N16 := Fr.snoc X16 N14 g_b5
  have K16 : Keep h0 h16 [] := K14.wr W16 (Or.inr sz_b5)
  have OH : Ext h0 h16 := own_ext K16
  have ZH : n0 ≤ h16.size := Nat.le_trans Z0 K16.1
  obtain ⟨_, _, ⟨T17, L17, k17, n17⟩, -, X17, ⟨Lc17, hQ17, l17, y17, z17⟩, st17⟩ := Jvm.LawKit.callS X16 hx (y := (⟨"com/example/demarcation/demarcation/UnitLog$Ending", "ofTransaction", "(Lcom/example/demarcation/demarcation/CompletionCallback$Outcome;Z)Lcom/example/demarcation/demarcation/UnitLog$Ending;"⟩ : MethodName)) hown (mvT hZ (hw _ (List.mem_of_getElem? (i := 13) rfl))) (mvT hZ (hw _ (List.mem_of_getElem? (i := 14) rfl))) (mvT hZ (hw _ (List.mem_of_getElem? (i := 6) rfl))) (mvT hZ (hw _ (List.mem_of_getElem? (i := 15) rfl))) (by decide) (backOf (W := 0) (rm1c l Z a0 hw [] oC (0 : Int32) oC eC h16 n0 ZH (SoC.ext OH) (SeC.ext OH) rfl) hZ (hw _ (List.mem_of_getElem? (i := 15) rfl)) (hw _ (List.mem_of_getElem? (i := 6) rfl)) (by decide) (by decide)) (g := (mkF m 97 #[.val (.int p1), .val (.int p2), .val (.int (1 : Int32)), .val (.int (0 : Int32)), .val (.ref oC), .val (.ref b5), .val (.int ((2 : Int32) + (0 : Int32))), .unset] [(.int (0 : Int32)), (.ref oC)])) rfl (by rw [hml]; rfl) (argsL := [(.ref oC), (.int (0 : Int32))]) (rest := []) (lenOf pd_0_0 rfl) rfl (by show 2 * 0 + _ ≤ _; exact Nat.le_of_eq rfl) (hb hby at_97) (fun _ _ => ⟨rfl, e16, (by decide : 1 + 0 ≤ _), (by decide : 4 + 0 ≤ _)⟩)
  dsimp only [Pt.U, Pt.locs, Pt.cells, Pt.slots] at X17 l17 y17 z17 st17 hQ17
  subst l17 y17 z17
  obtain ⟨rfl, N17q, eqc⟩ := hQ17
  have V_A := V_b5_16.keep (own_same eqc (ws := [])) (by simp)
  obtain ⟨cl_b5_108, Ar_b5, q_b5, S_b5, N_b5, H_b5, G_b5⟩ := V_A
  have hin108 : ¬ (((2 : Int32) + (0 : Int32)) < 0 ∨ cl_b5_108.slots.size ≤ (((2 : Int32) + (0 : Int32))).toNatClampNeg) := inb_of S_b5 ⟨by decide, by decide⟩
  have hat108 : cl_b5_108.slots[(((2 : Int32) + (0 : Int32))).toNatClampNeg]? = some (.ref eC) := Has.at H_b5 hin108 rfl      -- what it returned, that it wrote nothing old, and the rest of your Q1
  have N17 := Fr.app N16 N17q
  obtain ⟨fs, hr, hrun, hended, hW, hsame⟩ := X17.leave (v := some (.int (1 : Int32))) (fun h => by rw [Bd.returns] at h; cases h)
  refine ⟨_, _, pre0 _ ?_, hrun, hended, _, _, rfl, ?_, ⟨_, rfl⟩, hW, hsame.mono (by decide) (by decide)⟩
  · show Steps p.tables e below (s₁.setTop (mkF m 0 #[.val (.int p1), .val (.int p2), .unset, .unset, .unset, .unset, .unset, .unset] [])) _
    refine XS.iloadN X0.here hx rfl (hb hby at_0) rfl ?_
    show Steps p.tables e below (s₁.setTop (mkF m 1 #[.val (.int p1), .val (.int p2), .unset, .unset, .unset, .unset, .unset, .unset] [(.int p1)])) _
    refine XS.iconst X0.here hx rfl (hb hby at_1) ?_
    show Steps p.tables e below (s₁.setTop (mkF m 2 #[.val (.int p1), .val (.int p2), .unset, .unset, .unset, .unset, .unset, .unset] [(.int (1 : Int32)), (.int p1)])) _
    refine XS.iand X0.here hx rfl (hb hby at_2) rfl ?_
    show Steps p.tables e below (s₁.setTop (mkF m 3 #[.val (.int p1), .val (.int p2), .unset, .unset, .unset, .unset, .unset, .unset] [(.int (p1 &&& (1 : Int32)))])) _
    refine XS.ifNo X0.here hx rfl (hb hby at_3) rfl ((if0 _ _).trans (feq hc3).1) ?_
    show Steps p.tables e below (s₁.setTop (mkF m 6 #[.val (.int p1), .val (.int p2), .unset, .unset, .unset, .unset, .unset, .unset] [])) _
    refine XS.iconst X0.here hx rfl (hb hby at_6) ?_
    show Steps p.tables e below (s₁.setTop (mkF m 7 #[.val (.int p1), .val (.int p2), .unset, .unset, .unset, .unset, .unset, .unset] [(.int (1 : Int32))])) _
    refine XS.goto X0.here hx rfl (pc0 := 7) (pc' := 11) rfl (hb hby at_7) (by decide) (by decide) ?_
    show Steps p.tables e below (s₁.setTop (mkF m 11 #[.val (.int p1), .val (.int p2), .unset, .unset, .unset, .unset, .unset, .unset] [(.int (1 : Int32))])) _
    refine XS.istoreN X0.here hx rfl (hb hby at_11) rfl (l' := #[.val (.int p1), .val (.int p2), .val (.int (1 : Int32)), .unset, .unset, .unset, .unset, .unset]) rfl ?_
    show Steps p.tables e below (s₁.setTop (mkF m 12 #[.val (.int p1), .val (.int p2), .val (.int (1 : Int32)), .unset, .unset, .unset, .unset, .unset] [])) _
    refine XS.iloadN X0.here hx rfl (hb hby at_12) rfl ?_
    show Steps p.tables e below (s₁.setTop (mkF m 13 #[.val (.int p1), .val (.int p2), .val (.int (1 : Int32)), .unset, .unset, .unset, .unset, .unset] [(.int p2)])) _
    refine XS.iconst X0.here hx rfl (hb hby at_13) ?_
    show Steps p.tables e below (s₁.setTop (mkF m 14 #[.val (.int p1), .val (.int p2), .val (.int (1 : Int32)), .unset, .unset, .unset, .unset, .unset] [(.int (1 : Int32)), (.int p2)])) _
    refine XS.iand X0.here hx rfl (hb hby at_14) rfl ?_
    show Steps p.tables e below (s₁.setTop (mkF m 15 #[.val (.int p1), .val (.int p2), .val (.int (1 : Int32)), .unset, .unset, .unset, .unset, .unset] [(.int (p2 &&& (1 : Int32)))])) _
    refine XS.ifYes X0.here hx rfl (pc0 := 15) (pc' := 22) rfl (hb hby at_15) rfl ((if0 _ _).trans (teq hc15).1) (by decide) (by decide) ?_
    show Steps p.tables e below (s₁.setTop (mkF m 22 #[.val (.int p1), .val (.int p2), .val (.int (1 : Int32)), .unset, .unset, .unset, .unset, .unset] [])) _
    refine XS.iconst X0.here hx rfl (hb hby at_22) ?_
    show Steps p.tables e below (s₁.setTop (mkF m 23 #[.val (.int p1), .val (.int p2), .val (.int (1 : Int32)), .unset, .unset, .unset, .unset, .unset] [(.int (0 : Int32))])) _
    refine XS.istoreN X0.here hx rfl (hb hby at_23) rfl (l' := #[.val (.int p1), .val (.int p2), .val (.int (1 : Int32)), .val (.int (0 : Int32)), .unset, .unset, .unset, .unset]) rfl ?_
    show Steps p.tables e below (s₁.setTop (mkF m 24 #[.val (.int p1), .val (.int p2), .val (.int (1 : Int32)), .val (.int (0 : Int32)), .unset, .unset, .unset, .unset] [])) _
    refine XS.iloadN X0.here hx rfl (hb hby at_24) rfl ?_
    show Steps p.tables e below (s₁.setTop (mkF m 25 #[.val (.int p1), .val (.int p2), .val (.int (1 : Int32)), .val (.int (0 : Int32)), .unset, .unset, .unset, .unset] [(.int (1 : Int32))])) _
    refine XS.ifNo X0.here hx rfl (hb hby at_25) rfl ((if0 _ _).trans (feq (by decide)).1) ?_
    show Steps p.tables e below (s₁.setTop (mkF m 28 #[.val (.int p1), .val (.int p2), .val (.int (1 : Int32)), .val (.int (0 : Int32)), .unset, .unset, .unset, .unset] [])) _
    refine st4 _ ?_
    show Steps p.tables e below (T4.setTop (mkF m 31 #[.val (.int p1), .val (.int p2), .val (.int (1 : Int32)), .val (.int (0 : Int32)), .unset, .unset, .unset, .unset] [(.ref oC)])) _
    refine XS.goto X4.here hx rfl (pc0 := 31) (pc' := 37) rfl (hb hby at_31) (by decide) (by decide) ?_
    show Steps p.tables e below (T4.setTop (mkF m 37 #[.val (.int p1), .val (.int p2), .val (.int (1 : Int32)), .val (.int (0 : Int32)), .unset, .unset, .unset, .unset] [(.ref oC)])) _
    refine XS.astore X4.here hx rfl (hb hby at_37) rfl rfl (l' := #[.val (.int p1), .val (.int p2), .val (.int (1 : Int32)), .val (.int (0 : Int32)), .val (.ref oC), .unset, .unset, .unset]) rfl ?_
    show Steps p.tables e below (T4.setTop (mkF m 39 #[.val (.int p1), .val (.int p2), .val (.int (1 : Int32)), .val (.int (0 : Int32)), .val (.ref oC), .unset, .unset, .unset] [])) _
    refine XS.iconst X4.here hx rfl (hb hby at_39) ?_
    show Steps p.tables e below (T4.setTop (mkF m 40 #[.val (.int p1), .val (.int p2), .val (.int (1 : Int32)), .val (.int (0 : Int32)), .val (.ref oC), .unset, .unset, .unset] [(.int (4 : Int32))])) _
    refine st5 _ ?_
    show Steps p.tables e below (T5.setTop (mkF m 43 #[.val (.int p1), .val (.int p2), .val (.int (1 : Int32)), .val (.int (0 : Int32)), .val (.ref oC), .unset, .unset, .unset] [(.ref b5)])) _
    refine XS.astore X5.here hx rfl (hb hby at_43) rfl rfl (l' := #[.val (.int p1), .val (.int p2), .val (.int (1 : Int32)), .val (.int (0 : Int32)), .val (.ref oC), .val (.ref b5), .unset, .unset]) rfl ?_
    show Steps p.tables e below (T5.setTop (mkF m 45 #[.val (.int p1), .val (.int p2), .val (.int (1 : Int32)), .val (.int (0 : Int32)), .val (.ref oC), .val (.ref b5), .unset, .unset] [])) _
    refine XS.aload X5.here hx rfl (hb hby at_45) rfl rfl ?_
    show Steps p.tables e below (T5.setTop (mkF m 47 #[.val (.int p1), .val (.int p2), .val (.int (1 : Int32)), .val (.int (0 : Int32)), .val (.ref oC), .val (.ref b5), .unset, .unset] [(.ref b5)])) _
    refine XS.iconst X5.here hx rfl (hb hby at_47) ?_
    show Steps p.tables e below (T5.setTop (mkF m 48 #[.val (.int p1), .val (.int p2), .val (.int (1 : Int32)), .val (.int (0 : Int32)), .val (.ref oC), .val (.ref b5), .unset, .unset] [(.int (0 : Int32)), (.ref b5)])) _
    refine st7 _ ?_
    show Steps p.tables e below (T7.setTop (mkF m 51 #[.val (.int p1), .val (.int p2), .val (.int (1 : Int32)), .val (.int (0 : Int32)), .val (.ref oC), .val (.ref b5), .unset, .unset] [(.ref eF), (.int (0 : Int32)), (.ref b5)])) _
    refine st8 _ ?_
    show Steps p.tables e below (T8.setTop (mkF m 52 #[.val (.int p1), .val (.int p2), .val (.int (1 : Int32)), .val (.int (0 : Int32)), .val (.ref oC), .val (.ref b5), .unset, .unset] [])) _
    refine XS.aload X8.here hx rfl (hb hby at_52) rfl rfl ?_
    show Steps p.tables e below (T8.setTop (mkF m 54 #[.val (.int p1), .val (.int p2), .val (.int (1 : Int32)), .val (.int (0 : Int32)), .val (.ref oC), .val (.ref b5), .unset, .unset] [(.ref b5)])) _
    refine XS.iconst X8.here hx rfl (hb hby at_54) ?_
    show Steps p.tables e below (T8.setTop (mkF m 55 #[.val (.int p1), .val (.int p2), .val (.int (1 : Int32)), .val (.int (0 : Int32)), .val (.ref oC), .val (.ref b5), .unset, .unset] [(.int (1 : Int32)), (.ref b5)])) _
    refine st10 _ ?_
    show Steps p.tables e below (T10.setTop (mkF m 58 #[.val (.int p1), .val (.int p2), .val (.int (1 : Int32)), .val (.int (0 : Int32)), .val (.ref oC), .val (.ref b5), .unset, .unset] [(.ref eR), (.int (1 : Int32)), (.ref b5)])) _
    refine st11 _ ?_
    show Steps p.tables e below (T11.setTop (mkF m 59 #[.val (.int p1), .val (.int p2), .val (.int (1 : Int32)), .val (.int (0 : Int32)), .val (.ref oC), .val (.ref b5), .unset, .unset] [])) _
    refine XS.aload X11.here hx rfl (hb hby at_59) rfl rfl ?_
    show Steps p.tables e below (T11.setTop (mkF m 61 #[.val (.int p1), .val (.int p2), .val (.int (1 : Int32)), .val (.int (0 : Int32)), .val (.ref oC), .val (.ref b5), .unset, .unset] [(.ref b5)])) _
    refine XS.iconst X11.here hx rfl (hb hby at_61) ?_
    show Steps p.tables e below (T11.setTop (mkF m 62 #[.val (.int p1), .val (.int p2), .val (.int (1 : Int32)), .val (.int (0 : Int32)), .val (.ref oC), .val (.ref b5), .unset, .unset] [(.int (2 : Int32)), (.ref b5)])) _
    refine st13 _ ?_
    show Steps p.tables e below (T13.setTop (mkF m 65 #[.val (.int p1), .val (.int p2), .val (.int (1 : Int32)), .val (.int (0 : Int32)), .val (.ref oC), .val (.ref b5), .unset, .unset] [(.ref eC), (.int (2 : Int32)), (.ref b5)])) _
    refine st14 _ ?_
    show Steps p.tables e below (T14.setTop (mkF m 66 #[.val (.int p1), .val (.int p2), .val (.int (1 : Int32)), .val (.int (0 : Int32)), .val (.ref oC), .val (.ref b5), .unset, .unset] [])) _
    refine XS.aload X14.here hx rfl (hb hby at_66) rfl rfl ?_
    show Steps p.tables e below (T14.setTop (mkF m 68 #[.val (.int p1), .val (.int p2), .val (.int (1 : Int32)), .val (.int (0 : Int32)), .val (.ref oC), .val (.ref b5), .unset, .unset] [(.ref b5)])) _
    refine XS.iconst X14.here hx rfl (hb hby at_68) ?_
    show Steps p.tables e below (T14.setTop (mkF m 69 #[.val (.int p1), .val (.int p2), .val (.int (1 : Int32)), .val (.int (0 : Int32)), .val (.ref oC), .val (.ref b5), .unset, .unset] [(.int (3 : Int32)), (.ref b5)])) _
    refine st15 _ ?_
    show Steps p.tables e below (T15.setTop (mkF m 72 #[.val (.int p1), .val (.int p2), .val (.int (1 : Int32)), .val (.int (0 : Int32)), .val (.ref oC), .val (.ref b5), .unset, .unset] [(.ref eC), (.int (3 : Int32)), (.ref b5)])) _
    refine st16 _ ?_
    show Steps p.tables e below (T16.setTop (mkF m 73 #[.val (.int p1), .val (.int p2), .val (.int (1 : Int32)), .val (.int (0 : Int32)), .val (.ref oC), .val (.ref b5), .unset, .unset] [])) _
    refine XS.iloadN X16.here hx rfl (hb hby at_73) rfl ?_
    show Steps p.tables e below (T16.setTop (mkF m 74 #[.val (.int p1), .val (.int p2), .val (.int (1 : Int32)), .val (.int (0 : Int32)), .val (.ref oC), .val (.ref b5), .unset, .unset] [(.int (1 : Int32))])) _
    refine XS.ifNo X16.here hx rfl (hb hby at_74) rfl ((if0 _ _).trans (feq (by decide)).1) ?_
    show Steps p.tables e below (T16.setTop (mkF m 77 #[.val (.int p1), .val (.int p2), .val (.int (1 : Int32)), .val (.int (0 : Int32)), .val (.ref oC), .val (.ref b5), .unset, .unset] [])) _
    refine XS.iconst X16.here hx rfl (hb hby at_77) ?_
    show Steps p.tables e below (T16.setTop (mkF m 78 #[.val (.int p1), .val (.int p2), .val (.int (1 : Int32)), .val (.int (0 : Int32)), .val (.ref oC), .val (.ref b5), .unset, .unset] [(.int (2 : Int32))])) _
    refine XS.goto X16.here hx rfl (pc0 := 78) (pc' := 82) rfl (hb hby at_78) (by decide) (by decide) ?_
    show Steps p.tables e below (T16.setTop (mkF m 82 #[.val (.int p1), .val (.int p2), .val (.int (1 : Int32)), .val (.int (0 : Int32)), .val (.ref oC), .val (.ref b5), .unset, .unset] [(.int (2 : Int32))])) _
    refine XS.iloadN X16.here hx rfl (hb hby at_82) rfl ?_
    show Steps p.tables e below (T16.setTop (mkF m 83 #[.val (.int p1), .val (.int p2), .val (.int (1 : Int32)), .val (.int (0 : Int32)), .val (.ref oC), .val (.ref b5), .unset, .unset] [(.int (0 : Int32)), (.int (2 : Int32))])) _
    refine XS.ifYes X16.here hx rfl (pc0 := 83) (pc' := 90) rfl (hb hby at_83) rfl ((if0 _ _).trans (teq (rfl : (0 : Int32) = (0 : Int32))).1) (by decide) (by decide) ?_
    show Steps p.tables e below (T16.setTop (mkF m 90 #[.val (.int p1), .val (.int p2), .val (.int (1 : Int32)), .val (.int (0 : Int32)), .val (.ref oC), .val (.ref b5), .unset, .unset] [(.int (2 : Int32))])) _
    refine XS.iconst X16.here hx rfl (hb hby at_90) ?_
    show Steps p.tables e below (T16.setTop (mkF m 91 #[.val (.int p1), .val (.int p2), .val (.int (1 : Int32)), .val (.int (0 : Int32)), .val (.ref oC), .val (.ref b5), .unset, .unset] [(.int (0 : Int32)), (.int (2 : Int32))])) _
    refine XS.iadd X16.here hx rfl (hb hby at_91) rfl ?_
    show Steps p.tables e below (T16.setTop (mkF m 92 #[.val (.int p1), .val (.int p2), .val (.int (1 : Int32)), .val (.int (0 : Int32)), .val (.ref oC), .val (.ref b5), .unset, .unset] [(.int ((2 : Int32) + (0 : Int32)))])) _
    refine XS.istore X16.here hx rfl (hb hby at_92) rfl (l' := #[.val (.int p1), .val (.int p2), .val (.int (1 : Int32)), .val (.int (0 : Int32)), .val (.ref oC), .val (.ref b5), .val (.int ((2 : Int32) + (0 : Int32))), .unset]) rfl ?_
    show Steps p.tables e below (T16.setTop (mkF m 94 #[.val (.int p1), .val (.int p2), .val (.int (1 : Int32)), .val (.int (0 : Int32)), .val (.ref oC), .val (.ref b5), .val (.int ((2 : Int32) + (0 : Int32))), .unset] [])) _
    refine XS.aload X16.here hx rfl (hb hby at_94) rfl rfl ?_
    show Steps p.tables e below (T16.setTop (mkF m 96 #[.val (.int p1), .val (.int p2), .val (.int (1 : Int32)), .val (.int (0 : Int32)), .val (.ref oC), .val (.ref b5), .val (.int ((2 : Int32) + (0 : Int32))), .unset] [(.ref oC)])) _
    refine XS.iloadN X16.here hx rfl (hb hby at_96) rfl ?_
    show Steps p.tables e below (T16.setTop (mkF m 97 #[.val (.int p1), .val (.int p2), .val (.int (1 : Int32)), .val (.int (0 : Int32)), .val (.ref oC), .val (.ref b5), .val (.int ((2 : Int32) + (0 : Int32))), .unset] [(.int (0 : Int32)), (.ref oC)])) _
    refine st17 _ ?_
    show Steps p.tables e below (T17.setTop (mkF m 100 #[.val (.int p1), .val (.int p2), .val (.int (1 : Int32)), .val (.int (0 : Int32)), .val (.ref oC), .val (.ref b5), .val (.int ((2 : Int32) + (0 : Int32))), .unset] [(.ref eC)])) _
    refine XS.astore X17.here hx rfl (hb hby at_100) rfl rfl (l' := #[.val (.int p1), .val (.int p2), .val (.int (1 : Int32)), .val (.int (0 : Int32)), .val (.ref oC), .val (.ref b5), .val (.int ((2 : Int32) + (0 : Int32))), .val (.ref eC)]) rfl ?_
    show Steps p.tables e below (T17.setTop (mkF m 102 #[.val (.int p1), .val (.int p2), .val (.int (1 : Int32)), .val (.int (0 : Int32)), .val (.ref oC), .val (.ref b5), .val (.int ((2 : Int32) + (0 : Int32))), .val (.ref eC)] [])) _
    refine XS.aload X17.here hx rfl (hb hby at_102) rfl rfl ?_
    show Steps p.tables e below (T17.setTop (mkF m 104 #[.val (.int p1), .val (.int p2), .val (.int (1 : Int32)), .val (.int (0 : Int32)), .val (.ref oC), .val (.ref b5), .val (.int ((2 : Int32) + (0 : Int32))), .val (.ref eC)] [(.ref eC)])) _
    refine XS.aload X17.here hx rfl (hb hby at_104) rfl rfl ?_
    show Steps p.tables e below (T17.setTop (mkF m 106 #[.val (.int p1), .val (.int p2), .val (.int (1 : Int32)), .val (.int (0 : Int32)), .val (.ref oC), .val (.ref b5), .val (.int ((2 : Int32) + (0 : Int32))), .val (.ref eC)] [(.ref b5), (.ref eC)])) _
    refine XS.iload X17.here hx rfl (hb hby at_106) rfl ?_
    show Steps p.tables e below (T17.setTop (mkF m 108 #[.val (.int p1), .val (.int p2), .val (.int (1 : Int32)), .val (.int (0 : Int32)), .val (.ref oC), .val (.ref b5), .val (.int ((2 : Int32) + (0 : Int32))), .val (.ref eC)] [(.int ((2 : Int32) + (0 : Int32))), (.ref b5), (.ref eC)])) _
    refine X17.aaload hx (j := ((2 : Int32) + (0 : Int32))) (v := (.ref eC)) Ar_b5.1 (State.isArrayOf_alike hZ.alike Ar_b5.2.1) rfl Ar_b5.2.2 hin108 hat108 (g := (mkF m 108 #[.val (.int p1), .val (.int p2), .val (.int (1 : Int32)), .val (.int (0 : Int32)), .val (.ref oC), .val (.ref b5), .val (.int ((2 : Int32) + (0 : Int32))), .val (.ref eC)] [(.int ((2 : Int32) + (0 : Int32))), (.ref b5), (.ref eC)])) rfl rfl (hb hby at_108) _ ?_
    show Steps p.tables e below (T17.setTop (mkF m 109 #[.val (.int p1), .val (.int p2), .val (.int (1 : Int32)), .val (.int (0 : Int32)), .val (.ref oC), .val (.ref b5), .val (.int ((2 : Int32) + (0 : Int32))), .val (.ref eC)] [(.ref eC), (.ref eC)])) _
    refine Jvm.RoadKit.acmp (g := (mkF m 109 #[.val (.int p1), .val (.int p2), .val (.int (1 : Int32)), .val (.int (0 : Int32)), .val (.ref oC), .val (.ref b5), .val (.int ((2 : Int32) + (0 : Int32))), .val (.ref eC)] [(.ref eC), (.ref eC)])) X17 hx rfl rfl rfl (pc0 := 109) (pc' := 112) (same := true) rfl (hb hby at_109) rfl (decide_eq_true (rfl)) (by decide) (by decide) ?_
    show Steps p.tables e below (T17.setTop (mkF m 112 #[.val (.int p1), .val (.int p2), .val (.int (1 : Int32)), .val (.int (0 : Int32)), .val (.ref oC), .val (.ref b5), .val (.int ((2 : Int32) + (0 : Int32))), .val (.ref eC)] [])) _
    refine XS.iconst X17.here hx rfl (hb hby at_112) ?_
    show Steps p.tables e below (T17.setTop (mkF m 113 #[.val (.int p1), .val (.int p2), .val (.int (1 : Int32)), .val (.int (0 : Int32)), .val (.ref oC), .val (.ref b5), .val (.int ((2 : Int32) + (0 : Int32))), .val (.ref eC)] [(.int (1 : Int32))])) _
    refine XS.goto X17.here hx rfl (pc0 := 113) (pc' := 117) rfl (hb hby at_113) (by decide) (by decide) ?_
    show Steps p.tables e below (T17.setTop (mkF m 117 #[.val (.int p1), .val (.int p2), .val (.int (1 : Int32)), .val (.int (0 : Int32)), .val (.ref oC), .val (.ref b5), .val (.int ((2 : Int32) + (0 : Int32))), .val (.ref eC)] [(.int (1 : Int32))])) _
    exact retN X17 hx (t := .boolean) Bd.returns (by simp) (hb hby at_117) hr
  · show Q010 n0 _ T17.heap _
    exact ⟨rfl, N17⟩
def Q001 (n0 : Nat) (v : Option Value) (h : Heap) (L : List Loc) : Prop := v = some (.int (1 : Int32)) ∧ Fr n0 L
set_option maxRecDepth 65536 in
set_option maxHeartbeats 40000000 in
theorem rm001 (l : Launch) (Z : State) (a0 : Array Value) (hw : ∀ d ∈ tables_1, d.before a0 Z = true) (ws : List Jvm.Cond) (p1 : Int32) (p2 : Int32) (oC : Addr) (oR : Addr) (eF : Addr) (eR : Addr) (eC : Addr) (h0 : Heap) (n0 : Nat) (Z0 : n0 ≤ h0.size) (SoC : Sta Z h0 "com/example/demarcation/demarcation/CompletionCallback$Outcome" "COMMITTED" "Lcom/example/demarcation/demarcation/CompletionCallback$Outcome;" (.ref oC)) (SoR : Sta Z h0 "com/example/demarcation/demarcation/CompletionCallback$Outcome" "ROLLED_BACK" "Lcom/example/demarcation/demarcation/CompletionCallback$Outcome;" (.ref oR)) (SeF : Sta Z h0 "com/example/demarcation/demarcation/UnitLog$Ending" "ROLLBACK_REFUSED" "Lcom/example/demarcation/demarcation/UnitLog$Ending;" (.ref eF)) (SeR : Sta Z h0 "com/example/demarcation/demarcation/UnitLog$Ending" "ROLLED_BACK" "Lcom/example/demarcation/demarcation/UnitLog$Ending;" (.ref eR)) (SeC : Sta Z h0 "com/example/demarcation/demarcation/UnitLog$Ending" "COMMITTED" "Lcom/example/demarcation/demarcation/UnitLog$Ending;" (.ref eC)) (E_eF : Exa Z h0 eF "com/example/demarcation/demarcation/UnitLog$Ending") (E_eR : Exa Z h0 eR "com/example/demarcation/demarcation/UnitLog$Ending") (E_eC : Exa Z h0 eC "com/example/demarcation/demarcation/UnitLog$Ending") (hoRC : ¬ (oR = oC)) (hc3 : (p1 &&& (1 : Int32)) = (0 : Int32)) (hc15 : ¬ ((p2 &&& (1 : Int32)) = (0 : Int32))) :
    MetFree l x (head1 (Jvm.Cond.code x code maxLocals ret :: ws) room_1) (fun a U => a = #[(.int p1), (.int p2)] ∧ Z.Warmed39 U.vm ∧ U.heap = h0) (fun _ _ _ _ _ => True) (fun _ U o U' => ∃ v L, o = .returned v ∧ Q001 n0 v U'.heap L ∧ FrameEnd U o U' L room_1.cells room_1.slots) := by
  refine MetFree.of_bodySF (plainFor_of_name pn_0) hisR ?_
  intro p e s m args below meth c s₁ Bd hml0 hP hK
  obtain ⟨rfl, hZ, hh⟩ := hP
  have hx := Bd.exec
  have hby := Bd.bytes
  have hml : c.maxLocals = 8 := hml0
  have hown : s.vm.findClass "com/example/demarcation/demarcation/UnitLogOfTransactionPinLaw" = some m.cls := findClass_of_methodNamed Bd.named
  have hnm := (name_of_methodNamed Bd.named Bd.method).1
  have X0 : Stand p l e room_1 s m #[(.int p1), (.int p2)] below meth c s₁ [] 0 0 := Stand.of_body Bd
  have e0 : s₁.heap = h0 := by rw [← hh, Bd.state]; rfl
  have N0 := Fr.nil n0
  have pre0 : ∀ t, Steps p.tables e below (s₁.setTop (mkF m 0 #[.val (.int p1), .val (.int p2), .unset, .unset, .unset, .unset, .unset, .unset] [])) t → Steps p.tables e below (s₁.setTop (entryFrame m #[(.int p1), (.int p2)] maxLocals)) t := fun t k => castTop (ef_0 m p1 p2) k
  obtain ⟨T4, X4, e4, st4⟩ := getS2 X0 hx hZ hown (host := "") (Or.inl (hw _ (List.mem_of_getElem? (i := 0) rfl))) Via.refl e0 SoR (g := (mkF m 34 #[.val (.int p1), .val (.int p2), .val (.int (0 : Int32)), .val (.int (1 : Int32)), .unset, .unset, .unset, .unset] [])) rfl (hb hby at_34)
  obtain ⟨T5, h5, k5, X5, e5, E5, A5, O5, st5⟩ := newR X4 hx hZ hown (hw _ (List.mem_of_getElem? (i := 3) rfl)) (hw _ (List.mem_of_getElem? (i := 4) rfl)) e4 (g := (mkF m 40 #[.val (.int p1), .val (.int p2), .val (.int (0 : Int32)), .val (.int (1 : Int32)), .val (.ref oR), .unset, .unset, .unset] [(.int (4 : Int32))])) rfl (hb hby at_40) rfl (by decide) (cap := 4) (by decide) (by decide) (by decide) (by decide)
  obtain ⟨b5, g5⟩ : ∃ z, z = h0.size := ⟨_, rfl⟩      -- the fresh array's address
  rw [← g5] at A5 st5
  have V_b5 := (Arv.new A5 (by decide)).pad (vs' := [.null, .null, .null, .null]) (pad_rep [] .null 4)
  have g_b5 : n0 ≤ b5 := Nat.le_trans Z0 (Nat.le_of_eq g5.symm)
  have sz_b5 : h0.size ≤ b5 := (Nat.le_trans (Keep.refl h0 []).1 (Nat.le_of_eq g5.symm))
  have K5 : Keep h0 h5 [] := (Keep.refl h0 []).ext E5
  obtain ⟨T7, X7, e7, st7⟩ := getS2 X5 hx hZ hown (host := "") (Or.inl (hw _ (List.mem_of_getElem? (i := 5) rfl))) Via.refl e5 (SeF.ext (own_ext K5)) (g := (mkF m 48 #[.val (.int p1), .val (.int p2), .val (.int (0 : Int32)), .val (.int (1 : Int32)), .val (.ref oR), .val (.ref b5), .unset, .unset] [(.int (0 : Int32)), (.ref b5)])) rfl (hb hby at_48)
  obtain ⟨cl_b5_51, Ar_b5, q_b5, S_b5, N_b5, H_b5, G_b5⟩ := V_b5
  have hin51 : ¬ ((0 : Int32) < 0 ∨ cl_b5_51.slots.size ≤ ((0 : Int32)).toNatClampNeg) := inb_of S_b5 ⟨by decide, by decide⟩
  have Sto51 := Sto.ofV Ar_b5 q_b5 O5 (Ins.self (E_eF.ext (own_ext K5)))
  obtain ⟨T8, h8, X8, e8, W8, st8⟩ := stR X7 hx hZ e7 Ar_b5 (j := (0 : Int32)) hin51 rfl Sto51 (g := (mkF m 51 #[.val (.int p1), .val (.int p2), .val (.int (0 : Int32)), .val (.int (1 : Int32)), .val (.ref oR), .val (.ref b5), .unset, .unset] [(.ref eF), (.int (0 : Int32)), (.ref b5)])) rfl rfl (hb hby at_51)
  have V_b5_8 := Arv.set Ar_b5 q_b5 S_b5 N_b5 H_b5 G_b5 (v := .ref eF) rfl W8 0 rfl (Nat.le_of_ble_eq_true rfl)
  have N8 := Fr.snoc X8 N0 g_b5
  have K8 : Keep h0 h8 [] := K5.wr W8 (Or.inr sz_b5)
  obtain ⟨T10, X10, e10, st10⟩ := getS2 X8 hx hZ hown (host := "") (Or.inl (hw _ (List.mem_of_getElem? (i := 9) rfl))) Via.refl e8 (SeR.ext (own_ext K8)) (g := (mkF m 55 #[.val (.int p1), .val (.int p2), .val (.int (0 : Int32)), .val (.int (1 : Int32)), .val (.ref oR), .val (.ref b5), .unset, .unset] [(.int (1 : Int32)), (.ref b5)])) rfl (hb hby at_55)
  obtain ⟨cl_b5_58, Ar_b5, q_b5, S_b5, N_b5, H_b5, G_b5⟩ := V_b5_8
  have hin58 : ¬ ((1 : Int32) < 0 ∨ cl_b5_58.slots.size ≤ ((1 : Int32)).toNatClampNeg) := inb_of S_b5 ⟨by decide, by decide⟩
  have Sto58 := Sto.ofV Ar_b5 q_b5 O5 (Ins.self (E_eR.ext (own_ext K8)))
  obtain ⟨T11, h11, X11, e11, W11, st11⟩ := stR X10 hx hZ e10 Ar_b5 (j := (1 : Int32)) hin58 rfl Sto58 (g := (mkF m 58 #[.val (.int p1), .val (.int p2), .val (.int (0 : Int32)), .val (.int (1 : Int32)), .val (.ref oR), .val (.ref b5), .unset, .unset] [(.ref eR), (.int (1 : Int32)), (.ref b5)])) rfl rfl (hb hby at_58)
  have V_b5_11 := Arv.set Ar_b5 q_b5 S_b5 N_b5 H_b5 G_b5 (v := .ref eR) rfl W11 1 rfl (Nat.le_of_ble_eq_true rfl)
  have N11 := Fr.snoc X11 N8 g_b5
  have K11 : Keep h0 h11 [] := K8.wr W11 (Or.inr sz_b5)
  obtain ⟨T13, X13, e13, st13⟩ := getS2 X11 hx hZ hown (host := "") (Or.inl (hw _ (List.mem_of_getElem? (i := 11) rfl))) Via.refl e11 (SeC.ext (own_ext K11)) (g := (mkF m 62 #[.val (.int p1), .val (.int p2), .val (.int (0 : Int32)), .val (.int (1 : Int32)), .val (.ref oR), .val (.ref b5), .unset, .unset] [(.int (2 : Int32)), (.ref b5)])) rfl (hb hby at_62)
  obtain ⟨cl_b5_65, Ar_b5, q_b5, S_b5, N_b5, H_b5, G_b5⟩ := V_b5_11
  have hin65 : ¬ ((2 : Int32) < 0 ∨ cl_b5_65.slots.size ≤ ((2 : Int32)).toNatClampNeg) := inb_of S_b5 ⟨by decide, by decide⟩
  have Sto65 := Sto.ofV Ar_b5 q_b5 O5 (Ins.self (E_eC.ext (own_ext K11)))
  obtain ⟨T14, h14, X14, e14, W14, st14⟩ := stR X13 hx hZ e13 Ar_b5 (j := (2 : Int32)) hin65 rfl Sto65 (g := (mkF m 65 #[.val (.int p1), .val (.int p2), .val (.int (0 : Int32)), .val (.int (1 : Int32)), .val (.ref oR), .val (.ref b5), .unset, .unset] [(.ref eC), (.int (2 : Int32)), (.ref b5)])) rfl rfl (hb hby at_65)
  have V_b5_14 := Arv.set Ar_b5 q_b5 S_b5 N_b5 H_b5 G_b5 (v := .ref eC) rfl W14 2 rfl (Nat.le_of_ble_eq_true rfl)
  have N14 := Fr.snoc X14 N11 g_b5
  have K14 : Keep h0 h14 [] := K11.wr W14 (Or.inr sz_b5)
  obtain ⟨T15, X15, e15, st15⟩ := getS2 X14 hx hZ hown (host := "") (Or.inl (hw _ (List.mem_of_getElem? (i := 11) rfl))) Via.refl e14 (SeC.ext (own_ext K14)) (g := (mkF m 69 #[.val (.int p1), .val (.int p2), .val (.int (0 : Int32)), .val (.int (1 : Int32)), .val (.ref oR), .val (.ref b5), .unset, .unset] [(.int (3 : Int32)), (.ref b5)])) rfl (hb hby at_69)
  obtain ⟨cl_b5_72, Ar_b5, q_b5, S_b5, N_b5, H_b5, G_b5⟩ := V_b5_14
  have hin72 : ¬ ((3 : Int32) < 0 ∨ cl_b5_72.slots.size ≤ ((3 : Int32)).toNatClampNeg) := inb_of S_b5 ⟨by decide, by decide⟩
  have Sto72 := Sto.ofV Ar_b5 q_b5 O5 (Ins.self (E_eC.ext (own_ext K14)))
  obtain ⟨T16, h16, X16, e16, W16, st16⟩ := stR X15 hx hZ e15 Ar_b5 (j := (3 : Int32)) hin72 rfl Sto72 (g := (mkF m 72 #[.val (.int p1), .val (.int p2), .val (.int (0 : Int32)), .val (.int (1 : Int32)), .val (.ref oR), .val (.ref b5), .unset, .unset] [(.ref eC), (.int (3 : Int32)), (.ref b5)])) rfl rfl (hb hby at_72)
  have V_b5_16 := Arv.set Ar_b5 q_b5 S_b5 N_b5 H_b5 G_b5 (v := .ref eC) rfl W16 3 rfl (Nat.le_of_ble_eq_true rfl)
  have N16 := Fr.snoc X16 N14 g_b5
  have K16 : Keep h0 h16 [] := K14.wr W16 (Or.inr sz_b5)
  have OH : Ext h0 h16 := own_ext K16
  have ZH : n0 ≤ h16.size := Nat.le_trans Z0 K16.1
  obtain ⟨_, _, ⟨T17, L17, k17, n17⟩, -, X17, ⟨Lc17, hQ17, l17, y17, z17⟩, st17⟩ := Jvm.LawKit.callS X16 hx (y := (⟨"com/example/demarcation/demarcation/UnitLog$Ending", "ofTransaction", "(Lcom/example/demarcation/demarcation/CompletionCallback$Outcome;Z)Lcom/example/demarcation/demarcation/UnitLog$Ending;"⟩ : MethodName)) hown (mvT hZ (hw _ (List.mem_of_getElem? (i := 13) rfl))) (mvT hZ (hw _ (List.mem_of_getElem? (i := 14) rfl))) (mvT hZ (hw _ (List.mem_of_getElem? (i := 6) rfl))) (mvT hZ (hw _ (List.mem_of_getElem? (i := 15) rfl))) (by decide) (backOf (W := 0) (rm1b l Z a0 hw [] oR (1 : Int32) oC eR h16 n0 ZH (SoC.ext OH) (SeR.ext OH) hoRC (by decide)) hZ (hw _ (List.mem_of_getElem? (i := 15) rfl)) (hw _ (List.mem_of_getElem? (i := 6) rfl)) (by decide) (by decide)) (g := (mkF m 97 #[.val (.int p1), .val (.int p2), .val (.int (0 : Int32)), .val (.int (1 : Int32)), .val (.ref oR), .val (.ref b5), .val (.int ((0 : Int32) + (1 : Int32))), .unset] [(.int (1 : Int32)), (.ref oR)])) rfl (by rw [hml]; rfl) (argsL := [(.ref oR), (.int (1 : Int32))]) (rest := []) (lenOf pd_0_0 rfl) rfl (by show 2 * 0 + _ ≤ _; exact Nat.le_of_eq rfl) (hb hby at_97) (fun _ _ => ⟨rfl, e16, (by decide : 1 + 0 ≤ _), (by decide : 4 + 0 ≤ _)⟩)
  dsimp only [Pt.U, Pt.locs, Pt.cells, Pt.slots] at X17 l17 y17 z17 st17 hQ17
  subst l17 y17 z17
  obtain ⟨rfl, N17q, eqc⟩ := hQ17
  have V_A := V_b5_16.keep (own_same eqc (ws := [])) (by simp)
  obtain ⟨cl_b5_108, Ar_b5, q_b5, S_b5, N_b5, H_b5, G_b5⟩ := V_A
  have hin108 : ¬ (((0 : Int32) + (1 : Int32)) < 0 ∨ cl_b5_108.slots.size ≤ (((0 : Int32) + (1 : Int32))).toNatClampNeg) := inb_of S_b5 ⟨by decide, by decide⟩
  have hat108 : cl_b5_108.slots[(((0 : Int32) + (1 : Int32))).toNatClampNeg]? = some (.ref eR) := Has.at H_b5 hin108 rfl      -- what it returned, that it wrote nothing old, and the rest of your Q1
  have N17 := Fr.app N16 N17q
  obtain ⟨fs, hr, hrun, hended, hW, hsame⟩ := X17.leave (v := some (.int (1 : Int32))) (fun h => by rw [Bd.returns] at h; cases h)
  refine ⟨_, _, pre0 _ ?_, hrun, hended, _, _, rfl, ?_, ⟨_, rfl⟩, hW, hsame.mono (by decide) (by decide)⟩
  · show Steps p.tables e below (s₁.setTop (mkF m 0 #[.val (.int p1), .val (.int p2), .unset, .unset, .unset, .unset, .unset, .unset] [])) _
    refine XS.iloadN X0.here hx rfl (hb hby at_0) rfl ?_
    show Steps p.tables e below (s₁.setTop (mkF m 1 #[.val (.int p1), .val (.int p2), .unset, .unset, .unset, .unset, .unset, .unset] [(.int p1)])) _
    refine XS.iconst X0.here hx rfl (hb hby at_1) ?_
    show Steps p.tables e below (s₁.setTop (mkF m 2 #[.val (.int p1), .val (.int p2), .unset, .unset, .unset, .unset, .unset, .unset] [(.int (1 : Int32)), (.int p1)])) _
    refine XS.iand X0.here hx rfl (hb hby at_2) rfl ?_
    show Steps p.tables e below (s₁.setTop (mkF m 3 #[.val (.int p1), .val (.int p2), .unset, .unset, .unset, .unset, .unset, .unset] [(.int (p1 &&& (1 : Int32)))])) _
    refine XS.ifYes X0.here hx rfl (pc0 := 3) (pc' := 10) rfl (hb hby at_3) rfl ((if0 _ _).trans (teq hc3).1) (by decide) (by decide) ?_
    show Steps p.tables e below (s₁.setTop (mkF m 10 #[.val (.int p1), .val (.int p2), .unset, .unset, .unset, .unset, .unset, .unset] [])) _
    refine XS.iconst X0.here hx rfl (hb hby at_10) ?_
    show Steps p.tables e below (s₁.setTop (mkF m 11 #[.val (.int p1), .val (.int p2), .unset, .unset, .unset, .unset, .unset, .unset] [(.int (0 : Int32))])) _
    refine XS.istoreN X0.here hx rfl (hb hby at_11) rfl (l' := #[.val (.int p1), .val (.int p2), .val (.int (0 : Int32)), .unset, .unset, .unset, .unset, .unset]) rfl ?_
    show Steps p.tables e below (s₁.setTop (mkF m 12 #[.val (.int p1), .val (.int p2), .val (.int (0 : Int32)), .unset, .unset, .unset, .unset, .unset] [])) _
    refine XS.iloadN X0.here hx rfl (hb hby at_12) rfl ?_
    show Steps p.tables e below (s₁.setTop (mkF m 13 #[.val (.int p1), .val (.int p2), .val (.int (0 : Int32)), .unset, .unset, .unset, .unset, .unset] [(.int p2)])) _
    refine XS.iconst X0.here hx rfl (hb hby at_13) ?_
    show Steps p.tables e below (s₁.setTop (mkF m 14 #[.val (.int p1), .val (.int p2), .val (.int (0 : Int32)), .unset, .unset, .unset, .unset, .unset] [(.int (1 : Int32)), (.int p2)])) _
    refine XS.iand X0.here hx rfl (hb hby at_14) rfl ?_
    show Steps p.tables e below (s₁.setTop (mkF m 15 #[.val (.int p1), .val (.int p2), .val (.int (0 : Int32)), .unset, .unset, .unset, .unset, .unset] [(.int (p2 &&& (1 : Int32)))])) _
    refine XS.ifNo X0.here hx rfl (hb hby at_15) rfl ((if0 _ _).trans (feq hc15).1) ?_
    show Steps p.tables e below (s₁.setTop (mkF m 18 #[.val (.int p1), .val (.int p2), .val (.int (0 : Int32)), .unset, .unset, .unset, .unset, .unset] [])) _
    refine XS.iconst X0.here hx rfl (hb hby at_18) ?_
    show Steps p.tables e below (s₁.setTop (mkF m 19 #[.val (.int p1), .val (.int p2), .val (.int (0 : Int32)), .unset, .unset, .unset, .unset, .unset] [(.int (1 : Int32))])) _
    refine XS.goto X0.here hx rfl (pc0 := 19) (pc' := 23) rfl (hb hby at_19) (by decide) (by decide) ?_
    show Steps p.tables e below (s₁.setTop (mkF m 23 #[.val (.int p1), .val (.int p2), .val (.int (0 : Int32)), .unset, .unset, .unset, .unset, .unset] [(.int (1 : Int32))])) _
    refine XS.istoreN X0.here hx rfl (hb hby at_23) rfl (l' := #[.val (.int p1), .val (.int p2), .val (.int (0 : Int32)), .val (.int (1 : Int32)), .unset, .unset, .unset, .unset]) rfl ?_
    show Steps p.tables e below (s₁.setTop (mkF m 24 #[.val (.int p1), .val (.int p2), .val (.int (0 : Int32)), .val (.int (1 : Int32)), .unset, .unset, .unset, .unset] [])) _
    refine XS.iloadN X0.here hx rfl (hb hby at_24) rfl ?_
    show Steps p.tables e below (s₁.setTop (mkF m 25 #[.val (.int p1), .val (.int p2), .val (.int (0 : Int32)), .val (.int (1 : Int32)), .unset, .unset, .unset, .unset] [(.int (0 : Int32))])) _
    refine XS.ifYes X0.here hx rfl (pc0 := 25) (pc' := 34) rfl (hb hby at_25) rfl ((if0 _ _).trans (teq (rfl : (0 : Int32) = (0 : Int32))).1) (by decide) (by decide) ?_
    show Steps p.tables e below (s₁.setTop (mkF m 34 #[.val (.int p1), .val (.int p2), .val (.int (0 : Int32)), .val (.int (1 : Int32)), .unset, .unset, .unset, .unset] [])) _
    refine st4 _ ?_
    show Steps p.tables e below (T4.setTop (mkF m 37 #[.val (.int p1), .val (.int p2), .val (.int (0 : Int32)), .val (.int (1 : Int32)), .unset, .unset, .unset, .unset] [(.ref oR)])) _
    refine XS.astore X4.here hx rfl (hb hby at_37) rfl rfl (l' := #[.val (.int p1), .val (.int p2), .val (.int (0 : Int32)), .val (.int (1 : Int32)), .val (.ref oR), .unset, .unset, .unset]) rfl ?_
    show Steps p.tables e below (T4.setTop (mkF m 39 #[.val (.int p1), .val (.int p2), .val (.int (0 : Int32)), .val (.int (1 : Int32)), .val (.ref oR), .unset, .unset, .unset] [])) _
    refine XS.iconst X4.here hx rfl (hb hby at_39) ?_
    show Steps p.tables e below (T4.setTop (mkF m 40 #[.val (.int p1), .val (.int p2), .val (.int (0 : Int32)), .val (.int (1 : Int32)), .val (.ref oR), .unset, .unset, .unset] [(.int (4 : Int32))])) _
    refine st5 _ ?_
    show Steps p.tables e below (T5.setTop (mkF m 43 #[.val (.int p1), .val (.int p2), .val (.int (0 : Int32)), .val (.int (1 : Int32)), .val (.ref oR), .unset, .unset, .unset] [(.ref b5)])) _
    refine XS.astore X5.here hx rfl (hb hby at_43) rfl rfl (l' := #[.val (.int p1), .val (.int p2), .val (.int (0 : Int32)), .val (.int (1 : Int32)), .val (.ref oR), .val (.ref b5), .unset, .unset]) rfl ?_
    show Steps p.tables e below (T5.setTop (mkF m 45 #[.val (.int p1), .val (.int p2), .val (.int (0 : Int32)), .val (.int (1 : Int32)), .val (.ref oR), .val (.ref b5), .unset, .unset] [])) _
    refine XS.aload X5.here hx rfl (hb hby at_45) rfl rfl ?_
    show Steps p.tables e below (T5.setTop (mkF m 47 #[.val (.int p1), .val (.int p2), .val (.int (0 : Int32)), .val (.int (1 : Int32)), .val (.ref oR), .val (.ref b5), .unset, .unset] [(.ref b5)])) _
    refine XS.iconst X5.here hx rfl (hb hby at_47) ?_
    show Steps p.tables e below (T5.setTop (mkF m 48 #[.val (.int p1), .val (.int p2), .val (.int (0 : Int32)), .val (.int (1 : Int32)), .val (.ref oR), .val (.ref b5), .unset, .unset] [(.int (0 : Int32)), (.ref b5)])) _
    refine st7 _ ?_
    show Steps p.tables e below (T7.setTop (mkF m 51 #[.val (.int p1), .val (.int p2), .val (.int (0 : Int32)), .val (.int (1 : Int32)), .val (.ref oR), .val (.ref b5), .unset, .unset] [(.ref eF), (.int (0 : Int32)), (.ref b5)])) _
    refine st8 _ ?_
    show Steps p.tables e below (T8.setTop (mkF m 52 #[.val (.int p1), .val (.int p2), .val (.int (0 : Int32)), .val (.int (1 : Int32)), .val (.ref oR), .val (.ref b5), .unset, .unset] [])) _
    refine XS.aload X8.here hx rfl (hb hby at_52) rfl rfl ?_
    show Steps p.tables e below (T8.setTop (mkF m 54 #[.val (.int p1), .val (.int p2), .val (.int (0 : Int32)), .val (.int (1 : Int32)), .val (.ref oR), .val (.ref b5), .unset, .unset] [(.ref b5)])) _
    refine XS.iconst X8.here hx rfl (hb hby at_54) ?_
    show Steps p.tables e below (T8.setTop (mkF m 55 #[.val (.int p1), .val (.int p2), .val (.int (0 : Int32)), .val (.int (1 : Int32)), .val (.ref oR), .val (.ref b5), .unset, .unset] [(.int (1 : Int32)), (.ref b5)])) _
    refine st10 _ ?_
    show Steps p.tables e below (T10.setTop (mkF m 58 #[.val (.int p1), .val (.int p2), .val (.int (0 : Int32)), .val (.int (1 : Int32)), .val (.ref oR), .val (.ref b5), .unset, .unset] [(.ref eR), (.int (1 : Int32)), (.ref b5)])) _
    refine st11 _ ?_
    show Steps p.tables e below (T11.setTop (mkF m 59 #[.val (.int p1), .val (.int p2), .val (.int (0 : Int32)), .val (.int (1 : Int32)), .val (.ref oR), .val (.ref b5), .unset, .unset] [])) _
    refine XS.aload X11.here hx rfl (hb hby at_59) rfl rfl ?_
    show Steps p.tables e below (T11.setTop (mkF m 61 #[.val (.int p1), .val (.int p2), .val (.int (0 : Int32)), .val (.int (1 : Int32)), .val (.ref oR), .val (.ref b5), .unset, .unset] [(.ref b5)])) _
    refine XS.iconst X11.here hx rfl (hb hby at_61) ?_
    show Steps p.tables e below (T11.setTop (mkF m 62 #[.val (.int p1), .val (.int p2), .val (.int (0 : Int32)), .val (.int (1 : Int32)), .val (.ref oR), .val (.ref b5), .unset, .unset] [(.int (2 : Int32)), (.ref b5)])) _
    refine st13 _ ?_
    show Steps p.tables e below (T13.setTop (mkF m 65 #[.val (.int p1), .val (.int p2), .val (.int (0 : Int32)), .val (.int (1 : Int32)), .val (.ref oR), .val (.ref b5), .unset, .unset] [(.ref eC), (.int (2 : Int32)), (.ref b5)])) _
    refine st14 _ ?_
    show Steps p.tables e below (T14.setTop (mkF m 66 #[.val (.int p1), .val (.int p2), .val (.int (0 : Int32)), .val (.int (1 : Int32)), .val (.ref oR), .val (.ref b5), .unset, .unset] [])) _
    refine XS.aload X14.here hx rfl (hb hby at_66) rfl rfl ?_
    show Steps p.tables e below (T14.setTop (mkF m 68 #[.val (.int p1), .val (.int p2), .val (.int (0 : Int32)), .val (.int (1 : Int32)), .val (.ref oR), .val (.ref b5), .unset, .unset] [(.ref b5)])) _
    refine XS.iconst X14.here hx rfl (hb hby at_68) ?_
    show Steps p.tables e below (T14.setTop (mkF m 69 #[.val (.int p1), .val (.int p2), .val (.int (0 : Int32)), .val (.int (1 : Int32)), .val (.ref oR), .val (.ref b5), .unset, .unset] [(.int (3 : Int32)), (.ref b5)])) _
    refine st15 _ ?_
    show Steps p.tables e below (T15.setTop (mkF m 72 #[.val (.int p1), .val (.int p2), .val (.int (0 : Int32)), .val (.int (1 : Int32)), .val (.ref oR), .val (.ref b5), .unset, .unset] [(.ref eC), (.int (3 : Int32)), (.ref b5)])) _
    refine st16 _ ?_
    show Steps p.tables e below (T16.setTop (mkF m 73 #[.val (.int p1), .val (.int p2), .val (.int (0 : Int32)), .val (.int (1 : Int32)), .val (.ref oR), .val (.ref b5), .unset, .unset] [])) _
    refine XS.iloadN X16.here hx rfl (hb hby at_73) rfl ?_
    show Steps p.tables e below (T16.setTop (mkF m 74 #[.val (.int p1), .val (.int p2), .val (.int (0 : Int32)), .val (.int (1 : Int32)), .val (.ref oR), .val (.ref b5), .unset, .unset] [(.int (0 : Int32))])) _
    refine XS.ifYes X16.here hx rfl (pc0 := 74) (pc' := 81) rfl (hb hby at_74) rfl ((if0 _ _).trans (teq (rfl : (0 : Int32) = (0 : Int32))).1) (by decide) (by decide) ?_
    show Steps p.tables e below (T16.setTop (mkF m 81 #[.val (.int p1), .val (.int p2), .val (.int (0 : Int32)), .val (.int (1 : Int32)), .val (.ref oR), .val (.ref b5), .unset, .unset] [])) _
    refine XS.iconst X16.here hx rfl (hb hby at_81) ?_
    show Steps p.tables e below (T16.setTop (mkF m 82 #[.val (.int p1), .val (.int p2), .val (.int (0 : Int32)), .val (.int (1 : Int32)), .val (.ref oR), .val (.ref b5), .unset, .unset] [(.int (0 : Int32))])) _
    refine XS.iloadN X16.here hx rfl (hb hby at_82) rfl ?_
    show Steps p.tables e below (T16.setTop (mkF m 83 #[.val (.int p1), .val (.int p2), .val (.int (0 : Int32)), .val (.int (1 : Int32)), .val (.ref oR), .val (.ref b5), .unset, .unset] [(.int (1 : Int32)), (.int (0 : Int32))])) _
    refine XS.ifNo X16.here hx rfl (hb hby at_83) rfl ((if0 _ _).trans (feq (by decide)).1) ?_
    show Steps p.tables e below (T16.setTop (mkF m 86 #[.val (.int p1), .val (.int p2), .val (.int (0 : Int32)), .val (.int (1 : Int32)), .val (.ref oR), .val (.ref b5), .unset, .unset] [(.int (0 : Int32))])) _
    refine XS.iconst X16.here hx rfl (hb hby at_86) ?_
    show Steps p.tables e below (T16.setTop (mkF m 87 #[.val (.int p1), .val (.int p2), .val (.int (0 : Int32)), .val (.int (1 : Int32)), .val (.ref oR), .val (.ref b5), .unset, .unset] [(.int (1 : Int32)), (.int (0 : Int32))])) _
    refine XS.goto X16.here hx rfl (pc0 := 87) (pc' := 91) rfl (hb hby at_87) (by decide) (by decide) ?_
    show Steps p.tables e below (T16.setTop (mkF m 91 #[.val (.int p1), .val (.int p2), .val (.int (0 : Int32)), .val (.int (1 : Int32)), .val (.ref oR), .val (.ref b5), .unset, .unset] [(.int (1 : Int32)), (.int (0 : Int32))])) _
    refine XS.iadd X16.here hx rfl (hb hby at_91) rfl ?_
    show Steps p.tables e below (T16.setTop (mkF m 92 #[.val (.int p1), .val (.int p2), .val (.int (0 : Int32)), .val (.int (1 : Int32)), .val (.ref oR), .val (.ref b5), .unset, .unset] [(.int ((0 : Int32) + (1 : Int32)))])) _
    refine XS.istore X16.here hx rfl (hb hby at_92) rfl (l' := #[.val (.int p1), .val (.int p2), .val (.int (0 : Int32)), .val (.int (1 : Int32)), .val (.ref oR), .val (.ref b5), .val (.int ((0 : Int32) + (1 : Int32))), .unset]) rfl ?_
    show Steps p.tables e below (T16.setTop (mkF m 94 #[.val (.int p1), .val (.int p2), .val (.int (0 : Int32)), .val (.int (1 : Int32)), .val (.ref oR), .val (.ref b5), .val (.int ((0 : Int32) + (1 : Int32))), .unset] [])) _
    refine XS.aload X16.here hx rfl (hb hby at_94) rfl rfl ?_
    show Steps p.tables e below (T16.setTop (mkF m 96 #[.val (.int p1), .val (.int p2), .val (.int (0 : Int32)), .val (.int (1 : Int32)), .val (.ref oR), .val (.ref b5), .val (.int ((0 : Int32) + (1 : Int32))), .unset] [(.ref oR)])) _
    refine XS.iloadN X16.here hx rfl (hb hby at_96) rfl ?_
    show Steps p.tables e below (T16.setTop (mkF m 97 #[.val (.int p1), .val (.int p2), .val (.int (0 : Int32)), .val (.int (1 : Int32)), .val (.ref oR), .val (.ref b5), .val (.int ((0 : Int32) + (1 : Int32))), .unset] [(.int (1 : Int32)), (.ref oR)])) _
    refine st17 _ ?_
    show Steps p.tables e below (T17.setTop (mkF m 100 #[.val (.int p1), .val (.int p2), .val (.int (0 : Int32)), .val (.int (1 : Int32)), .val (.ref oR), .val (.ref b5), .val (.int ((0 : Int32) + (1 : Int32))), .unset] [(.ref eR)])) _
    refine XS.astore X17.here hx rfl (hb hby at_100) rfl rfl (l' := #[.val (.int p1), .val (.int p2), .val (.int (0 : Int32)), .val (.int (1 : Int32)), .val (.ref oR), .val (.ref b5), .val (.int ((0 : Int32) + (1 : Int32))), .val (.ref eR)]) rfl ?_
    show Steps p.tables e below (T17.setTop (mkF m 102 #[.val (.int p1), .val (.int p2), .val (.int (0 : Int32)), .val (.int (1 : Int32)), .val (.ref oR), .val (.ref b5), .val (.int ((0 : Int32) + (1 : Int32))), .val (.ref eR)] [])) _
    refine XS.aload X17.here hx rfl (hb hby at_102) rfl rfl ?_
    show Steps p.tables e below (T17.setTop (mkF m 104 #[.val (.int p1), .val (.int p2), .val (.int (0 : Int32)), .val (.int (1 : Int32)), .val (.ref oR), .val (.ref b5), .val (.int ((0 : Int32) + (1 : Int32))), .val (.ref eR)] [(.ref eR)])) _
    refine XS.aload X17.here hx rfl (hb hby at_104) rfl rfl ?_
    show Steps p.tables e below (T17.setTop (mkF m 106 #[.val (.int p1), .val (.int p2), .val (.int (0 : Int32)), .val (.int (1 : Int32)), .val (.ref oR), .val (.ref b5), .val (.int ((0 : Int32) + (1 : Int32))), .val (.ref eR)] [(.ref b5), (.ref eR)])) _
    refine XS.iload X17.here hx rfl (hb hby at_106) rfl ?_
    show Steps p.tables e below (T17.setTop (mkF m 108 #[.val (.int p1), .val (.int p2), .val (.int (0 : Int32)), .val (.int (1 : Int32)), .val (.ref oR), .val (.ref b5), .val (.int ((0 : Int32) + (1 : Int32))), .val (.ref eR)] [(.int ((0 : Int32) + (1 : Int32))), (.ref b5), (.ref eR)])) _
    refine X17.aaload hx (j := ((0 : Int32) + (1 : Int32))) (v := (.ref eR)) Ar_b5.1 (State.isArrayOf_alike hZ.alike Ar_b5.2.1) rfl Ar_b5.2.2 hin108 hat108 (g := (mkF m 108 #[.val (.int p1), .val (.int p2), .val (.int (0 : Int32)), .val (.int (1 : Int32)), .val (.ref oR), .val (.ref b5), .val (.int ((0 : Int32) + (1 : Int32))), .val (.ref eR)] [(.int ((0 : Int32) + (1 : Int32))), (.ref b5), (.ref eR)])) rfl rfl (hb hby at_108) _ ?_
    show Steps p.tables e below (T17.setTop (mkF m 109 #[.val (.int p1), .val (.int p2), .val (.int (0 : Int32)), .val (.int (1 : Int32)), .val (.ref oR), .val (.ref b5), .val (.int ((0 : Int32) + (1 : Int32))), .val (.ref eR)] [(.ref eR), (.ref eR)])) _
    refine Jvm.RoadKit.acmp (g := (mkF m 109 #[.val (.int p1), .val (.int p2), .val (.int (0 : Int32)), .val (.int (1 : Int32)), .val (.ref oR), .val (.ref b5), .val (.int ((0 : Int32) + (1 : Int32))), .val (.ref eR)] [(.ref eR), (.ref eR)])) X17 hx rfl rfl rfl (pc0 := 109) (pc' := 112) (same := true) rfl (hb hby at_109) rfl (decide_eq_true (rfl)) (by decide) (by decide) ?_
    show Steps p.tables e below (T17.setTop (mkF m 112 #[.val (.int p1), .val (.int p2), .val (.int (0 : Int32)), .val (.int (1 : Int32)), .val (.ref oR), .val (.ref b5), .val (.int ((0 : Int32) + (1 : Int32))), .val (.ref eR)] [])) _
    refine XS.iconst X17.here hx rfl (hb hby at_112) ?_
    show Steps p.tables e below (T17.setTop (mkF m 113 #[.val (.int p1), .val (.int p2), .val (.int (0 : Int32)), .val (.int (1 : Int32)), .val (.ref oR), .val (.ref b5), .val (.int ((0 : Int32) + (1 : Int32))), .val (.ref eR)] [(.int (1 : Int32))])) _
    refine XS.goto X17.here hx rfl (pc0 := 113) (pc' := 117) rfl (hb hby at_113) (by decide) (by decide) ?_
    show Steps p.tables e below (T17.setTop (mkF m 117 #[.val (.int p1), .val (.int p2), .val (.int (0 : Int32)), .val (.int (1 : Int32)), .val (.ref oR), .val (.ref b5), .val (.int ((0 : Int32) + (1 : Int32))), .val (.ref eR)] [(.int (1 : Int32))])) _
    exact retN X17 hx (t := .boolean) Bd.returns (by simp) (hb hby at_117) hr
  · show Q001 n0 _ T17.heap _
    exact ⟨rfl, N17⟩
def Q000 (n0 : Nat) (v : Option Value) (h : Heap) (L : List Loc) : Prop := v = some (.int (1 : Int32)) ∧ Fr n0 L
set_option maxRecDepth 65536 in
set_option maxHeartbeats 40000000 in
theorem rm000 (l : Launch) (Z : State) (a0 : Array Value) (hw : ∀ d ∈ tables_1, d.before a0 Z = true) (ws : List Jvm.Cond) (p1 : Int32) (p2 : Int32) (oC : Addr) (oR : Addr) (eF : Addr) (eR : Addr) (eC : Addr) (h0 : Heap) (n0 : Nat) (Z0 : n0 ≤ h0.size) (SoC : Sta Z h0 "com/example/demarcation/demarcation/CompletionCallback$Outcome" "COMMITTED" "Lcom/example/demarcation/demarcation/CompletionCallback$Outcome;" (.ref oC)) (SoR : Sta Z h0 "com/example/demarcation/demarcation/CompletionCallback$Outcome" "ROLLED_BACK" "Lcom/example/demarcation/demarcation/CompletionCallback$Outcome;" (.ref oR)) (SeF : Sta Z h0 "com/example/demarcation/demarcation/UnitLog$Ending" "ROLLBACK_REFUSED" "Lcom/example/demarcation/demarcation/UnitLog$Ending;" (.ref eF)) (SeR : Sta Z h0 "com/example/demarcation/demarcation/UnitLog$Ending" "ROLLED_BACK" "Lcom/example/demarcation/demarcation/UnitLog$Ending;" (.ref eR)) (SeC : Sta Z h0 "com/example/demarcation/demarcation/UnitLog$Ending" "COMMITTED" "Lcom/example/demarcation/demarcation/UnitLog$Ending;" (.ref eC)) (E_eF : Exa Z h0 eF "com/example/demarcation/demarcation/UnitLog$Ending") (E_eR : Exa Z h0 eR "com/example/demarcation/demarcation/UnitLog$Ending") (E_eC : Exa Z h0 eC "com/example/demarcation/demarcation/UnitLog$Ending") (hoRC : ¬ (oR = oC)) (hc3 : (p1 &&& (1 : Int32)) = (0 : Int32)) (hc15 : (p2 &&& (1 : Int32)) = (0 : Int32)) :
    MetFree l x (head1 (Jvm.Cond.code x code maxLocals ret :: ws) room_1) (fun a U => a = #[(.int p1), (.int p2)] ∧ Z.Warmed39 U.vm ∧ U.heap = h0) (fun _ _ _ _ _ => True) (fun _ U o U' => ∃ v L, o = .returned v ∧ Q000 n0 v U'.heap L ∧ FrameEnd U o U' L room_1.cells room_1.slots) := by
  refine MetFree.of_bodySF (plainFor_of_name pn_0) hisR ?_
  intro p e s m args below meth c s₁ Bd hml0 hP hK
  obtain ⟨rfl, hZ, hh⟩ := hP
  have hx := Bd.exec
  have hby := Bd.bytes
  have hml : c.maxLocals = 8 := hml0
  have hown : s.vm.findClass "com/example/demarcation/demarcation/UnitLogOfTransactionPinLaw" = some m.cls := findClass_of_methodNamed Bd.named
  have hnm := (name_of_methodNamed Bd.named Bd.method).1
  have X0 : Stand p l e room_1 s m #[(.int p1), (.int p2)] below meth c s₁ [] 0 0 := Stand.of_body Bd
  have e0 : s₁.heap = h0 := by rw [← hh, Bd.state]; rfl
  have N0 := Fr.nil n0
  have pre0 : ∀ t, Steps p.tables e below (s₁.setTop (mkF m 0 #[.val (.int p1), .val (.int p2), .unset, .unset, .unset, .unset, .unset, .unset] [])) t → Steps p.tables e below (s₁.setTop (entryFrame m #[(.int p1), (.int p2)] maxLocals)) t := fun t k => castTop (ef_0 m p1 p2) k
  obtain ⟨T4, X4, e4, st4⟩ := getS2 X0 hx hZ hown (host := "") (Or.inl (hw _ (List.mem_of_getElem? (i := 0) rfl))) Via.refl e0 SoR (g := (mkF m 34 #[.val (.int p1), .val (.int p2), .val (.int (0 : Int32)), .val (.int (0 : Int32)), .unset, .unset, .unset, .unset] [])) rfl (hb hby at_34)
  obtain ⟨T5, h5, k5, X5, e5, E5, A5, O5, st5⟩ := newR X4 hx hZ hown (hw _ (List.mem_of_getElem? (i := 3) rfl)) (hw _ (List.mem_of_getElem? (i := 4) rfl)) e4 (g := (mkF m 40 #[.val (.int p1), .val (.int p2), .val (.int (0 : Int32)), .val (.int (0 : Int32)), .val (.ref oR), .unset, .unset, .unset] [(.int (4 : Int32))])) rfl (hb hby at_40) rfl (by decide) (cap := 4) (by decide) (by decide) (by decide) (by decide)
  obtain ⟨b5, g5⟩ : ∃ z, z = h0.size := ⟨_, rfl⟩      -- the fresh array's address
  rw [← g5] at A5 st5
  have V_b5 := (Arv.new A5 (by decide)).pad (vs' := [.null, .null, .null, .null]) (pad_rep [] .null 4)
  have g_b5 : n0 ≤ b5 := Nat.le_trans Z0 (Nat.le_of_eq g5.symm)
  have sz_b5 : h0.size ≤ b5 := (Nat.le_trans (Keep.refl h0 []).1 (Nat.le_of_eq g5.symm))
  have K5 : Keep h0 h5 [] := (Keep.refl h0 []).ext E5
  obtain ⟨T7, X7, e7, st7⟩ := getS2 X5 hx hZ hown (host := "") (Or.inl (hw _ (List.mem_of_getElem? (i := 5) rfl))) Via.refl e5 (SeF.ext (own_ext K5)) (g := (mkF m 48 #[.val (.int p1), .val (.int p2), .val (.int (0 : Int32)), .val (.int (0 : Int32)), .val (.ref oR), .val (.ref b5), .unset, .unset] [(.int (0 : Int32)), (.ref b5)])) rfl (hb hby at_48)
  obtain ⟨cl_b5_51, Ar_b5, q_b5, S_b5, N_b5, H_b5, G_b5⟩ := V_b5
  have hin51 : ¬ ((0 : Int32) < 0 ∨ cl_b5_51.slots.size ≤ ((0 : Int32)).toNatClampNeg) := inb_of S_b5 ⟨by decide, by decide⟩
  have Sto51 := Sto.ofV Ar_b5 q_b5 O5 (Ins.self (E_eF.ext (own_ext K5)))
  obtain ⟨T8, h8, X8, e8, W8, st8⟩ := stR X7 hx hZ e7 Ar_b5 (j := (0 : Int32)) hin51 rfl Sto51 (g := (mkF m 51 #[.val (.int p1), .val (.int p2), .val (.int (0 : Int32)), .val (.int (0 : Int32)), .val (.ref oR), .val (.ref b5), .unset, .unset] [(.ref eF), (.int (0 : Int32)), (.ref b5)])) rfl rfl (hb hby at_51)
  have V_b5_8 := Arv.set Ar_b5 q_b5 S_b5 N_b5 H_b5 G_b5 (v := .ref eF) rfl W8 0 rfl (Nat.le_of_ble_eq_true rfl)
  have N8 := Fr.snoc X8 N0 g_b5
  have K8 : Keep h0 h8 [] := K5.wr W8 (Or.inr sz_b5)
  obtain ⟨T10, X10, e10, st10⟩ := getS2 X8 hx hZ hown (host := "") (Or.inl (hw _ (List.mem_of_getElem? (i := 9) rfl))) Via.refl e8 (SeR.ext (own_ext K8)) (g := (mkF m 55 #[.val (.int p1), .val (.int p2), .val (.int (0 : Int32)), .val (.int (0 : Int32)), .val (.ref oR), .val (.ref b5), .unset, .unset] [(.int (1 : Int32)), (.ref b5)])) rfl (hb hby at_55)
  obtain ⟨cl_b5_58, Ar_b5, q_b5, S_b5, N_b5, H_b5, G_b5⟩ := V_b5_8
  have hin58 : ¬ ((1 : Int32) < 0 ∨ cl_b5_58.slots.size ≤ ((1 : Int32)).toNatClampNeg) := inb_of S_b5 ⟨by decide, by decide⟩
  have Sto58 := Sto.ofV Ar_b5 q_b5 O5 (Ins.self (E_eR.ext (own_ext K8)))
  obtain ⟨T11, h11, X11, e11, W11, st11⟩ := stR X10 hx hZ e10 Ar_b5 (j := (1 : Int32)) hin58 rfl Sto58 (g := (mkF m 58 #[.val (.int p1), .val (.int p2), .val (.int (0 : Int32)), .val (.int (0 : Int32)), .val (.ref oR), .val (.ref b5), .unset, .unset] [(.ref eR), (.int (1 : Int32)), (.ref b5)])) rfl rfl (hb hby at_58)
  have V_b5_11 := Arv.set Ar_b5 q_b5 S_b5 N_b5 H_b5 G_b5 (v := .ref eR) rfl W11 1 rfl (Nat.le_of_ble_eq_true rfl)
  have N11 := Fr.snoc X11 N8 g_b5
  have K11 : Keep h0 h11 [] := K8.wr W11 (Or.inr sz_b5)
  obtain ⟨T13, X13, e13, st13⟩ := getS2 X11 hx hZ hown (host := "") (Or.inl (hw _ (List.mem_of_getElem? (i := 11) rfl))) Via.refl e11 (SeC.ext (own_ext K11)) (g := (mkF m 62 #[.val (.int p1), .val (.int p2), .val (.int (0 : Int32)), .val (.int (0 : Int32)), .val (.ref oR), .val (.ref b5), .unset, .unset] [(.int (2 : Int32)), (.ref b5)])) rfl (hb hby at_62)
  obtain ⟨cl_b5_65, Ar_b5, q_b5, S_b5, N_b5, H_b5, G_b5⟩ := V_b5_11
  have hin65 : ¬ ((2 : Int32) < 0 ∨ cl_b5_65.slots.size ≤ ((2 : Int32)).toNatClampNeg) := inb_of S_b5 ⟨by decide, by decide⟩
  have Sto65 := Sto.ofV Ar_b5 q_b5 O5 (Ins.self (E_eC.ext (own_ext K11)))
  obtain ⟨T14, h14, X14, e14, W14, st14⟩ := stR X13 hx hZ e13 Ar_b5 (j := (2 : Int32)) hin65 rfl Sto65 (g := (mkF m 65 #[.val (.int p1), .val (.int p2), .val (.int (0 : Int32)), .val (.int (0 : Int32)), .val (.ref oR), .val (.ref b5), .unset, .unset] [(.ref eC), (.int (2 : Int32)), (.ref b5)])) rfl rfl (hb hby at_65)
  have V_b5_14 := Arv.set Ar_b5 q_b5 S_b5 N_b5 H_b5 G_b5 (v := .ref eC) rfl W14 2 rfl (Nat.le_of_ble_eq_true rfl)
  have N14 := Fr.snoc X14 N11 g_b5
  have K14 : Keep h0 h14 [] := K11.wr W14 (Or.inr sz_b5)
  obtain ⟨T15, X15, e15, st15⟩ := getS2 X14 hx hZ hown (host := "") (Or.inl (hw _ (List.mem_of_getElem? (i := 11) rfl))) Via.refl e14 (SeC.ext (own_ext K14)) (g := (mkF m 69 #[.val (.int p1), .val (.int p2), .val (.int (0 : Int32)), .val (.int (0 : Int32)), .val (.ref oR), .val (.ref b5), .unset, .unset] [(.int (3 : Int32)), (.ref b5)])) rfl (hb hby at_69)
  obtain ⟨cl_b5_72, Ar_b5, q_b5, S_b5, N_b5, H_b5, G_b5⟩ := V_b5_14
  have hin72 : ¬ ((3 : Int32) < 0 ∨ cl_b5_72.slots.size ≤ ((3 : Int32)).toNatClampNeg) := inb_of S_b5 ⟨by decide, by decide⟩
  have Sto72 := Sto.ofV Ar_b5 q_b5 O5 (Ins.self (E_eC.ext (own_ext K14)))
  obtain ⟨T16, h16, X16, e16, W16, st16⟩ := stR X15 hx hZ e15 Ar_b5 (j := (3 : Int32)) hin72 rfl Sto72 (g := (mkF m 72 #[.val (.int p1), .val (.int p2), .val (.int (0 : Int32)), .val (.int (0 : Int32)), .val (.ref oR), .val (.ref b5), .unset, .unset] [(.ref eC), (.int (3 : Int32)), (.ref b5)])) rfl rfl (hb hby at_72)
  have V_b5_16 := Arv.set Ar_b5 q_b5 S_b5 N_b5 H_b5 G_b5 (v := .ref eC) rfl W16 3 rfl (Nat.le_of_ble_eq_true rfl)
  have N16 := Fr.snoc X16 N14 g_b5
  have K16 : Keep h0 h16 [] := K14.wr W16 (Or.inr sz_b5)
  have OH : Ext h0 h16 := own_ext K16
  have ZH : n0 ≤ h16.size := Nat.le_trans Z0 K16.1
  obtain ⟨_, _, ⟨T17, L17, k17, n17⟩, -, X17, ⟨Lc17, hQ17, l17, y17, z17⟩, st17⟩ := Jvm.LawKit.callS X16 hx (y := (⟨"com/example/demarcation/demarcation/UnitLog$Ending", "ofTransaction", "(Lcom/example/demarcation/demarcation/CompletionCallback$Outcome;Z)Lcom/example/demarcation/demarcation/UnitLog$Ending;"⟩ : MethodName)) hown (mvT hZ (hw _ (List.mem_of_getElem? (i := 13) rfl))) (mvT hZ (hw _ (List.mem_of_getElem? (i := 14) rfl))) (mvT hZ (hw _ (List.mem_of_getElem? (i := 6) rfl))) (mvT hZ (hw _ (List.mem_of_getElem? (i := 15) rfl))) (by decide) (backOf (W := 0) (rm1r l Z a0 hw [] oR (0 : Int32) oC eF h16 n0 ZH (SoC.ext OH) (SeF.ext OH) hoRC rfl) hZ (hw _ (List.mem_of_getElem? (i := 15) rfl)) (hw _ (List.mem_of_getElem? (i := 6) rfl)) (by decide) (by decide)) (g := (mkF m 97 #[.val (.int p1), .val (.int p2), .val (.int (0 : Int32)), .val (.int (0 : Int32)), .val (.ref oR), .val (.ref b5), .val (.int ((0 : Int32) + (0 : Int32))), .unset] [(.int (0 : Int32)), (.ref oR)])) rfl (by rw [hml]; rfl) (argsL := [(.ref oR), (.int (0 : Int32))]) (rest := []) (lenOf pd_0_0 rfl) rfl (by show 2 * 0 + _ ≤ _; exact Nat.le_of_eq rfl) (hb hby at_97) (fun _ _ => ⟨rfl, e16, (by decide : 1 + 0 ≤ _), (by decide : 4 + 0 ≤ _)⟩)
  dsimp only [Pt.U, Pt.locs, Pt.cells, Pt.slots] at X17 l17 y17 z17 st17 hQ17
  subst l17 y17 z17
  obtain ⟨rfl, N17q, eqc⟩ := hQ17
  have V_A := V_b5_16.keep (own_same eqc (ws := [])) (by simp)
  obtain ⟨cl_b5_108, Ar_b5, q_b5, S_b5, N_b5, H_b5, G_b5⟩ := V_A
  have hin108 : ¬ (((0 : Int32) + (0 : Int32)) < 0 ∨ cl_b5_108.slots.size ≤ (((0 : Int32) + (0 : Int32))).toNatClampNeg) := inb_of S_b5 ⟨by decide, by decide⟩
  have hat108 : cl_b5_108.slots[(((0 : Int32) + (0 : Int32))).toNatClampNeg]? = some (.ref eF) := Has.at H_b5 hin108 rfl      -- what it returned, that it wrote nothing old, and the rest of your Q1
  have N17 := Fr.app N16 N17q
  obtain ⟨fs, hr, hrun, hended, hW, hsame⟩ := X17.leave (v := some (.int (1 : Int32))) (fun h => by rw [Bd.returns] at h; cases h)
  refine ⟨_, _, pre0 _ ?_, hrun, hended, _, _, rfl, ?_, ⟨_, rfl⟩, hW, hsame.mono (by decide) (by decide)⟩
  · show Steps p.tables e below (s₁.setTop (mkF m 0 #[.val (.int p1), .val (.int p2), .unset, .unset, .unset, .unset, .unset, .unset] [])) _
    refine XS.iloadN X0.here hx rfl (hb hby at_0) rfl ?_
    show Steps p.tables e below (s₁.setTop (mkF m 1 #[.val (.int p1), .val (.int p2), .unset, .unset, .unset, .unset, .unset, .unset] [(.int p1)])) _
    refine XS.iconst X0.here hx rfl (hb hby at_1) ?_
    show Steps p.tables e below (s₁.setTop (mkF m 2 #[.val (.int p1), .val (.int p2), .unset, .unset, .unset, .unset, .unset, .unset] [(.int (1 : Int32)), (.int p1)])) _
    refine XS.iand X0.here hx rfl (hb hby at_2) rfl ?_
    show Steps p.tables e below (s₁.setTop (mkF m 3 #[.val (.int p1), .val (.int p2), .unset, .unset, .unset, .unset, .unset, .unset] [(.int (p1 &&& (1 : Int32)))])) _
    refine XS.ifYes X0.here hx rfl (pc0 := 3) (pc' := 10) rfl (hb hby at_3) rfl ((if0 _ _).trans (teq hc3).1) (by decide) (by decide) ?_
    show Steps p.tables e below (s₁.setTop (mkF m 10 #[.val (.int p1), .val (.int p2), .unset, .unset, .unset, .unset, .unset, .unset] [])) _
    refine XS.iconst X0.here hx rfl (hb hby at_10) ?_
    show Steps p.tables e below (s₁.setTop (mkF m 11 #[.val (.int p1), .val (.int p2), .unset, .unset, .unset, .unset, .unset, .unset] [(.int (0 : Int32))])) _
    refine XS.istoreN X0.here hx rfl (hb hby at_11) rfl (l' := #[.val (.int p1), .val (.int p2), .val (.int (0 : Int32)), .unset, .unset, .unset, .unset, .unset]) rfl ?_
    show Steps p.tables e below (s₁.setTop (mkF m 12 #[.val (.int p1), .val (.int p2), .val (.int (0 : Int32)), .unset, .unset, .unset, .unset, .unset] [])) _
    refine XS.iloadN X0.here hx rfl (hb hby at_12) rfl ?_
    show Steps p.tables e below (s₁.setTop (mkF m 13 #[.val (.int p1), .val (.int p2), .val (.int (0 : Int32)), .unset, .unset, .unset, .unset, .unset] [(.int p2)])) _
    refine XS.iconst X0.here hx rfl (hb hby at_13) ?_
    show Steps p.tables e below (s₁.setTop (mkF m 14 #[.val (.int p1), .val (.int p2), .val (.int (0 : Int32)), .unset, .unset, .unset, .unset, .unset] [(.int (1 : Int32)), (.int p2)])) _
    refine XS.iand X0.here hx rfl (hb hby at_14) rfl ?_
    show Steps p.tables e below (s₁.setTop (mkF m 15 #[.val (.int p1), .val (.int p2), .val (.int (0 : Int32)), .unset, .unset, .unset, .unset, .unset] [(.int (p2 &&& (1 : Int32)))])) _
    refine XS.ifYes X0.here hx rfl (pc0 := 15) (pc' := 22) rfl (hb hby at_15) rfl ((if0 _ _).trans (teq hc15).1) (by decide) (by decide) ?_
    show Steps p.tables e below (s₁.setTop (mkF m 22 #[.val (.int p1), .val (.int p2), .val (.int (0 : Int32)), .unset, .unset, .unset, .unset, .unset] [])) _
    refine XS.iconst X0.here hx rfl (hb hby at_22) ?_
    show Steps p.tables e below (s₁.setTop (mkF m 23 #[.val (.int p1), .val (.int p2), .val (.int (0 : Int32)), .unset, .unset, .unset, .unset, .unset] [(.int (0 : Int32))])) _
    refine XS.istoreN X0.here hx rfl (hb hby at_23) rfl (l' := #[.val (.int p1), .val (.int p2), .val (.int (0 : Int32)), .val (.int (0 : Int32)), .unset, .unset, .unset, .unset]) rfl ?_
    show Steps p.tables e below (s₁.setTop (mkF m 24 #[.val (.int p1), .val (.int p2), .val (.int (0 : Int32)), .val (.int (0 : Int32)), .unset, .unset, .unset, .unset] [])) _
    refine XS.iloadN X0.here hx rfl (hb hby at_24) rfl ?_
    show Steps p.tables e below (s₁.setTop (mkF m 25 #[.val (.int p1), .val (.int p2), .val (.int (0 : Int32)), .val (.int (0 : Int32)), .unset, .unset, .unset, .unset] [(.int (0 : Int32))])) _
    refine XS.ifYes X0.here hx rfl (pc0 := 25) (pc' := 34) rfl (hb hby at_25) rfl ((if0 _ _).trans (teq (rfl : (0 : Int32) = (0 : Int32))).1) (by decide) (by decide) ?_
    show Steps p.tables e below (s₁.setTop (mkF m 34 #[.val (.int p1), .val (.int p2), .val (.int (0 : Int32)), .val (.int (0 : Int32)), .unset, .unset, .unset, .unset] [])) _
    refine st4 _ ?_
    show Steps p.tables e below (T4.setTop (mkF m 37 #[.val (.int p1), .val (.int p2), .val (.int (0 : Int32)), .val (.int (0 : Int32)), .unset, .unset, .unset, .unset] [(.ref oR)])) _
    refine XS.astore X4.here hx rfl (hb hby at_37) rfl rfl (l' := #[.val (.int p1), .val (.int p2), .val (.int (0 : Int32)), .val (.int (0 : Int32)), .val (.ref oR), .unset, .unset, .unset]) rfl ?_
    show Steps p.tables e below (T4.setTop (mkF m 39 #[.val (.int p1), .val (.int p2), .val (.int (0 : Int32)), .val (.int (0 : Int32)), .val (.ref oR), .unset, .unset, .unset] [])) _
    refine XS.iconst X4.here hx rfl (hb hby at_39) ?_
    show Steps p.tables e below (T4.setTop (mkF m 40 #[.val (.int p1), .val (.int p2), .val (.int (0 : Int32)), .val (.int (0 : Int32)), .val (.ref oR), .unset, .unset, .unset] [(.int (4 : Int32))])) _
    refine st5 _ ?_
    show Steps p.tables e below (T5.setTop (mkF m 43 #[.val (.int p1), .val (.int p2), .val (.int (0 : Int32)), .val (.int (0 : Int32)), .val (.ref oR), .unset, .unset, .unset] [(.ref b5)])) _
    refine XS.astore X5.here hx rfl (hb hby at_43) rfl rfl (l' := #[.val (.int p1), .val (.int p2), .val (.int (0 : Int32)), .val (.int (0 : Int32)), .val (.ref oR), .val (.ref b5), .unset, .unset]) rfl ?_
    show Steps p.tables e below (T5.setTop (mkF m 45 #[.val (.int p1), .val (.int p2), .val (.int (0 : Int32)), .val (.int (0 : Int32)), .val (.ref oR), .val (.ref b5), .unset, .unset] [])) _
    refine XS.aload X5.here hx rfl (hb hby at_45) rfl rfl ?_
    show Steps p.tables e below (T5.setTop (mkF m 47 #[.val (.int p1), .val (.int p2), .val (.int (0 : Int32)), .val (.int (0 : Int32)), .val (.ref oR), .val (.ref b5), .unset, .unset] [(.ref b5)])) _
    refine XS.iconst X5.here hx rfl (hb hby at_47) ?_
    show Steps p.tables e below (T5.setTop (mkF m 48 #[.val (.int p1), .val (.int p2), .val (.int (0 : Int32)), .val (.int (0 : Int32)), .val (.ref oR), .val (.ref b5), .unset, .unset] [(.int (0 : Int32)), (.ref b5)])) _
    refine st7 _ ?_
    show Steps p.tables e below (T7.setTop (mkF m 51 #[.val (.int p1), .val (.int p2), .val (.int (0 : Int32)), .val (.int (0 : Int32)), .val (.ref oR), .val (.ref b5), .unset, .unset] [(.ref eF), (.int (0 : Int32)), (.ref b5)])) _
    refine st8 _ ?_
    show Steps p.tables e below (T8.setTop (mkF m 52 #[.val (.int p1), .val (.int p2), .val (.int (0 : Int32)), .val (.int (0 : Int32)), .val (.ref oR), .val (.ref b5), .unset, .unset] [])) _
    refine XS.aload X8.here hx rfl (hb hby at_52) rfl rfl ?_
    show Steps p.tables e below (T8.setTop (mkF m 54 #[.val (.int p1), .val (.int p2), .val (.int (0 : Int32)), .val (.int (0 : Int32)), .val (.ref oR), .val (.ref b5), .unset, .unset] [(.ref b5)])) _
    refine XS.iconst X8.here hx rfl (hb hby at_54) ?_
    show Steps p.tables e below (T8.setTop (mkF m 55 #[.val (.int p1), .val (.int p2), .val (.int (0 : Int32)), .val (.int (0 : Int32)), .val (.ref oR), .val (.ref b5), .unset, .unset] [(.int (1 : Int32)), (.ref b5)])) _
    refine st10 _ ?_
    show Steps p.tables e below (T10.setTop (mkF m 58 #[.val (.int p1), .val (.int p2), .val (.int (0 : Int32)), .val (.int (0 : Int32)), .val (.ref oR), .val (.ref b5), .unset, .unset] [(.ref eR), (.int (1 : Int32)), (.ref b5)])) _
    refine st11 _ ?_
    show Steps p.tables e below (T11.setTop (mkF m 59 #[.val (.int p1), .val (.int p2), .val (.int (0 : Int32)), .val (.int (0 : Int32)), .val (.ref oR), .val (.ref b5), .unset, .unset] [])) _
    refine XS.aload X11.here hx rfl (hb hby at_59) rfl rfl ?_
    show Steps p.tables e below (T11.setTop (mkF m 61 #[.val (.int p1), .val (.int p2), .val (.int (0 : Int32)), .val (.int (0 : Int32)), .val (.ref oR), .val (.ref b5), .unset, .unset] [(.ref b5)])) _
    refine XS.iconst X11.here hx rfl (hb hby at_61) ?_
    show Steps p.tables e below (T11.setTop (mkF m 62 #[.val (.int p1), .val (.int p2), .val (.int (0 : Int32)), .val (.int (0 : Int32)), .val (.ref oR), .val (.ref b5), .unset, .unset] [(.int (2 : Int32)), (.ref b5)])) _
    refine st13 _ ?_
    show Steps p.tables e below (T13.setTop (mkF m 65 #[.val (.int p1), .val (.int p2), .val (.int (0 : Int32)), .val (.int (0 : Int32)), .val (.ref oR), .val (.ref b5), .unset, .unset] [(.ref eC), (.int (2 : Int32)), (.ref b5)])) _
    refine st14 _ ?_
    show Steps p.tables e below (T14.setTop (mkF m 66 #[.val (.int p1), .val (.int p2), .val (.int (0 : Int32)), .val (.int (0 : Int32)), .val (.ref oR), .val (.ref b5), .unset, .unset] [])) _
    refine XS.aload X14.here hx rfl (hb hby at_66) rfl rfl ?_
    show Steps p.tables e below (T14.setTop (mkF m 68 #[.val (.int p1), .val (.int p2), .val (.int (0 : Int32)), .val (.int (0 : Int32)), .val (.ref oR), .val (.ref b5), .unset, .unset] [(.ref b5)])) _
    refine XS.iconst X14.here hx rfl (hb hby at_68) ?_
    show Steps p.tables e below (T14.setTop (mkF m 69 #[.val (.int p1), .val (.int p2), .val (.int (0 : Int32)), .val (.int (0 : Int32)), .val (.ref oR), .val (.ref b5), .unset, .unset] [(.int (3 : Int32)), (.ref b5)])) _
    refine st15 _ ?_
    show Steps p.tables e below (T15.setTop (mkF m 72 #[.val (.int p1), .val (.int p2), .val (.int (0 : Int32)), .val (.int (0 : Int32)), .val (.ref oR), .val (.ref b5), .unset, .unset] [(.ref eC), (.int (3 : Int32)), (.ref b5)])) _
    refine st16 _ ?_
    show Steps p.tables e below (T16.setTop (mkF m 73 #[.val (.int p1), .val (.int p2), .val (.int (0 : Int32)), .val (.int (0 : Int32)), .val (.ref oR), .val (.ref b5), .unset, .unset] [])) _
    refine XS.iloadN X16.here hx rfl (hb hby at_73) rfl ?_
    show Steps p.tables e below (T16.setTop (mkF m 74 #[.val (.int p1), .val (.int p2), .val (.int (0 : Int32)), .val (.int (0 : Int32)), .val (.ref oR), .val (.ref b5), .unset, .unset] [(.int (0 : Int32))])) _
    refine XS.ifYes X16.here hx rfl (pc0 := 74) (pc' := 81) rfl (hb hby at_74) rfl ((if0 _ _).trans (teq (rfl : (0 : Int32) = (0 : Int32))).1) (by decide) (by decide) ?_
    show Steps p.tables e below (T16.setTop (mkF m 81 #[.val (.int p1), .val (.int p2), .val (.int (0 : Int32)), .val (.int (0 : Int32)), .val (.ref oR), .val (.ref b5), .unset, .unset] [])) _
    refine XS.iconst X16.here hx rfl (hb hby at_81) ?_
    show Steps p.tables e below (T16.setTop (mkF m 82 #[.val (.int p1), .val (.int p2), .val (.int (0 : Int32)), .val (.int (0 : Int32)), .val (.ref oR), .val (.ref b5), .unset, .unset] [(.int (0 : Int32))])) _
    refine XS.iloadN X16.here hx rfl (hb hby at_82) rfl ?_
    show Steps p.tables e below (T16.setTop (mkF m 83 #[.val (.int p1), .val (.int p2), .val (.int (0 : Int32)), .val (.int (0 : Int32)), .val (.ref oR), .val (.ref b5), .unset, .unset] [(.int (0 : Int32)), (.int (0 : Int32))])) _
    refine XS.ifYes X16.here hx rfl (pc0 := 83) (pc' := 90) rfl (hb hby at_83) rfl ((if0 _ _).trans (teq (rfl : (0 : Int32) = (0 : Int32))).1) (by decide) (by decide) ?_
    show Steps p.tables e below (T16.setTop (mkF m 90 #[.val (.int p1), .val (.int p2), .val (.int (0 : Int32)), .val (.int (0 : Int32)), .val (.ref oR), .val (.ref b5), .unset, .unset] [(.int (0 : Int32))])) _
    refine XS.iconst X16.here hx rfl (hb hby at_90) ?_
    show Steps p.tables e below (T16.setTop (mkF m 91 #[.val (.int p1), .val (.int p2), .val (.int (0 : Int32)), .val (.int (0 : Int32)), .val (.ref oR), .val (.ref b5), .unset, .unset] [(.int (0 : Int32)), (.int (0 : Int32))])) _
    refine XS.iadd X16.here hx rfl (hb hby at_91) rfl ?_
    show Steps p.tables e below (T16.setTop (mkF m 92 #[.val (.int p1), .val (.int p2), .val (.int (0 : Int32)), .val (.int (0 : Int32)), .val (.ref oR), .val (.ref b5), .unset, .unset] [(.int ((0 : Int32) + (0 : Int32)))])) _
    refine XS.istore X16.here hx rfl (hb hby at_92) rfl (l' := #[.val (.int p1), .val (.int p2), .val (.int (0 : Int32)), .val (.int (0 : Int32)), .val (.ref oR), .val (.ref b5), .val (.int ((0 : Int32) + (0 : Int32))), .unset]) rfl ?_
    show Steps p.tables e below (T16.setTop (mkF m 94 #[.val (.int p1), .val (.int p2), .val (.int (0 : Int32)), .val (.int (0 : Int32)), .val (.ref oR), .val (.ref b5), .val (.int ((0 : Int32) + (0 : Int32))), .unset] [])) _
    refine XS.aload X16.here hx rfl (hb hby at_94) rfl rfl ?_
    show Steps p.tables e below (T16.setTop (mkF m 96 #[.val (.int p1), .val (.int p2), .val (.int (0 : Int32)), .val (.int (0 : Int32)), .val (.ref oR), .val (.ref b5), .val (.int ((0 : Int32) + (0 : Int32))), .unset] [(.ref oR)])) _
    refine XS.iloadN X16.here hx rfl (hb hby at_96) rfl ?_
    show Steps p.tables e below (T16.setTop (mkF m 97 #[.val (.int p1), .val (.int p2), .val (.int (0 : Int32)), .val (.int (0 : Int32)), .val (.ref oR), .val (.ref b5), .val (.int ((0 : Int32) + (0 : Int32))), .unset] [(.int (0 : Int32)), (.ref oR)])) _
    refine st17 _ ?_
    show Steps p.tables e below (T17.setTop (mkF m 100 #[.val (.int p1), .val (.int p2), .val (.int (0 : Int32)), .val (.int (0 : Int32)), .val (.ref oR), .val (.ref b5), .val (.int ((0 : Int32) + (0 : Int32))), .unset] [(.ref eF)])) _
    refine XS.astore X17.here hx rfl (hb hby at_100) rfl rfl (l' := #[.val (.int p1), .val (.int p2), .val (.int (0 : Int32)), .val (.int (0 : Int32)), .val (.ref oR), .val (.ref b5), .val (.int ((0 : Int32) + (0 : Int32))), .val (.ref eF)]) rfl ?_
    show Steps p.tables e below (T17.setTop (mkF m 102 #[.val (.int p1), .val (.int p2), .val (.int (0 : Int32)), .val (.int (0 : Int32)), .val (.ref oR), .val (.ref b5), .val (.int ((0 : Int32) + (0 : Int32))), .val (.ref eF)] [])) _
    refine XS.aload X17.here hx rfl (hb hby at_102) rfl rfl ?_
    show Steps p.tables e below (T17.setTop (mkF m 104 #[.val (.int p1), .val (.int p2), .val (.int (0 : Int32)), .val (.int (0 : Int32)), .val (.ref oR), .val (.ref b5), .val (.int ((0 : Int32) + (0 : Int32))), .val (.ref eF)] [(.ref eF)])) _
    refine XS.aload X17.here hx rfl (hb hby at_104) rfl rfl ?_
    show Steps p.tables e below (T17.setTop (mkF m 106 #[.val (.int p1), .val (.int p2), .val (.int (0 : Int32)), .val (.int (0 : Int32)), .val (.ref oR), .val (.ref b5), .val (.int ((0 : Int32) + (0 : Int32))), .val (.ref eF)] [(.ref b5), (.ref eF)])) _
    refine XS.iload X17.here hx rfl (hb hby at_106) rfl ?_
    show Steps p.tables e below (T17.setTop (mkF m 108 #[.val (.int p1), .val (.int p2), .val (.int (0 : Int32)), .val (.int (0 : Int32)), .val (.ref oR), .val (.ref b5), .val (.int ((0 : Int32) + (0 : Int32))), .val (.ref eF)] [(.int ((0 : Int32) + (0 : Int32))), (.ref b5), (.ref eF)])) _
    refine X17.aaload hx (j := ((0 : Int32) + (0 : Int32))) (v := (.ref eF)) Ar_b5.1 (State.isArrayOf_alike hZ.alike Ar_b5.2.1) rfl Ar_b5.2.2 hin108 hat108 (g := (mkF m 108 #[.val (.int p1), .val (.int p2), .val (.int (0 : Int32)), .val (.int (0 : Int32)), .val (.ref oR), .val (.ref b5), .val (.int ((0 : Int32) + (0 : Int32))), .val (.ref eF)] [(.int ((0 : Int32) + (0 : Int32))), (.ref b5), (.ref eF)])) rfl rfl (hb hby at_108) _ ?_
    show Steps p.tables e below (T17.setTop (mkF m 109 #[.val (.int p1), .val (.int p2), .val (.int (0 : Int32)), .val (.int (0 : Int32)), .val (.ref oR), .val (.ref b5), .val (.int ((0 : Int32) + (0 : Int32))), .val (.ref eF)] [(.ref eF), (.ref eF)])) _
    refine Jvm.RoadKit.acmp (g := (mkF m 109 #[.val (.int p1), .val (.int p2), .val (.int (0 : Int32)), .val (.int (0 : Int32)), .val (.ref oR), .val (.ref b5), .val (.int ((0 : Int32) + (0 : Int32))), .val (.ref eF)] [(.ref eF), (.ref eF)])) X17 hx rfl rfl rfl (pc0 := 109) (pc' := 112) (same := true) rfl (hb hby at_109) rfl (decide_eq_true (rfl)) (by decide) (by decide) ?_
    show Steps p.tables e below (T17.setTop (mkF m 112 #[.val (.int p1), .val (.int p2), .val (.int (0 : Int32)), .val (.int (0 : Int32)), .val (.ref oR), .val (.ref b5), .val (.int ((0 : Int32) + (0 : Int32))), .val (.ref eF)] [])) _
    refine XS.iconst X17.here hx rfl (hb hby at_112) ?_
    show Steps p.tables e below (T17.setTop (mkF m 113 #[.val (.int p1), .val (.int p2), .val (.int (0 : Int32)), .val (.int (0 : Int32)), .val (.ref oR), .val (.ref b5), .val (.int ((0 : Int32) + (0 : Int32))), .val (.ref eF)] [(.int (1 : Int32))])) _
    refine XS.goto X17.here hx rfl (pc0 := 113) (pc' := 117) rfl (hb hby at_113) (by decide) (by decide) ?_
    show Steps p.tables e below (T17.setTop (mkF m 117 #[.val (.int p1), .val (.int p2), .val (.int (0 : Int32)), .val (.int (0 : Int32)), .val (.ref oR), .val (.ref b5), .val (.int ((0 : Int32) + (0 : Int32))), .val (.ref eF)] [(.int (1 : Int32))])) _
    exact retN X17 hx (t := .boolean) Bd.returns (by simp) (hb hby at_117) hr
  · show Q000 n0 _ T17.heap _
    exact ⟨rfl, N17⟩
set_option maxRecDepth 65536 in
set_option maxHeartbeats 40000000 in
theorem rm0 (l : Launch) (Z : State) (a0 : Array Value) (hw : ∀ d ∈ tables_1, d.before a0 Z = true) (ws : List Jvm.Cond) (p1 : Int32) (p2 : Int32) (oC : Addr) (oR : Addr) (eF : Addr) (eR : Addr) (eC : Addr) (h0 : Heap) (n0 : Nat) (Z0 : n0 ≤ h0.size) (SoC : Sta Z h0 "com/example/demarcation/demarcation/CompletionCallback$Outcome" "COMMITTED" "Lcom/example/demarcation/demarcation/CompletionCallback$Outcome;" (.ref oC)) (SoR : Sta Z h0 "com/example/demarcation/demarcation/CompletionCallback$Outcome" "ROLLED_BACK" "Lcom/example/demarcation/demarcation/CompletionCallback$Outcome;" (.ref oR)) (SeF : Sta Z h0 "com/example/demarcation/demarcation/UnitLog$Ending" "ROLLBACK_REFUSED" "Lcom/example/demarcation/demarcation/UnitLog$Ending;" (.ref eF)) (SeR : Sta Z h0 "com/example/demarcation/demarcation/UnitLog$Ending" "ROLLED_BACK" "Lcom/example/demarcation/demarcation/UnitLog$Ending;" (.ref eR)) (SeC : Sta Z h0 "com/example/demarcation/demarcation/UnitLog$Ending" "COMMITTED" "Lcom/example/demarcation/demarcation/UnitLog$Ending;" (.ref eC)) (E_eF : Exa Z h0 eF "com/example/demarcation/demarcation/UnitLog$Ending") (E_eR : Exa Z h0 eR "com/example/demarcation/demarcation/UnitLog$Ending") (E_eC : Exa Z h0 eC "com/example/demarcation/demarcation/UnitLog$Ending") (hoRC : ¬ (oR = oC)) :
    MetFree l x (head1 (Jvm.Cond.code x code maxLocals ret :: ws) room_1) (fun a U => a = #[(.int p1), (.int p2)] ∧ Z.Warmed39 U.vm ∧ U.heap = h0) (fun _ _ _ _ _ => True) (fun _ U o U' => ∃ v L, o = .returned v ∧ (v = some (.int (1 : Int32)) ∧ Fr n0 L) ∧ FrameEnd U o U' L room_1.cells room_1.slots) := by
  by_cases q0 : (p1 &&& (1 : Int32)) = (0 : Int32)
  · by_cases q1 : (p2 &&& (1 : Int32)) = (0 : Int32)
    · exact rm000 l Z a0 hw ws p1 p2 oC oR eF eR eC h0 n0 Z0 SoC SoR SeF SeR SeC E_eF E_eR E_eC hoRC q0 q1
    · exact rm001 l Z a0 hw ws p1 p2 oC oR eF eR eC h0 n0 Z0 SoC SoR SeF SeR SeC E_eF E_eR E_eC hoRC q0 q1
  · by_cases q1 : (p2 &&& (1 : Int32)) = (0 : Int32)
    · exact rm010 l Z a0 hw ws p1 p2 oC oR eF eR eC h0 n0 Z0 SoC SoR SeF SeR SeC E_eF E_eR E_eC hoRC q0 q1
    · exact rm011 l Z a0 hw ws p1 p2 oC oR eF eR eC h0 n0 Z0 SoC SoR SeF SeR SeC E_eF E_eR E_eC hoRC q0 q1
set_option maxRecDepth 65536 in
set_option maxHeartbeats 40000000 in
theorem comes_1 {Post : Tables → Env → Array Value → State → Outcome → State → Prop} (hpost : ∀ tb e args s v u, (limb_1_1.after args s (.returned v) u = true ∧ limb_1_2.after args s (.returned v) u = true ∧ True) → FrameEnd s (.returned v) u (Jvm.fieldLocs frame_1_writes args s ++ Jvm.arrayLocs frame_1_arrays args s ++ Jvm.staticLocs frame_1_statics s) 16 128 → Post tb e args s (.returned v) u) :
    ArmFor flags0 classFile x code maxLocals ret World_1 tables_1 room_1 Calls_1 rest_1 Pre_1 Post := by
  intro l hfl _ _ p e ha hc hk s m args below hf hA hF happ hP
  obtain ⟨hcalls, hrest, hpre⟩ := hP
  obtain ⟨-, -, -, hnamed, -, -, -, hat⟩ := (Spec.applies_iff hf).mp happ
  obtain ⟨hg, hn⟩ := and_e (Cond.before_iff.mp (show (Jvm.Cond.and given_1 narrow_1).before args s = true from hpre))
  obtain ⟨g19, g20⟩ := and_e hg
  obtain ⟨g21, g22⟩ := and_e g20
  obtain ⟨w0, w1, rfl⟩ : ∃ w0 w1 : Value, args = #[w0, w1] := by
    have hs : args.size = 2 := by simpa [Cond.value, given_1] using g19
    obtain ⟨L⟩ := args
    match L, hs with
    | [w0, w1], _ => exact ⟨w0, w1, rfl⟩
  have hw := fun d (hd : d ∈ tables_1) => atoms_spec (ws := Jvm.Cond.code x code maxLocals ret :: tables_1) hat d (List.mem_cons_of_mem _ hd)
  have hfit : Fit s := fun {y c} hc i hi => by
    obtain ⟨ha, rfl⟩ := Array.getElem?_eq_some_iff.mp hc
    have q := List.all_eq_true.mp ((Array.all_eq_true_iff_forall_mem.mp hF) _ (Array.getElem_mem ha)) i (List.mem_range.mpr hi)
    simpa [Array.getElem?_eq_getElem hi] using q
  obtain ⟨i0, ei0⟩ := is_v g21
  obtain rfl : w0 = (.int i0) := Option.some.inj ei0
  obtain ⟨i1, ei1⟩ := is_v g22
  obtain rfl : w1 = (.int i1) := Option.some.inj ei1
  obtain ⟨k_oR, r0⟩ := and_e hn
  obtain ⟨k_eF, r1⟩ := and_e r0
  obtain ⟨k_eR, r2⟩ := and_e r1
  obtain ⟨k_eC, r3⟩ := and_e r2
  obtain ⟨k_oC, r4⟩ := and_e r3
  obtain ⟨k_dR, r5⟩ := and_e r4
  have k_dC := r5
  obtain ⟨oR, evoR⟩ := exa_v k_oR
  have SoR := Sta.start evoR (Or.inr ⟨hw _ (List.mem_of_getElem? (i := 1) rfl), hw _ (List.mem_of_getElem? (i := 2) rfl)⟩)
  have EoR := Exa.start evoR k_oR
  obtain ⟨oC, evoC⟩ := exa_v k_oC
  have SoC := Sta.start evoC (Or.inr ⟨hw _ (List.mem_of_getElem? (i := 1) rfl), hw _ (List.mem_of_getElem? (i := 17) rfl)⟩)
  have EoC := Exa.start evoC k_oC
  obtain ⟨eF, eveF⟩ := exa_v k_eF
  have SeF := Sta.start eveF (Or.inr ⟨hw _ (List.mem_of_getElem? (i := 6) rfl), hw _ (List.mem_of_getElem? (i := 7) rfl)⟩)
  have EeF := Exa.start eveF k_eF
  obtain ⟨eR, eveR⟩ := exa_v k_eR
  have SeR := Sta.start eveR (Or.inr ⟨hw _ (List.mem_of_getElem? (i := 6) rfl), hw _ (List.mem_of_getElem? (i := 10) rfl)⟩)
  have EeR := Exa.start eveR k_eR
  obtain ⟨eC, eveC⟩ := exa_v k_eC
  have SeC := Sta.start eveC (Or.inr ⟨hw _ (List.mem_of_getElem? (i := 6) rfl), hw _ (List.mem_of_getElem? (i := 12) rfl)⟩)
  have EeC := Exa.start eveC k_eC
  have FR := own_fint evoR k_dR
  have FC := own_fint evoC k_dC
  have hoRC := own_ne FR FC (by decide)
  obtain ⟨n, o, h1, h2, h3, _, L, rfl, ⟨rfl, N⟩, hq⟩ := rm0 l s _ hw tables_1 i0 i1 oC oR eF eR eC s.heap s.heap.size (Nat.le_refl _) SoC SoR SeF SeR SeC EeF EeR EeC hoRC p e ha hc hk s m _ below hf ((Spec.applies_iff_loose hf).mp happ).1 ⟨rfl, State.Warmed39.refl s, rfl⟩ trivial
  refine ⟨n, _, h1, h2, h3, hpost _ _ _ _ _ _ ⟨Cond.after_iff.mpr rfl, Cond.after_iff.mpr (eq_i res_at (Term.int_eval (1)) rfl), trivial⟩ ⟨hq.1, hq.2.1, (hq.2.2.sift fun y hy => Or.inr (N y hy)).mono (by decide) (by decide)⟩⟩
theorem main_1_1 : Claimed_1_1 := comes_1 fun _ _ _ _ _ _ h hF => ⟨h.1, hF⟩
theorem main_1_2 : Claimed_1_2 := comes_1 fun _ _ _ _ _ _ h hF => ⟨h.2.1, hF⟩
end Jvm.Pilot.@@N@@
namespace Jvm.Pilot.@@N@@
open Jvm Jvm.ClassFile Sem Op Lib Jvm.Free Jvm.Stand Jvm.Pilot.@@N@@.Jvm.D
/-! MADE BY PROGRAM (witnessworld.py) out of the Statement's table words and the real class files: 12 classes; the members and pool entries that the words name. The judged class is class 1, her method 1. -/
namespace start1
open Jvm.ClassFile
def u (s : String) : CpInfo := .utf8 (stringToUtf16 s)
/-- a pool by its gaps: so many unusable entries, then the entry; so many at the end -/
def gap : Nat → List CpInfo → List CpInfo
  | 0, r => r
  | n + 1, r => .unusable :: gap n r
def poolList (es : List (Nat × CpInfo)) (last : Nat) : List CpInfo := es.foldr (fun e r => gap e.1 (e.2 :: r)) (gap last [])
def pool (es : List (Nat × CpInfo)) (last : Nat) : Array CpInfo := ⟨poolList es last⟩
def fileOf (pool : Array CpInfo) (this : Nat) (attrs : Array Attribute := #[]) (ms : Array MethodInfo := #[]) (fl : Nat := 33) (sup : Nat := 0) (ifs : Array Nat := #[]) (fds : Array FieldInfo := #[]) : ClassFile where
  minorVersion := 0
  majorVersion := 65
  constantPool := pool
  accessFlags := fl
  thisClass := this
  superClass := sup
  interfaces := ifs
  fields := fds
  methods := ms
  attributes := attrs
def plain (name : String) (sup : Option ClassId) : Class where
  name := name
  kind := .ordinary
  loader := none
  accessFlags := 33
  super := sup
  interfaces := #[]
  cf := none
  fields := #[]
  methods := #[]
  instanceTypes := #[]
  staticTypes := #[]
  resolved := #[]
  callSites := []
  init := .initialized
  statics := none
  mirror := none

def pool0 : Array CpInfo := pool [(5, u "<init>"), (0, u "()V"), (1, .class_ 10), (1, u "java/lang/Object")] 113

def k0m0 : Method := { name := "<init>", desc := "()V", sig := { parameters := [], returnType := none }, accessFlags := 1, code := none }
/-- java/lang/Object -/
def k0 : Class := { plain "java/lang/Object" none with
  accessFlags := 33
  interfaces := #[]
  cf := some (fileOf pool0 8 #[] #[{ accessFlags := 1, nameIndex := 5, descriptorIndex := 6, attributes := #[] }] 33 0 #[] #[])
  fields := #[]
  methods := #[k0m0]
  instanceTypes := #[]
  staticTypes := #[]
  resolved := Array.replicate 124 none
  statics := none }

def pool1 : Array CpInfo := pool [(2, .class_ 4), (1, u "java/lang/Object"), (0, u "<init>"), (0, u "()V"), (0, .fieldref 8 9), (0, .class_ 10), (0, .nameAndType 11 12), (0, u "com/example/demarcation/demarcation/CompletionCallback$Outcome"), (0, u "COMMITTED"), (0, u "Lcom/example/demarcation/demarcation/CompletionCallback$Outcome;"), (0, .fieldref 8 14), (0, .nameAndType 15 12), (0, u "ROLLED_BACK"), (0, .class_ 17), (0, u "com/example/demarcation/demarcation/UnitLog$Ending"), (0, .fieldref 16 19), (0, .nameAndType 20 21), (0, u "ROLLBACK_REFUSED"), (0, u "Lcom/example/demarcation/demarcation/UnitLog$Ending;"), (0, .fieldref 16 23), (0, .nameAndType 15 21), (0, .fieldref 16 25), (0, .nameAndType 11 21), (0, .methodref 16 27), (0, .nameAndType 28 29), (0, u "ofTransaction"), (0, u "(Lcom/example/demarcation/demarcation/CompletionCallback$Outcome;Z)Lcom/example/demarcation/demarcation/UnitLog$Ending;"), (0, .class_ 31), (0, u "com/example/demarcation/demarcation/UnitLogOfTransactionPinLaw"), (2, u "law"), (0, u "(II)Z")] 12

def k1m0 : Method := { name := "<init>", desc := "()V", sig := { parameters := [], returnType := none }, accessFlags := 2, code := none }
def k1c1 : Code := { maxStack := 3, maxLocals := 8, code := code, exceptionTable := #[], attributes := #[] }
def k1m1 : Method := { name := "law", desc := "(II)Z", sig := { parameters := [.int, .int], returnType := some .boolean }, accessFlags := 9, code := some k1c1 }
/-- com/example/demarcation/demarcation/UnitLogOfTransactionPinLaw -/
def k1 : Class := { plain "com/example/demarcation/demarcation/UnitLogOfTransactionPinLaw" (some 0) with
  accessFlags := 49
  interfaces := #[]
  cf := some (fileOf pool1 30 #[] #[{ accessFlags := 2, nameIndex := 5, descriptorIndex := 6, attributes := #[] }, { accessFlags := 9, nameIndex := 34, descriptorIndex := 35, attributes := #[] }] 49 2 #[] #[])
  fields := #[]
  methods := #[k1m0, k1m1]
  instanceTypes := #[]
  staticTypes := #[]
  resolved := Array.replicate 48 none
  statics := none }

def pool2 : Array CpInfo := pool [(1, .class_ 2), (0, u "java/lang/constant/Constable"), (0, .class_ 4), (0, u "java/lang/Object")] 6

/-- java/lang/constant/Constable -/
def k2 : Class := { plain "java/lang/constant/Constable" (some 0) with
  accessFlags := 1537
  interfaces := #[]
  cf := some (fileOf pool2 1 #[] #[] 1537 3 #[] #[])
  fields := #[]
  methods := #[]
  instanceTypes := #[]
  staticTypes := #[]
  resolved := Array.replicate 11 none
  statics := none }

def pool3 : Array CpInfo := pool [(1, .class_ 2), (0, u "java/lang/Comparable"), (0, .class_ 4), (0, u "java/lang/Object")] 7

/-- java/lang/Comparable -/
def k3 : Class := { plain "java/lang/Comparable" (some 0) with
  accessFlags := 1537
  interfaces := #[]
  cf := some (fileOf pool3 1 #[] #[] 1537 3 #[] #[])
  fields := #[]
  methods := #[]
  instanceTypes := #[]
  staticTypes := #[]
  resolved := Array.replicate 12 none
  statics := none }

def pool4 : Array CpInfo := pool [(1, .class_ 2), (0, u "java/io/Serializable"), (0, .class_ 4), (0, u "java/lang/Object")] 2

/-- java/io/Serializable -/
def k4 : Class := { plain "java/io/Serializable" (some 0) with
  accessFlags := 1537
  interfaces := #[]
  cf := some (fileOf pool4 1 #[] #[] 1537 3 #[] #[])
  fields := #[]
  methods := #[]
  instanceTypes := #[]
  staticTypes := #[]
  resolved := Array.replicate 7 none
  statics := none }

def pool5 : Array CpInfo := pool [(2, .class_ 4), (1, u "java/lang/Enum"), (0, u "name"), (0, u "Ljava/lang/String;"), (2, u "ordinal"), (0, u "I"), (1, .class_ 14), (1, u "java/lang/Object"), (4, u "hash"), (86, .class_ 108), (1, u "java/lang/Enum$EnumDesc"), (2, .class_ 112), (0, u "java/lang/constant/Constable"), (0, .class_ 114), (0, u "java/lang/Comparable"), (0, .class_ 116), (0, u "java/io/Serializable")] 87

/-- java/lang/Enum -/
def k5 : Class := { plain "java/lang/Enum" (some 0) with
  accessFlags := 1057
  interfaces := #[2, 3, 4]
  cf := some (fileOf pool5 2 #[.nestMembers #[106]] #[] 1057 12 #[111, 113, 115] #[{ accessFlags := 18, nameIndex := 5, descriptorIndex := 6, attributes := #[] }, { accessFlags := 18, nameIndex := 9, descriptorIndex := 10, attributes := #[] }, { accessFlags := 2, nameIndex := 19, descriptorIndex := 10, attributes := #[] }])
  fields := #[{ name := "name", type := (.object "java/lang/String"), accessFlags := 18, slot := 0, constantValue := 0 }, { name := "ordinal", type := .int, accessFlags := 18, slot := 1, constantValue := 0 }, { name := "hash", type := .int, accessFlags := 2, slot := 2, constantValue := 0 }]
  methods := #[]
  instanceTypes := #[(.object "java/lang/String"), .int, .int]
  staticTypes := #[]
  resolved := Array.replicate 204 none
  statics := none }

def pool6 : Array CpInfo := pool [(1, .class_ 2), (0, u "com/example/demarcation/demarcation/CompletionCallback$Outcome"), (2, u "COMMITTED"), (0, u "Lcom/example/demarcation/demarcation/CompletionCallback$Outcome;"), (2, u "ROLLED_BACK"), (2, u "$VALUES"), (0, u "[Lcom/example/demarcation/demarcation/CompletionCallback$Outcome;"), (6, .class_ 22), (1, u "java/lang/Enum"), (25, .class_ 49), (0, u "com/example/demarcation/demarcation/CompletionCallback")] 2

/-- com/example/demarcation/demarcation/CompletionCallback$Outcome -/
def k6 : Class := { plain "com/example/demarcation/demarcation/CompletionCallback$Outcome" (some 5) with
  accessFlags := 16433
  interfaces := #[]
  cf := some (fileOf pool6 1 #[.nestHost 48] #[] 16433 20 #[] #[{ accessFlags := 16409, nameIndex := 5, descriptorIndex := 6, attributes := #[] }, { accessFlags := 16409, nameIndex := 9, descriptorIndex := 6, attributes := #[] }, { accessFlags := 4122, nameIndex := 12, descriptorIndex := 13, attributes := #[] }])
  fields := #[{ name := "COMMITTED", type := (.object "com/example/demarcation/demarcation/CompletionCallback$Outcome"), accessFlags := 16409, slot := 0, constantValue := 0 }, { name := "ROLLED_BACK", type := (.object "com/example/demarcation/demarcation/CompletionCallback$Outcome"), accessFlags := 16409, slot := 1, constantValue := 0 }, { name := "$VALUES", type := (.array (.object "com/example/demarcation/demarcation/CompletionCallback$Outcome")), accessFlags := 4122, slot := 2, constantValue := 0 }]
  methods := #[]
  instanceTypes := #[(.object "java/lang/String"), .int, .int]
  staticTypes := #[(.object "com/example/demarcation/demarcation/CompletionCallback$Outcome"), (.object "com/example/demarcation/demarcation/CompletionCallback$Outcome"), (.array (.object "com/example/demarcation/demarcation/CompletionCallback$Outcome"))]
  resolved := Array.replicate 52 none
  statics := some 0 }

def pool7 : Array CpInfo := pool [(1, .class_ 2), (0, u "com/example/demarcation/demarcation/UnitLog$Ending"), (0, .fieldref 1 4), (0, .nameAndType 5 6), (0, u "COMMITTED"), (0, u "Lcom/example/demarcation/demarcation/UnitLog$Ending;"), (0, .fieldref 1 8), (0, .nameAndType 9 6), (0, u "ROLLED_BACK"), (0, .fieldref 1 11), (0, .nameAndType 12 6), (0, u "ROLLBACK_REFUSED"), (2, u "ROLLED_BACK_TO_SAVEPOINT"), (2, u "ROLLBACK_TO_SAVEPOINT_REFUSED"), (2, u "RELEASED_SAVEPOINT"), (2, u "LEFT_TO_OWNER"), (2, u "NO_TRANSACTION"), (2, u "$VALUES"), (0, u "[Lcom/example/demarcation/demarcation/UnitLog$Ending;"), (6, .class_ 40), (1, u "java/lang/Enum"), (6, .fieldref 48 49), (0, .class_ 50), (0, .nameAndType 5 51), (0, u "com/example/demarcation/demarcation/CompletionCallback$Outcome"), (0, u "Lcom/example/demarcation/demarcation/CompletionCallback$Outcome;"), (20, u "ofTransaction"), (0, u "(Lcom/example/demarcation/demarcation/CompletionCallback$Outcome;Z)Lcom/example/demarcation/demarcation/UnitLog$Ending;"), (6, .class_ 81), (0, u "com/example/demarcation/demarcation/UnitLog")] 5

def k7c0 : Code := { maxStack := 2, maxLocals := 3, code := prog_46_method_4_code, exceptionTable := #[], attributes := #[] }
def k7m0 : Method := { name := "ofTransaction", desc := "(Lcom/example/demarcation/demarcation/CompletionCallback$Outcome;Z)Lcom/example/demarcation/demarcation/UnitLog$Ending;", sig := { parameters := [(.object "com/example/demarcation/demarcation/CompletionCallback$Outcome"), .boolean], returnType := some (.object "com/example/demarcation/demarcation/UnitLog$Ending") }, accessFlags := 8, code := some k7c0 }
/-- com/example/demarcation/demarcation/UnitLog$Ending -/
def k7 : Class := { plain "com/example/demarcation/demarcation/UnitLog$Ending" (some 5) with
  accessFlags := 16432
  interfaces := #[]
  cf := some (fileOf pool7 1 #[.nestHost 80] #[{ accessFlags := 8, nameIndex := 72, descriptorIndex := 73, attributes := #[] }] 16432 38 #[] #[{ accessFlags := 16409, nameIndex := 5, descriptorIndex := 6, attributes := #[] }, { accessFlags := 16409, nameIndex := 9, descriptorIndex := 6, attributes := #[] }, { accessFlags := 16409, nameIndex := 12, descriptorIndex := 6, attributes := #[] }, { accessFlags := 16409, nameIndex := 15, descriptorIndex := 6, attributes := #[] }, { accessFlags := 16409, nameIndex := 18, descriptorIndex := 6, attributes := #[] }, { accessFlags := 16409, nameIndex := 21, descriptorIndex := 6, attributes := #[] }, { accessFlags := 16409, nameIndex := 24, descriptorIndex := 6, attributes := #[] }, { accessFlags := 16409, nameIndex := 27, descriptorIndex := 6, attributes := #[] }, { accessFlags := 4122, nameIndex := 30, descriptorIndex := 31, attributes := #[] }])
  fields := #[{ name := "COMMITTED", type := (.object "com/example/demarcation/demarcation/UnitLog$Ending"), accessFlags := 16409, slot := 0, constantValue := 0 }, { name := "ROLLED_BACK", type := (.object "com/example/demarcation/demarcation/UnitLog$Ending"), accessFlags := 16409, slot := 1, constantValue := 0 }, { name := "ROLLBACK_REFUSED", type := (.object "com/example/demarcation/demarcation/UnitLog$Ending"), accessFlags := 16409, slot := 2, constantValue := 0 }, { name := "ROLLED_BACK_TO_SAVEPOINT", type := (.object "com/example/demarcation/demarcation/UnitLog$Ending"), accessFlags := 16409, slot := 3, constantValue := 0 }, { name := "ROLLBACK_TO_SAVEPOINT_REFUSED", type := (.object "com/example/demarcation/demarcation/UnitLog$Ending"), accessFlags := 16409, slot := 4, constantValue := 0 }, { name := "RELEASED_SAVEPOINT", type := (.object "com/example/demarcation/demarcation/UnitLog$Ending"), accessFlags := 16409, slot := 5, constantValue := 0 }, { name := "LEFT_TO_OWNER", type := (.object "com/example/demarcation/demarcation/UnitLog$Ending"), accessFlags := 16409, slot := 6, constantValue := 0 }, { name := "NO_TRANSACTION", type := (.object "com/example/demarcation/demarcation/UnitLog$Ending"), accessFlags := 16409, slot := 7, constantValue := 0 }, { name := "$VALUES", type := (.array (.object "com/example/demarcation/demarcation/UnitLog$Ending")), accessFlags := 4122, slot := 8, constantValue := 0 }]
  methods := #[k7m0]
  instanceTypes := #[(.object "java/lang/String"), .int, .int]
  staticTypes := #[(.object "com/example/demarcation/demarcation/UnitLog$Ending"), (.object "com/example/demarcation/demarcation/UnitLog$Ending"), (.object "com/example/demarcation/demarcation/UnitLog$Ending"), (.object "com/example/demarcation/demarcation/UnitLog$Ending"), (.object "com/example/demarcation/demarcation/UnitLog$Ending"), (.object "com/example/demarcation/demarcation/UnitLog$Ending"), (.object "com/example/demarcation/demarcation/UnitLog$Ending"), (.object "com/example/demarcation/demarcation/UnitLog$Ending"), (.array (.object "com/example/demarcation/demarcation/UnitLog$Ending"))]
  resolved := Array.replicate 87 none
  statics := some 1 }

def pool8 : Array CpInfo := pool [(1, u "java/lang/Cloneable"), (0, .class_ 1), (0, u "java/lang/Object"), (0, .class_ 3)] 3

/-- java/lang/Cloneable -/
def k8 : Class := { plain "java/lang/Cloneable" (some 0) with
  accessFlags := 1537
  interfaces := #[]
  cf := some (fileOf pool8 2 #[] #[] 1537 4 #[] #[])
  fields := #[]
  methods := #[]
  instanceTypes := #[]
  staticTypes := #[]
  resolved := Array.replicate 8 none
  statics := none }

/-- the primitive byte -/
def k9 : Class := { plain "byte" none with kind := .primitive 'B', accessFlags := 0x411 }
/-- [B -/
def k10 : Class := { plain "[B" (some 0) with kind := .array 9 .byte, interfaces := #[8, 4], accessFlags := 1041 }

/-- [Lcom/example/demarcation/demarcation/UnitLog$Ending; -/
def k11 : Class := { plain "[Lcom/example/demarcation/demarcation/UnitLog$Ending;" (some 0) with kind := .array 7 (.object "com/example/demarcation/demarcation/UnitLog$Ending"), interfaces := #[8, 4], accessFlags := 1041 }

def heap : Heap := #[{ cls := 6, slots := #[.ref 2, .ref 3, .null], vm := .statics 6 },
  { cls := 7, slots := #[.ref 4, .ref 5, .ref 6, .null, .null, .null, .null, .null, .null], vm := .statics 7 },
  { cls := 6, slots := #[.null, .int 0, .int 0], vm := .none },
  { cls := 6, slots := #[.null, .int 1, .int 0], vm := .none },
  { cls := 7, slots := #[.null, .int 0, .int 0], vm := .none },
  { cls := 7, slots := #[.null, .int 1, .int 0], vm := .none },
  { cls := 7, slots := #[.null, .int 2, .int 0], vm := .none }]
def classes : Array Class := #[k0, k1, k2, k3, k4, k5, k6, k7, k8, k9, k10, k11]
def interned : List (Array UInt16 × Addr) := []
def slotsUsed : Nat := 27
def theMethod : MethodId := ⟨1, 1⟩
def args0 : Array Value := #[.int 1, .int 0]
def aboutOver (below : List Frame) : State where
  vm := { classes := classes, interned := interned.toArray }
  heap := heap
  slotsUsed := slotsUsed
  threads := #[{ frames := .invoking theMethod args0 :: below }]
def below0 : List Frame := [.native { method := ⟨0, 0⟩, args := #[] }]
def about1 : State := aboutOver below0
def p0 : Program := .bare "" "" ""
def e0 : Env := launch0.env 0 0 0
theorem w_frames : about1.frames = Frame.invoking theMethod args0 :: below0 := rfl
set_option maxRecDepth 65536 in
theorem w_args : argsFit about1.vm theMethod args0 = true := by decide +kernel
set_option maxRecDepth 65536 in
theorem w_heap : heapFits about1 = true := by decide +kernel
set_option maxRecDepth 65536 in
theorem w_runnable : about1.curStatus? = some .runnable := by decide +kernel
set_option maxRecDepth 65536 in
theorem w_alone : about1.alone = true := by decide +kernel
set_option maxRecDepth 65536 in
theorem w_named : about1.methodNamed? x = some theMethod := by decide +kernel
set_option maxRecDepth 65536 in
theorem w_hears : about1.hears theMethod below0 = true := by decide +kernel
set_option maxRecDepth 65536 in
theorem w_ripe : about1.ripe theMethod args0 below0 = true := by decide +kernel
theorem w_running : about1.status = .running := rfl
set_option maxRecDepth 65536 in
theorem w_room : about1.hasRoom e0.platform room_1 = true :=
  launch0.hasRoom_least _ room_1 (by decide +kernel) (by decide +kernel) (by decide +kernel) (by decide +kernel) (by decide +kernel) (by decide +kernel)
theorem allAtoms_all (ts : List Jvm.Cond) (a : Array Jvm.Value) (st : Jvm.State) : (allAtoms ts).before a st = ts.all (fun c => c.before a st) := by
  induction ts with
  | nil => rfl
  | cons c t ih =>
    show (Jvm.Cond.and c (allAtoms t)).before a st = _
    rw [Jvm.Cond.before_and, ih, List.all_cons]
def words1 : List Jvm.Cond := Jvm.Cond.code x code maxLocals ret :: tables_1
/-- a 'code' word, met by the world's own term for the bytes: nothing is compared byte by byte -/
theorem code_word {y : MethodName} {bytes : ByteArray} {mx : Nat} {rt : Option FieldType} {a : Array Value} {s : State} {m : MethodId} {meth : Method} {c : Code} (h1 : s.methodNamed? y = some m) (h2 : s.vm.method? m = some meth) (h3 : meth.code = some c) (h4 : c.code = bytes)
    (h5 : (c.maxLocals == mx && c.exceptionTable.isEmpty && decide (c.maxStack ≤ mostOperands) && decide (meth.sig.returnType = rt) && !meth.locks && decide (parseMethodDescriptor y.desc = some meth.sig)) = true) : (Jvm.Cond.code y bytes mx rt).before a s = true := by
  simp only [Bool.and_eq_true, beq_iff_eq, Bool.not_eq_true', decide_eq_true_eq] at h5
  obtain ⟨⟨⟨⟨⟨g1, g2⟩, g3⟩, g4⟩, g5⟩, g6⟩ := h5
  simp [Cond.before, Cond.holds, Cond.value, h1, h2, h3, h4, g1, g2, g3, g4, g5, g6]
def isCode : Jvm.Cond → Bool
  | .code _ _ _ _ => true
  | _ => false
theorem all_split {L : List Jvm.Cond} {P : Jvm.Cond → Bool} (h1 : L.all (fun c => isCode c || P c) = true) (h2 : ∀ c ∈ L.filter isCode, P c = true) : L.all P = true := by
  refine List.all_eq_true.mpr fun c hc => ?_
  have h := List.all_eq_true.mp h1 c hc
  rcases Bool.eq_false_or_eq_true (isCode c) with hi | hi
  · exact h2 c (List.mem_filter.mpr ⟨hc, hi⟩)
  · simpa [hi] using h
set_option maxRecDepth 65536 in
theorem w_c0 : (Jvm.Cond.code x code maxLocals ret).before args0 about1 = true := code_word (m := ⟨1, 1⟩) (meth := k1m1) (c := k1c1) (by decide +kernel) rfl rfl rfl (by decide +kernel)
set_option maxRecDepth 65536 in
theorem w_c1 : (Jvm.Cond.code ({ cls := "com/example/demarcation/demarcation/UnitLog$Ending", name := "ofTransaction", desc := "(Lcom/example/demarcation/demarcation/CompletionCallback$Outcome;Z)Lcom/example/demarcation/demarcation/UnitLog$Ending;" } : Jvm.MethodName) prog_46_method_4_code (3 : Nat) (Option.some (Jvm.ClassFile.FieldType.object "com/example/demarcation/demarcation/UnitLog$Ending"))).before args0 about1 = true := code_word (m := ⟨7, 0⟩) (meth := k7m0) (c := k7c0) (by decide +kernel) rfl rfl rfl (by decide +kernel)
def codes1 : List Jvm.Cond := [Jvm.Cond.code x code maxLocals ret, Jvm.Cond.code ({ cls := "com/example/demarcation/demarcation/UnitLog$Ending", name := "ofTransaction", desc := "(Lcom/example/demarcation/demarcation/CompletionCallback$Outcome;Z)Lcom/example/demarcation/demarcation/UnitLog$Ending;" } : Jvm.MethodName) prog_46_method_4_code (3 : Nat) (Option.some (Jvm.ClassFile.FieldType.object "com/example/demarcation/demarcation/UnitLog$Ending"))]
set_option maxRecDepth 65536 in
theorem codes_eq : words1.filter isCode = codes1 := rfl
theorem w_codes : ∀ c ∈ words1.filter isCode, c.before args0 about1 = true := by
  rw [codes_eq]
  intro c hc
  simp only [codes1, List.mem_cons, List.not_mem_nil, or_false] at hc
  rcases hc with rfl | rfl
  · exact w_c0
  · exact w_c1
set_option maxRecDepth 65536 in
theorem w_t1 : words1.all (fun c => isCode c || c.before args0 about1) = true := by decide +kernel
theorem w_tables : (allAtoms (Jvm.Cond.code x code maxLocals ret :: tables_1)).before args0 about1 = true := by
  rw [allAtoms_all]
  show words1.all (fun c => c.before args0 about1) = true
  refine all_split ?_ w_codes
  rw [w_t1]
set_option maxRecDepth 65536 in
theorem w_case : (Jvm.Cond.and given_1 narrow_1).before args0 about1 = true := by decide +kernel
theorem w_applies : (headSpec (Jvm.Cond.code x code maxLocals ret :: tables_1) room_1).applies x e0.platform about1 = true :=
  (Spec.applies_iff w_frames).mpr ⟨w_running, w_runnable, w_alone, w_named, w_hears, w_ripe, w_room, w_tables⟩
theorem atStart : AtStart classFile x code maxLocals ret World_1 tables_1 room_1 Calls_1 rest_1 Pre_1 launch0 p0 e0 about1 theMethod args0 below0 :=
  ⟨lists_1, trivial, launch0.admits_env _ _ _, launch0.least_env, fairChoices_fair.cas, fairChoices_fair.clock, w_frames, w_args, w_heap, w_applies, trivial, trivial, w_case⟩
end start1
theorem witness_1 : WitnessClaimed_1 := ⟨start1.p0, start1.e0, start1.about1, start1.theMethod, start1.args0, start1.below0, start1.atStart⟩
end Jvm.Pilot.@@N@@
