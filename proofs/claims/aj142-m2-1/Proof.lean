import JvmDerived
import JvmDerived.Pilot.@@N@@Statement
import JvmDerived.Pilot.@@N@@Code
set_option linter.unusedVariables false
set_option linter.unusedSimpArgs false
namespace Jvm.RoadKit
open Sem ClassFile Op Lib Jvm.Stand Jvm.Free Jvm.LawKit
section New
variable {p : Program} {l : Launch} {e : Env} {R : Room} {s : State} {m : MethodId} {args : Array Value} {below : List Frame} {meth : Method} {c : Code} {T : State} {locs : List Loc} {cells slots : Nat}
theorem retI (X : Stand p l e R s m args below meth c T locs cells slots) (hx : p.tables.exec = Jvm.exec) {pc : Nat} {Ls : Array Slot} {z : Int32} {rest : List Value} (hret : meth.sig.returnType = some .int) (hd : decode c.code pc = .ok (.ireturn, 1)) {fs : List Frame}
    (hl : ∀ (f : JFrame) (acts : List Action), f.method = m → f.locked = none → f.entered = [] → (doReturn e (T.setTop f) acts (some (.int z))).1 = T.setFrames fs) : Steps p.tables e below (T.setTop (mkF m pc Ls (.int z :: rest))) (T.setFrames fs) := by
  have hm' : T.vm.method? m = some meth := X.method'
  have hn : narrow .int (.int z) = .int z := rfl
  show Steps p.tables e below (T.setTop { method := m, pc := pc, locals := Ls, stack := _ :: rest, locked := none }) _
  jvm_step X.here [X.here.top, hx, hd, hm', hret, hn]
  first | (intro acts; rw [hl _ acts rfl rfl rfl]) | rw [hl _ _ rfl rfl rfl]
  exact Steps.refl _
end New
end Jvm.RoadKit
namespace Jvm.Pilot.@@N@@
open Jvm Jvm.ClassFile Sem Op Lib Jvm.Free Jvm.Stand Jvm.LawKit Jvm.RoadKit Bundle Jvm.Pilot.@@N@@.Jvm.D
theorem own_same {h0 h : Heap} {ws : List Addr} (q : h = h0) : Keep h0 h ws := q ▸ Keep.refl _ _
theorem own_ext {h0 h : Heap} (K : Keep h0 h []) : Ext h0 h := ⟨K.1, fun a c q => K.2.1 a c q (by simp)⟩
theorem own_eqi {args : Array Value} {s : State} {t : Term} {k : Int32} (h : (Jvm.Cond.eq t (Term.int k)).value args s none s [] = some true) : t.eval args s none [] s = some (.int k) := by
  obtain ⟨x, y, hx, hy, k1, k2⟩ := cmp_v (Or.inl h)
  cases (Term.int_eval k).symm.trans hy
  obtain ⟨z, rfl⟩ := k2
  simp [Jvm.Cond.value, hx, Term.int_eval] at h
  rw [hx, h]
theorem own_fint {args : Array Value} {s : State} {t : Term} {a : Addr} {C n d : String} {k : Int32} (ht : t.eval args s none [] s = some (.ref a)) (h : (Jvm.Cond.eq (Term.field t C n d) (Term.int k)).value args s none s [] = some true) : Fld s s.heap a C n d (.int k) := by
  have q := own_eqi h
  rw [fld_at ht] at q
  exact Fld.start q
theorem own_ne {Z : State} {h : Heap} {a b : Addr} {C n d : String} {v w : Value} (F : Fld Z h a C n d v) (G : Fld Z h b C n d w) (hn : v ≠ w) : ¬ (a = b) := fun e => by
  subst e
  obtain ⟨c, cf, k, i, f, h1, h2, -, -, -, -, h7⟩ := F
  obtain ⟨c', cf', k', i', f', g1, g2, -, -, -, -, g7⟩ := G
  cases h1.symm.trans g1
  cases h2.symm.trans g2
  exact hn (Option.some.inj (h7.symm.trans g7))

theorem own_tr {h0 h h' : Heap} {ws : List Addr} (K : Keep h0 h ws) (E : Ext h h') : Keep h0 h' ws := K.ext E
theorem own_eqK {h0 h h' : Heap} {ws : List Addr} (K : Keep h0 h ws) (q : h' = h) : Keep h0 h' ws := q ▸ K

theorem own_and255 (x : Int32) : ¬ (x &&& 255) < 0 ∧ ¬ (255 : Int32) < (x &&& 255) := by
  have q := c_and x 255 (by decide)
  have z : (0 : Int32).toInt = 0 := by decide
  have w : (255 : Int32).toInt = 255 := by decide
  rw [Int32.lt_iff_toInt_lt, Int32.lt_iff_toInt_lt, z, w]
  rw [w] at q
  omega
theorem d1_0 : decode prog_149_method_4_code 0 = .ok (.aload_n 0, 1) := by decide +kernel
theorem d1_1 : decode prog_149_method_4_code 1 = .ok (.getstatic 16, 3) := by decide +kernel
theorem d1_4 : decode prog_149_method_4_code 4 = .ok (.if_acmp .eq 10, 3) := by decide +kernel
theorem d1_14 : decode prog_149_method_4_code 14 = .ok (.iconst 1, 1) := by decide +kernel
theorem d1_15 : decode prog_149_method_4_code 15 = .ok (.goto 4, 3) := by decide +kernel
theorem d1_19 : decode prog_149_method_4_code 19 = .ok (.ireturn, 1) := by decide +kernel
theorem pn_1 : plainName "com/example/pathwright/pathwright/pgql/PathGoal$Kind" = true := by first | (simp [plainName, overriddenIn]; done) | decide +kernel
theorem ef_1 (m : MethodId) (x0 : Addr) : entryFrame m #[(.ref x0)] 1 = mkF m 0 #[.val (.ref x0)] [] := by first | (simp [entryFrame, mkF, argsToLocals, Value.category]; done) | rfl
def Q1a (Z : State) (a1 : Addr) (w2 : Addr) (h0 : Heap) (n0 : Nat) (v : Option Value) (h : Heap) (L : List Loc) : Prop := v = some (.int (1 : Int32)) ∧ Fr n0 L ∧ h = h0
set_option maxRecDepth 65536 in
set_option maxHeartbeats 40000000 in
theorem rm1a (l : Launch) (Z : State) (a0 : Array Value) (hw : ∀ d ∈ tables_1, d.before a0 Z = true) (ws : List Jvm.Cond) (a1 : Addr) (w2 : Addr) (h0 : Heap) (n0 : Nat) (Z0 : n0 ≤ h0.size) (S_ANY_CHEAPEST : Sta Z h0 "com/example/pathwright/pathwright/pgql/PathGoal$Kind" "ANY_CHEAPEST" "Lcom/example/pathwright/pathwright/pgql/PathGoal$Kind;" (.ref w2)) (ha4 : a1 = w2) :
    MetFree l (⟨"com/example/pathwright/pathwright/pgql/PathGoal$Kind", "byCost", "()Z"⟩ : MethodName) (head1 (Jvm.Cond.code (⟨"com/example/pathwright/pathwright/pgql/PathGoal$Kind", "byCost", "()Z"⟩ : MethodName) prog_149_method_4_code 1 (some .boolean) :: ws) ({ frames := 0, cells := 0, slots := 0, locals := 0 } : Room)) (fun a U => a = #[(.ref a1)] ∧ Z.Warmed39 U.vm ∧ U.heap = h0) (fun _ _ _ _ _ => True) (fun _ U o U' => ∃ v L, o = .returned v ∧ Q1a Z a1 w2 h0 n0 v U'.heap L ∧ FrameEnd U o U' L ({ frames := 0, cells := 0, slots := 0, locals := 0 } : Room).cells ({ frames := 0, cells := 0, slots := 0, locals := 0 } : Room).slots) := by
  refine MetFree.of_bodySF (plainFor_of_name pn_1) hisR ?_
  intro p e s m args below meth c s₁ Bd hml0 hP hK
  obtain ⟨rfl, hZ, hh⟩ := hP
  have hx := Bd.exec
  have hby := Bd.bytes
  have hml : c.maxLocals = 1 := hml0
  have hown : s.vm.findClass "com/example/pathwright/pathwright/pgql/PathGoal$Kind" = some m.cls := findClass_of_methodNamed Bd.named
  have hnm := (name_of_methodNamed Bd.named Bd.method).1
  have X0 : Stand p l e ({ frames := 0, cells := 0, slots := 0, locals := 0 } : Room) s m #[(.ref a1)] below meth c s₁ [] 0 0 := Stand.of_body Bd
  have e0 : s₁.heap = h0 := by rw [← hh, Bd.state]; rfl
  have N0 := Fr.nil n0
  have pre0 : ∀ t, Steps p.tables e below (s₁.setTop (mkF m 0 #[.val (.ref a1)] [])) t → Steps p.tables e below (s₁.setTop (entryFrame m #[(.ref a1)] 1)) t := fun t k => castTop (ef_1 m a1) k
  -- 3. LAWS
  obtain ⟨T3, X3, e3, st3⟩ := getS2 X0 hx hZ hown (host := "") (Or.inl (hw _ (List.mem_of_getElem? (i := 25) rfl))) Via.refl e0 S_ANY_CHEAPEST (g := (mkF m 1 #[.val (.ref a1)] [(.ref a1)])) rfl (hb hby d1_1)
  obtain ⟨fs, hr, hrun, hended, hW, hsame⟩ := X3.leave (v := some (.int (1 : Int32))) (fun h => by rw [Bd.returns] at h; cases h)
  refine ⟨_, _, pre0 _ ?_, hrun, hended, _, _, rfl, ?_, ⟨_, rfl⟩, hW, hsame.mono (by decide) (by decide)⟩
  -- 4. STEPS
  · show Steps p.tables e below (s₁.setTop (mkF m 0 #[.val (.ref a1)] [])) _
    refine XS.aloadN X0.here hx rfl (hb hby d1_0) rfl rfl ?_
    show Steps p.tables e below (s₁.setTop (mkF m 1 #[.val (.ref a1)] [(.ref a1)])) _
    refine st3 _ ?_
    show Steps p.tables e below (T3.setTop (mkF m 4 #[.val (.ref a1)] [(.ref w2), (.ref a1)])) _
    refine Jvm.RoadKit.acmp (g := (mkF m 4 #[.val (.ref a1)] [(.ref w2), (.ref a1)])) X3 hx rfl rfl rfl (pc0 := 4) (pc' := 14) (same := true) rfl (hb hby d1_4) rfl (decide_eq_true (congrArg Value.ref ha4)) (by decide) (by decide) ?_
    show Steps p.tables e below (T3.setTop (mkF m 14 #[.val (.ref a1)] [])) _
    refine XS.iconst X3.here hx rfl (hb hby d1_14) ?_
    show Steps p.tables e below (T3.setTop (mkF m 15 #[.val (.ref a1)] [(.int (1 : Int32))])) _
    refine XS.goto X3.here hx rfl (pc0 := 15) (pc' := 19) rfl (hb hby d1_15) (by decide) (by decide) ?_
    show Steps p.tables e below (T3.setTop (mkF m 19 #[.val (.ref a1)] [(.int (1 : Int32))])) _
    exact retN X3 hx (t := .boolean) Bd.returns (by simp) (hb hby d1_19) hr
  · show Q1a Z a1 w2 h0 n0 _ T3.heap _
    rw [e3]
    exact ⟨rfl, N0, rfl⟩
theorem d1_7 : decode prog_149_method_4_code 7 = .ok (.aload_n 0, 1) := by decide +kernel
theorem d1_8 : decode prog_149_method_4_code 8 = .ok (.getstatic 19, 3) := by decide +kernel
theorem d1_11 : decode prog_149_method_4_code 11 = .ok (.if_acmp .ne 7, 3) := by decide +kernel
def Q1b (Z : State) (a1 : Addr) (w2 : Addr) (w4 : Addr) (h0 : Heap) (n0 : Nat) (v : Option Value) (h : Heap) (L : List Loc) : Prop := v = some (.int (1 : Int32)) ∧ Fr n0 L ∧ h = h0
set_option maxRecDepth 65536 in
set_option maxHeartbeats 40000000 in
theorem rm1b (l : Launch) (Z : State) (a0 : Array Value) (hw : ∀ d ∈ tables_1, d.before a0 Z = true) (ws : List Jvm.Cond) (a1 : Addr) (w2 : Addr) (w4 : Addr) (h0 : Heap) (n0 : Nat) (Z0 : n0 ≤ h0.size) (S_ANY_CHEAPEST : Sta Z h0 "com/example/pathwright/pathwright/pgql/PathGoal$Kind" "ANY_CHEAPEST" "Lcom/example/pathwright/pathwright/pgql/PathGoal$Kind;" (.ref w2)) (S_CHEAPEST : Sta Z h0 "com/example/pathwright/pathwright/pgql/PathGoal$Kind" "CHEAPEST" "Lcom/example/pathwright/pathwright/pgql/PathGoal$Kind;" (.ref w4)) (ha4 : ¬ (a1 = w2)) (ha11 : a1 = w4) :
    MetFree l (⟨"com/example/pathwright/pathwright/pgql/PathGoal$Kind", "byCost", "()Z"⟩ : MethodName) (head1 (Jvm.Cond.code (⟨"com/example/pathwright/pathwright/pgql/PathGoal$Kind", "byCost", "()Z"⟩ : MethodName) prog_149_method_4_code 1 (some .boolean) :: ws) ({ frames := 0, cells := 0, slots := 0, locals := 0 } : Room)) (fun a U => a = #[(.ref a1)] ∧ Z.Warmed39 U.vm ∧ U.heap = h0) (fun _ _ _ _ _ => True) (fun _ U o U' => ∃ v L, o = .returned v ∧ Q1b Z a1 w2 w4 h0 n0 v U'.heap L ∧ FrameEnd U o U' L ({ frames := 0, cells := 0, slots := 0, locals := 0 } : Room).cells ({ frames := 0, cells := 0, slots := 0, locals := 0 } : Room).slots) := by
  refine MetFree.of_bodySF (plainFor_of_name pn_1) hisR ?_
  intro p e s m args below meth c s₁ Bd hml0 hP hK
  obtain ⟨rfl, hZ, hh⟩ := hP
  have hx := Bd.exec
  have hby := Bd.bytes
  have hml : c.maxLocals = 1 := hml0
  have hown : s.vm.findClass "com/example/pathwright/pathwright/pgql/PathGoal$Kind" = some m.cls := findClass_of_methodNamed Bd.named
  have hnm := (name_of_methodNamed Bd.named Bd.method).1
  have X0 : Stand p l e ({ frames := 0, cells := 0, slots := 0, locals := 0 } : Room) s m #[(.ref a1)] below meth c s₁ [] 0 0 := Stand.of_body Bd
  have e0 : s₁.heap = h0 := by rw [← hh, Bd.state]; rfl
  have N0 := Fr.nil n0
  have pre0 : ∀ t, Steps p.tables e below (s₁.setTop (mkF m 0 #[.val (.ref a1)] [])) t → Steps p.tables e below (s₁.setTop (entryFrame m #[(.ref a1)] 1)) t := fun t k => castTop (ef_1 m a1) k
  -- 3. LAWS
  obtain ⟨T3, X3, e3, st3⟩ := getS2 X0 hx hZ hown (host := "") (Or.inl (hw _ (List.mem_of_getElem? (i := 25) rfl))) Via.refl e0 S_ANY_CHEAPEST (g := (mkF m 1 #[.val (.ref a1)] [(.ref a1)])) rfl (hb hby d1_1)
  obtain ⟨T5, X5, e5, st5⟩ := getS2 X3 hx hZ hown (host := "") (Or.inl (hw _ (List.mem_of_getElem? (i := 26) rfl))) Via.refl e3 S_CHEAPEST (g := (mkF m 8 #[.val (.ref a1)] [(.ref a1)])) rfl (hb hby d1_8)
  obtain ⟨fs, hr, hrun, hended, hW, hsame⟩ := X5.leave (v := some (.int (1 : Int32))) (fun h => by rw [Bd.returns] at h; cases h)
  refine ⟨_, _, pre0 _ ?_, hrun, hended, _, _, rfl, ?_, ⟨_, rfl⟩, hW, hsame.mono (by decide) (by decide)⟩
  -- 4. STEPS
  · show Steps p.tables e below (s₁.setTop (mkF m 0 #[.val (.ref a1)] [])) _
    refine XS.aloadN X0.here hx rfl (hb hby d1_0) rfl rfl ?_
    show Steps p.tables e below (s₁.setTop (mkF m 1 #[.val (.ref a1)] [(.ref a1)])) _
    refine st3 _ ?_
    show Steps p.tables e below (T3.setTop (mkF m 4 #[.val (.ref a1)] [(.ref w2), (.ref a1)])) _
    refine Jvm.RoadKit.acmp (g := (mkF m 4 #[.val (.ref a1)] [(.ref w2), (.ref a1)])) X3 hx rfl rfl rfl (pc0 := 4) (pc' := 7) (same := false) rfl (hb hby d1_4) rfl (decide_eq_false fun q => ha4 (Value.ref.inj q)) (by decide) (by decide) ?_
    show Steps p.tables e below (T3.setTop (mkF m 7 #[.val (.ref a1)] [])) _
    refine XS.aloadN X3.here hx rfl (hb hby d1_7) rfl rfl ?_
    show Steps p.tables e below (T3.setTop (mkF m 8 #[.val (.ref a1)] [(.ref a1)])) _
    refine st5 _ ?_
    show Steps p.tables e below (T5.setTop (mkF m 11 #[.val (.ref a1)] [(.ref w4), (.ref a1)])) _
    refine Jvm.RoadKit.acmp (g := (mkF m 11 #[.val (.ref a1)] [(.ref w4), (.ref a1)])) X5 hx rfl rfl rfl (pc0 := 11) (pc' := 14) (same := true) rfl (hb hby d1_11) rfl (decide_eq_true (congrArg Value.ref ha11)) (by decide) (by decide) ?_
    show Steps p.tables e below (T5.setTop (mkF m 14 #[.val (.ref a1)] [])) _
    refine XS.iconst X5.here hx rfl (hb hby d1_14) ?_
    show Steps p.tables e below (T5.setTop (mkF m 15 #[.val (.ref a1)] [(.int (1 : Int32))])) _
    refine XS.goto X5.here hx rfl (pc0 := 15) (pc' := 19) rfl (hb hby d1_15) (by decide) (by decide) ?_
    show Steps p.tables e below (T5.setTop (mkF m 19 #[.val (.ref a1)] [(.int (1 : Int32))])) _
    exact retN X5 hx (t := .boolean) Bd.returns (by simp) (hb hby d1_19) hr
  · show Q1b Z a1 w2 w4 h0 n0 _ T5.heap _
    rw [e5]
    exact ⟨rfl, N0, rfl⟩
theorem d1_18 : decode prog_149_method_4_code 18 = .ok (.iconst 0, 1) := by decide +kernel
def Q1n (Z : State) (a1 : Addr) (w2 : Addr) (w4 : Addr) (h0 : Heap) (n0 : Nat) (v : Option Value) (h : Heap) (L : List Loc) : Prop := v = some (.int (0 : Int32)) ∧ Fr n0 L ∧ h = h0
set_option maxRecDepth 65536 in
set_option maxHeartbeats 40000000 in
theorem rm1n (l : Launch) (Z : State) (a0 : Array Value) (hw : ∀ d ∈ tables_1, d.before a0 Z = true) (ws : List Jvm.Cond) (a1 : Addr) (w2 : Addr) (w4 : Addr) (h0 : Heap) (n0 : Nat) (Z0 : n0 ≤ h0.size) (S_ANY_CHEAPEST : Sta Z h0 "com/example/pathwright/pathwright/pgql/PathGoal$Kind" "ANY_CHEAPEST" "Lcom/example/pathwright/pathwright/pgql/PathGoal$Kind;" (.ref w2)) (S_CHEAPEST : Sta Z h0 "com/example/pathwright/pathwright/pgql/PathGoal$Kind" "CHEAPEST" "Lcom/example/pathwright/pathwright/pgql/PathGoal$Kind;" (.ref w4)) (ha4 : ¬ (a1 = w2)) (ha11 : ¬ (a1 = w4)) :
    MetFree l (⟨"com/example/pathwright/pathwright/pgql/PathGoal$Kind", "byCost", "()Z"⟩ : MethodName) (head1 (Jvm.Cond.code (⟨"com/example/pathwright/pathwright/pgql/PathGoal$Kind", "byCost", "()Z"⟩ : MethodName) prog_149_method_4_code 1 (some .boolean) :: ws) ({ frames := 0, cells := 0, slots := 0, locals := 0 } : Room)) (fun a U => a = #[(.ref a1)] ∧ Z.Warmed39 U.vm ∧ U.heap = h0) (fun _ _ _ _ _ => True) (fun _ U o U' => ∃ v L, o = .returned v ∧ Q1n Z a1 w2 w4 h0 n0 v U'.heap L ∧ FrameEnd U o U' L ({ frames := 0, cells := 0, slots := 0, locals := 0 } : Room).cells ({ frames := 0, cells := 0, slots := 0, locals := 0 } : Room).slots) := by
  refine MetFree.of_bodySF (plainFor_of_name pn_1) hisR ?_
  intro p e s m args below meth c s₁ Bd hml0 hP hK
  obtain ⟨rfl, hZ, hh⟩ := hP
  have hx := Bd.exec
  have hby := Bd.bytes
  have hml : c.maxLocals = 1 := hml0
  have hown : s.vm.findClass "com/example/pathwright/pathwright/pgql/PathGoal$Kind" = some m.cls := findClass_of_methodNamed Bd.named
  have hnm := (name_of_methodNamed Bd.named Bd.method).1
  have X0 : Stand p l e ({ frames := 0, cells := 0, slots := 0, locals := 0 } : Room) s m #[(.ref a1)] below meth c s₁ [] 0 0 := Stand.of_body Bd
  have e0 : s₁.heap = h0 := by rw [← hh, Bd.state]; rfl
  have N0 := Fr.nil n0
  have pre0 : ∀ t, Steps p.tables e below (s₁.setTop (mkF m 0 #[.val (.ref a1)] [])) t → Steps p.tables e below (s₁.setTop (entryFrame m #[(.ref a1)] 1)) t := fun t k => castTop (ef_1 m a1) k
  -- 3. LAWS
  obtain ⟨T3, X3, e3, st3⟩ := getS2 X0 hx hZ hown (host := "") (Or.inl (hw _ (List.mem_of_getElem? (i := 25) rfl))) Via.refl e0 S_ANY_CHEAPEST (g := (mkF m 1 #[.val (.ref a1)] [(.ref a1)])) rfl (hb hby d1_1)
  obtain ⟨T5, X5, e5, st5⟩ := getS2 X3 hx hZ hown (host := "") (Or.inl (hw _ (List.mem_of_getElem? (i := 26) rfl))) Via.refl e3 S_CHEAPEST (g := (mkF m 8 #[.val (.ref a1)] [(.ref a1)])) rfl (hb hby d1_8)
  obtain ⟨fs, hr, hrun, hended, hW, hsame⟩ := X5.leave (v := some (.int (0 : Int32))) (fun h => by rw [Bd.returns] at h; cases h)
  refine ⟨_, _, pre0 _ ?_, hrun, hended, _, _, rfl, ?_, ⟨_, rfl⟩, hW, hsame.mono (by decide) (by decide)⟩
  -- 4. STEPS
  · show Steps p.tables e below (s₁.setTop (mkF m 0 #[.val (.ref a1)] [])) _
    refine XS.aloadN X0.here hx rfl (hb hby d1_0) rfl rfl ?_
    show Steps p.tables e below (s₁.setTop (mkF m 1 #[.val (.ref a1)] [(.ref a1)])) _
    refine st3 _ ?_
    show Steps p.tables e below (T3.setTop (mkF m 4 #[.val (.ref a1)] [(.ref w2), (.ref a1)])) _
    refine Jvm.RoadKit.acmp (g := (mkF m 4 #[.val (.ref a1)] [(.ref w2), (.ref a1)])) X3 hx rfl rfl rfl (pc0 := 4) (pc' := 7) (same := false) rfl (hb hby d1_4) rfl (decide_eq_false fun q => ha4 (Value.ref.inj q)) (by decide) (by decide) ?_
    show Steps p.tables e below (T3.setTop (mkF m 7 #[.val (.ref a1)] [])) _
    refine XS.aloadN X3.here hx rfl (hb hby d1_7) rfl rfl ?_
    show Steps p.tables e below (T3.setTop (mkF m 8 #[.val (.ref a1)] [(.ref a1)])) _
    refine st5 _ ?_
    show Steps p.tables e below (T5.setTop (mkF m 11 #[.val (.ref a1)] [(.ref w4), (.ref a1)])) _
    refine Jvm.RoadKit.acmp (g := (mkF m 11 #[.val (.ref a1)] [(.ref w4), (.ref a1)])) X5 hx rfl rfl rfl (pc0 := 11) (pc' := 18) (same := false) rfl (hb hby d1_11) rfl (decide_eq_false fun q => ha11 (Value.ref.inj q)) (by decide) (by decide) ?_
    show Steps p.tables e below (T5.setTop (mkF m 18 #[.val (.ref a1)] [])) _
    refine XS.iconst X5.here hx rfl (hb hby d1_18) ?_
    show Steps p.tables e below (T5.setTop (mkF m 19 #[.val (.ref a1)] [(.int (0 : Int32))])) _
    exact retN X5 hx (t := .boolean) Bd.returns (by simp) (hb hby d1_19) hr
  · show Q1n Z a1 w2 w4 h0 n0 _ T5.heap _
    rw [e5]
    exact ⟨rfl, N0, rfl⟩
def QB (b : Int32) (h0 : Heap) (n0 : Nat) (v : Option Value) (h : Heap) (L : List Loc) : Prop := v = some (.int b) ∧ Fr n0 L ∧ h = h0
theorem rm1 (l : Launch) (Z : State) (a0 : Array Value) (hw : ∀ d ∈ tables_1, d.before a0 Z = true) (ws : List Jvm.Cond) (a1 : Addr) (w2 : Addr) (w4 : Addr) (b : Int32) (h0 : Heap) (n0 : Nat) (Z0 : n0 ≤ h0.size) (SA : Sta Z h0 "com/example/pathwright/pathwright/pgql/PathGoal$Kind" "ANY_CHEAPEST" "Lcom/example/pathwright/pathwright/pgql/PathGoal$Kind;" (.ref w2)) (SC : Sta Z h0 "com/example/pathwright/pathwright/pgql/PathGoal$Kind" "CHEAPEST" "Lcom/example/pathwright/pathwright/pgql/PathGoal$Kind;" (.ref w4)) (hB : (a1 = w2 ∨ a1 = w4) ∧ b = 1 ∨ ¬ (a1 = w2) ∧ ¬ (a1 = w4) ∧ b = 0) :
    MetFree l (⟨"com/example/pathwright/pathwright/pgql/PathGoal$Kind", "byCost", "()Z"⟩ : MethodName) (head1 (Jvm.Cond.code (⟨"com/example/pathwright/pathwright/pgql/PathGoal$Kind", "byCost", "()Z"⟩ : MethodName) prog_149_method_4_code 1 (some .boolean) :: ws) ({ frames := 0, cells := 0, slots := 0, locals := 0 } : Room)) (fun a U => a = #[(.ref a1)] ∧ Z.Warmed39 U.vm ∧ U.heap = h0) (fun _ _ _ _ _ => True) (fun _ U o U' => ∃ v L, o = .returned v ∧ QB b h0 n0 v U'.heap L ∧ FrameEnd U o U' L ({ frames := 0, cells := 0, slots := 0, locals := 0 } : Room).cells ({ frames := 0, cells := 0, slots := 0, locals := 0 } : Room).slots) := by
  by_cases q : a1 = w2
  · obtain rfl : b = 1 := by
      rcases hB with h | h
      · exact h.2
      · exact absurd q h.1
    exact rm1a l Z a0 hw ws a1 w2 h0 n0 Z0 SA q
  by_cases r : a1 = w4
  · obtain rfl : b = 1 := by
      rcases hB with h | h
      · exact h.2
      · exact absurd r h.2.1
    exact rm1b l Z a0 hw ws a1 w2 w4 h0 n0 Z0 SA SC q r
  · obtain rfl : b = 0 := by
      rcases hB with h | h
      · exact absurd h.1 (fun k => k.elim q r)
      · exact h.2.2
    exact rm1n l Z a0 hw ws a1 w2 w4 h0 n0 Z0 SA SC q r
theorem pn_0 : plainName "com/example/pathwright/pathwright/pgql/KindByCostPinLaw" = true := by first | (simp [plainName, overriddenIn]; done) | decide +kernel
theorem pd_0_0 : parseMethodDescriptor "()Z" = some ⟨[], some .boolean⟩ := by decide +kernel
theorem ef_0 (m : MethodId) (x0 : Int32) : entryFrame m #[(.int x0)] maxLocals = mkF m 0 #[.val (.int x0), .unset, .unset, .unset] [] := by first | (simp [entryFrame, mkF, argsToLocals, Value.category, maxLocals]; done) | rfl
def Q0x (Z : State) (p1 : Int32) (w3 : Addr) (w6 : Addr) (w9 : Addr) (w12 : Addr) (w15 : Addr) (w18 : Addr) (w21 : Addr) (w32 : Addr) (w34 : Int32) (h0 : Heap) (n0 : Nat) (v : Option Value) (h : Heap) (L : List Loc) : Prop := v = some (.int (1 : Int32)) ∧ Fr n0 L
set_option maxRecDepth 65536 in
set_option maxHeartbeats 40000000 in
theorem rm0x (l : Launch) (Z : State) (a0 : Array Value) (hw : ∀ d ∈ tables_1, d.before a0 Z = true) (ws : List Jvm.Cond) (p1 : Int32) (w3 : Addr) (w6 : Addr) (w9 : Addr) (w12 : Addr) (w15 : Addr) (w18 : Addr) (w21 : Addr) (w32 : Addr) (w34 : Int32) (h0 : Heap) (n0 : Nat) (Z0 : n0 ≤ h0.size) (S_ANY : Sta Z h0 "com/example/pathwright/pathwright/pgql/PathGoal$Kind" "ANY" "Lcom/example/pathwright/pathwright/pgql/PathGoal$Kind;" (.ref w3)) (S_ANY_SHORTEST : Sta Z h0 "com/example/pathwright/pathwright/pgql/PathGoal$Kind" "ANY_SHORTEST" "Lcom/example/pathwright/pathwright/pgql/PathGoal$Kind;" (.ref w6)) (S_ALL_SHORTEST : Sta Z h0 "com/example/pathwright/pathwright/pgql/PathGoal$Kind" "ALL_SHORTEST" "Lcom/example/pathwright/pathwright/pgql/PathGoal$Kind;" (.ref w9)) (S_SHORTEST : Sta Z h0 "com/example/pathwright/pathwright/pgql/PathGoal$Kind" "SHORTEST" "Lcom/example/pathwright/pathwright/pgql/PathGoal$Kind;" (.ref w12)) (S_ANY_CHEAPEST : Sta Z h0 "com/example/pathwright/pathwright/pgql/PathGoal$Kind" "ANY_CHEAPEST" "Lcom/example/pathwright/pathwright/pgql/PathGoal$Kind;" (.ref w15)) (S_CHEAPEST : Sta Z h0 "com/example/pathwright/pathwright/pgql/PathGoal$Kind" "CHEAPEST" "Lcom/example/pathwright/pathwright/pgql/PathGoal$Kind;" (.ref w18)) (S_ALL : Sta Z h0 "com/example/pathwright/pathwright/pgql/PathGoal$Kind" "ALL" "Lcom/example/pathwright/pathwright/pgql/PathGoal$Kind;" (.ref w21)) (E_w32 : Exa Z h0 w32 "com/example/pathwright/pathwright/pgql/PathGoal$Kind") (E_w3 : Exa Z h0 w3 "com/example/pathwright/pathwright/pgql/PathGoal$Kind") (E_w6 : Exa Z h0 w6 "com/example/pathwright/pathwright/pgql/PathGoal$Kind") (E_w9 : Exa Z h0 w9 "com/example/pathwright/pathwright/pgql/PathGoal$Kind") (E_w12 : Exa Z h0 w12 "com/example/pathwright/pathwright/pgql/PathGoal$Kind") (E_w15 : Exa Z h0 w15 "com/example/pathwright/pathwright/pgql/PathGoal$Kind") (E_w18 : Exa Z h0 w18 "com/example/pathwright/pathwright/pgql/PathGoal$Kind") (E_w21 : Exa Z h0 w21 "com/example/pathwright/pathwright/pgql/PathGoal$Kind") (hK0 : ¬ (((p1 &&& (2147483647 : Int32)) % (7 : Int32)) < 0 ∨ (7 : Int32).toNatClampNeg ≤ (((p1 &&& (2147483647 : Int32)) % (7 : Int32))).toNatClampNeg)) (hKA : (([(.ref w3), (.ref w6), (.ref w9), (.ref w12), (.ref w15), (.ref w18), (.ref w21)] : List Value)).getD (((p1 &&& (2147483647 : Int32)) % (7 : Int32))).toNatClampNeg .null = .ref w32) (hKB : (([(.int (nar .boolean (0 : Int32))), (.int (nar .boolean (0 : Int32))), (.int (nar .boolean (0 : Int32))), (.int (nar .boolean (0 : Int32))), (.int (nar .boolean (1 : Int32))), (.int (nar .boolean (1 : Int32))), (.int (nar .boolean (0 : Int32)))] : List Value)).getD (((p1 &&& (2147483647 : Int32)) % (7 : Int32))).toNatClampNeg (.int (0 : Int32)) = .int w34) (hB : (w32 = w15 ∨ w32 = w18) ∧ w34 = 1 ∨ ¬ (w32 = w15) ∧ ¬ (w32 = w18) ∧ w34 = 0) :
    MetFree l x (head1 (Jvm.Cond.code x code maxLocals ret :: ws) room_1) (fun a U => a = #[(.int p1)] ∧ Z.Warmed39 U.vm ∧ U.heap = h0) (fun _ _ _ _ _ => True) (fun _ U o U' => ∃ v L, o = .returned v ∧ Q0x Z p1 w3 w6 w9 w12 w15 w18 w21 w32 w34 h0 n0 v U'.heap L ∧ FrameEnd U o U' L room_1.cells room_1.slots) := by
  refine MetFree.of_bodySF (plainFor_of_name pn_0) hisR ?_
  intro p e s m args below meth c s₁ Bd hml0 hP hK
  obtain ⟨rfl, hZ, hh⟩ := hP
  have hx := Bd.exec
  have hby := Bd.bytes
  have hml : c.maxLocals = 4 := hml0
  have hown : s.vm.findClass "com/example/pathwright/pathwright/pgql/KindByCostPinLaw" = some m.cls := findClass_of_methodNamed Bd.named
  have hnm := (name_of_methodNamed Bd.named Bd.method).1
  have X0 : Stand p l e room_1 s m #[(.int p1)] below meth c s₁ [] 0 0 := Stand.of_body Bd
  have e0 : s₁.heap = h0 := by rw [← hh, Bd.state]; rfl
  have N0 := Fr.nil n0
  have pre0 : ∀ t, Steps p.tables e below (s₁.setTop (mkF m 0 #[.val (.int p1), .unset, .unset, .unset] [])) t → Steps p.tables e below (s₁.setTop (entryFrame m #[(.int p1)] maxLocals)) t := fun t k => castTop (ef_0 m p1) k
  obtain ⟨T2, h2, k2, X2, e2, E2, A2, O2, st2⟩ := newR X0 hx hZ hown (hw _ (List.mem_of_getElem? (i := 0) rfl)) (hw _ (List.mem_of_getElem? (i := 1) rfl)) e0 (g := (mkF m 2 #[.val (.int p1), .unset, .unset, .unset] [(.int (7 : Int32))])) rfl (hb hby at_2) rfl (by decide) (cap := 7) (by decide) (by decide) (by decide) (by decide)
  obtain ⟨b2, g2⟩ : ∃ z, z = h0.size := ⟨_, rfl⟩      -- the fresh array's address
  rw [← g2] at A2 st2
  have V_b2 := (Arv.new A2 (by decide)).pad (vs' := [.null, .null, .null, .null, .null, .null, .null]) (pad_rep [] .null 7)
  have g_b2 : n0 ≤ b2 := Nat.le_trans Z0 (Nat.le_of_eq g2.symm)
  have sz_b2 : h0.size ≤ b2 := (Nat.le_trans (Keep.refl h0 []).1 (Nat.le_of_eq g2.symm))
  have K2 : Keep h0 h2 [] := (Keep.refl h0 []).ext E2
  obtain ⟨T4, X4, e4, st4⟩ := getS2 X2 hx hZ hown (host := "") (Or.inl (hw _ (List.mem_of_getElem? (i := 2) rfl))) Via.refl e2 (S_ANY.ext (own_ext K2)) (g := (mkF m 7 #[.val (.int p1), .unset, .unset, .unset] [(.int (0 : Int32)), (.ref b2), (.ref b2)])) rfl (hb hby at_7)
  obtain ⟨cl_b2_10, Ar_b2, q_b2, S_b2, N_b2, H_b2, G_b2⟩ := V_b2
  have hin10 : ¬ ((0 : Int32) < 0 ∨ cl_b2_10.slots.size ≤ ((0 : Int32)).toNatClampNeg) := inb_of S_b2 ⟨by decide, by decide⟩
  have Sto10 := Sto.ofV Ar_b2 q_b2 O2 (Ins.self (E_w3.ext (own_ext K2)))
  obtain ⟨T5, h5, X5, e5, W5, st5⟩ := stR X4 hx hZ e4 Ar_b2 (j := (0 : Int32)) hin10 rfl Sto10 (g := (mkF m 10 #[.val (.int p1), .unset, .unset, .unset] [(.ref w3), (.int (0 : Int32)), (.ref b2), (.ref b2)])) rfl rfl (hb hby at_10)
  have V_b2_5 := Arv.set Ar_b2 q_b2 S_b2 N_b2 H_b2 G_b2 (v := .ref w3) rfl W5 0 rfl (Nat.le_of_ble_eq_true rfl)
  have N5 := Fr.snoc X5 N0 g_b2
  have K5 : Keep h0 h5 [] := K2.wr W5 (Or.inr sz_b2)
  obtain ⟨T7, X7, e7, st7⟩ := getS2 X5 hx hZ hown (host := "") (Or.inl (hw _ (List.mem_of_getElem? (i := 6) rfl))) Via.refl e5 (S_ANY_SHORTEST.ext (own_ext K5)) (g := (mkF m 13 #[.val (.int p1), .unset, .unset, .unset] [(.int (1 : Int32)), (.ref b2), (.ref b2)])) rfl (hb hby at_13)
  obtain ⟨cl_b2_16, Ar_b2, q_b2, S_b2, N_b2, H_b2, G_b2⟩ := V_b2_5
  have hin16 : ¬ ((1 : Int32) < 0 ∨ cl_b2_16.slots.size ≤ ((1 : Int32)).toNatClampNeg) := inb_of S_b2 ⟨by decide, by decide⟩
  have Sto16 := Sto.ofV Ar_b2 q_b2 O2 (Ins.self (E_w6.ext (own_ext K5)))
  obtain ⟨T8, h8, X8, e8, W8, st8⟩ := stR X7 hx hZ e7 Ar_b2 (j := (1 : Int32)) hin16 rfl Sto16 (g := (mkF m 16 #[.val (.int p1), .unset, .unset, .unset] [(.ref w6), (.int (1 : Int32)), (.ref b2), (.ref b2)])) rfl rfl (hb hby at_16)
  have V_b2_8 := Arv.set Ar_b2 q_b2 S_b2 N_b2 H_b2 G_b2 (v := .ref w6) rfl W8 1 rfl (Nat.le_of_ble_eq_true rfl)
  have N8 := Fr.snoc X8 N5 g_b2
  have K8 : Keep h0 h8 [] := K5.wr W8 (Or.inr sz_b2)
  obtain ⟨T10, X10, e10, st10⟩ := getS2 X8 hx hZ hown (host := "") (Or.inl (hw _ (List.mem_of_getElem? (i := 8) rfl))) Via.refl e8 (S_ALL_SHORTEST.ext (own_ext K8)) (g := (mkF m 19 #[.val (.int p1), .unset, .unset, .unset] [(.int (2 : Int32)), (.ref b2), (.ref b2)])) rfl (hb hby at_19)
  obtain ⟨cl_b2_22, Ar_b2, q_b2, S_b2, N_b2, H_b2, G_b2⟩ := V_b2_8
  have hin22 : ¬ ((2 : Int32) < 0 ∨ cl_b2_22.slots.size ≤ ((2 : Int32)).toNatClampNeg) := inb_of S_b2 ⟨by decide, by decide⟩
  have Sto22 := Sto.ofV Ar_b2 q_b2 O2 (Ins.self (E_w9.ext (own_ext K8)))
  obtain ⟨T11, h11, X11, e11, W11, st11⟩ := stR X10 hx hZ e10 Ar_b2 (j := (2 : Int32)) hin22 rfl Sto22 (g := (mkF m 22 #[.val (.int p1), .unset, .unset, .unset] [(.ref w9), (.int (2 : Int32)), (.ref b2), (.ref b2)])) rfl rfl (hb hby at_22)
  have V_b2_11 := Arv.set Ar_b2 q_b2 S_b2 N_b2 H_b2 G_b2 (v := .ref w9) rfl W11 2 rfl (Nat.le_of_ble_eq_true rfl)
  have N11 := Fr.snoc X11 N8 g_b2
  have K11 : Keep h0 h11 [] := K8.wr W11 (Or.inr sz_b2)
  obtain ⟨T13, X13, e13, st13⟩ := getS2 X11 hx hZ hown (host := "") (Or.inl (hw _ (List.mem_of_getElem? (i := 10) rfl))) Via.refl e11 (S_SHORTEST.ext (own_ext K11)) (g := (mkF m 25 #[.val (.int p1), .unset, .unset, .unset] [(.int (3 : Int32)), (.ref b2), (.ref b2)])) rfl (hb hby at_25)
  obtain ⟨cl_b2_28, Ar_b2, q_b2, S_b2, N_b2, H_b2, G_b2⟩ := V_b2_11
  have hin28 : ¬ ((3 : Int32) < 0 ∨ cl_b2_28.slots.size ≤ ((3 : Int32)).toNatClampNeg) := inb_of S_b2 ⟨by decide, by decide⟩
  have Sto28 := Sto.ofV Ar_b2 q_b2 O2 (Ins.self (E_w12.ext (own_ext K11)))
  obtain ⟨T14, h14, X14, e14, W14, st14⟩ := stR X13 hx hZ e13 Ar_b2 (j := (3 : Int32)) hin28 rfl Sto28 (g := (mkF m 28 #[.val (.int p1), .unset, .unset, .unset] [(.ref w12), (.int (3 : Int32)), (.ref b2), (.ref b2)])) rfl rfl (hb hby at_28)
  have V_b2_14 := Arv.set Ar_b2 q_b2 S_b2 N_b2 H_b2 G_b2 (v := .ref w12) rfl W14 3 rfl (Nat.le_of_ble_eq_true rfl)
  have N14 := Fr.snoc X14 N11 g_b2
  have K14 : Keep h0 h14 [] := K11.wr W14 (Or.inr sz_b2)
  obtain ⟨T16, X16, e16, st16⟩ := getS2 X14 hx hZ hown (host := "") (Or.inl (hw _ (List.mem_of_getElem? (i := 12) rfl))) Via.refl e14 (S_ANY_CHEAPEST.ext (own_ext K14)) (g := (mkF m 31 #[.val (.int p1), .unset, .unset, .unset] [(.int (4 : Int32)), (.ref b2), (.ref b2)])) rfl (hb hby at_31)
  obtain ⟨cl_b2_34, Ar_b2, q_b2, S_b2, N_b2, H_b2, G_b2⟩ := V_b2_14
  have hin34 : ¬ ((4 : Int32) < 0 ∨ cl_b2_34.slots.size ≤ ((4 : Int32)).toNatClampNeg) := inb_of S_b2 ⟨by decide, by decide⟩
  have Sto34 := Sto.ofV Ar_b2 q_b2 O2 (Ins.self (E_w15.ext (own_ext K14)))
  obtain ⟨T17, h17, X17, e17, W17, st17⟩ := stR X16 hx hZ e16 Ar_b2 (j := (4 : Int32)) hin34 rfl Sto34 (g := (mkF m 34 #[.val (.int p1), .unset, .unset, .unset] [(.ref w15), (.int (4 : Int32)), (.ref b2), (.ref b2)])) rfl rfl (hb hby at_34)
  have V_b2_17 := Arv.set Ar_b2 q_b2 S_b2 N_b2 H_b2 G_b2 (v := .ref w15) rfl W17 4 rfl (Nat.le_of_ble_eq_true rfl)
  have N17 := Fr.snoc X17 N14 g_b2
  have K17 : Keep h0 h17 [] := K14.wr W17 (Or.inr sz_b2)
  obtain ⟨T19, X19, e19, st19⟩ := getS2 X17 hx hZ hown (host := "") (Or.inl (hw _ (List.mem_of_getElem? (i := 14) rfl))) Via.refl e17 (S_CHEAPEST.ext (own_ext K17)) (g := (mkF m 37 #[.val (.int p1), .unset, .unset, .unset] [(.int (5 : Int32)), (.ref b2), (.ref b2)])) rfl (hb hby at_37)
  obtain ⟨cl_b2_40, Ar_b2, q_b2, S_b2, N_b2, H_b2, G_b2⟩ := V_b2_17
  have hin40 : ¬ ((5 : Int32) < 0 ∨ cl_b2_40.slots.size ≤ ((5 : Int32)).toNatClampNeg) := inb_of S_b2 ⟨by decide, by decide⟩
  have Sto40 := Sto.ofV Ar_b2 q_b2 O2 (Ins.self (E_w18.ext (own_ext K17)))
  obtain ⟨T20, h20, X20, e20, W20, st20⟩ := stR X19 hx hZ e19 Ar_b2 (j := (5 : Int32)) hin40 rfl Sto40 (g := (mkF m 40 #[.val (.int p1), .unset, .unset, .unset] [(.ref w18), (.int (5 : Int32)), (.ref b2), (.ref b2)])) rfl rfl (hb hby at_40)
  have V_b2_20 := Arv.set Ar_b2 q_b2 S_b2 N_b2 H_b2 G_b2 (v := .ref w18) rfl W20 5 rfl (Nat.le_of_ble_eq_true rfl)
  have N20 := Fr.snoc X20 N17 g_b2
  have K20 : Keep h0 h20 [] := K17.wr W20 (Or.inr sz_b2)
  obtain ⟨T22, X22, e22, st22⟩ := getS2 X20 hx hZ hown (host := "") (Or.inl (hw _ (List.mem_of_getElem? (i := 16) rfl))) Via.refl e20 (S_ALL.ext (own_ext K20)) (g := (mkF m 44 #[.val (.int p1), .unset, .unset, .unset] [(.int (6 : Int32)), (.ref b2), (.ref b2)])) rfl (hb hby at_44)
  obtain ⟨cl_b2_47, Ar_b2, q_b2, S_b2, N_b2, H_b2, G_b2⟩ := V_b2_20
  have hin47 : ¬ ((6 : Int32) < 0 ∨ cl_b2_47.slots.size ≤ ((6 : Int32)).toNatClampNeg) := inb_of S_b2 ⟨by decide, by decide⟩
  have Sto47 := Sto.ofV Ar_b2 q_b2 O2 (Ins.self (E_w21.ext (own_ext K20)))
  obtain ⟨T23, h23, X23, e23, W23, st23⟩ := stR X22 hx hZ e22 Ar_b2 (j := (6 : Int32)) hin47 rfl Sto47 (g := (mkF m 47 #[.val (.int p1), .unset, .unset, .unset] [(.ref w21), (.int (6 : Int32)), (.ref b2), (.ref b2)])) rfl rfl (hb hby at_47)
  have V_b2_23 := Arv.set Ar_b2 q_b2 S_b2 N_b2 H_b2 G_b2 (v := .ref w21) rfl W23 6 rfl (Nat.le_of_ble_eq_true rfl)
  have N23 := Fr.snoc X23 N20 g_b2
  have K23 : Keep h0 h23 [] := K20.wr W23 (Or.inr sz_b2)
  obtain ⟨T24, h24, k24, X24, e24, E24, A24, st24⟩ := newP X23 hx hZ (hw _ (List.mem_of_getElem? (i := 18) rfl)) e23 (g := (mkF m 51 #[.val (.int p1), .val (.ref b2), .unset, .unset] [(.int (7 : Int32))])) rfl (hb hby at_51) rfl (by decide) (cap := 7) (by decide) (by decide) (by decide) (by decide)
  obtain ⟨b24, g24⟩ : ∃ z, z = h23.size := ⟨_, rfl⟩      -- the fresh array's address
  rw [← g24] at A24 st24
  have V_b24 : Arv Z h24 b24 k24 .boolean (7 : Int32) [(.int (0 : Int32)), (.int (0 : Int32)), (.int (0 : Int32)), (.int (0 : Int32)), (.int (0 : Int32)), (.int (0 : Int32)), (.int (0 : Int32))] (.int (0 : Int32)) := (Arv.new A24 (by decide)).pad (pad_rep [] (.int (0 : Int32)) 7)
  have g_b24 : n0 ≤ b24 := Nat.le_trans (Nat.le_trans (Nat.le_trans (Nat.le_trans (Nat.le_trans (Nat.le_trans (Nat.le_trans (Nat.le_trans (Nat.le_trans Z0 E2.1) (Keep.of_wr W5).1) (Keep.of_wr W8).1) (Keep.of_wr W11).1) (Keep.of_wr W14).1) (Keep.of_wr W17).1) (Keep.of_wr W20).1) (Keep.of_wr W23).1) (Nat.le_of_eq g24.symm)
  have sz_b24 : h0.size ≤ b24 := (Nat.le_trans K23.1 (Nat.le_of_eq g24.symm))
  have K24 : Keep h0 h24 [] := K23.ext E24
  obtain ⟨cl_b24_56, Ar_b24, q_b24, S_b24, N_b24, H_b24, G_b24⟩ := V_b24      -- open the array's fact as it stands now (its cell, kind, length, elements)
  have hin56 : ¬ ((0 : Int32) < 0 ∨ cl_b24_56.slots.size ≤ ((0 : Int32)).toNatClampNeg) := inb_of S_b24 ⟨by decide, by decide⟩
  obtain ⟨T25, h25, X25, e25, W25, st25⟩ := stZ X24 hx hZ e24 Ar_b24 (j := (0 : Int32)) hin56 (g := (mkF m 56 #[.val (.int p1), .val (.ref b2), .unset, .unset] [(.int (0 : Int32)), (.int (0 : Int32)), (.ref b24), (.ref b24)])) rfl rfl (hb hby at_56)
  have V_b24_25 := Arv.set Ar_b24 q_b24 S_b24 N_b24 H_b24 G_b24 (fits_nar_bool _) W25 0 rfl (Nat.le_of_ble_eq_true rfl)      -- the array as it stands now (the place must lie among its first values: Arv.pad with pad_rep lengthens them)
  have K25 : Keep h0 h25 [] := K24.wr W25 (Or.inr sz_b24)
  have N25 := Fr.snoc X25 N23 g_b24
  obtain ⟨cl_b24_60, Ar_b24, q_b24, S_b24, N_b24, H_b24, G_b24⟩ := V_b24_25      -- open the array's fact as it stands now (its cell, kind, length, elements)
  have hin60 : ¬ ((1 : Int32) < 0 ∨ cl_b24_60.slots.size ≤ ((1 : Int32)).toNatClampNeg) := inb_of S_b24 ⟨by decide, by decide⟩
  obtain ⟨T26, h26, X26, e26, W26, st26⟩ := stZ X25 hx hZ e25 Ar_b24 (j := (1 : Int32)) hin60 (g := (mkF m 60 #[.val (.int p1), .val (.ref b2), .unset, .unset] [(.int (0 : Int32)), (.int (1 : Int32)), (.ref b24), (.ref b24)])) rfl rfl (hb hby at_60)
  have V_b24_26 := Arv.set Ar_b24 q_b24 S_b24 N_b24 H_b24 G_b24 (fits_nar_bool _) W26 1 rfl (Nat.le_of_ble_eq_true rfl)      -- the array as it stands now (the place must lie among its first values: Arv.pad with pad_rep lengthens them)
  have K26 : Keep h0 h26 [] := K25.wr W26 (Or.inr sz_b24)
  have N26 := Fr.snoc X26 N25 g_b24
  obtain ⟨cl_b24_64, Ar_b24, q_b24, S_b24, N_b24, H_b24, G_b24⟩ := V_b24_26      -- open the array's fact as it stands now (its cell, kind, length, elements)
  have hin64 : ¬ ((2 : Int32) < 0 ∨ cl_b24_64.slots.size ≤ ((2 : Int32)).toNatClampNeg) := inb_of S_b24 ⟨by decide, by decide⟩
  obtain ⟨T27, h27, X27, e27, W27, st27⟩ := stZ X26 hx hZ e26 Ar_b24 (j := (2 : Int32)) hin64 (g := (mkF m 64 #[.val (.int p1), .val (.ref b2), .unset, .unset] [(.int (0 : Int32)), (.int (2 : Int32)), (.ref b24), (.ref b24)])) rfl rfl (hb hby at_64)
  have V_b24_27 := Arv.set Ar_b24 q_b24 S_b24 N_b24 H_b24 G_b24 (fits_nar_bool _) W27 2 rfl (Nat.le_of_ble_eq_true rfl)      -- the array as it stands now (the place must lie among its first values: Arv.pad with pad_rep lengthens them)
  have K27 : Keep h0 h27 [] := K26.wr W27 (Or.inr sz_b24)
  have N27 := Fr.snoc X27 N26 g_b24
  obtain ⟨cl_b24_68, Ar_b24, q_b24, S_b24, N_b24, H_b24, G_b24⟩ := V_b24_27      -- open the array's fact as it stands now (its cell, kind, length, elements)
  have hin68 : ¬ ((3 : Int32) < 0 ∨ cl_b24_68.slots.size ≤ ((3 : Int32)).toNatClampNeg) := inb_of S_b24 ⟨by decide, by decide⟩
  obtain ⟨T28, h28, X28, e28, W28, st28⟩ := stZ X27 hx hZ e27 Ar_b24 (j := (3 : Int32)) hin68 (g := (mkF m 68 #[.val (.int p1), .val (.ref b2), .unset, .unset] [(.int (0 : Int32)), (.int (3 : Int32)), (.ref b24), (.ref b24)])) rfl rfl (hb hby at_68)
  have V_b24_28 := Arv.set Ar_b24 q_b24 S_b24 N_b24 H_b24 G_b24 (fits_nar_bool _) W28 3 rfl (Nat.le_of_ble_eq_true rfl)      -- the array as it stands now (the place must lie among its first values: Arv.pad with pad_rep lengthens them)
  have K28 : Keep h0 h28 [] := K27.wr W28 (Or.inr sz_b24)
  have N28 := Fr.snoc X28 N27 g_b24
  obtain ⟨cl_b24_72, Ar_b24, q_b24, S_b24, N_b24, H_b24, G_b24⟩ := V_b24_28      -- open the array's fact as it stands now (its cell, kind, length, elements)
  have hin72 : ¬ ((4 : Int32) < 0 ∨ cl_b24_72.slots.size ≤ ((4 : Int32)).toNatClampNeg) := inb_of S_b24 ⟨by decide, by decide⟩
  obtain ⟨T29, h29, X29, e29, W29, st29⟩ := stZ X28 hx hZ e28 Ar_b24 (j := (4 : Int32)) hin72 (g := (mkF m 72 #[.val (.int p1), .val (.ref b2), .unset, .unset] [(.int (1 : Int32)), (.int (4 : Int32)), (.ref b24), (.ref b24)])) rfl rfl (hb hby at_72)
  have V_b24_29 := Arv.set Ar_b24 q_b24 S_b24 N_b24 H_b24 G_b24 (fits_nar_bool _) W29 4 rfl (Nat.le_of_ble_eq_true rfl)      -- the array as it stands now (the place must lie among its first values: Arv.pad with pad_rep lengthens them)
  have K29 : Keep h0 h29 [] := K28.wr W29 (Or.inr sz_b24)
  have N29 := Fr.snoc X29 N28 g_b24
  obtain ⟨cl_b24_76, Ar_b24, q_b24, S_b24, N_b24, H_b24, G_b24⟩ := V_b24_29      -- open the array's fact as it stands now (its cell, kind, length, elements)
  have hin76 : ¬ ((5 : Int32) < 0 ∨ cl_b24_76.slots.size ≤ ((5 : Int32)).toNatClampNeg) := inb_of S_b24 ⟨by decide, by decide⟩
  obtain ⟨T30, h30, X30, e30, W30, st30⟩ := stZ X29 hx hZ e29 Ar_b24 (j := (5 : Int32)) hin76 (g := (mkF m 76 #[.val (.int p1), .val (.ref b2), .unset, .unset] [(.int (1 : Int32)), (.int (5 : Int32)), (.ref b24), (.ref b24)])) rfl rfl (hb hby at_76)
  have V_b24_30 := Arv.set Ar_b24 q_b24 S_b24 N_b24 H_b24 G_b24 (fits_nar_bool _) W30 5 rfl (Nat.le_of_ble_eq_true rfl)      -- the array as it stands now (the place must lie among its first values: Arv.pad with pad_rep lengthens them)
  have K30 : Keep h0 h30 [] := K29.wr W30 (Or.inr sz_b24)
  have N30 := Fr.snoc X30 N29 g_b24
  obtain ⟨cl_b24_81, Ar_b24, q_b24, S_b24, N_b24, H_b24, G_b24⟩ := V_b24_30      -- open the array's fact as it stands now (its cell, kind, length, elements)
  have hin81 : ¬ ((6 : Int32) < 0 ∨ cl_b24_81.slots.size ≤ ((6 : Int32)).toNatClampNeg) := inb_of S_b24 ⟨by decide, by decide⟩
  obtain ⟨T31, h31, X31, e31, W31, st31⟩ := stZ X30 hx hZ e30 Ar_b24 (j := (6 : Int32)) hin81 (g := (mkF m 81 #[.val (.int p1), .val (.ref b2), .unset, .unset] [(.int (0 : Int32)), (.int (6 : Int32)), (.ref b24), (.ref b24)])) rfl rfl (hb hby at_81)
  have V_b24_31 := Arv.set Ar_b24 q_b24 S_b24 N_b24 H_b24 G_b24 (fits_nar_bool _) W31 6 rfl (Nat.le_of_ble_eq_true rfl)      -- the array as it stands now (the place must lie among its first values: Arv.pad with pad_rep lengthens them)
  have K31 : Keep h0 h31 [] := K30.wr W31 (Or.inr sz_b24)
  have N31 := Fr.snoc X31 N30 g_b24
  have sz23 : h23.size ≤ b24 := Nat.le_of_eq g24.symm
  have J31 : Keep h23 h31 [] := ((((((((Keep.refl h23 []).ext E24).wr W25 (Or.inr sz23)).wr W26 (Or.inr sz23)).wr W27 (Or.inr sz23)).wr W28 (Or.inr sz23)).wr W29 (Or.inr sz23)).wr W30 (Or.inr sz23)).wr W31 (Or.inr sz23)
  have V_A := V_b2_23.keep J31 (by simp)
  obtain ⟨cl_b2_93, Ar_b2, q_b2, S_b2, N_b2, H_b2, G_b2⟩ := V_A
  have hin93 : ¬ (((p1 &&& (2147483647 : Int32)) % (7 : Int32)) < 0 ∨ cl_b2_93.slots.size ≤ (((p1 &&& (2147483647 : Int32)) % (7 : Int32))).toNatClampNeg) := by rw [S_b2]; exact hK0
  have hat93 : cl_b2_93.slots[(((p1 &&& (2147483647 : Int32)) % (7 : Int32))).toNatClampNeg]? = some (.ref w32) := Has.at H_b2 hin93 hKA
  have Z31 : n0 ≤ h31.size := Nat.le_trans Z0 K31.1
  obtain ⟨cq33, kq33, q33a, q33b, q33c⟩ := isOf hZ e31 (E_w32.ext (own_ext K31))
  obtain ⟨_, _, ⟨T33, L33, k33, n33⟩, -, X33, ⟨Lc33, hQ33, l33, y33, z33⟩, st33⟩ := X31.virtualBack hx (y := (⟨"com/example/pathwright/pathwright/pgql/PathGoal$Kind", "byCost", "()Z"⟩ : MethodName)) (z := (⟨"com/example/pathwright/pathwright/pgql/PathGoal$Kind", "byCost", "()Z"⟩ : MethodName)) hown (mvT hZ (hw _ (List.mem_of_getElem? (i := 20) rfl))) (mvT hZ (hw _ (List.mem_of_getElem? (i := 21) rfl))) (notFace_of_selects (args := #[]) (mvT hZ (hw _ (List.mem_of_getElem? (i := 23) rfl)))) (mvT hZ (hw _ (List.mem_of_getElem? (i := 23) rfl))) (mvT hZ (hw _ (List.mem_of_getElem? (i := 22) rfl))) (by decide) (backOf (W := 0) (rm1 l Z a0 hw [] w32 w15 w18 w34 h31 n0 Z31 (S_ANY_CHEAPEST.ext (own_ext K31)) (S_CHEAPEST.ext (own_ext K31)) hB) hZ (hw _ (List.mem_of_getElem? (i := 24) rfl)) (hw _ (List.mem_of_getElem? (i := 3) rfl)) (by decide) (by decide)) q33a q33c (g := (mkF m 94 #[.val (.int p1), .val (.ref b2), .val (.ref b24), .val (.int ((p1 &&& (2147483647 : Int32)) % (7 : Int32)))] [(.ref w32)])) rfl (by rw [hml]; rfl) (Steps.refl _) (argsL := []) (rest := []) (lenOf pd_0_0 rfl) rfl (by show 2 * 0 + _ ≤ _; exact Nat.le_of_eq rfl) (hb hby at_94) (fun _ _ => ⟨rfl, e31, (by decide : 2 + 0 ≤ _), (by decide : 14 + 0 ≤ _)⟩)
  dsimp only [Pt.U, Pt.locs, Pt.cells, Pt.slots] at X33 l33 y33 z33 st33 hQ33
  subst l33 y33 z33
  obtain ⟨rfl, N33q, eq33⟩ := hQ33
  have V_B := V_b24_31.keep (own_same eq33 (ws := [])) (by simp)
  obtain ⟨cl_b24_99, Ar_b24, q_b24, S_b24, N_b24, H_b24, G_b24⟩ := V_B
  have hin99 : ¬ (((p1 &&& (2147483647 : Int32)) % (7 : Int32)) < 0 ∨ cl_b24_99.slots.size ≤ (((p1 &&& (2147483647 : Int32)) % (7 : Int32))).toNatClampNeg) := by rw [S_b24]; exact hK0
  have hat99 : cl_b24_99.slots[(((p1 &&& (2147483647 : Int32)) % (7 : Int32))).toNatClampNeg]? = some (.int w34) := Has.at H_b24 hin99 hKB      -- what it returned, that it wrote nothing old, and the rest of your Q1
  have N33 := Fr.app N31 N33q
  obtain ⟨fs, hr, hrun, hended, hW, hsame⟩ := X33.leave (v := some (.int (1 : Int32))) (fun h => by rw [Bd.returns] at h; cases h)
  refine ⟨_, _, pre0 _ ?_, hrun, hended, _, _, rfl, ?_, ⟨_, rfl⟩, hW, hsame.mono (by decide) (by decide)⟩
  · show Steps p.tables e below (s₁.setTop (mkF m 0 #[.val (.int p1), .unset, .unset, .unset] [])) _
    refine XS.bipush X0.here hx rfl (hb hby at_0) ?_
    show Steps p.tables e below (s₁.setTop (mkF m 2 #[.val (.int p1), .unset, .unset, .unset] [(.int (7 : Int32))])) _
    refine st2 _ ?_
    show Steps p.tables e below (T2.setTop (mkF m 5 #[.val (.int p1), .unset, .unset, .unset] [(.ref b2)])) _
    refine XS.dup X2.here hx rfl (hb hby at_5) rfl rfl ?_
    show Steps p.tables e below (T2.setTop (mkF m 6 #[.val (.int p1), .unset, .unset, .unset] [(.ref b2), (.ref b2)])) _
    refine XS.iconst X2.here hx rfl (hb hby at_6) ?_
    show Steps p.tables e below (T2.setTop (mkF m 7 #[.val (.int p1), .unset, .unset, .unset] [(.int (0 : Int32)), (.ref b2), (.ref b2)])) _
    refine st4 _ ?_
    show Steps p.tables e below (T4.setTop (mkF m 10 #[.val (.int p1), .unset, .unset, .unset] [(.ref w3), (.int (0 : Int32)), (.ref b2), (.ref b2)])) _
    refine st5 _ ?_
    show Steps p.tables e below (T5.setTop (mkF m 11 #[.val (.int p1), .unset, .unset, .unset] [(.ref b2)])) _
    refine XS.dup X5.here hx rfl (hb hby at_11) rfl rfl ?_
    show Steps p.tables e below (T5.setTop (mkF m 12 #[.val (.int p1), .unset, .unset, .unset] [(.ref b2), (.ref b2)])) _
    refine XS.iconst X5.here hx rfl (hb hby at_12) ?_
    show Steps p.tables e below (T5.setTop (mkF m 13 #[.val (.int p1), .unset, .unset, .unset] [(.int (1 : Int32)), (.ref b2), (.ref b2)])) _
    refine st7 _ ?_
    show Steps p.tables e below (T7.setTop (mkF m 16 #[.val (.int p1), .unset, .unset, .unset] [(.ref w6), (.int (1 : Int32)), (.ref b2), (.ref b2)])) _
    refine st8 _ ?_
    show Steps p.tables e below (T8.setTop (mkF m 17 #[.val (.int p1), .unset, .unset, .unset] [(.ref b2)])) _
    refine XS.dup X8.here hx rfl (hb hby at_17) rfl rfl ?_
    show Steps p.tables e below (T8.setTop (mkF m 18 #[.val (.int p1), .unset, .unset, .unset] [(.ref b2), (.ref b2)])) _
    refine XS.iconst X8.here hx rfl (hb hby at_18) ?_
    show Steps p.tables e below (T8.setTop (mkF m 19 #[.val (.int p1), .unset, .unset, .unset] [(.int (2 : Int32)), (.ref b2), (.ref b2)])) _
    refine st10 _ ?_
    show Steps p.tables e below (T10.setTop (mkF m 22 #[.val (.int p1), .unset, .unset, .unset] [(.ref w9), (.int (2 : Int32)), (.ref b2), (.ref b2)])) _
    refine st11 _ ?_
    show Steps p.tables e below (T11.setTop (mkF m 23 #[.val (.int p1), .unset, .unset, .unset] [(.ref b2)])) _
    refine XS.dup X11.here hx rfl (hb hby at_23) rfl rfl ?_
    show Steps p.tables e below (T11.setTop (mkF m 24 #[.val (.int p1), .unset, .unset, .unset] [(.ref b2), (.ref b2)])) _
    refine XS.iconst X11.here hx rfl (hb hby at_24) ?_
    show Steps p.tables e below (T11.setTop (mkF m 25 #[.val (.int p1), .unset, .unset, .unset] [(.int (3 : Int32)), (.ref b2), (.ref b2)])) _
    refine st13 _ ?_
    show Steps p.tables e below (T13.setTop (mkF m 28 #[.val (.int p1), .unset, .unset, .unset] [(.ref w12), (.int (3 : Int32)), (.ref b2), (.ref b2)])) _
    refine st14 _ ?_
    show Steps p.tables e below (T14.setTop (mkF m 29 #[.val (.int p1), .unset, .unset, .unset] [(.ref b2)])) _
    refine XS.dup X14.here hx rfl (hb hby at_29) rfl rfl ?_
    show Steps p.tables e below (T14.setTop (mkF m 30 #[.val (.int p1), .unset, .unset, .unset] [(.ref b2), (.ref b2)])) _
    refine XS.iconst X14.here hx rfl (hb hby at_30) ?_
    show Steps p.tables e below (T14.setTop (mkF m 31 #[.val (.int p1), .unset, .unset, .unset] [(.int (4 : Int32)), (.ref b2), (.ref b2)])) _
    refine st16 _ ?_
    show Steps p.tables e below (T16.setTop (mkF m 34 #[.val (.int p1), .unset, .unset, .unset] [(.ref w15), (.int (4 : Int32)), (.ref b2), (.ref b2)])) _
    refine st17 _ ?_
    show Steps p.tables e below (T17.setTop (mkF m 35 #[.val (.int p1), .unset, .unset, .unset] [(.ref b2)])) _
    refine XS.dup X17.here hx rfl (hb hby at_35) rfl rfl ?_
    show Steps p.tables e below (T17.setTop (mkF m 36 #[.val (.int p1), .unset, .unset, .unset] [(.ref b2), (.ref b2)])) _
    refine XS.iconst X17.here hx rfl (hb hby at_36) ?_
    show Steps p.tables e below (T17.setTop (mkF m 37 #[.val (.int p1), .unset, .unset, .unset] [(.int (5 : Int32)), (.ref b2), (.ref b2)])) _
    refine st19 _ ?_
    show Steps p.tables e below (T19.setTop (mkF m 40 #[.val (.int p1), .unset, .unset, .unset] [(.ref w18), (.int (5 : Int32)), (.ref b2), (.ref b2)])) _
    refine st20 _ ?_
    show Steps p.tables e below (T20.setTop (mkF m 41 #[.val (.int p1), .unset, .unset, .unset] [(.ref b2)])) _
    refine XS.dup X20.here hx rfl (hb hby at_41) rfl rfl ?_
    show Steps p.tables e below (T20.setTop (mkF m 42 #[.val (.int p1), .unset, .unset, .unset] [(.ref b2), (.ref b2)])) _
    refine XS.bipush X20.here hx rfl (hb hby at_42) ?_
    show Steps p.tables e below (T20.setTop (mkF m 44 #[.val (.int p1), .unset, .unset, .unset] [(.int (6 : Int32)), (.ref b2), (.ref b2)])) _
    refine st22 _ ?_
    show Steps p.tables e below (T22.setTop (mkF m 47 #[.val (.int p1), .unset, .unset, .unset] [(.ref w21), (.int (6 : Int32)), (.ref b2), (.ref b2)])) _
    refine st23 _ ?_
    show Steps p.tables e below (T23.setTop (mkF m 48 #[.val (.int p1), .unset, .unset, .unset] [(.ref b2)])) _
    refine XS.astoreN X23.here hx rfl (hb hby at_48) rfl rfl (l' := #[.val (.int p1), .val (.ref b2), .unset, .unset]) rfl ?_
    show Steps p.tables e below (T23.setTop (mkF m 49 #[.val (.int p1), .val (.ref b2), .unset, .unset] [])) _
    refine XS.bipush X23.here hx rfl (hb hby at_49) ?_
    show Steps p.tables e below (T23.setTop (mkF m 51 #[.val (.int p1), .val (.ref b2), .unset, .unset] [(.int (7 : Int32))])) _
    refine st24 _ ?_
    show Steps p.tables e below (T24.setTop (mkF m 53 #[.val (.int p1), .val (.ref b2), .unset, .unset] [(.ref b24)])) _
    refine XS.dup X24.here hx rfl (hb hby at_53) rfl rfl ?_
    show Steps p.tables e below (T24.setTop (mkF m 54 #[.val (.int p1), .val (.ref b2), .unset, .unset] [(.ref b24), (.ref b24)])) _
    refine XS.iconst X24.here hx rfl (hb hby at_54) ?_
    show Steps p.tables e below (T24.setTop (mkF m 55 #[.val (.int p1), .val (.ref b2), .unset, .unset] [(.int (0 : Int32)), (.ref b24), (.ref b24)])) _
    refine XS.iconst X24.here hx rfl (hb hby at_55) ?_
    show Steps p.tables e below (T24.setTop (mkF m 56 #[.val (.int p1), .val (.ref b2), .unset, .unset] [(.int (0 : Int32)), (.int (0 : Int32)), (.ref b24), (.ref b24)])) _
    refine st25 _ ?_
    show Steps p.tables e below (T25.setTop (mkF m 57 #[.val (.int p1), .val (.ref b2), .unset, .unset] [(.ref b24)])) _
    refine XS.dup X25.here hx rfl (hb hby at_57) rfl rfl ?_
    show Steps p.tables e below (T25.setTop (mkF m 58 #[.val (.int p1), .val (.ref b2), .unset, .unset] [(.ref b24), (.ref b24)])) _
    refine XS.iconst X25.here hx rfl (hb hby at_58) ?_
    show Steps p.tables e below (T25.setTop (mkF m 59 #[.val (.int p1), .val (.ref b2), .unset, .unset] [(.int (1 : Int32)), (.ref b24), (.ref b24)])) _
    refine XS.iconst X25.here hx rfl (hb hby at_59) ?_
    show Steps p.tables e below (T25.setTop (mkF m 60 #[.val (.int p1), .val (.ref b2), .unset, .unset] [(.int (0 : Int32)), (.int (1 : Int32)), (.ref b24), (.ref b24)])) _
    refine st26 _ ?_
    show Steps p.tables e below (T26.setTop (mkF m 61 #[.val (.int p1), .val (.ref b2), .unset, .unset] [(.ref b24)])) _
    refine XS.dup X26.here hx rfl (hb hby at_61) rfl rfl ?_
    show Steps p.tables e below (T26.setTop (mkF m 62 #[.val (.int p1), .val (.ref b2), .unset, .unset] [(.ref b24), (.ref b24)])) _
    refine XS.iconst X26.here hx rfl (hb hby at_62) ?_
    show Steps p.tables e below (T26.setTop (mkF m 63 #[.val (.int p1), .val (.ref b2), .unset, .unset] [(.int (2 : Int32)), (.ref b24), (.ref b24)])) _
    refine XS.iconst X26.here hx rfl (hb hby at_63) ?_
    show Steps p.tables e below (T26.setTop (mkF m 64 #[.val (.int p1), .val (.ref b2), .unset, .unset] [(.int (0 : Int32)), (.int (2 : Int32)), (.ref b24), (.ref b24)])) _
    refine st27 _ ?_
    show Steps p.tables e below (T27.setTop (mkF m 65 #[.val (.int p1), .val (.ref b2), .unset, .unset] [(.ref b24)])) _
    refine XS.dup X27.here hx rfl (hb hby at_65) rfl rfl ?_
    show Steps p.tables e below (T27.setTop (mkF m 66 #[.val (.int p1), .val (.ref b2), .unset, .unset] [(.ref b24), (.ref b24)])) _
    refine XS.iconst X27.here hx rfl (hb hby at_66) ?_
    show Steps p.tables e below (T27.setTop (mkF m 67 #[.val (.int p1), .val (.ref b2), .unset, .unset] [(.int (3 : Int32)), (.ref b24), (.ref b24)])) _
    refine XS.iconst X27.here hx rfl (hb hby at_67) ?_
    show Steps p.tables e below (T27.setTop (mkF m 68 #[.val (.int p1), .val (.ref b2), .unset, .unset] [(.int (0 : Int32)), (.int (3 : Int32)), (.ref b24), (.ref b24)])) _
    refine st28 _ ?_
    show Steps p.tables e below (T28.setTop (mkF m 69 #[.val (.int p1), .val (.ref b2), .unset, .unset] [(.ref b24)])) _
    refine XS.dup X28.here hx rfl (hb hby at_69) rfl rfl ?_
    show Steps p.tables e below (T28.setTop (mkF m 70 #[.val (.int p1), .val (.ref b2), .unset, .unset] [(.ref b24), (.ref b24)])) _
    refine XS.iconst X28.here hx rfl (hb hby at_70) ?_
    show Steps p.tables e below (T28.setTop (mkF m 71 #[.val (.int p1), .val (.ref b2), .unset, .unset] [(.int (4 : Int32)), (.ref b24), (.ref b24)])) _
    refine XS.iconst X28.here hx rfl (hb hby at_71) ?_
    show Steps p.tables e below (T28.setTop (mkF m 72 #[.val (.int p1), .val (.ref b2), .unset, .unset] [(.int (1 : Int32)), (.int (4 : Int32)), (.ref b24), (.ref b24)])) _
    refine st29 _ ?_
    show Steps p.tables e below (T29.setTop (mkF m 73 #[.val (.int p1), .val (.ref b2), .unset, .unset] [(.ref b24)])) _
    refine XS.dup X29.here hx rfl (hb hby at_73) rfl rfl ?_
    show Steps p.tables e below (T29.setTop (mkF m 74 #[.val (.int p1), .val (.ref b2), .unset, .unset] [(.ref b24), (.ref b24)])) _
    refine XS.iconst X29.here hx rfl (hb hby at_74) ?_
    show Steps p.tables e below (T29.setTop (mkF m 75 #[.val (.int p1), .val (.ref b2), .unset, .unset] [(.int (5 : Int32)), (.ref b24), (.ref b24)])) _
    refine XS.iconst X29.here hx rfl (hb hby at_75) ?_
    show Steps p.tables e below (T29.setTop (mkF m 76 #[.val (.int p1), .val (.ref b2), .unset, .unset] [(.int (1 : Int32)), (.int (5 : Int32)), (.ref b24), (.ref b24)])) _
    refine st30 _ ?_
    show Steps p.tables e below (T30.setTop (mkF m 77 #[.val (.int p1), .val (.ref b2), .unset, .unset] [(.ref b24)])) _
    refine XS.dup X30.here hx rfl (hb hby at_77) rfl rfl ?_
    show Steps p.tables e below (T30.setTop (mkF m 78 #[.val (.int p1), .val (.ref b2), .unset, .unset] [(.ref b24), (.ref b24)])) _
    refine XS.bipush X30.here hx rfl (hb hby at_78) ?_
    show Steps p.tables e below (T30.setTop (mkF m 80 #[.val (.int p1), .val (.ref b2), .unset, .unset] [(.int (6 : Int32)), (.ref b24), (.ref b24)])) _
    refine XS.iconst X30.here hx rfl (hb hby at_80) ?_
    show Steps p.tables e below (T30.setTop (mkF m 81 #[.val (.int p1), .val (.ref b2), .unset, .unset] [(.int (0 : Int32)), (.int (6 : Int32)), (.ref b24), (.ref b24)])) _
    refine st31 _ ?_
    show Steps p.tables e below (T31.setTop (mkF m 82 #[.val (.int p1), .val (.ref b2), .unset, .unset] [(.ref b24)])) _
    refine XS.astoreN X31.here hx rfl (hb hby at_82) rfl rfl (l' := #[.val (.int p1), .val (.ref b2), .val (.ref b24), .unset]) rfl ?_
    show Steps p.tables e below (T31.setTop (mkF m 83 #[.val (.int p1), .val (.ref b2), .val (.ref b24), .unset] [])) _
    refine XS.iloadN X31.here hx rfl (hb hby at_83) rfl ?_
    show Steps p.tables e below (T31.setTop (mkF m 84 #[.val (.int p1), .val (.ref b2), .val (.ref b24), .unset] [(.int p1)])) _
    refine X31.ldcInt hx hown (mvT hZ (hw _ (List.mem_of_getElem? (i := 19) rfl))) (g := (mkF m 84 #[.val (.int p1), .val (.ref b2), .val (.ref b24), .unset] [(.int p1)])) rfl (hb hby at_84) _ ?_
    show Steps p.tables e below (T31.setTop (mkF m 86 #[.val (.int p1), .val (.ref b2), .val (.ref b24), .unset] [(.int (2147483647 : Int32)), (.int p1)])) _
    refine XS.iand X31.here hx rfl (hb hby at_86) rfl ?_
    show Steps p.tables e below (T31.setTop (mkF m 87 #[.val (.int p1), .val (.ref b2), .val (.ref b24), .unset] [(.int (p1 &&& (2147483647 : Int32)))])) _
    refine XS.bipush X31.here hx rfl (hb hby at_87) ?_
    show Steps p.tables e below (T31.setTop (mkF m 89 #[.val (.int p1), .val (.ref b2), .val (.ref b24), .unset] [(.int (7 : Int32)), (.int (p1 &&& (2147483647 : Int32)))])) _
    refine iremM X31 hx rfl (hb hby at_89) rfl (by decide) ?_
    show Steps p.tables e below (T31.setTop (mkF m 90 #[.val (.int p1), .val (.ref b2), .val (.ref b24), .unset] [(.int ((p1 &&& (2147483647 : Int32)) % (7 : Int32)))])) _
    refine XS.istoreN X31.here hx rfl (hb hby at_90) rfl (l' := #[.val (.int p1), .val (.ref b2), .val (.ref b24), .val (.int ((p1 &&& (2147483647 : Int32)) % (7 : Int32)))]) rfl ?_
    show Steps p.tables e below (T31.setTop (mkF m 91 #[.val (.int p1), .val (.ref b2), .val (.ref b24), .val (.int ((p1 &&& (2147483647 : Int32)) % (7 : Int32)))] [])) _
    refine XS.aloadN X31.here hx rfl (hb hby at_91) rfl rfl ?_
    show Steps p.tables e below (T31.setTop (mkF m 92 #[.val (.int p1), .val (.ref b2), .val (.ref b24), .val (.int ((p1 &&& (2147483647 : Int32)) % (7 : Int32)))] [(.ref b2)])) _
    refine XS.iloadN X31.here hx rfl (hb hby at_92) rfl ?_
    show Steps p.tables e below (T31.setTop (mkF m 93 #[.val (.int p1), .val (.ref b2), .val (.ref b24), .val (.int ((p1 &&& (2147483647 : Int32)) % (7 : Int32)))] [(.int ((p1 &&& (2147483647 : Int32)) % (7 : Int32))), (.ref b2)])) _
    refine X31.aaload hx (j := ((p1 &&& (2147483647 : Int32)) % (7 : Int32))) (v := (.ref w32)) (by rw [e31]; exact Ar_b2.1) (State.isArrayOf_alike hZ.alike Ar_b2.2.1) rfl Ar_b2.2.2 hin93 hat93 (g := (mkF m 93 #[.val (.int p1), .val (.ref b2), .val (.ref b24), .val (.int ((p1 &&& (2147483647 : Int32)) % (7 : Int32)))] [(.int ((p1 &&& (2147483647 : Int32)) % (7 : Int32))), (.ref b2)])) rfl rfl (hb hby at_93) _ ?_
    show Steps p.tables e below (T31.setTop (mkF m 94 #[.val (.int p1), .val (.ref b2), .val (.ref b24), .val (.int ((p1 &&& (2147483647 : Int32)) % (7 : Int32)))] [(.ref w32)])) _
    refine st33.trans ?_
    show Steps p.tables e below (T33.setTop (mkF m 97 #[.val (.int p1), .val (.ref b2), .val (.ref b24), .val (.int ((p1 &&& (2147483647 : Int32)) % (7 : Int32)))] [(.int w34)])) _
    refine XS.aloadN X33.here hx rfl (hb hby at_97) rfl rfl ?_
    show Steps p.tables e below (T33.setTop (mkF m 98 #[.val (.int p1), .val (.ref b2), .val (.ref b24), .val (.int ((p1 &&& (2147483647 : Int32)) % (7 : Int32)))] [(.ref b24), (.int w34)])) _
    refine XS.iloadN X33.here hx rfl (hb hby at_98) rfl ?_
    show Steps p.tables e below (T33.setTop (mkF m 99 #[.val (.int p1), .val (.ref b2), .val (.ref b24), .val (.int ((p1 &&& (2147483647 : Int32)) % (7 : Int32)))] [(.int ((p1 &&& (2147483647 : Int32)) % (7 : Int32))), (.ref b24), (.int w34)])) _
    refine X33.baloadBooleans hx (j := ((p1 &&& (2147483647 : Int32)) % (7 : Int32))) (v := (.int w34)) Ar_b24.1 (State.isArrayOf_alike hZ.alike Ar_b24.2.1) Ar_b24.2.2 hin99 hat99 (g := (mkF m 99 #[.val (.int p1), .val (.ref b2), .val (.ref b24), .val (.int ((p1 &&& (2147483647 : Int32)) % (7 : Int32)))] [(.int ((p1 &&& (2147483647 : Int32)) % (7 : Int32))), (.ref b24), (.int w34)])) rfl rfl (hb hby at_99) _ ?_
    show Steps p.tables e below (T33.setTop (mkF m 100 #[.val (.int p1), .val (.ref b2), .val (.ref b24), .val (.int ((p1 &&& (2147483647 : Int32)) % (7 : Int32)))] [(.int w34), (.int w34)])) _
    refine XS.icmpNo X33.here hx rfl (hb hby at_100) rfl (teq rfl).2 ?_
    show Steps p.tables e below (T33.setTop (mkF m 103 #[.val (.int p1), .val (.ref b2), .val (.ref b24), .val (.int ((p1 &&& (2147483647 : Int32)) % (7 : Int32)))] [])) _
    refine XS.iconst X33.here hx rfl (hb hby at_103) ?_
    show Steps p.tables e below (T33.setTop (mkF m 104 #[.val (.int p1), .val (.ref b2), .val (.ref b24), .val (.int ((p1 &&& (2147483647 : Int32)) % (7 : Int32)))] [(.int (1 : Int32))])) _
    refine XS.goto X33.here hx rfl (pc0 := 104) (pc' := 108) rfl (hb hby at_104) (by decide) (by decide) ?_
    show Steps p.tables e below (T33.setTop (mkF m 108 #[.val (.int p1), .val (.ref b2), .val (.ref b24), .val (.int ((p1 &&& (2147483647 : Int32)) % (7 : Int32)))] [(.int (1 : Int32))])) _
    exact retN X33 hx (t := .boolean) Bd.returns (by simp) (hb hby at_108) hr
  · show Q0x Z p1 w3 w6 w9 w12 w15 w18 w21 w32 w34 h0 n0 _ T33.heap _
    exact ⟨rfl, N33⟩
set_option maxRecDepth 65536 in
set_option maxHeartbeats 40000000 in
theorem rm0 (l : Launch) (Z : State) (a0 : Array Value) (hw : ∀ d ∈ tables_1, d.before a0 Z = true) (ws : List Jvm.Cond) (p1 : Int32) (w3 : Addr) (w6 : Addr) (w9 : Addr) (w12 : Addr) (w15 : Addr) (w18 : Addr) (w21 : Addr) (h0 : Heap) (n0 : Nat) (Z0 : n0 ≤ h0.size) (S0 : Sta Z h0 "com/example/pathwright/pathwright/pgql/PathGoal$Kind" "ANY" "Lcom/example/pathwright/pathwright/pgql/PathGoal$Kind;" (.ref w3)) (S1 : Sta Z h0 "com/example/pathwright/pathwright/pgql/PathGoal$Kind" "ANY_SHORTEST" "Lcom/example/pathwright/pathwright/pgql/PathGoal$Kind;" (.ref w6)) (S2 : Sta Z h0 "com/example/pathwright/pathwright/pgql/PathGoal$Kind" "ALL_SHORTEST" "Lcom/example/pathwright/pathwright/pgql/PathGoal$Kind;" (.ref w9)) (S3 : Sta Z h0 "com/example/pathwright/pathwright/pgql/PathGoal$Kind" "SHORTEST" "Lcom/example/pathwright/pathwright/pgql/PathGoal$Kind;" (.ref w12)) (S4 : Sta Z h0 "com/example/pathwright/pathwright/pgql/PathGoal$Kind" "ANY_CHEAPEST" "Lcom/example/pathwright/pathwright/pgql/PathGoal$Kind;" (.ref w15)) (S5 : Sta Z h0 "com/example/pathwright/pathwright/pgql/PathGoal$Kind" "CHEAPEST" "Lcom/example/pathwright/pathwright/pgql/PathGoal$Kind;" (.ref w18)) (S6 : Sta Z h0 "com/example/pathwright/pathwright/pgql/PathGoal$Kind" "ALL" "Lcom/example/pathwright/pathwright/pgql/PathGoal$Kind;" (.ref w21)) (E0 : Exa Z h0 w3 "com/example/pathwright/pathwright/pgql/PathGoal$Kind") (F0 : Fld Z h0 w3 "java/lang/Enum" "ordinal" "I" (.int (0 : Int32))) (E1 : Exa Z h0 w6 "com/example/pathwright/pathwright/pgql/PathGoal$Kind") (F1 : Fld Z h0 w6 "java/lang/Enum" "ordinal" "I" (.int (1 : Int32))) (E2 : Exa Z h0 w9 "com/example/pathwright/pathwright/pgql/PathGoal$Kind") (F2 : Fld Z h0 w9 "java/lang/Enum" "ordinal" "I" (.int (2 : Int32))) (E3 : Exa Z h0 w12 "com/example/pathwright/pathwright/pgql/PathGoal$Kind") (F3 : Fld Z h0 w12 "java/lang/Enum" "ordinal" "I" (.int (3 : Int32))) (E4 : Exa Z h0 w15 "com/example/pathwright/pathwright/pgql/PathGoal$Kind") (F4 : Fld Z h0 w15 "java/lang/Enum" "ordinal" "I" (.int (4 : Int32))) (E5 : Exa Z h0 w18 "com/example/pathwright/pathwright/pgql/PathGoal$Kind") (F5 : Fld Z h0 w18 "java/lang/Enum" "ordinal" "I" (.int (5 : Int32))) (E6 : Exa Z h0 w21 "com/example/pathwright/pathwright/pgql/PathGoal$Kind") (F6 : Fld Z h0 w21 "java/lang/Enum" "ordinal" "I" (.int (6 : Int32))) :
    MetFree l x (head1 (Jvm.Cond.code x code maxLocals ret :: ws) room_1) (fun a U => a = #[(.int p1)] ∧ Z.Warmed39 U.vm ∧ U.heap = h0) (fun _ _ _ _ _ => True) (fun _ U o U' => ∃ v L, o = .returned v ∧ (v = some (.int (1 : Int32)) ∧ Fr n0 L) ∧ FrameEnd U o U' L room_1.cells room_1.slots) := by
  have q1 := c_and p1 (2147483647 : Int32) (by decide)
  have q2 := (c_irem (p1 &&& (2147483647 : Int32)) (7 : Int32) 7 (by decide)).1 q1.1
  have q3 : 0 ≤ (((p1 &&& (2147483647 : Int32)) % (7 : Int32))).toInt ∧ (((p1 &&& (2147483647 : Int32)) % (7 : Int32))).toInt < 7 := by rw [q2]; omega
  have key : ∀ (i : Int32), ((p1 &&& (2147483647 : Int32)) % (7 : Int32)) = i → ((p1 &&& (2147483647 : Int32)) % (7 : Int32)).toInt = i.toInt := fun i h => by rw [h]
  have cs : ((p1 &&& (2147483647 : Int32)) % (7 : Int32)) = 0 ∨ ((p1 &&& (2147483647 : Int32)) % (7 : Int32)) = 1 ∨ ((p1 &&& (2147483647 : Int32)) % (7 : Int32)) = 2 ∨ ((p1 &&& (2147483647 : Int32)) % (7 : Int32)) = 3 ∨ ((p1 &&& (2147483647 : Int32)) % (7 : Int32)) = 4 ∨ ((p1 &&& (2147483647 : Int32)) % (7 : Int32)) = 5 ∨ ((p1 &&& (2147483647 : Int32)) % (7 : Int32)) = 6 := by
    have z : ∀ i : Int32, (((p1 &&& (2147483647 : Int32)) % (7 : Int32))).toInt = i.toInt → ((p1 &&& (2147483647 : Int32)) % (7 : Int32)) = i := fun i h => Int32.toInt_inj.mp h
    have c : (((p1 &&& (2147483647 : Int32)) % (7 : Int32))).toInt = 0 ∨ (((p1 &&& (2147483647 : Int32)) % (7 : Int32))).toInt = 1 ∨ (((p1 &&& (2147483647 : Int32)) % (7 : Int32))).toInt = 2 ∨ (((p1 &&& (2147483647 : Int32)) % (7 : Int32))).toInt = 3 ∨ (((p1 &&& (2147483647 : Int32)) % (7 : Int32))).toInt = 4 ∨ (((p1 &&& (2147483647 : Int32)) % (7 : Int32))).toInt = 5 ∨ (((p1 &&& (2147483647 : Int32)) % (7 : Int32))).toInt = 6 := by omega
    rcases c with c | c | c | c | c | c | c
    · exact Or.inl (z 0 c)
    · exact Or.inr (Or.inl (z 1 c))
    · exact Or.inr (Or.inr (Or.inl (z 2 c)))
    · exact Or.inr (Or.inr (Or.inr (Or.inl (z 3 c))))
    · exact Or.inr (Or.inr (Or.inr (Or.inr (Or.inl (z 4 c)))))
    · exact Or.inr (Or.inr (Or.inr (Or.inr (Or.inr (Or.inl (z 5 c))))))
    · exact Or.inr (Or.inr (Or.inr (Or.inr (Or.inr (Or.inr (z 6 c))))))
  have S_ := S0
  rcases cs with c | c | c | c | c | c | c
  · exact rm0x l Z a0 hw ws p1 w3 w6 w9 w12 w15 w18 w21 w3 0 h0 n0 Z0 S0 S1 S2 S3 S4 S5 S6 E0 E0 E1 E2 E3 E4 E5 E6 (by rw [c]; decide) (by rw [c]; rfl) (by rw [c]; rfl) (Or.inr ⟨own_ne F0 F4 (by decide), own_ne F0 F5 (by decide), rfl⟩)
  · exact rm0x l Z a0 hw ws p1 w3 w6 w9 w12 w15 w18 w21 w6 0 h0 n0 Z0 S0 S1 S2 S3 S4 S5 S6 E1 E0 E1 E2 E3 E4 E5 E6 (by rw [c]; decide) (by rw [c]; rfl) (by rw [c]; rfl) (Or.inr ⟨own_ne F1 F4 (by decide), own_ne F1 F5 (by decide), rfl⟩)
  · exact rm0x l Z a0 hw ws p1 w3 w6 w9 w12 w15 w18 w21 w9 0 h0 n0 Z0 S0 S1 S2 S3 S4 S5 S6 E2 E0 E1 E2 E3 E4 E5 E6 (by rw [c]; decide) (by rw [c]; rfl) (by rw [c]; rfl) (Or.inr ⟨own_ne F2 F4 (by decide), own_ne F2 F5 (by decide), rfl⟩)
  · exact rm0x l Z a0 hw ws p1 w3 w6 w9 w12 w15 w18 w21 w12 0 h0 n0 Z0 S0 S1 S2 S3 S4 S5 S6 E3 E0 E1 E2 E3 E4 E5 E6 (by rw [c]; decide) (by rw [c]; rfl) (by rw [c]; rfl) (Or.inr ⟨own_ne F3 F4 (by decide), own_ne F3 F5 (by decide), rfl⟩)
  · exact rm0x l Z a0 hw ws p1 w3 w6 w9 w12 w15 w18 w21 w15 1 h0 n0 Z0 S0 S1 S2 S3 S4 S5 S6 E4 E0 E1 E2 E3 E4 E5 E6 (by rw [c]; decide) (by rw [c]; rfl) (by rw [c]; rfl) (Or.inl ⟨Or.inl rfl, rfl⟩)
  · exact rm0x l Z a0 hw ws p1 w3 w6 w9 w12 w15 w18 w21 w18 1 h0 n0 Z0 S0 S1 S2 S3 S4 S5 S6 E5 E0 E1 E2 E3 E4 E5 E6 (by rw [c]; decide) (by rw [c]; rfl) (by rw [c]; rfl) (Or.inl ⟨Or.inr rfl, rfl⟩)
  · exact rm0x l Z a0 hw ws p1 w3 w6 w9 w12 w15 w18 w21 w21 0 h0 n0 Z0 S0 S1 S2 S3 S4 S5 S6 E6 E0 E1 E2 E3 E4 E5 E6 (by rw [c]; decide) (by rw [c]; rfl) (by rw [c]; rfl) (Or.inr ⟨own_ne F6 F4 (by decide), own_ne F6 F5 (by decide), rfl⟩)
set_option maxRecDepth 65536 in
set_option maxHeartbeats 40000000 in
theorem comes_1 {Post : Tables → Env → Array Value → State → Outcome → State → Prop} (hpost : ∀ tb e args s v u, (limb_1_1.after args s (.returned v) u = true ∧ limb_1_2.after args s (.returned v) u = true ∧ True) → FrameEnd s (.returned v) u (Jvm.fieldLocs frame_1_writes args s ++ Jvm.arrayLocs frame_1_arrays args s ++ Jvm.staticLocs frame_1_statics s) 16 128 → Post tb e args s (.returned v) u) :
    ArmFor flags0 classFile x code maxLocals ret World_1 tables_1 room_1 Calls_1 rest_1 Pre_1 Post := by
  intro l hfl _ _ p e ha hc hk s m args below hf hA hF happ hP
  obtain ⟨hcalls, hrest, hpre⟩ := hP
  obtain ⟨-, -, -, hnamed, -, -, -, hat⟩ := (Spec.applies_iff hf).mp happ
  obtain ⟨hg, hn⟩ := and_e (Cond.before_iff.mp (show (Jvm.Cond.and given_1 narrow_1).before args s = true from hpre))
  obtain ⟨g35, g36⟩ := and_e hg
  obtain ⟨w0, rfl⟩ : ∃ w0 : Value, args = #[w0] := by
    have hs : args.size = 1 := by simpa [Cond.value, given_1] using g35
    obtain ⟨L⟩ := args
    match L, hs with
    | [w0], _ => exact ⟨w0, rfl⟩
  have hw := fun d (hd : d ∈ tables_1) => atoms_spec (ws := Jvm.Cond.code x code maxLocals ret :: tables_1) hat d (List.mem_cons_of_mem _ hd)
  have hfit : Fit s := fun {y c} hc i hi => by
    obtain ⟨ha, rfl⟩ := Array.getElem?_eq_some_iff.mp hc
    have q := List.all_eq_true.mp ((Array.all_eq_true_iff_forall_mem.mp hF) _ (Array.getElem_mem ha)) i (List.mem_range.mpr hi)
    simpa [Array.getElem?_eq_getElem hi] using q
  obtain ⟨i0, ei0⟩ := is_v g36
  obtain rfl : w0 = (.int i0) := Option.some.inj ei0
  obtain ⟨k_E0, r0⟩ := and_e hn
  obtain ⟨k_E1, r1⟩ := and_e r0
  obtain ⟨k_E2, r2⟩ := and_e r1
  obtain ⟨k_E3, r3⟩ := and_e r2
  obtain ⟨k_E4, r4⟩ := and_e r3
  obtain ⟨k_E5, r5⟩ := and_e r4
  obtain ⟨k_E6, r6⟩ := and_e r5
  obtain ⟨k_o0, r7⟩ := and_e r6
  obtain ⟨k_o4, r8⟩ := and_e r7
  obtain ⟨k_o5, r9⟩ := and_e r8
  obtain ⟨k_o3, r10⟩ := and_e r9
  obtain ⟨k_o6, r11⟩ := and_e r10
  obtain ⟨k_o2, r12⟩ := and_e r11
  have k_o1 := r12
  obtain ⟨x0, ev0⟩ := exa_v k_E0
  have S0 := Sta.start ev0 (Or.inr ⟨hw _ (List.mem_of_getElem? (i := 3) rfl), hw _ (List.mem_of_getElem? (i := 4) rfl)⟩)
  have E0 := Exa.start ev0 k_E0
  have F0 := own_fint ev0 k_o0
  obtain ⟨x1, ev1⟩ := exa_v k_E1
  have S1 := Sta.start ev1 (Or.inr ⟨hw _ (List.mem_of_getElem? (i := 3) rfl), hw _ (List.mem_of_getElem? (i := 7) rfl)⟩)
  have E1 := Exa.start ev1 k_E1
  have F1 := own_fint ev1 k_o1
  obtain ⟨x2, ev2⟩ := exa_v k_E2
  have S2 := Sta.start ev2 (Or.inr ⟨hw _ (List.mem_of_getElem? (i := 3) rfl), hw _ (List.mem_of_getElem? (i := 9) rfl)⟩)
  have E2 := Exa.start ev2 k_E2
  have F2 := own_fint ev2 k_o2
  obtain ⟨x3, ev3⟩ := exa_v k_E3
  have S3 := Sta.start ev3 (Or.inr ⟨hw _ (List.mem_of_getElem? (i := 3) rfl), hw _ (List.mem_of_getElem? (i := 11) rfl)⟩)
  have E3 := Exa.start ev3 k_E3
  have F3 := own_fint ev3 k_o3
  obtain ⟨x4, ev4⟩ := exa_v k_E4
  have S4 := Sta.start ev4 (Or.inr ⟨hw _ (List.mem_of_getElem? (i := 3) rfl), hw _ (List.mem_of_getElem? (i := 13) rfl)⟩)
  have E4 := Exa.start ev4 k_E4
  have F4 := own_fint ev4 k_o4
  obtain ⟨x5, ev5⟩ := exa_v k_E5
  have S5 := Sta.start ev5 (Or.inr ⟨hw _ (List.mem_of_getElem? (i := 3) rfl), hw _ (List.mem_of_getElem? (i := 15) rfl)⟩)
  have E5 := Exa.start ev5 k_E5
  have F5 := own_fint ev5 k_o5
  obtain ⟨x6, ev6⟩ := exa_v k_E6
  have S6 := Sta.start ev6 (Or.inr ⟨hw _ (List.mem_of_getElem? (i := 3) rfl), hw _ (List.mem_of_getElem? (i := 17) rfl)⟩)
  have E6 := Exa.start ev6 k_E6
  have F6 := own_fint ev6 k_o6
  obtain ⟨n, o, h1, h2, h3, _, L, rfl, ⟨rfl, N⟩, hq⟩ := rm0 l s _ hw tables_1 i0 x0 x1 x2 x3 x4 x5 x6 s.heap s.heap.size (Nat.le_refl _) S0 S1 S2 S3 S4 S5 S6 E0 F0 E1 F1 E2 F2 E3 F3 E4 F4 E5 F5 E6 F6 p e ha hc hk s m _ below hf ((Spec.applies_iff_loose hf).mp happ).1 ⟨rfl, State.Warmed39.refl s, rfl⟩ trivial
  refine ⟨n, _, h1, h2, h3, hpost _ _ _ _ _ _ ⟨Cond.after_iff.mpr rfl, Cond.after_iff.mpr (eq_i res_at (Term.int_eval (1)) rfl), trivial⟩ ⟨hq.1, hq.2.1, (hq.2.2.sift fun y hy => Or.inr (N y hy)).mono (by decide) (by decide)⟩⟩
theorem main_1_1 : Claimed_1_1 := comes_1 fun _ _ _ _ _ _ h hF => ⟨h.1, hF⟩
theorem main_1_2 : Claimed_1_2 := comes_1 fun _ _ _ _ _ _ h hF => ⟨h.2.1, hF⟩
end Jvm.Pilot.@@N@@
namespace Jvm.Pilot.@@N@@
open Jvm Jvm.ClassFile Sem Op Lib Jvm.Free Jvm.Stand Jvm.Pilot.@@N@@.Jvm.D
/-! MADE BY PROGRAM (witnessworld.py) out of the Statement's table words and the real class files: 15 classes; the members and pool entries that the words name. The judged class is class 1, her method 1. -/
namespace start1
open Jvm.ClassFile
def u (s : String) : CpInfo := .utf8 (stringToUtf16 s)
/-- a pool by its gaps: so many unusable entries, then the entry; so many at the end -/
def gap : Nat → List CpInfo → List CpInfo
  | 0, r => r
  | n + 1, r => .unusable :: gap n r
def poolList (es : List (Nat × CpInfo)) (last : Nat) : List CpInfo := es.foldr (fun e r => gap e.1 (e.2 :: r)) (gap last [])
def pool (es : List (Nat × CpInfo)) (last : Nat) : Array CpInfo := ⟨poolList es last⟩
def fileOf (pool : Array CpInfo) (this : Nat) (attrs : Array Attribute := #[]) (ms : Array MethodInfo := #[]) (fl : Nat := 33) (sup : Nat := 0) (ifs : Array Nat := #[]) (fds : Array FieldInfo := #[]) : ClassFile where
  minorVersion := 0
  majorVersion := 65
  constantPool := pool
  accessFlags := fl
  thisClass := this
  superClass := sup
  interfaces := ifs
  fields := fds
  methods := ms
  attributes := attrs
def plain (name : String) (sup : Option ClassId) : Class where
  name := name
  kind := .ordinary
  loader := none
  accessFlags := 33
  super := sup
  interfaces := #[]
  cf := none
  fields := #[]
  methods := #[]
  instanceTypes := #[]
  staticTypes := #[]
  resolved := #[]
  callSites := []
  init := .initialized
  statics := none
  mirror := none

def pool0 : Array CpInfo := pool [(5, u "<init>"), (0, u "()V"), (1, .class_ 10), (1, u "java/lang/Object")] 113

def k0m0 : Method := { name := "<init>", desc := "()V", sig := { parameters := [], returnType := none }, accessFlags := 1, code := none }
/-- java/lang/Object -/
def k0 : Class := { plain "java/lang/Object" none with
  accessFlags := 33
  interfaces := #[]
  cf := some (fileOf pool0 8 #[] #[{ accessFlags := 1, nameIndex := 5, descriptorIndex := 6, attributes := #[] }] 33 0 #[] #[])
  fields := #[]
  methods := #[k0m0]
  instanceTypes := #[]
  staticTypes := #[]
  resolved := Array.replicate 124 none
  statics := none }

def pool1 : Array CpInfo := pool [(2, .class_ 4), (1, u "java/lang/Object"), (0, u "<init>"), (0, u "()V"), (0, .class_ 8), (0, u "com/example/pathwright/pathwright/pgql/PathGoal$Kind"), (0, .fieldref 7 10), (0, .nameAndType 11 12), (0, u "ANY"), (0, u "Lcom/example/pathwright/pathwright/pgql/PathGoal$Kind;"), (0, .fieldref 7 14), (0, .nameAndType 15 12), (0, u "ANY_SHORTEST"), (0, .fieldref 7 17), (0, .nameAndType 18 12), (0, u "ALL_SHORTEST"), (0, .fieldref 7 20), (0, .nameAndType 21 12), (0, u "SHORTEST"), (0, .fieldref 7 23), (0, .nameAndType 24 12), (0, u "ANY_CHEAPEST"), (0, .fieldref 7 26), (0, .nameAndType 27 12), (0, u "CHEAPEST"), (0, .fieldref 7 29), (0, .nameAndType 30 12), (0, u "ALL"), (0, .integer 2147483647), (0, .methodref 7 33), (0, .nameAndType 34 35), (0, u "byCost"), (0, u "()Z"), (0, .class_ 37), (0, u "com/example/pathwright/pathwright/pgql/KindByCostPinLaw"), (2, u "law"), (0, u "(I)Z")] 11

def k1m0 : Method := { name := "<init>", desc := "()V", sig := { parameters := [], returnType := none }, accessFlags := 1, code := none }
def k1c1 : Code := { maxStack := 4, maxLocals := 4, code := code, exceptionTable := #[], attributes := #[] }
def k1m1 : Method := { name := "law", desc := "(I)Z", sig := { parameters := [.int], returnType := some .boolean }, accessFlags := 9, code := some k1c1 }
/-- com/example/pathwright/pathwright/pgql/KindByCostPinLaw -/
def k1 : Class := { plain "com/example/pathwright/pathwright/pgql/KindByCostPinLaw" (some 0) with
  accessFlags := 49
  interfaces := #[]
  cf := some (fileOf pool1 36 #[] #[{ accessFlags := 1, nameIndex := 5, descriptorIndex := 6, attributes := #[] }, { accessFlags := 9, nameIndex := 40, descriptorIndex := 41, attributes := #[] }] 49 2 #[] #[])
  fields := #[]
  methods := #[k1m0, k1m1]
  instanceTypes := #[]
  staticTypes := #[]
  resolved := Array.replicate 53 none
  statics := none }

def pool2 : Array CpInfo := pool [(1, .class_ 2), (0, u "java/lang/constant/Constable"), (0, .class_ 4), (0, u "java/lang/Object")] 6

/-- java/lang/constant/Constable -/
def k2 : Class := { plain "java/lang/constant/Constable" (some 0) with
  accessFlags := 1537
  interfaces := #[]
  cf := some (fileOf pool2 1 #[] #[] 1537 3 #[] #[])
  fields := #[]
  methods := #[]
  instanceTypes := #[]
  staticTypes := #[]
  resolved := Array.replicate 11 none
  statics := none }

def pool3 : Array CpInfo := pool [(1, .class_ 2), (0, u "java/lang/Comparable"), (0, .class_ 4), (0, u "java/lang/Object")] 7

/-- java/lang/Comparable -/
def k3 : Class := { plain "java/lang/Comparable" (some 0) with
  accessFlags := 1537
  interfaces := #[]
  cf := some (fileOf pool3 1 #[] #[] 1537 3 #[] #[])
  fields := #[]
  methods := #[]
  instanceTypes := #[]
  staticTypes := #[]
  resolved := Array.replicate 12 none
  statics := none }

def pool4 : Array CpInfo := pool [(1, .class_ 2), (0, u "java/io/Serializable"), (0, .class_ 4), (0, u "java/lang/Object")] 2

/-- java/io/Serializable -/
def k4 : Class := { plain "java/io/Serializable" (some 0) with
  accessFlags := 1537
  interfaces := #[]
  cf := some (fileOf pool4 1 #[] #[] 1537 3 #[] #[])
  fields := #[]
  methods := #[]
  instanceTypes := #[]
  staticTypes := #[]
  resolved := Array.replicate 7 none
  statics := none }

def pool5 : Array CpInfo := pool [(2, .class_ 4), (1, u "java/lang/Enum"), (0, u "name"), (0, u "Ljava/lang/String;"), (2, u "ordinal"), (0, u "I"), (1, .class_ 14), (1, u "java/lang/Object"), (4, u "hash"), (86, .class_ 108), (1, u "java/lang/Enum$EnumDesc"), (2, .class_ 112), (0, u "java/lang/constant/Constable"), (0, .class_ 114), (0, u "java/lang/Comparable"), (0, .class_ 116), (0, u "java/io/Serializable")] 87

/-- java/lang/Enum -/
def k5 : Class := { plain "java/lang/Enum" (some 0) with
  accessFlags := 1057
  interfaces := #[2, 3, 4]
  cf := some (fileOf pool5 2 #[.nestMembers #[106]] #[] 1057 12 #[111, 113, 115] #[{ accessFlags := 18, nameIndex := 5, descriptorIndex := 6, attributes := #[] }, { accessFlags := 18, nameIndex := 9, descriptorIndex := 10, attributes := #[] }, { accessFlags := 2, nameIndex := 19, descriptorIndex := 10, attributes := #[] }])
  fields := #[{ name := "name", type := (.object "java/lang/String"), accessFlags := 18, slot := 0, constantValue := 0 }, { name := "ordinal", type := .int, accessFlags := 18, slot := 1, constantValue := 0 }, { name := "hash", type := .int, accessFlags := 2, slot := 2, constantValue := 0 }]
  methods := #[]
  instanceTypes := #[(.object "java/lang/String"), .int, .int]
  staticTypes := #[]
  resolved := Array.replicate 204 none
  statics := none }

def pool6 : Array CpInfo := pool [(1, .class_ 2), (0, u "com/example/pathwright/pathwright/pgql/PathGoal$Kind"), (2, u "ANY"), (0, u "Lcom/example/pathwright/pathwright/pgql/PathGoal$Kind;"), (2, u "ANY_SHORTEST"), (2, u "ALL_SHORTEST"), (2, u "SHORTEST"), (0, .fieldref 1 17), (0, .nameAndType 18 6), (0, u "ANY_CHEAPEST"), (0, .fieldref 1 20), (0, .nameAndType 21 6), (0, u "CHEAPEST"), (2, u "ALL"), (2, u "$VALUES"), (0, u "[Lcom/example/pathwright/pathwright/pgql/PathGoal$Kind;"), (6, .class_ 37), (1, u "java/lang/Enum"), (25, u "byCost"), (0, u "()Z"), (6, .class_ 72), (0, u "com/example/pathwright/pathwright/pgql/PathGoal")] 2

def k6c0 : Code := { maxStack := 2, maxLocals := 1, code := prog_149_method_4_code, exceptionTable := #[], attributes := #[] }
def k6m0 : Method := { name := "byCost", desc := "()Z", sig := { parameters := [], returnType := some .boolean }, accessFlags := 1, code := some k6c0 }
/-- com/example/pathwright/pathwright/pgql/PathGoal$Kind -/
def k6 : Class := { plain "com/example/pathwright/pathwright/pgql/PathGoal$Kind" (some 5) with
  accessFlags := 16433
  interfaces := #[]
  cf := some (fileOf pool6 1 #[.nestHost 71] #[{ accessFlags := 1, nameIndex := 63, descriptorIndex := 64, attributes := #[] }] 16433 35 #[] #[{ accessFlags := 16409, nameIndex := 5, descriptorIndex := 6, attributes := #[] }, { accessFlags := 16409, nameIndex := 9, descriptorIndex := 6, attributes := #[] }, { accessFlags := 16409, nameIndex := 12, descriptorIndex := 6, attributes := #[] }, { accessFlags := 16409, nameIndex := 15, descriptorIndex := 6, attributes := #[] }, { accessFlags := 16409, nameIndex := 18, descriptorIndex := 6, attributes := #[] }, { accessFlags := 16409, nameIndex := 21, descriptorIndex := 6, attributes := #[] }, { accessFlags := 16409, nameIndex := 24, descriptorIndex := 6, attributes := #[] }, { accessFlags := 4122, nameIndex := 27, descriptorIndex := 28, attributes := #[] }])
  fields := #[{ name := "ANY", type := (.object "com/example/pathwright/pathwright/pgql/PathGoal$Kind"), accessFlags := 16409, slot := 0, constantValue := 0 }, { name := "ANY_SHORTEST", type := (.object "com/example/pathwright/pathwright/pgql/PathGoal$Kind"), accessFlags := 16409, slot := 1, constantValue := 0 }, { name := "ALL_SHORTEST", type := (.object "com/example/pathwright/pathwright/pgql/PathGoal$Kind"), accessFlags := 16409, slot := 2, constantValue := 0 }, { name := "SHORTEST", type := (.object "com/example/pathwright/pathwright/pgql/PathGoal$Kind"), accessFlags := 16409, slot := 3, constantValue := 0 }, { name := "ANY_CHEAPEST", type := (.object "com/example/pathwright/pathwright/pgql/PathGoal$Kind"), accessFlags := 16409, slot := 4, constantValue := 0 }, { name := "CHEAPEST", type := (.object "com/example/pathwright/pathwright/pgql/PathGoal$Kind"), accessFlags := 16409, slot := 5, constantValue := 0 }, { name := "ALL", type := (.object "com/example/pathwright/pathwright/pgql/PathGoal$Kind"), accessFlags := 16409, slot := 6, constantValue := 0 }, { name := "$VALUES", type := (.array (.object "com/example/pathwright/pathwright/pgql/PathGoal$Kind")), accessFlags := 4122, slot := 7, constantValue := 0 }]
  methods := #[k6m0]
  instanceTypes := #[(.object "java/lang/String"), .int, .int]
  staticTypes := #[(.object "com/example/pathwright/pathwright/pgql/PathGoal$Kind"), (.object "com/example/pathwright/pathwright/pgql/PathGoal$Kind"), (.object "com/example/pathwright/pathwright/pgql/PathGoal$Kind"), (.object "com/example/pathwright/pathwright/pgql/PathGoal$Kind"), (.object "com/example/pathwright/pathwright/pgql/PathGoal$Kind"), (.object "com/example/pathwright/pathwright/pgql/PathGoal$Kind"), (.object "com/example/pathwright/pathwright/pgql/PathGoal$Kind"), (.array (.object "com/example/pathwright/pathwright/pgql/PathGoal$Kind"))]
  resolved := Array.replicate 75 none
  statics := some 0 }

def pool7 : Array CpInfo := pool [(1, u "java/lang/Cloneable"), (0, .class_ 1), (0, u "java/lang/Object"), (0, .class_ 3)] 3

/-- java/lang/Cloneable -/
def k7 : Class := { plain "java/lang/Cloneable" (some 0) with
  accessFlags := 1537
  interfaces := #[]
  cf := some (fileOf pool7 2 #[] #[] 1537 4 #[] #[])
  fields := #[]
  methods := #[]
  instanceTypes := #[]
  staticTypes := #[]
  resolved := Array.replicate 8 none
  statics := none }

/-- the primitive boolean -/
def k8 : Class := { plain "boolean" none with kind := .primitive 'Z', accessFlags := 0x411 }
/-- [Z -/
def k9 : Class := { plain "[Z" (some 0) with kind := .array 8 .boolean, interfaces := #[7, 4], accessFlags := 1041 }

/-- the primitive byte -/
def k10 : Class := { plain "byte" none with kind := .primitive 'B', accessFlags := 0x411 }
/-- [B -/
def k11 : Class := { plain "[B" (some 0) with kind := .array 10 .byte, interfaces := #[7, 4], accessFlags := 1041 }

/-- the primitive int -/
def k12 : Class := { plain "int" none with kind := .primitive 'I', accessFlags := 0x411 }
/-- [I -/
def k13 : Class := { plain "[I" (some 0) with kind := .array 12 .int, interfaces := #[7, 4], accessFlags := 1041 }

/-- [Lcom/example/pathwright/pathwright/pgql/PathGoal$Kind; -/
def k14 : Class := { plain "[Lcom/example/pathwright/pathwright/pgql/PathGoal$Kind;" (some 0) with kind := .array 6 (.object "com/example/pathwright/pathwright/pgql/PathGoal$Kind"), interfaces := #[7, 4], accessFlags := 1041 }

def heap : Heap := #[{ cls := 6, slots := #[.ref 1, .ref 2, .ref 3, .ref 4, .ref 5, .ref 6, .ref 7, .null], vm := .statics 6 },
  { cls := 6, slots := #[.null, .int 0, .int 0], vm := .none },
  { cls := 6, slots := #[.null, .int 1, .int 0], vm := .none },
  { cls := 6, slots := #[.null, .int 2, .int 0], vm := .none },
  { cls := 6, slots := #[.null, .int 3, .int 0], vm := .none },
  { cls := 6, slots := #[.null, .int 4, .int 0], vm := .none },
  { cls := 6, slots := #[.null, .int 5, .int 0], vm := .none },
  { cls := 6, slots := #[.null, .int 6, .int 0], vm := .none }]
def classes : Array Class := #[k0, k1, k2, k3, k4, k5, k6, k7, k8, k9, k10, k11, k12, k13, k14]
def interned : List (Array UInt16 × Addr) := []
def slotsUsed : Nat := 29
def theMethod : MethodId := ⟨1, 1⟩
def args0 : Array Value := #[.int 4]
def aboutOver (below : List Frame) : State where
  vm := { classes := classes, interned := interned.toArray }
  heap := heap
  slotsUsed := slotsUsed
  threads := #[{ frames := .invoking theMethod args0 :: below }]
def below0 : List Frame := [.native { method := ⟨0, 0⟩, args := #[] }]
def about1 : State := aboutOver below0
def p0 : Program := .bare "" "" ""
def e0 : Env := launch0.env 0 0 0
theorem w_frames : about1.frames = Frame.invoking theMethod args0 :: below0 := rfl
set_option maxRecDepth 65536 in
theorem w_args : argsFit about1.vm theMethod args0 = true := by decide +kernel
set_option maxRecDepth 65536 in
theorem w_heap : heapFits about1 = true := by decide +kernel
set_option maxRecDepth 65536 in
theorem w_runnable : about1.curStatus? = some .runnable := by decide +kernel
set_option maxRecDepth 65536 in
theorem w_alone : about1.alone = true := by decide +kernel
set_option maxRecDepth 65536 in
theorem w_named : about1.methodNamed? x = some theMethod := by decide +kernel
set_option maxRecDepth 65536 in
theorem w_hears : about1.hears theMethod below0 = true := by decide +kernel
set_option maxRecDepth 65536 in
theorem w_ripe : about1.ripe theMethod args0 below0 = true := by decide +kernel
theorem w_running : about1.status = .running := rfl
set_option maxRecDepth 65536 in
theorem w_room : about1.hasRoom e0.platform room_1 = true :=
  launch0.hasRoom_least _ room_1 (by decide +kernel) (by decide +kernel) (by decide +kernel) (by decide +kernel) (by decide +kernel) (by decide +kernel)
theorem allAtoms_all (ts : List Jvm.Cond) (a : Array Jvm.Value) (st : Jvm.State) : (allAtoms ts).before a st = ts.all (fun c => c.before a st) := by
  induction ts with
  | nil => rfl
  | cons c t ih =>
    show (Jvm.Cond.and c (allAtoms t)).before a st = _
    rw [Jvm.Cond.before_and, ih, List.all_cons]
def words1 : List Jvm.Cond := Jvm.Cond.code x code maxLocals ret :: tables_1
/-- a 'code' word, met by the world's own term for the bytes: nothing is compared byte by byte -/
theorem code_word {y : MethodName} {bytes : ByteArray} {mx : Nat} {rt : Option FieldType} {a : Array Value} {s : State} {m : MethodId} {meth : Method} {c : Code} (h1 : s.methodNamed? y = some m) (h2 : s.vm.method? m = some meth) (h3 : meth.code = some c) (h4 : c.code = bytes)
    (h5 : (c.maxLocals == mx && c.exceptionTable.isEmpty && decide (c.maxStack ≤ mostOperands) && decide (meth.sig.returnType = rt) && !meth.locks && decide (parseMethodDescriptor y.desc = some meth.sig)) = true) : (Jvm.Cond.code y bytes mx rt).before a s = true := by
  simp only [Bool.and_eq_true, beq_iff_eq, Bool.not_eq_true', decide_eq_true_eq] at h5
  obtain ⟨⟨⟨⟨⟨g1, g2⟩, g3⟩, g4⟩, g5⟩, g6⟩ := h5
  simp [Cond.before, Cond.holds, Cond.value, h1, h2, h3, h4, g1, g2, g3, g4, g5, g6]
def isCode : Jvm.Cond → Bool
  | .code _ _ _ _ => true
  | _ => false
theorem all_split {L : List Jvm.Cond} {P : Jvm.Cond → Bool} (h1 : L.all (fun c => isCode c || P c) = true) (h2 : ∀ c ∈ L.filter isCode, P c = true) : L.all P = true := by
  refine List.all_eq_true.mpr fun c hc => ?_
  have h := List.all_eq_true.mp h1 c hc
  rcases Bool.eq_false_or_eq_true (isCode c) with hi | hi
  · exact h2 c (List.mem_filter.mpr ⟨hc, hi⟩)
  · simpa [hi] using h
set_option maxRecDepth 65536 in
theorem w_c0 : (Jvm.Cond.code x code maxLocals ret).before args0 about1 = true := code_word (m := ⟨1, 1⟩) (meth := k1m1) (c := k1c1) (by decide +kernel) rfl rfl rfl (by decide +kernel)
set_option maxRecDepth 65536 in
theorem w_c1 : (Jvm.Cond.code ({ cls := "com/example/pathwright/pathwright/pgql/PathGoal$Kind", name := "byCost", desc := "()Z" } : Jvm.MethodName) prog_149_method_4_code (1 : Nat) (Option.some Jvm.ClassFile.FieldType.boolean)).before args0 about1 = true := code_word (m := ⟨6, 0⟩) (meth := k6m0) (c := k6c0) (by decide +kernel) rfl rfl rfl (by decide +kernel)
def codes1 : List Jvm.Cond := [Jvm.Cond.code x code maxLocals ret, Jvm.Cond.code ({ cls := "com/example/pathwright/pathwright/pgql/PathGoal$Kind", name := "byCost", desc := "()Z" } : Jvm.MethodName) prog_149_method_4_code (1 : Nat) (Option.some Jvm.ClassFile.FieldType.boolean)]
set_option maxRecDepth 65536 in
theorem codes_eq : words1.filter isCode = codes1 := rfl
theorem w_codes : ∀ c ∈ words1.filter isCode, c.before args0 about1 = true := by
  rw [codes_eq]
  intro c hc
  simp only [codes1, List.mem_cons, List.not_mem_nil, or_false] at hc
  rcases hc with rfl | rfl
  · exact w_c0
  · exact w_c1
set_option maxRecDepth 65536 in
theorem w_t1 : (words1.take 24).all (fun c => isCode c || c.before args0 about1) = true := by decide +kernel
set_option maxRecDepth 65536 in
theorem w_t2 : (words1.drop 24).all (fun c => isCode c || c.before args0 about1) = true := by decide +kernel
theorem w_tables : (allAtoms (Jvm.Cond.code x code maxLocals ret :: tables_1)).before args0 about1 = true := by
  rw [allAtoms_all]
  show words1.all (fun c => c.before args0 about1) = true
  refine all_split ?_ w_codes
  rw [← List.take_append_drop 24 words1, List.all_append, w_t1, w_t2]
  rfl
set_option maxRecDepth 65536 in
theorem w_case : (Jvm.Cond.and given_1 narrow_1).before args0 about1 = true := by decide +kernel
theorem w_applies : (headSpec (Jvm.Cond.code x code maxLocals ret :: tables_1) room_1).applies x e0.platform about1 = true :=
  (Spec.applies_iff w_frames).mpr ⟨w_running, w_runnable, w_alone, w_named, w_hears, w_ripe, w_room, w_tables⟩
theorem atStart : AtStart classFile x code maxLocals ret World_1 tables_1 room_1 Calls_1 rest_1 Pre_1 launch0 p0 e0 about1 theMethod args0 below0 :=
  ⟨lists_1, trivial, launch0.admits_env _ _ _, launch0.least_env, fairChoices_fair.cas, fairChoices_fair.clock, w_frames, w_args, w_heap, w_applies, trivial, trivial, w_case⟩
end start1
theorem witness_1 : WitnessClaimed_1 := ⟨start1.p0, start1.e0, start1.about1, start1.theMethod, start1.args0, start1.below0, start1.atStart⟩
end Jvm.Pilot.@@N@@
