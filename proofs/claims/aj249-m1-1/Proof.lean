import JvmDerived
import JvmDerived.Pilot.@@N@@Statement
import JvmDerived.Pilot.@@N@@Code
set_option linter.unusedVariables false
set_option linter.unusedSimpArgs false
namespace Jvm.RoadKit
open Sem ClassFile Op Lib Jvm.Stand Jvm.Free Jvm.LawKit
section New
variable {p : Program} {l : Launch} {e : Env} {R : Room} {s : State} {m : MethodId} {args : Array Value} {below : List Frame} {meth : Method} {c : Code} {T : State} {locs : List Loc} {cells slots : Nat}
theorem retI (X : Stand p l e R s m args below meth c T locs cells slots) (hx : p.tables.exec = Jvm.exec) {pc : Nat} {Ls : Array Slot} {z : Int32} {rest : List Value} (hret : meth.sig.returnType = some .int) (hd : decode c.code pc = .ok (.ireturn, 1)) {fs : List Frame}
    (hl : ∀ (f : JFrame) (acts : List Action), f.method = m → f.locked = none → f.entered = [] → (doReturn e (T.setTop f) acts (some (.int z))).1 = T.setFrames fs) : Steps p.tables e below (T.setTop (mkF m pc Ls (.int z :: rest))) (T.setFrames fs) := by
  have hm' : T.vm.method? m = some meth := X.method'
  have hn : narrow .int (.int z) = .int z := rfl
  show Steps p.tables e below (T.setTop { method := m, pc := pc, locals := Ls, stack := _ :: rest, locked := none }) _
  jvm_step X.here [X.here.top, hx, hd, hm', hret, hn]
  first | (intro acts; rw [hl _ acts rfl rfl rfl]) | rw [hl _ _ rfl rfl rfl]
  exact Steps.refl _
end New
end Jvm.RoadKit
namespace Jvm.Pilot.@@N@@
open Jvm Jvm.ClassFile Sem Op Lib Jvm.Free Jvm.Stand Jvm.LawKit Jvm.RoadKit Bundle Jvm.Pilot.@@N@@.Jvm.D
theorem own_same {h0 h : Heap} {ws : List Addr} (q : h = h0) : Keep h0 h ws := q ▸ Keep.refl _ _
theorem own_ext {h0 h : Heap} (K : Keep h0 h []) : Ext h0 h := ⟨K.1, fun a c q => K.2.1 a c q (by simp)⟩
theorem own_eqi {args : Array Value} {s : State} {t : Term} {k : Int32} (h : (Jvm.Cond.eq t (Term.int k)).value args s none s [] = some true) : t.eval args s none [] s = some (.int k) := by
  obtain ⟨x, y, hx, hy, k1, k2⟩ := cmp_v (Or.inl h)
  cases (Term.int_eval k).symm.trans hy
  obtain ⟨z, rfl⟩ := k2
  simp [Jvm.Cond.value, hx, Term.int_eval] at h
  rw [hx, h]
theorem own_fint {args : Array Value} {s : State} {t : Term} {a : Addr} {C n d : String} {k : Int32} (ht : t.eval args s none [] s = some (.ref a)) (h : (Jvm.Cond.eq (Term.field t C n d) (Term.int k)).value args s none s [] = some true) : Fld s s.heap a C n d (.int k) := by
  have q := own_eqi h
  rw [fld_at ht] at q
  exact Fld.start q
theorem own_ne {Z : State} {h : Heap} {a b : Addr} {C n d : String} {v w : Value} (F : Fld Z h a C n d v) (G : Fld Z h b C n d w) (hn : v ≠ w) : ¬ (a = b) := fun e => by
  subst e
  obtain ⟨c, cf, k, i, f, h1, h2, -, -, -, -, h7⟩ := F
  obtain ⟨c', cf', k', i', f', g1, g2, -, -, -, -, g7⟩ := G
  cases h1.symm.trans g1
  cases h2.symm.trans g2
  exact hn (Option.some.inj (h7.symm.trans g7))

theorem own_tr {h0 h h' : Heap} {ws : List Addr} (K : Keep h0 h ws) (E : Ext h h') : Keep h0 h' ws := K.ext E
theorem own_eqK {h0 h h' : Heap} {ws : List Addr} (K : Keep h0 h ws) (q : h' = h) : Keep h0 h' ws := q ▸ K

theorem own_and255 (x : Int32) : ¬ (x &&& 255) < 0 ∧ ¬ (255 : Int32) < (x &&& 255) := by
  have q := c_and x 255 (by decide)
  have z : (0 : Int32).toInt = 0 := by decide
  have w : (255 : Int32).toInt = 255 := by decide
  rw [Int32.lt_iff_toInt_lt, Int32.lt_iff_toInt_lt, z, w]
  rw [w] at q
  omega
theorem own_len {args : Array Value} {s : State} {t : Term} {a : Addr} {cl : Cell} {ty : FieldType} {k : Int32} (ht : t.eval args s none [] s = some (.ref a)) (A : Arr s s.heap a cl ty) (h : (Term.length t).eval args s none [] s = some (.int k)) : cl.slots.size < 2 ^ 31 ∧ cl.slots.size.toInt32 = k := by
  have ha := A.fin (Vm.Alike.refl _)
  by_cases hl : cl.slots.size < 2 ^ 31
  · rw [len_f ht ha hl] at h
    cases h
    exact ⟨hl, rfl⟩
  · exfalso
    simp [Term.eval, ht, ha, hl] at h
theorem own_size {n : Nat} {k : Int32} (h : n < 2 ^ 31 ∧ n.toInt32 = k) (j : Nat) (hj : k.toInt = j) : n = j := by
  have q := len_toInt h.1
  rw [h.2, hj] at q
  omega
theorem own_eqR {args : Array Value} {s : State} {t u : Term} {b : Addr} (hu : u.eval args s none [] s = some (.ref b)) (h : (Jvm.Cond.eq t u).value args s none s [] = some true) : t.eval args s none [] s = some (.ref b) := by
  obtain ⟨x, y, hx, hy, k1, k2⟩ := cmp_v (Or.inl h)
  cases hu.symm.trans hy
  have hxr : x.isRef = true := k2.2
  have q := gotT (eq_R hx hy hxr rfl) h
  subst q
  exact hx
theorem d2_0 : decode prog_16_method_1_code 0 = .ok (.getstatic 16, 3) := by decide +kernel
theorem d2_3 : decode prog_16_method_1_code 3 = .ok (.invokevirtual 20, 3) := by decide +kernel
theorem d2_6 : decode prog_16_method_1_code 6 = .ok (.checkcast 21, 3) := by decide +kernel
theorem d2_9 : decode prog_16_method_1_code 9 = .ok (.areturn, 1) := by decide +kernel
theorem pn_2 : plainName "com/example/gumzo/gumzo/node/Intake" = true := by first | (simp [plainName, overriddenIn]; done) | decide +kernel
theorem pd_2_2 : parseMethodDescriptor "()Ljava/lang/Object;" = some ⟨[], some (.object "java/lang/Object")⟩ := by decide +kernel
theorem ef_2 (m : MethodId)  : entryFrame m #[] 0 = mkF m 0 #[] [] := by first | (simp [entryFrame, mkF, argsToLocals, Value.category]; done) | rfl
def Q2 (Z : State) (cl : Cell) (h0 : Heap) (n0 : Nat) (v : Option Value) (h : Heap) (L : List Loc) : Prop := ∃ b : Addr, v = some (.ref b) ∧ Fr n0 L ∧ Ext h0 h ∧ Arr Z h b (cloneOf cl) (.object "com/example/gumzo/gumzo/node/Intake")
set_option maxRecDepth 65536 in
set_option maxHeartbeats 40000000 in
theorem rm2 (l : Launch) (Z : State) (a0 : Array Value) (hw : ∀ d ∈ tables_1, d.before a0 Z = true) (ws : List Jvm.Cond) (w1 : Addr) (cl : Cell) (h0 : Heap) (n0 : Nat) (Z0 : n0 ≤ h0.size) (SV : Sta Z h0 "com/example/gumzo/gumzo/node/Intake" "$VALUES" "[Lcom/example/gumzo/gumzo/node/Intake;" (.ref w1)) (AV : Arr Z h0 w1 cl (.object "com/example/gumzo/gumzo/node/Intake")) (EV : Exa Z h0 w1 "[Lcom/example/gumzo/gumzo/node/Intake;") (FV : FitC Z cl) (hsz : cl.slots.size ≤ 4) :
    MetFree l (⟨"com/example/gumzo/gumzo/node/Intake", "values", "()[Lcom/example/gumzo/gumzo/node/Intake;"⟩ : MethodName) (head1 (Jvm.Cond.code (⟨"com/example/gumzo/gumzo/node/Intake", "values", "()[Lcom/example/gumzo/gumzo/node/Intake;"⟩ : MethodName) prog_16_method_1_code 0 (some (.array (.object "com/example/gumzo/gumzo/node/Intake"))) :: ws) ({ frames := 1, cells := 1, slots := 4, locals := 14 } : Room)) (fun a U => a = #[] ∧ Z.Warmed39 U.vm ∧ U.heap = h0) (fun _ _ _ _ _ => True) (fun _ U o U' => ∃ v L, o = .returned v ∧ Q2 Z cl h0 n0 v U'.heap L ∧ FrameEnd U o U' L ({ frames := 1, cells := 1, slots := 4, locals := 14 } : Room).cells ({ frames := 1, cells := 1, slots := 4, locals := 14 } : Room).slots) := by
  refine MetFree.of_bodySF (plainFor_of_name pn_2) hisR ?_
  intro p e s m args below meth c s₁ Bd hml0 hP hK
  obtain ⟨rfl, hZ, hh⟩ := hP
  have hx := Bd.exec
  have hby := Bd.bytes
  have hml : c.maxLocals = 0 := hml0
  have hown : s.vm.findClass "com/example/gumzo/gumzo/node/Intake" = some m.cls := findClass_of_methodNamed Bd.named
  have X0 : Stand p l e ({ frames := 1, cells := 1, slots := 4, locals := 14 } : Room) s m #[] below meth c s₁ [] 0 0 := Stand.of_body Bd
  have e0 : s₁.heap = h0 := by rw [← hh, Bd.state]; rfl
  have N0 := Fr.nil n0
  have pre0 : ∀ t, Steps p.tables e below (s₁.setTop (mkF m 0 #[] [])) t → Steps p.tables e below (s₁.setTop (entryFrame m #[] 0)) t := fun t k => castTop (ef_2 m) k
  obtain ⟨T2, X2, e2, st2⟩ := getS2 X0 hx hZ hown (host := "") (Or.inl (hw _ (List.mem_of_getElem? (i := 9) rfl))) Via.refl e0 SV (g := (mkF m 0 #[] [])) rfl (hb hby d2_0)
  obtain ⟨T3, h3, X3, e3, E3, A3, Ex3, st3⟩ := cloneA X2 hx hZ hown (hw _ (List.mem_of_getElem? (i := 11) rfl)) (hw _ (List.mem_of_getElem? (i := 12) rfl)) (hw _ (List.mem_of_getElem? (i := 16) rfl)) (hw _ (List.mem_of_getElem? (i := 14) rfl)) (hw _ (List.mem_of_getElem? (i := 15) rfl)) (hw _ (List.mem_of_getElem? (i := 17) rfl)) e2 AV EV FV (g := (mkF m 3 #[] [(.ref w1)])) rfl (by rw [hml]; rfl) (rest := []) rfl (hb hby d2_3) (by decide) (W := 0) (cap := 4) (by show 2 * 0 + _ ≤ _; exact Nat.le_of_eq rfl) (by decide) hsz (by decide) (by decide)
  obtain ⟨b3, g3⟩ : ∃ z, z = h0.size := ⟨_, rfl⟩
  rw [← g3] at A3 Ex3 st3
  obtain ⟨T4, X4, e4, st4⟩ := castY X3 hx hZ hown (hw _ (List.mem_of_getElem? (i := 22) rfl)) e3 (Ins.self Ex3) (g := (mkF m 6 #[] [(.ref b3)])) rfl rfl (hb hby d2_6)
  obtain ⟨fs, hr, hrun, hended, hW, hsame⟩ := X4.leave (v := some (.ref b3)) (fun h => by rw [Bd.returns] at h; cases h)
  refine ⟨_, _, pre0 _ ?_, hrun, hended, _, _, rfl, ?_, ⟨_, rfl⟩, hW, hsame.mono (by decide) (by decide)⟩
  · show Steps p.tables e below (s₁.setTop (mkF m 0 #[] [])) _
    refine st2 _ ?_
    show Steps p.tables e below (T2.setTop (mkF m 3 #[] [(.ref w1)])) _
    refine st3 _ ?_
    show Steps p.tables e below (T3.setTop (mkF m 6 #[] [(.ref b3)])) _
    refine st4 _ ?_
    show Steps p.tables e below (T4.setTop (mkF m 9 #[] [(.ref b3)])) _
    jvm_step X4.here [X4.here.top, hx, (hb hby d2_9), X4.method', Bd.returns, Value.isRef, FieldType.isReference]
    first | (intro acts; rw [hr _ acts rfl rfl rfl]) | rw [hr _ _ rfl rfl rfl]
    exact Steps.refl _
  · show Q2 Z cl h0 n0 _ T4.heap _
    rw [e4]
    exact ⟨b3, rfl, N0, E3, A3⟩
theorem d3_0 : decode prog_16_method_5_code 0 = .ok (.aload_n 0, 1) := by decide +kernel
theorem d3_1 : decode prog_16_method_5_code 1 = .ok (.getfield 35, 3) := by decide +kernel
theorem d3_4 : decode prog_16_method_5_code 4 = .ok (.ireturn, 1) := by decide +kernel
theorem pn_3 : plainName "com/example/gumzo/gumzo/node/Intake" = true := by first | (simp [plainName, overriddenIn]; done) | decide +kernel
theorem ef_3 (m : MethodId) (x0 : Addr) : entryFrame m #[(.ref x0)] 1 = mkF m 0 #[.val (.ref x0)] [] := by first | (simp [entryFrame, mkF, argsToLocals, Value.category]; done) | rfl
def Q3 (Z : State) (a1 : Addr) (w2 : Int32) (h0 : Heap) (n0 : Nat) (v : Option Value) (h : Heap) (L : List Loc) : Prop := v = some (.int w2) ∧ Fr n0 L ∧ h = h0
set_option maxRecDepth 65536 in
set_option maxHeartbeats 40000000 in
theorem rm3 (l : Launch) (Z : State) (a0 : Array Value) (hw : ∀ d ∈ tables_1, d.before a0 Z = true) (ws : List Jvm.Cond) (a1 : Addr) (w2 : Int32) (h0 : Heap) (n0 : Nat) (Z0 : n0 ≤ h0.size) (F_untilRefused_a1 : Fld Z h0 a1 "com/example/gumzo/gumzo/node/Intake" "untilRefused" "Z" (.int w2)) (hb2 : nar .boolean w2 = w2) :
    MetFree l (⟨"com/example/gumzo/gumzo/node/Intake", "untilRefused", "()Z"⟩ : MethodName) (head1 (Jvm.Cond.code (⟨"com/example/gumzo/gumzo/node/Intake", "untilRefused", "()Z"⟩ : MethodName) prog_16_method_5_code 1 (some .boolean) :: ws) ({ frames := 0, cells := 0, slots := 0, locals := 0 } : Room)) (fun a U => a = #[(.ref a1)] ∧ Z.Warmed39 U.vm ∧ U.heap = h0) (fun _ _ _ _ _ => True) (fun _ U o U' => ∃ v L, o = .returned v ∧ Q3 Z a1 w2 h0 n0 v U'.heap L ∧ FrameEnd U o U' L ({ frames := 0, cells := 0, slots := 0, locals := 0 } : Room).cells ({ frames := 0, cells := 0, slots := 0, locals := 0 } : Room).slots) := by
  refine MetFree.of_bodySF (plainFor_of_name pn_3) hisR ?_
  intro p e s m args below meth c s₁ Bd hml0 hP hK
  obtain ⟨rfl, hZ, hh⟩ := hP
  have hx := Bd.exec
  have hby := Bd.bytes
  have hml : c.maxLocals = 1 := hml0
  have hown : s.vm.findClass "com/example/gumzo/gumzo/node/Intake" = some m.cls := findClass_of_methodNamed Bd.named
  have hnm := (name_of_methodNamed Bd.named Bd.method).1
  have X0 : Stand p l e ({ frames := 0, cells := 0, slots := 0, locals := 0 } : Room) s m #[(.ref a1)] below meth c s₁ [] 0 0 := Stand.of_body Bd
  have e0 : s₁.heap = h0 := by rw [← hh, Bd.state]; rfl
  have N0 := Fr.nil n0
  have pre0 : ∀ t, Steps p.tables e below (s₁.setTop (mkF m 0 #[.val (.ref a1)] [])) t → Steps p.tables e below (s₁.setTop (entryFrame m #[(.ref a1)] 1)) t := fun t k => castTop (ef_3 m a1) k
  -- 3. LAWS
  obtain ⟨T3, X3, e3, st3⟩ := getF X0 hx hZ hown (host := "") (Or.inl (hw _ (List.mem_of_getElem? (i := 24) rfl))) Via.refl e0 F_untilRefused_a1 (g := (mkF m 1 #[.val (.ref a1)] [(.ref a1)])) rfl rfl (hb hby d3_1)
  obtain ⟨fs, hr, hrun, hended, hW, hsame⟩ := X3.leave (v := some (.int w2)) (fun h => by rw [Bd.returns] at h; cases h)
  refine ⟨_, _, pre0 _ ?_, hrun, hended, _, _, rfl, ?_, ⟨_, rfl⟩, hW, hsame.mono (by decide) (by decide)⟩
  -- 4. STEPS
  · show Steps p.tables e below (s₁.setTop (mkF m 0 #[.val (.ref a1)] [])) _
    refine XS.aloadN X0.here hx rfl (hb hby d3_0) rfl rfl ?_
    show Steps p.tables e below (s₁.setTop (mkF m 1 #[.val (.ref a1)] [(.ref a1)])) _
    refine st3 _ ?_
    show Steps p.tables e below (T3.setTop (mkF m 4 #[.val (.ref a1)] [(.int w2)])) _
    exact retN X3 hx (t := .boolean) Bd.returns (by simp) (hb hby d3_4) (by rw [hb2]; exact hr)
  · show Q3 Z a1 w2 h0 n0 _ T3.heap _
    rw [e3]
    exact ⟨rfl, N0, rfl⟩
theorem d4_0 : decode prog_16_method_6_code 0 = .ok (.aload_n 0, 1) := by decide +kernel
theorem d4_1 : decode prog_16_method_6_code 1 = .ok (.getfield 39, 3) := by decide +kernel
theorem d4_4 : decode prog_16_method_6_code 4 = .ok (.ireturn, 1) := by decide +kernel
theorem pn_4 : plainName "com/example/gumzo/gumzo/node/Intake" = true := by first | (simp [plainName, overriddenIn]; done) | decide +kernel
theorem ef_4 (m : MethodId) (x0 : Addr) : entryFrame m #[(.ref x0)] 1 = mkF m 0 #[.val (.ref x0)] [] := by first | (simp [entryFrame, mkF, argsToLocals, Value.category]; done) | rfl
def Q4 (Z : State) (a1 : Addr) (w2 : Int32) (h0 : Heap) (n0 : Nat) (v : Option Value) (h : Heap) (L : List Loc) : Prop := v = some (.int w2) ∧ Fr n0 L ∧ h = h0
set_option maxRecDepth 65536 in
set_option maxHeartbeats 40000000 in
theorem rm4 (l : Launch) (Z : State) (a0 : Array Value) (hw : ∀ d ∈ tables_1, d.before a0 Z = true) (ws : List Jvm.Cond) (a1 : Addr) (w2 : Int32) (h0 : Heap) (n0 : Nat) (Z0 : n0 ≤ h0.size) (F_synced_a1 : Fld Z h0 a1 "com/example/gumzo/gumzo/node/Intake" "synced" "Z" (.int w2)) (hb2 : nar .boolean w2 = w2) :
    MetFree l (⟨"com/example/gumzo/gumzo/node/Intake", "synced", "()Z"⟩ : MethodName) (head1 (Jvm.Cond.code (⟨"com/example/gumzo/gumzo/node/Intake", "synced", "()Z"⟩ : MethodName) prog_16_method_6_code 1 (some .boolean) :: ws) ({ frames := 0, cells := 0, slots := 0, locals := 0 } : Room)) (fun a U => a = #[(.ref a1)] ∧ Z.Warmed39 U.vm ∧ U.heap = h0) (fun _ _ _ _ _ => True) (fun _ U o U' => ∃ v L, o = .returned v ∧ Q4 Z a1 w2 h0 n0 v U'.heap L ∧ FrameEnd U o U' L ({ frames := 0, cells := 0, slots := 0, locals := 0 } : Room).cells ({ frames := 0, cells := 0, slots := 0, locals := 0 } : Room).slots) := by
  refine MetFree.of_bodySF (plainFor_of_name pn_4) hisR ?_
  intro p e s m args below meth c s₁ Bd hml0 hP hK
  obtain ⟨rfl, hZ, hh⟩ := hP
  have hx := Bd.exec
  have hby := Bd.bytes
  have hml : c.maxLocals = 1 := hml0
  have hown : s.vm.findClass "com/example/gumzo/gumzo/node/Intake" = some m.cls := findClass_of_methodNamed Bd.named
  have hnm := (name_of_methodNamed Bd.named Bd.method).1
  have X0 : Stand p l e ({ frames := 0, cells := 0, slots := 0, locals := 0 } : Room) s m #[(.ref a1)] below meth c s₁ [] 0 0 := Stand.of_body Bd
  have e0 : s₁.heap = h0 := by rw [← hh, Bd.state]; rfl
  have N0 := Fr.nil n0
  have pre0 : ∀ t, Steps p.tables e below (s₁.setTop (mkF m 0 #[.val (.ref a1)] [])) t → Steps p.tables e below (s₁.setTop (entryFrame m #[(.ref a1)] 1)) t := fun t k => castTop (ef_4 m a1) k
  -- 3. LAWS
  obtain ⟨T3, X3, e3, st3⟩ := getF X0 hx hZ hown (host := "") (Or.inl (hw _ (List.mem_of_getElem? (i := 26) rfl))) Via.refl e0 F_synced_a1 (g := (mkF m 1 #[.val (.ref a1)] [(.ref a1)])) rfl rfl (hb hby d4_1)
  obtain ⟨fs, hr, hrun, hended, hW, hsame⟩ := X3.leave (v := some (.int w2)) (fun h => by rw [Bd.returns] at h; cases h)
  refine ⟨_, _, pre0 _ ?_, hrun, hended, _, _, rfl, ?_, ⟨_, rfl⟩, hW, hsame.mono (by decide) (by decide)⟩
  -- 4. STEPS
  · show Steps p.tables e below (s₁.setTop (mkF m 0 #[.val (.ref a1)] [])) _
    refine XS.aloadN X0.here hx rfl (hb hby d4_0) rfl rfl ?_
    show Steps p.tables e below (s₁.setTop (mkF m 1 #[.val (.ref a1)] [(.ref a1)])) _
    refine st3 _ ?_
    show Steps p.tables e below (T3.setTop (mkF m 4 #[.val (.ref a1)] [(.int w2)])) _
    exact retN X3 hx (t := .boolean) Bd.returns (by simp) (hb hby d4_4) (by rw [hb2]; exact hr)
  · show Q4 Z a1 w2 h0 n0 _ T3.heap _
    rw [e3]
    exact ⟨rfl, N0, rfl⟩
theorem d1_0 : decode prog_16_method_4_code 0 = .ok (.aconst_null, 1) := by decide +kernel
theorem d1_1 : decode prog_16_method_4_code 1 = .ok (.astore_n 2, 1) := by decide +kernel
theorem d1_2 : decode prog_16_method_4_code 2 = .ok (.invokestatic 42, 3) := by decide +kernel
theorem d1_5 : decode prog_16_method_4_code 5 = .ok (.astore_n 3, 1) := by decide +kernel
theorem d1_6 : decode prog_16_method_4_code 6 = .ok (.aload_n 3, 1) := by decide +kernel
theorem d1_7 : decode prog_16_method_4_code 7 = .ok (.arraylength, 1) := by decide +kernel
theorem d1_8 : decode prog_16_method_4_code 8 = .ok (.istore 4, 2) := by decide +kernel
theorem d1_10 : decode prog_16_method_4_code 10 = .ok (.iconst 0, 1) := by decide +kernel
theorem d1_11 : decode prog_16_method_4_code 11 = .ok (.istore 5, 2) := by decide +kernel
theorem d1_13 : decode prog_16_method_4_code 13 = .ok (.iload 5, 2) := by decide +kernel
theorem d1_15 : decode prog_16_method_4_code 15 = .ok (.iload 4, 2) := by decide +kernel
theorem d1_17 : decode prog_16_method_4_code 17 = .ok (.if_icmp .ge 36, 3) := by decide +kernel
theorem d1_20 : decode prog_16_method_4_code 20 = .ok (.aload_n 3, 1) := by decide +kernel
theorem d1_21 : decode prog_16_method_4_code 21 = .ok (.iload 5, 2) := by decide +kernel
theorem d1_23 : decode prog_16_method_4_code 23 = .ok (.aaload, 1) := by decide +kernel
theorem d1_24 : decode prog_16_method_4_code 24 = .ok (.astore 6, 2) := by decide +kernel
theorem d1_26 : decode prog_16_method_4_code 26 = .ok (.aload 6, 2) := by decide +kernel
theorem d1_28 : decode prog_16_method_4_code 28 = .ok (.getfield 35, 3) := by decide +kernel
theorem d1_31 : decode prog_16_method_4_code 31 = .ok (.iload_n 0, 1) := by decide +kernel
theorem d1_32 : decode prog_16_method_4_code 32 = .ok (.if_icmp .ne 15, 3) := by decide +kernel
theorem d1_35 : decode prog_16_method_4_code 35 = .ok (.aload 6, 2) := by decide +kernel
theorem d1_37 : decode prog_16_method_4_code 37 = .ok (.getfield 39, 3) := by decide +kernel
theorem d1_40 : decode prog_16_method_4_code 40 = .ok (.iload_n 1, 1) := by decide +kernel
theorem d1_41 : decode prog_16_method_4_code 41 = .ok (.if_icmp .ne 6, 3) := by decide +kernel
theorem d1_44 : decode prog_16_method_4_code 44 = .ok (.aload 6, 2) := by decide +kernel
theorem d1_46 : decode prog_16_method_4_code 46 = .ok (.astore_n 2, 1) := by decide +kernel
theorem d1_47 : decode prog_16_method_4_code 47 = .ok (.iinc 5 1, 3) := by decide +kernel
theorem d1_50 : decode prog_16_method_4_code 50 = .ok (.goto (-37), 3) := by decide +kernel
theorem d1_53 : decode prog_16_method_4_code 53 = .ok (.aload_n 2, 1) := by decide +kernel
theorem d1_54 : decode prog_16_method_4_code 54 = .ok (.areturn, 1) := by decide +kernel
theorem pn_1 : plainName "com/example/gumzo/gumzo/node/Intake" = true := by first | (simp [plainName, overriddenIn]; done) | decide +kernel
theorem pd_1_1 : parseMethodDescriptor "()[Lcom/example/gumzo/gumzo/node/Intake;" = some ⟨[], some (.array (.object "com/example/gumzo/gumzo/node/Intake"))⟩ := by decide +kernel
theorem ef_1 (m : MethodId) (x0 : Int32) (x1 : Int32) : entryFrame m #[(.int x0), (.int x1)] 7 = mkF m 0 #[.val (.int x0), .val (.int x1), .unset, .unset, .unset, .unset, .unset] [] := by first | (simp [entryFrame, mkF, argsToLocals, Value.category]; done) | rfl
def Q1u00 (v1 : Addr) (h0 : Heap) (n0 : Nat) (v : Option Value) (h : Heap) (L : List Loc) : Prop := v = some (.ref v1) ∧ Fr n0 L ∧ Ext h0 h
set_option maxRecDepth 65536 in
set_option maxHeartbeats 40000000 in
theorem rm1u00 (l : Launch) (Z : State) (a0 : Array Value) (hw : ∀ d ∈ tables_1, d.before a0 Z = true) (ws : List Jvm.Cond) (v0 : Addr) (v1 : Addr) (v2 : Addr) (v3 : Addr) (wV : Addr) (cl : Cell) (h0 : Heap) (n0 : Nat) (Z0 : n0 ≤ h0.size) (SV : Sta Z h0 "com/example/gumzo/gumzo/node/Intake" "$VALUES" "[Lcom/example/gumzo/gumzo/node/Intake;" (.ref wV)) (AV : Arr Z h0 wV cl (.object "com/example/gumzo/gumzo/node/Intake")) (EV : Exa Z h0 wV "[Lcom/example/gumzo/gumzo/node/Intake;") (FV : FitC Z cl) (hsz : cl.slots.size = 4) (hi0 : ¬ ((0 : Int32) < 0 ∨ cl.slots.size ≤ ((0 : Int32)).toNatClampNeg)) (ht0 : cl.slots[((0 : Int32)).toNatClampNeg]? = some (.ref v0)) (U0 : Fld Z h0 v0 "com/example/gumzo/gumzo/node/Intake" "untilRefused" "Z" (.int (0 : Int32))) (Y0 : Fld Z h0 v0 "com/example/gumzo/gumzo/node/Intake" "synced" "Z" (.int (1 : Int32))) (hi1 : ¬ ((1 : Int32) < 0 ∨ cl.slots.size ≤ ((1 : Int32)).toNatClampNeg)) (ht1 : cl.slots[((1 : Int32)).toNatClampNeg]? = some (.ref v1)) (U1 : Fld Z h0 v1 "com/example/gumzo/gumzo/node/Intake" "untilRefused" "Z" (.int (0 : Int32))) (Y1 : Fld Z h0 v1 "com/example/gumzo/gumzo/node/Intake" "synced" "Z" (.int (0 : Int32))) (hi2 : ¬ ((2 : Int32) < 0 ∨ cl.slots.size ≤ ((2 : Int32)).toNatClampNeg)) (ht2 : cl.slots[((2 : Int32)).toNatClampNeg]? = some (.ref v2)) (U2 : Fld Z h0 v2 "com/example/gumzo/gumzo/node/Intake" "untilRefused" "Z" (.int (1 : Int32))) (Y2 : Fld Z h0 v2 "com/example/gumzo/gumzo/node/Intake" "synced" "Z" (.int (1 : Int32))) (hi3 : ¬ ((3 : Int32) < 0 ∨ cl.slots.size ≤ ((3 : Int32)).toNatClampNeg)) (ht3 : cl.slots[((3 : Int32)).toNatClampNeg]? = some (.ref v3)) (U3 : Fld Z h0 v3 "com/example/gumzo/gumzo/node/Intake" "untilRefused" "Z" (.int (1 : Int32))) (Y3 : Fld Z h0 v3 "com/example/gumzo/gumzo/node/Intake" "synced" "Z" (.int (0 : Int32))) :
    MetFree l (⟨"com/example/gumzo/gumzo/node/Intake", "of", "(ZZ)Lcom/example/gumzo/gumzo/node/Intake;"⟩ : MethodName) (head1 (Jvm.Cond.code (⟨"com/example/gumzo/gumzo/node/Intake", "of", "(ZZ)Lcom/example/gumzo/gumzo/node/Intake;"⟩ : MethodName) prog_16_method_4_code 7 (some (.object "com/example/gumzo/gumzo/node/Intake")) :: ws) ({ frames := 2, cells := 1, slots := 4, locals := 25 } : Room)) (fun a U => a = #[(.int (0 : Int32)), (.int (0 : Int32))] ∧ Z.Warmed39 U.vm ∧ U.heap = h0) (fun _ _ _ _ _ => True) (fun _ U o U' => ∃ v L, o = .returned v ∧ Q1u00 v1 h0 n0 v U'.heap L ∧ FrameEnd U o U' L ({ frames := 2, cells := 1, slots := 4, locals := 25 } : Room).cells ({ frames := 2, cells := 1, slots := 4, locals := 25 } : Room).slots) := by
  refine MetFree.of_bodySF (plainFor_of_name pn_1) hisR ?_
  intro p e s m args below meth c s₁ Bd hml0 hP hK
  obtain ⟨rfl, hZ, hh⟩ := hP
  have hx := Bd.exec
  have hby := Bd.bytes
  have hml : c.maxLocals = 7 := hml0
  have hown : s.vm.findClass "com/example/gumzo/gumzo/node/Intake" = some m.cls := findClass_of_methodNamed Bd.named
  have hnm := (name_of_methodNamed Bd.named Bd.method).1
  have X0 : Stand p l e ({ frames := 2, cells := 1, slots := 4, locals := 25 } : Room) s m #[(.int (0 : Int32)), (.int (0 : Int32))] below meth c s₁ [] 0 0 := Stand.of_body Bd
  have e0 : s₁.heap = h0 := by rw [← hh, Bd.state]; rfl
  have N0 := Fr.nil n0
  have pre0 : ∀ t, Steps p.tables e below (s₁.setTop (mkF m 0 #[.val (.int (0 : Int32)), .val (.int (0 : Int32)), .unset, .unset, .unset, .unset, .unset] [])) t → Steps p.tables e below (s₁.setTop (entryFrame m #[(.int (0 : Int32)), (.int (0 : Int32))] 7)) t := fun t k => castTop (ef_1 m (0 : Int32) (0 : Int32)) k
  obtain ⟨_, _, ⟨T3, L3, k3, n3⟩, -, X3, ⟨Lc3, hQ3, l3, y3, z3⟩, st3⟩ := Jvm.LawKit.callS X0 hx (y := (⟨"com/example/gumzo/gumzo/node/Intake", "values", "()[Lcom/example/gumzo/gumzo/node/Intake;"⟩ : MethodName)) hown (mvT hZ (hw _ (List.mem_of_getElem? (i := 6) rfl))) (mvT hZ (hw _ (List.mem_of_getElem? (i := 7) rfl))) (mvT hZ (hw _ (List.mem_of_getElem? (i := 1) rfl))) (mvT hZ (hw _ (List.mem_of_getElem? (i := 8) rfl))) (by decide) (backOf (W := 0) (rm2 l Z a0 hw [] wV cl h0 n0 Z0 SV AV EV FV (Nat.le_of_eq hsz)) hZ (hw _ (List.mem_of_getElem? (i := 8) rfl)) (hw _ (List.mem_of_getElem? (i := 1) rfl)) (by decide) (by decide)) (g := (mkF m 2 #[.val (.int (0 : Int32)), .val (.int (0 : Int32)), .val .null, .unset, .unset, .unset, .unset] [])) rfl (by rw [hml]; rfl) (argsL := []) (rest := []) (lenOf pd_1_1 rfl) rfl (by show 2 * 0 + _ ≤ _; exact Nat.le_of_eq rfl) (hb hby d1_2) (fun _ _ => ⟨rfl, e0, (by decide : 0 + 1 ≤ _), (by decide : 0 + 4 ≤ _)⟩)
  dsimp only [Pt.U, Pt.locs, Pt.cells, Pt.slots] at X3 l3 y3 z3 st3 hQ3
  subst l3 y3 z3
  obtain ⟨b3, rfl, N3q, E3, Ar3⟩ := hQ3
  have SB : (cloneOf cl).slots.size = (4 : Int32).toNatClampNeg := hsz
  have NB : ¬ (4 : Int32) < 0 := by decide
  have gi0 : ¬ ((0 : Int32) < 0 ∨ (cloneOf cl).slots.size ≤ ((0 : Int32)).toNatClampNeg) := by
    have q : (0 : Int32) = (0 : Int32) := by decide
    rw [q]; exact hi0
  have gt0 : (cloneOf cl).slots[((0 : Int32)).toNatClampNeg]? = some (.ref v0) := by
    have q : (0 : Int32) = (0 : Int32) := by decide
    rw [q]; exact ht0
  have gi1 : ¬ (((0 : Int32) + (1 : Int32)) < 0 ∨ (cloneOf cl).slots.size ≤ (((0 : Int32) + (1 : Int32))).toNatClampNeg) := by
    have q : ((0 : Int32) + (1 : Int32)) = (1 : Int32) := by decide
    rw [q]; exact hi1
  have gt1 : (cloneOf cl).slots[(((0 : Int32) + (1 : Int32))).toNatClampNeg]? = some (.ref v1) := by
    have q : ((0 : Int32) + (1 : Int32)) = (1 : Int32) := by decide
    rw [q]; exact ht1
  have gi2 : ¬ ((((0 : Int32) + (1 : Int32)) + (1 : Int32)) < 0 ∨ (cloneOf cl).slots.size ≤ ((((0 : Int32) + (1 : Int32)) + (1 : Int32))).toNatClampNeg) := by
    have q : (((0 : Int32) + (1 : Int32)) + (1 : Int32)) = (2 : Int32) := by decide
    rw [q]; exact hi2
  have gt2 : (cloneOf cl).slots[((((0 : Int32) + (1 : Int32)) + (1 : Int32))).toNatClampNeg]? = some (.ref v2) := by
    have q : (((0 : Int32) + (1 : Int32)) + (1 : Int32)) = (2 : Int32) := by decide
    rw [q]; exact ht2
  have gi3 : ¬ (((((0 : Int32) + (1 : Int32)) + (1 : Int32)) + (1 : Int32)) < 0 ∨ (cloneOf cl).slots.size ≤ (((((0 : Int32) + (1 : Int32)) + (1 : Int32)) + (1 : Int32))).toNatClampNeg) := by
    have q : ((((0 : Int32) + (1 : Int32)) + (1 : Int32)) + (1 : Int32)) = (3 : Int32) := by decide
    rw [q]; exact hi3
  have gt3 : (cloneOf cl).slots[(((((0 : Int32) + (1 : Int32)) + (1 : Int32)) + (1 : Int32))).toNatClampNeg]? = some (.ref v3) := by
    have q : ((((0 : Int32) + (1 : Int32)) + (1 : Int32)) + (1 : Int32)) = (3 : Int32) := by decide
    rw [q]; exact ht3
  have N3 := Fr.app N0 N3q
  obtain ⟨T6, X6, e6, st6⟩ := getF X3 hx hZ hown (host := "") (Or.inl (hw _ (List.mem_of_getElem? (i := 24) rfl))) Via.refl rfl (U0.ext E3) (g := (mkF m 28 #[.val (.int (0 : Int32)), .val (.int (0 : Int32)), .val .null, .val (.ref b3), .val (.int (4 : Int32)), .val (.int (0 : Int32)), .val (.ref v0)] [(.ref v0)])) rfl rfl (hb hby d1_28)
  obtain ⟨T8, X8, e8, st8⟩ := getF X6 hx hZ hown (host := "") (Or.inl (hw _ (List.mem_of_getElem? (i := 26) rfl))) Via.refl e6 (Y0.ext E3) (g := (mkF m 37 #[.val (.int (0 : Int32)), .val (.int (0 : Int32)), .val .null, .val (.ref b3), .val (.int (4 : Int32)), .val (.int (0 : Int32)), .val (.ref v0)] [(.ref v0)])) rfl rfl (hb hby d1_37)
  obtain ⟨T11, X11, e11, st11⟩ := getF X8 hx hZ hown (host := "") (Or.inl (hw _ (List.mem_of_getElem? (i := 24) rfl))) Via.refl e8 (U1.ext E3) (g := (mkF m 28 #[.val (.int (0 : Int32)), .val (.int (0 : Int32)), .val .null, .val (.ref b3), .val (.int (4 : Int32)), .val (.int ((0 : Int32) + (1 : Int32))), .val (.ref v1)] [(.ref v1)])) rfl rfl (hb hby d1_28)
  obtain ⟨T13, X13, e13, st13⟩ := getF X11 hx hZ hown (host := "") (Or.inl (hw _ (List.mem_of_getElem? (i := 26) rfl))) Via.refl e11 (Y1.ext E3) (g := (mkF m 37 #[.val (.int (0 : Int32)), .val (.int (0 : Int32)), .val .null, .val (.ref b3), .val (.int (4 : Int32)), .val (.int ((0 : Int32) + (1 : Int32))), .val (.ref v1)] [(.ref v1)])) rfl rfl (hb hby d1_37)
  obtain ⟨T16, X16, e16, st16⟩ := getF X13 hx hZ hown (host := "") (Or.inl (hw _ (List.mem_of_getElem? (i := 24) rfl))) Via.refl e13 (U2.ext E3) (g := (mkF m 28 #[.val (.int (0 : Int32)), .val (.int (0 : Int32)), .val (.ref v1), .val (.ref b3), .val (.int (4 : Int32)), .val (.int (((0 : Int32) + (1 : Int32)) + (1 : Int32))), .val (.ref v2)] [(.ref v2)])) rfl rfl (hb hby d1_28)
  obtain ⟨T19, X19, e19, st19⟩ := getF X16 hx hZ hown (host := "") (Or.inl (hw _ (List.mem_of_getElem? (i := 24) rfl))) Via.refl e16 (U3.ext E3) (g := (mkF m 28 #[.val (.int (0 : Int32)), .val (.int (0 : Int32)), .val (.ref v1), .val (.ref b3), .val (.int (4 : Int32)), .val (.int ((((0 : Int32) + (1 : Int32)) + (1 : Int32)) + (1 : Int32))), .val (.ref v3)] [(.ref v3)])) rfl rfl (hb hby d1_28)
  obtain ⟨fs, hr, hrun, hended, hW, hsame⟩ := X19.leave (v := some (.ref v1)) (fun h => by rw [Bd.returns] at h; cases h)
  refine ⟨_, _, pre0 _ ?_, hrun, hended, _, _, rfl, ?_, ⟨_, rfl⟩, hW, hsame.mono (by decide) (by decide)⟩
  · show Steps p.tables e below (s₁.setTop (mkF m 0 #[.val (.int (0 : Int32)), .val (.int (0 : Int32)), .unset, .unset, .unset, .unset, .unset] [])) _
    refine XS.aconstNull X0.here hx rfl (hb hby d1_0) ?_
    show Steps p.tables e below (s₁.setTop (mkF m 1 #[.val (.int (0 : Int32)), .val (.int (0 : Int32)), .unset, .unset, .unset, .unset, .unset] [.null])) _
    refine XS.astoreN X0.here hx rfl (hb hby d1_1) rfl rfl (l' := #[.val (.int (0 : Int32)), .val (.int (0 : Int32)), .val .null, .unset, .unset, .unset, .unset]) rfl ?_
    show Steps p.tables e below (s₁.setTop (mkF m 2 #[.val (.int (0 : Int32)), .val (.int (0 : Int32)), .val .null, .unset, .unset, .unset, .unset] [])) _
    refine st3 _ ?_
    show Steps p.tables e below (T3.setTop (mkF m 5 #[.val (.int (0 : Int32)), .val (.int (0 : Int32)), .val .null, .unset, .unset, .unset, .unset] [(.ref b3)])) _
    refine XS.astoreN X3.here hx rfl (hb hby d1_5) rfl rfl (l' := #[.val (.int (0 : Int32)), .val (.int (0 : Int32)), .val .null, .val (.ref b3), .unset, .unset, .unset]) rfl ?_
    show Steps p.tables e below (T3.setTop (mkF m 6 #[.val (.int (0 : Int32)), .val (.int (0 : Int32)), .val .null, .val (.ref b3), .unset, .unset, .unset] [])) _
    refine XS.aloadN X3.here hx rfl (hb hby d1_6) rfl rfl ?_
    show Steps p.tables e below (T3.setTop (mkF m 7 #[.val (.int (0 : Int32)), .val (.int (0 : Int32)), .val .null, .val (.ref b3), .unset, .unset, .unset] [(.ref b3)])) _
    refine X3.arraylength hx Ar3.1 (State.isArrayOf_alike hZ.alike Ar3.2.1) (g := (mkF m 7 #[.val (.int (0 : Int32)), .val (.int (0 : Int32)), .val .null, .val (.ref b3), .unset, .unset, .unset] [(.ref b3)])) rfl rfl (hb hby d1_7) _ ?_
    rw [len_of SB NB]
    show Steps p.tables e below (T3.setTop (mkF m 8 #[.val (.int (0 : Int32)), .val (.int (0 : Int32)), .val .null, .val (.ref b3), .unset, .unset, .unset] [(.int (4 : Int32))])) _
    refine XS.istore X3.here hx rfl (hb hby d1_8) rfl (l' := #[.val (.int (0 : Int32)), .val (.int (0 : Int32)), .val .null, .val (.ref b3), .val (.int (4 : Int32)), .unset, .unset]) rfl ?_
    show Steps p.tables e below (T3.setTop (mkF m 10 #[.val (.int (0 : Int32)), .val (.int (0 : Int32)), .val .null, .val (.ref b3), .val (.int (4 : Int32)), .unset, .unset] [])) _
    refine XS.iconst X3.here hx rfl (hb hby d1_10) ?_
    show Steps p.tables e below (T3.setTop (mkF m 11 #[.val (.int (0 : Int32)), .val (.int (0 : Int32)), .val .null, .val (.ref b3), .val (.int (4 : Int32)), .unset, .unset] [(.int (0 : Int32))])) _
    refine XS.istore X3.here hx rfl (hb hby d1_11) rfl (l' := #[.val (.int (0 : Int32)), .val (.int (0 : Int32)), .val .null, .val (.ref b3), .val (.int (4 : Int32)), .val (.int (0 : Int32)), .unset]) rfl ?_
    show Steps p.tables e below (T3.setTop (mkF m 13 #[.val (.int (0 : Int32)), .val (.int (0 : Int32)), .val .null, .val (.ref b3), .val (.int (4 : Int32)), .val (.int (0 : Int32)), .unset] [])) _
    refine XS.iload X3.here hx rfl (hb hby d1_13) rfl ?_
    show Steps p.tables e below (T3.setTop (mkF m 15 #[.val (.int (0 : Int32)), .val (.int (0 : Int32)), .val .null, .val (.ref b3), .val (.int (4 : Int32)), .val (.int (0 : Int32)), .unset] [(.int (0 : Int32))])) _
    refine XS.iload X3.here hx rfl (hb hby d1_15) rfl ?_
    show Steps p.tables e below (T3.setTop (mkF m 17 #[.val (.int (0 : Int32)), .val (.int (0 : Int32)), .val .null, .val (.ref b3), .val (.int (4 : Int32)), .val (.int (0 : Int32)), .unset] [(.int (4 : Int32)), (.int (0 : Int32))])) _
    refine XS.icmpNo X3.here hx rfl (hb hby d1_17) rfl (tlt (by decide : (0 : Int32) < (4 : Int32))).2.1 ?_
    show Steps p.tables e below (T3.setTop (mkF m 20 #[.val (.int (0 : Int32)), .val (.int (0 : Int32)), .val .null, .val (.ref b3), .val (.int (4 : Int32)), .val (.int (0 : Int32)), .unset] [])) _
    refine XS.aloadN X3.here hx rfl (hb hby d1_20) rfl rfl ?_
    show Steps p.tables e below (T3.setTop (mkF m 21 #[.val (.int (0 : Int32)), .val (.int (0 : Int32)), .val .null, .val (.ref b3), .val (.int (4 : Int32)), .val (.int (0 : Int32)), .unset] [(.ref b3)])) _
    refine XS.iload X3.here hx rfl (hb hby d1_21) rfl ?_
    show Steps p.tables e below (T3.setTop (mkF m 23 #[.val (.int (0 : Int32)), .val (.int (0 : Int32)), .val .null, .val (.ref b3), .val (.int (4 : Int32)), .val (.int (0 : Int32)), .unset] [(.int (0 : Int32)), (.ref b3)])) _
    refine X3.aaload hx (j := (0 : Int32)) (v := (.ref v0)) Ar3.1 (State.isArrayOf_alike hZ.alike Ar3.2.1) rfl Ar3.2.2 gi0 gt0 (g := (mkF m 23 #[.val (.int (0 : Int32)), .val (.int (0 : Int32)), .val .null, .val (.ref b3), .val (.int (4 : Int32)), .val (.int (0 : Int32)), .unset] [(.int (0 : Int32)), (.ref b3)])) rfl rfl (hb hby d1_23) _ ?_
    show Steps p.tables e below (T3.setTop (mkF m 24 #[.val (.int (0 : Int32)), .val (.int (0 : Int32)), .val .null, .val (.ref b3), .val (.int (4 : Int32)), .val (.int (0 : Int32)), .unset] [(.ref v0)])) _
    refine XS.astore X3.here hx rfl (hb hby d1_24) rfl rfl (l' := #[.val (.int (0 : Int32)), .val (.int (0 : Int32)), .val .null, .val (.ref b3), .val (.int (4 : Int32)), .val (.int (0 : Int32)), .val (.ref v0)]) rfl ?_
    show Steps p.tables e below (T3.setTop (mkF m 26 #[.val (.int (0 : Int32)), .val (.int (0 : Int32)), .val .null, .val (.ref b3), .val (.int (4 : Int32)), .val (.int (0 : Int32)), .val (.ref v0)] [])) _
    refine XS.aload X3.here hx rfl (hb hby d1_26) rfl rfl ?_
    show Steps p.tables e below (T3.setTop (mkF m 28 #[.val (.int (0 : Int32)), .val (.int (0 : Int32)), .val .null, .val (.ref b3), .val (.int (4 : Int32)), .val (.int (0 : Int32)), .val (.ref v0)] [(.ref v0)])) _
    refine st6 _ ?_
    show Steps p.tables e below (T6.setTop (mkF m 31 #[.val (.int (0 : Int32)), .val (.int (0 : Int32)), .val .null, .val (.ref b3), .val (.int (4 : Int32)), .val (.int (0 : Int32)), .val (.ref v0)] [(.int (0 : Int32))])) _
    refine XS.iloadN X6.here hx rfl (hb hby d1_31) rfl ?_
    show Steps p.tables e below (T6.setTop (mkF m 32 #[.val (.int (0 : Int32)), .val (.int (0 : Int32)), .val .null, .val (.ref b3), .val (.int (4 : Int32)), .val (.int (0 : Int32)), .val (.ref v0)] [(.int (0 : Int32)), (.int (0 : Int32))])) _
    refine XS.icmpNo X6.here hx rfl (hb hby d1_32) rfl (teq rfl).2 ?_
    show Steps p.tables e below (T6.setTop (mkF m 35 #[.val (.int (0 : Int32)), .val (.int (0 : Int32)), .val .null, .val (.ref b3), .val (.int (4 : Int32)), .val (.int (0 : Int32)), .val (.ref v0)] [])) _
    refine XS.aload X6.here hx rfl (hb hby d1_35) rfl rfl ?_
    show Steps p.tables e below (T6.setTop (mkF m 37 #[.val (.int (0 : Int32)), .val (.int (0 : Int32)), .val .null, .val (.ref b3), .val (.int (4 : Int32)), .val (.int (0 : Int32)), .val (.ref v0)] [(.ref v0)])) _
    refine st8 _ ?_
    show Steps p.tables e below (T8.setTop (mkF m 40 #[.val (.int (0 : Int32)), .val (.int (0 : Int32)), .val .null, .val (.ref b3), .val (.int (4 : Int32)), .val (.int (0 : Int32)), .val (.ref v0)] [(.int (1 : Int32))])) _
    refine XS.iloadN X8.here hx rfl (hb hby d1_40) rfl ?_
    show Steps p.tables e below (T8.setTop (mkF m 41 #[.val (.int (0 : Int32)), .val (.int (0 : Int32)), .val .null, .val (.ref b3), .val (.int (4 : Int32)), .val (.int (0 : Int32)), .val (.ref v0)] [(.int (0 : Int32)), (.int (1 : Int32))])) _
    refine XS.icmpYes X8.here hx rfl (pc0 := 41) (pc' := 47) rfl (hb hby d1_41) rfl (feq (by decide)).2 (by decide) (by decide) ?_
    show Steps p.tables e below (T8.setTop (mkF m 47 #[.val (.int (0 : Int32)), .val (.int (0 : Int32)), .val .null, .val (.ref b3), .val (.int (4 : Int32)), .val (.int (0 : Int32)), .val (.ref v0)] [])) _
    refine XS.iinc X8.here hx rfl (hb hby d1_47) rfl (l' := #[.val (.int (0 : Int32)), .val (.int (0 : Int32)), .val .null, .val (.ref b3), .val (.int (4 : Int32)), .val (.int ((0 : Int32) + (1 : Int32))), .val (.ref v0)]) rfl ?_
    show Steps p.tables e below (T8.setTop (mkF m 50 #[.val (.int (0 : Int32)), .val (.int (0 : Int32)), .val .null, .val (.ref b3), .val (.int (4 : Int32)), .val (.int ((0 : Int32) + (1 : Int32))), .val (.ref v0)] [])) _
    refine XS.goto X8.here hx rfl (pc0 := 50) (pc' := 13) rfl (hb hby d1_50) (by decide) (by decide) ?_
    show Steps p.tables e below (T8.setTop (mkF m 13 #[.val (.int (0 : Int32)), .val (.int (0 : Int32)), .val .null, .val (.ref b3), .val (.int (4 : Int32)), .val (.int ((0 : Int32) + (1 : Int32))), .val (.ref v0)] [])) _
    refine XS.iload X8.here hx rfl (hb hby d1_13) rfl ?_
    show Steps p.tables e below (T8.setTop (mkF m 15 #[.val (.int (0 : Int32)), .val (.int (0 : Int32)), .val .null, .val (.ref b3), .val (.int (4 : Int32)), .val (.int ((0 : Int32) + (1 : Int32))), .val (.ref v0)] [(.int ((0 : Int32) + (1 : Int32)))])) _
    refine XS.iload X8.here hx rfl (hb hby d1_15) rfl ?_
    show Steps p.tables e below (T8.setTop (mkF m 17 #[.val (.int (0 : Int32)), .val (.int (0 : Int32)), .val .null, .val (.ref b3), .val (.int (4 : Int32)), .val (.int ((0 : Int32) + (1 : Int32))), .val (.ref v0)] [(.int (4 : Int32)), (.int ((0 : Int32) + (1 : Int32)))])) _
    refine XS.icmpNo X8.here hx rfl (hb hby d1_17) rfl (tlt (by decide : ((0 : Int32) + (1 : Int32)) < (4 : Int32))).2.1 ?_
    show Steps p.tables e below (T8.setTop (mkF m 20 #[.val (.int (0 : Int32)), .val (.int (0 : Int32)), .val .null, .val (.ref b3), .val (.int (4 : Int32)), .val (.int ((0 : Int32) + (1 : Int32))), .val (.ref v0)] [])) _
    refine XS.aloadN X8.here hx rfl (hb hby d1_20) rfl rfl ?_
    show Steps p.tables e below (T8.setTop (mkF m 21 #[.val (.int (0 : Int32)), .val (.int (0 : Int32)), .val .null, .val (.ref b3), .val (.int (4 : Int32)), .val (.int ((0 : Int32) + (1 : Int32))), .val (.ref v0)] [(.ref b3)])) _
    refine XS.iload X8.here hx rfl (hb hby d1_21) rfl ?_
    show Steps p.tables e below (T8.setTop (mkF m 23 #[.val (.int (0 : Int32)), .val (.int (0 : Int32)), .val .null, .val (.ref b3), .val (.int (4 : Int32)), .val (.int ((0 : Int32) + (1 : Int32))), .val (.ref v0)] [(.int ((0 : Int32) + (1 : Int32))), (.ref b3)])) _
    refine X8.aaload hx (j := ((0 : Int32) + (1 : Int32))) (v := (.ref v1)) (by rw [e8]; exact Ar3.1) (State.isArrayOf_alike hZ.alike Ar3.2.1) rfl Ar3.2.2 gi1 gt1 (g := (mkF m 23 #[.val (.int (0 : Int32)), .val (.int (0 : Int32)), .val .null, .val (.ref b3), .val (.int (4 : Int32)), .val (.int ((0 : Int32) + (1 : Int32))), .val (.ref v0)] [(.int ((0 : Int32) + (1 : Int32))), (.ref b3)])) rfl rfl (hb hby d1_23) _ ?_
    show Steps p.tables e below (T8.setTop (mkF m 24 #[.val (.int (0 : Int32)), .val (.int (0 : Int32)), .val .null, .val (.ref b3), .val (.int (4 : Int32)), .val (.int ((0 : Int32) + (1 : Int32))), .val (.ref v0)] [(.ref v1)])) _
    refine XS.astore X8.here hx rfl (hb hby d1_24) rfl rfl (l' := #[.val (.int (0 : Int32)), .val (.int (0 : Int32)), .val .null, .val (.ref b3), .val (.int (4 : Int32)), .val (.int ((0 : Int32) + (1 : Int32))), .val (.ref v1)]) rfl ?_
    show Steps p.tables e below (T8.setTop (mkF m 26 #[.val (.int (0 : Int32)), .val (.int (0 : Int32)), .val .null, .val (.ref b3), .val (.int (4 : Int32)), .val (.int ((0 : Int32) + (1 : Int32))), .val (.ref v1)] [])) _
    refine XS.aload X8.here hx rfl (hb hby d1_26) rfl rfl ?_
    show Steps p.tables e below (T8.setTop (mkF m 28 #[.val (.int (0 : Int32)), .val (.int (0 : Int32)), .val .null, .val (.ref b3), .val (.int (4 : Int32)), .val (.int ((0 : Int32) + (1 : Int32))), .val (.ref v1)] [(.ref v1)])) _
    refine st11 _ ?_
    show Steps p.tables e below (T11.setTop (mkF m 31 #[.val (.int (0 : Int32)), .val (.int (0 : Int32)), .val .null, .val (.ref b3), .val (.int (4 : Int32)), .val (.int ((0 : Int32) + (1 : Int32))), .val (.ref v1)] [(.int (0 : Int32))])) _
    refine XS.iloadN X11.here hx rfl (hb hby d1_31) rfl ?_
    show Steps p.tables e below (T11.setTop (mkF m 32 #[.val (.int (0 : Int32)), .val (.int (0 : Int32)), .val .null, .val (.ref b3), .val (.int (4 : Int32)), .val (.int ((0 : Int32) + (1 : Int32))), .val (.ref v1)] [(.int (0 : Int32)), (.int (0 : Int32))])) _
    refine XS.icmpNo X11.here hx rfl (hb hby d1_32) rfl (teq rfl).2 ?_
    show Steps p.tables e below (T11.setTop (mkF m 35 #[.val (.int (0 : Int32)), .val (.int (0 : Int32)), .val .null, .val (.ref b3), .val (.int (4 : Int32)), .val (.int ((0 : Int32) + (1 : Int32))), .val (.ref v1)] [])) _
    refine XS.aload X11.here hx rfl (hb hby d1_35) rfl rfl ?_
    show Steps p.tables e below (T11.setTop (mkF m 37 #[.val (.int (0 : Int32)), .val (.int (0 : Int32)), .val .null, .val (.ref b3), .val (.int (4 : Int32)), .val (.int ((0 : Int32) + (1 : Int32))), .val (.ref v1)] [(.ref v1)])) _
    refine st13 _ ?_
    show Steps p.tables e below (T13.setTop (mkF m 40 #[.val (.int (0 : Int32)), .val (.int (0 : Int32)), .val .null, .val (.ref b3), .val (.int (4 : Int32)), .val (.int ((0 : Int32) + (1 : Int32))), .val (.ref v1)] [(.int (0 : Int32))])) _
    refine XS.iloadN X13.here hx rfl (hb hby d1_40) rfl ?_
    show Steps p.tables e below (T13.setTop (mkF m 41 #[.val (.int (0 : Int32)), .val (.int (0 : Int32)), .val .null, .val (.ref b3), .val (.int (4 : Int32)), .val (.int ((0 : Int32) + (1 : Int32))), .val (.ref v1)] [(.int (0 : Int32)), (.int (0 : Int32))])) _
    refine XS.icmpNo X13.here hx rfl (hb hby d1_41) rfl (teq rfl).2 ?_
    show Steps p.tables e below (T13.setTop (mkF m 44 #[.val (.int (0 : Int32)), .val (.int (0 : Int32)), .val .null, .val (.ref b3), .val (.int (4 : Int32)), .val (.int ((0 : Int32) + (1 : Int32))), .val (.ref v1)] [])) _
    refine XS.aload X13.here hx rfl (hb hby d1_44) rfl rfl ?_
    show Steps p.tables e below (T13.setTop (mkF m 46 #[.val (.int (0 : Int32)), .val (.int (0 : Int32)), .val .null, .val (.ref b3), .val (.int (4 : Int32)), .val (.int ((0 : Int32) + (1 : Int32))), .val (.ref v1)] [(.ref v1)])) _
    refine XS.astoreN X13.here hx rfl (hb hby d1_46) rfl rfl (l' := #[.val (.int (0 : Int32)), .val (.int (0 : Int32)), .val (.ref v1), .val (.ref b3), .val (.int (4 : Int32)), .val (.int ((0 : Int32) + (1 : Int32))), .val (.ref v1)]) rfl ?_
    show Steps p.tables e below (T13.setTop (mkF m 47 #[.val (.int (0 : Int32)), .val (.int (0 : Int32)), .val (.ref v1), .val (.ref b3), .val (.int (4 : Int32)), .val (.int ((0 : Int32) + (1 : Int32))), .val (.ref v1)] [])) _
    refine XS.iinc X13.here hx rfl (hb hby d1_47) rfl (l' := #[.val (.int (0 : Int32)), .val (.int (0 : Int32)), .val (.ref v1), .val (.ref b3), .val (.int (4 : Int32)), .val (.int (((0 : Int32) + (1 : Int32)) + (1 : Int32))), .val (.ref v1)]) rfl ?_
    show Steps p.tables e below (T13.setTop (mkF m 50 #[.val (.int (0 : Int32)), .val (.int (0 : Int32)), .val (.ref v1), .val (.ref b3), .val (.int (4 : Int32)), .val (.int (((0 : Int32) + (1 : Int32)) + (1 : Int32))), .val (.ref v1)] [])) _
    refine XS.goto X13.here hx rfl (pc0 := 50) (pc' := 13) rfl (hb hby d1_50) (by decide) (by decide) ?_
    show Steps p.tables e below (T13.setTop (mkF m 13 #[.val (.int (0 : Int32)), .val (.int (0 : Int32)), .val (.ref v1), .val (.ref b3), .val (.int (4 : Int32)), .val (.int (((0 : Int32) + (1 : Int32)) + (1 : Int32))), .val (.ref v1)] [])) _
    refine XS.iload X13.here hx rfl (hb hby d1_13) rfl ?_
    show Steps p.tables e below (T13.setTop (mkF m 15 #[.val (.int (0 : Int32)), .val (.int (0 : Int32)), .val (.ref v1), .val (.ref b3), .val (.int (4 : Int32)), .val (.int (((0 : Int32) + (1 : Int32)) + (1 : Int32))), .val (.ref v1)] [(.int (((0 : Int32) + (1 : Int32)) + (1 : Int32)))])) _
    refine XS.iload X13.here hx rfl (hb hby d1_15) rfl ?_
    show Steps p.tables e below (T13.setTop (mkF m 17 #[.val (.int (0 : Int32)), .val (.int (0 : Int32)), .val (.ref v1), .val (.ref b3), .val (.int (4 : Int32)), .val (.int (((0 : Int32) + (1 : Int32)) + (1 : Int32))), .val (.ref v1)] [(.int (4 : Int32)), (.int (((0 : Int32) + (1 : Int32)) + (1 : Int32)))])) _
    refine XS.icmpNo X13.here hx rfl (hb hby d1_17) rfl (tlt (by decide : (((0 : Int32) + (1 : Int32)) + (1 : Int32)) < (4 : Int32))).2.1 ?_
    show Steps p.tables e below (T13.setTop (mkF m 20 #[.val (.int (0 : Int32)), .val (.int (0 : Int32)), .val (.ref v1), .val (.ref b3), .val (.int (4 : Int32)), .val (.int (((0 : Int32) + (1 : Int32)) + (1 : Int32))), .val (.ref v1)] [])) _
    refine XS.aloadN X13.here hx rfl (hb hby d1_20) rfl rfl ?_
    show Steps p.tables e below (T13.setTop (mkF m 21 #[.val (.int (0 : Int32)), .val (.int (0 : Int32)), .val (.ref v1), .val (.ref b3), .val (.int (4 : Int32)), .val (.int (((0 : Int32) + (1 : Int32)) + (1 : Int32))), .val (.ref v1)] [(.ref b3)])) _
    refine XS.iload X13.here hx rfl (hb hby d1_21) rfl ?_
    show Steps p.tables e below (T13.setTop (mkF m 23 #[.val (.int (0 : Int32)), .val (.int (0 : Int32)), .val (.ref v1), .val (.ref b3), .val (.int (4 : Int32)), .val (.int (((0 : Int32) + (1 : Int32)) + (1 : Int32))), .val (.ref v1)] [(.int (((0 : Int32) + (1 : Int32)) + (1 : Int32))), (.ref b3)])) _
    refine X13.aaload hx (j := (((0 : Int32) + (1 : Int32)) + (1 : Int32))) (v := (.ref v2)) (by rw [e13]; exact Ar3.1) (State.isArrayOf_alike hZ.alike Ar3.2.1) rfl Ar3.2.2 gi2 gt2 (g := (mkF m 23 #[.val (.int (0 : Int32)), .val (.int (0 : Int32)), .val (.ref v1), .val (.ref b3), .val (.int (4 : Int32)), .val (.int (((0 : Int32) + (1 : Int32)) + (1 : Int32))), .val (.ref v1)] [(.int (((0 : Int32) + (1 : Int32)) + (1 : Int32))), (.ref b3)])) rfl rfl (hb hby d1_23) _ ?_
    show Steps p.tables e below (T13.setTop (mkF m 24 #[.val (.int (0 : Int32)), .val (.int (0 : Int32)), .val (.ref v1), .val (.ref b3), .val (.int (4 : Int32)), .val (.int (((0 : Int32) + (1 : Int32)) + (1 : Int32))), .val (.ref v1)] [(.ref v2)])) _
    refine XS.astore X13.here hx rfl (hb hby d1_24) rfl rfl (l' := #[.val (.int (0 : Int32)), .val (.int (0 : Int32)), .val (.ref v1), .val (.ref b3), .val (.int (4 : Int32)), .val (.int (((0 : Int32) + (1 : Int32)) + (1 : Int32))), .val (.ref v2)]) rfl ?_
    show Steps p.tables e below (T13.setTop (mkF m 26 #[.val (.int (0 : Int32)), .val (.int (0 : Int32)), .val (.ref v1), .val (.ref b3), .val (.int (4 : Int32)), .val (.int (((0 : Int32) + (1 : Int32)) + (1 : Int32))), .val (.ref v2)] [])) _
    refine XS.aload X13.here hx rfl (hb hby d1_26) rfl rfl ?_
    show Steps p.tables e below (T13.setTop (mkF m 28 #[.val (.int (0 : Int32)), .val (.int (0 : Int32)), .val (.ref v1), .val (.ref b3), .val (.int (4 : Int32)), .val (.int (((0 : Int32) + (1 : Int32)) + (1 : Int32))), .val (.ref v2)] [(.ref v2)])) _
    refine st16 _ ?_
    show Steps p.tables e below (T16.setTop (mkF m 31 #[.val (.int (0 : Int32)), .val (.int (0 : Int32)), .val (.ref v1), .val (.ref b3), .val (.int (4 : Int32)), .val (.int (((0 : Int32) + (1 : Int32)) + (1 : Int32))), .val (.ref v2)] [(.int (1 : Int32))])) _
    refine XS.iloadN X16.here hx rfl (hb hby d1_31) rfl ?_
    show Steps p.tables e below (T16.setTop (mkF m 32 #[.val (.int (0 : Int32)), .val (.int (0 : Int32)), .val (.ref v1), .val (.ref b3), .val (.int (4 : Int32)), .val (.int (((0 : Int32) + (1 : Int32)) + (1 : Int32))), .val (.ref v2)] [(.int (0 : Int32)), (.int (1 : Int32))])) _
    refine XS.icmpYes X16.here hx rfl (pc0 := 32) (pc' := 47) rfl (hb hby d1_32) rfl (feq (by decide)).2 (by decide) (by decide) ?_
    show Steps p.tables e below (T16.setTop (mkF m 47 #[.val (.int (0 : Int32)), .val (.int (0 : Int32)), .val (.ref v1), .val (.ref b3), .val (.int (4 : Int32)), .val (.int (((0 : Int32) + (1 : Int32)) + (1 : Int32))), .val (.ref v2)] [])) _
    refine XS.iinc X16.here hx rfl (hb hby d1_47) rfl (l' := #[.val (.int (0 : Int32)), .val (.int (0 : Int32)), .val (.ref v1), .val (.ref b3), .val (.int (4 : Int32)), .val (.int ((((0 : Int32) + (1 : Int32)) + (1 : Int32)) + (1 : Int32))), .val (.ref v2)]) rfl ?_
    show Steps p.tables e below (T16.setTop (mkF m 50 #[.val (.int (0 : Int32)), .val (.int (0 : Int32)), .val (.ref v1), .val (.ref b3), .val (.int (4 : Int32)), .val (.int ((((0 : Int32) + (1 : Int32)) + (1 : Int32)) + (1 : Int32))), .val (.ref v2)] [])) _
    refine XS.goto X16.here hx rfl (pc0 := 50) (pc' := 13) rfl (hb hby d1_50) (by decide) (by decide) ?_
    show Steps p.tables e below (T16.setTop (mkF m 13 #[.val (.int (0 : Int32)), .val (.int (0 : Int32)), .val (.ref v1), .val (.ref b3), .val (.int (4 : Int32)), .val (.int ((((0 : Int32) + (1 : Int32)) + (1 : Int32)) + (1 : Int32))), .val (.ref v2)] [])) _
    refine XS.iload X16.here hx rfl (hb hby d1_13) rfl ?_
    show Steps p.tables e below (T16.setTop (mkF m 15 #[.val (.int (0 : Int32)), .val (.int (0 : Int32)), .val (.ref v1), .val (.ref b3), .val (.int (4 : Int32)), .val (.int ((((0 : Int32) + (1 : Int32)) + (1 : Int32)) + (1 : Int32))), .val (.ref v2)] [(.int ((((0 : Int32) + (1 : Int32)) + (1 : Int32)) + (1 : Int32)))])) _
    refine XS.iload X16.here hx rfl (hb hby d1_15) rfl ?_
    show Steps p.tables e below (T16.setTop (mkF m 17 #[.val (.int (0 : Int32)), .val (.int (0 : Int32)), .val (.ref v1), .val (.ref b3), .val (.int (4 : Int32)), .val (.int ((((0 : Int32) + (1 : Int32)) + (1 : Int32)) + (1 : Int32))), .val (.ref v2)] [(.int (4 : Int32)), (.int ((((0 : Int32) + (1 : Int32)) + (1 : Int32)) + (1 : Int32)))])) _
    refine XS.icmpNo X16.here hx rfl (hb hby d1_17) rfl (tlt (by decide : ((((0 : Int32) + (1 : Int32)) + (1 : Int32)) + (1 : Int32)) < (4 : Int32))).2.1 ?_
    show Steps p.tables e below (T16.setTop (mkF m 20 #[.val (.int (0 : Int32)), .val (.int (0 : Int32)), .val (.ref v1), .val (.ref b3), .val (.int (4 : Int32)), .val (.int ((((0 : Int32) + (1 : Int32)) + (1 : Int32)) + (1 : Int32))), .val (.ref v2)] [])) _
    refine XS.aloadN X16.here hx rfl (hb hby d1_20) rfl rfl ?_
    show Steps p.tables e below (T16.setTop (mkF m 21 #[.val (.int (0 : Int32)), .val (.int (0 : Int32)), .val (.ref v1), .val (.ref b3), .val (.int (4 : Int32)), .val (.int ((((0 : Int32) + (1 : Int32)) + (1 : Int32)) + (1 : Int32))), .val (.ref v2)] [(.ref b3)])) _
    refine XS.iload X16.here hx rfl (hb hby d1_21) rfl ?_
    show Steps p.tables e below (T16.setTop (mkF m 23 #[.val (.int (0 : Int32)), .val (.int (0 : Int32)), .val (.ref v1), .val (.ref b3), .val (.int (4 : Int32)), .val (.int ((((0 : Int32) + (1 : Int32)) + (1 : Int32)) + (1 : Int32))), .val (.ref v2)] [(.int ((((0 : Int32) + (1 : Int32)) + (1 : Int32)) + (1 : Int32))), (.ref b3)])) _
    refine X16.aaload hx (j := ((((0 : Int32) + (1 : Int32)) + (1 : Int32)) + (1 : Int32))) (v := (.ref v3)) (by rw [e16]; exact Ar3.1) (State.isArrayOf_alike hZ.alike Ar3.2.1) rfl Ar3.2.2 gi3 gt3 (g := (mkF m 23 #[.val (.int (0 : Int32)), .val (.int (0 : Int32)), .val (.ref v1), .val (.ref b3), .val (.int (4 : Int32)), .val (.int ((((0 : Int32) + (1 : Int32)) + (1 : Int32)) + (1 : Int32))), .val (.ref v2)] [(.int ((((0 : Int32) + (1 : Int32)) + (1 : Int32)) + (1 : Int32))), (.ref b3)])) rfl rfl (hb hby d1_23) _ ?_
    show Steps p.tables e below (T16.setTop (mkF m 24 #[.val (.int (0 : Int32)), .val (.int (0 : Int32)), .val (.ref v1), .val (.ref b3), .val (.int (4 : Int32)), .val (.int ((((0 : Int32) + (1 : Int32)) + (1 : Int32)) + (1 : Int32))), .val (.ref v2)] [(.ref v3)])) _
    refine XS.astore X16.here hx rfl (hb hby d1_24) rfl rfl (l' := #[.val (.int (0 : Int32)), .val (.int (0 : Int32)), .val (.ref v1), .val (.ref b3), .val (.int (4 : Int32)), .val (.int ((((0 : Int32) + (1 : Int32)) + (1 : Int32)) + (1 : Int32))), .val (.ref v3)]) rfl ?_
    show Steps p.tables e below (T16.setTop (mkF m 26 #[.val (.int (0 : Int32)), .val (.int (0 : Int32)), .val (.ref v1), .val (.ref b3), .val (.int (4 : Int32)), .val (.int ((((0 : Int32) + (1 : Int32)) + (1 : Int32)) + (1 : Int32))), .val (.ref v3)] [])) _
    refine XS.aload X16.here hx rfl (hb hby d1_26) rfl rfl ?_
    show Steps p.tables e below (T16.setTop (mkF m 28 #[.val (.int (0 : Int32)), .val (.int (0 : Int32)), .val (.ref v1), .val (.ref b3), .val (.int (4 : Int32)), .val (.int ((((0 : Int32) + (1 : Int32)) + (1 : Int32)) + (1 : Int32))), .val (.ref v3)] [(.ref v3)])) _
    refine st19 _ ?_
    show Steps p.tables e below (T19.setTop (mkF m 31 #[.val (.int (0 : Int32)), .val (.int (0 : Int32)), .val (.ref v1), .val (.ref b3), .val (.int (4 : Int32)), .val (.int ((((0 : Int32) + (1 : Int32)) + (1 : Int32)) + (1 : Int32))), .val (.ref v3)] [(.int (1 : Int32))])) _
    refine XS.iloadN X19.here hx rfl (hb hby d1_31) rfl ?_
    show Steps p.tables e below (T19.setTop (mkF m 32 #[.val (.int (0 : Int32)), .val (.int (0 : Int32)), .val (.ref v1), .val (.ref b3), .val (.int (4 : Int32)), .val (.int ((((0 : Int32) + (1 : Int32)) + (1 : Int32)) + (1 : Int32))), .val (.ref v3)] [(.int (0 : Int32)), (.int (1 : Int32))])) _
    refine XS.icmpYes X19.here hx rfl (pc0 := 32) (pc' := 47) rfl (hb hby d1_32) rfl (feq (by decide)).2 (by decide) (by decide) ?_
    show Steps p.tables e below (T19.setTop (mkF m 47 #[.val (.int (0 : Int32)), .val (.int (0 : Int32)), .val (.ref v1), .val (.ref b3), .val (.int (4 : Int32)), .val (.int ((((0 : Int32) + (1 : Int32)) + (1 : Int32)) + (1 : Int32))), .val (.ref v3)] [])) _
    refine XS.iinc X19.here hx rfl (hb hby d1_47) rfl (l' := #[.val (.int (0 : Int32)), .val (.int (0 : Int32)), .val (.ref v1), .val (.ref b3), .val (.int (4 : Int32)), .val (.int (((((0 : Int32) + (1 : Int32)) + (1 : Int32)) + (1 : Int32)) + (1 : Int32))), .val (.ref v3)]) rfl ?_
    show Steps p.tables e below (T19.setTop (mkF m 50 #[.val (.int (0 : Int32)), .val (.int (0 : Int32)), .val (.ref v1), .val (.ref b3), .val (.int (4 : Int32)), .val (.int (((((0 : Int32) + (1 : Int32)) + (1 : Int32)) + (1 : Int32)) + (1 : Int32))), .val (.ref v3)] [])) _
    refine XS.goto X19.here hx rfl (pc0 := 50) (pc' := 13) rfl (hb hby d1_50) (by decide) (by decide) ?_
    show Steps p.tables e below (T19.setTop (mkF m 13 #[.val (.int (0 : Int32)), .val (.int (0 : Int32)), .val (.ref v1), .val (.ref b3), .val (.int (4 : Int32)), .val (.int (((((0 : Int32) + (1 : Int32)) + (1 : Int32)) + (1 : Int32)) + (1 : Int32))), .val (.ref v3)] [])) _
    refine XS.iload X19.here hx rfl (hb hby d1_13) rfl ?_
    show Steps p.tables e below (T19.setTop (mkF m 15 #[.val (.int (0 : Int32)), .val (.int (0 : Int32)), .val (.ref v1), .val (.ref b3), .val (.int (4 : Int32)), .val (.int (((((0 : Int32) + (1 : Int32)) + (1 : Int32)) + (1 : Int32)) + (1 : Int32))), .val (.ref v3)] [(.int (((((0 : Int32) + (1 : Int32)) + (1 : Int32)) + (1 : Int32)) + (1 : Int32)))])) _
    refine XS.iload X19.here hx rfl (hb hby d1_15) rfl ?_
    show Steps p.tables e below (T19.setTop (mkF m 17 #[.val (.int (0 : Int32)), .val (.int (0 : Int32)), .val (.ref v1), .val (.ref b3), .val (.int (4 : Int32)), .val (.int (((((0 : Int32) + (1 : Int32)) + (1 : Int32)) + (1 : Int32)) + (1 : Int32))), .val (.ref v3)] [(.int (4 : Int32)), (.int (((((0 : Int32) + (1 : Int32)) + (1 : Int32)) + (1 : Int32)) + (1 : Int32)))])) _
    refine XS.icmpYes X19.here hx rfl (pc0 := 17) (pc' := 53) rfl (hb hby d1_17) rfl (flt (by decide : ¬ ((((((0 : Int32) + (1 : Int32)) + (1 : Int32)) + (1 : Int32)) + (1 : Int32)) < (4 : Int32)))).2.1 (by decide) (by decide) ?_
    show Steps p.tables e below (T19.setTop (mkF m 53 #[.val (.int (0 : Int32)), .val (.int (0 : Int32)), .val (.ref v1), .val (.ref b3), .val (.int (4 : Int32)), .val (.int (((((0 : Int32) + (1 : Int32)) + (1 : Int32)) + (1 : Int32)) + (1 : Int32))), .val (.ref v3)] [])) _
    refine XS.aloadN X19.here hx rfl (hb hby d1_53) rfl rfl ?_
    show Steps p.tables e below (T19.setTop (mkF m 54 #[.val (.int (0 : Int32)), .val (.int (0 : Int32)), .val (.ref v1), .val (.ref b3), .val (.int (4 : Int32)), .val (.int (((((0 : Int32) + (1 : Int32)) + (1 : Int32)) + (1 : Int32)) + (1 : Int32))), .val (.ref v3)] [(.ref v1)])) _
    jvm_step X19.here [X19.here.top, hx, (hb hby d1_54), X19.method', Bd.returns, Value.isRef, FieldType.isReference]
    first | (intro acts; rw [hr _ acts rfl rfl rfl]) | rw [hr _ _ rfl rfl rfl]
    exact Steps.refl _
  · show Q1u00 v1 h0 n0 _ T19.heap _
    rw [e19]
    exact ⟨rfl, N3, E3⟩
def Q1u01 (v0 : Addr) (h0 : Heap) (n0 : Nat) (v : Option Value) (h : Heap) (L : List Loc) : Prop := v = some (.ref v0) ∧ Fr n0 L ∧ Ext h0 h
set_option maxRecDepth 65536 in
set_option maxHeartbeats 40000000 in
theorem rm1u01 (l : Launch) (Z : State) (a0 : Array Value) (hw : ∀ d ∈ tables_1, d.before a0 Z = true) (ws : List Jvm.Cond) (v0 : Addr) (v1 : Addr) (v2 : Addr) (v3 : Addr) (wV : Addr) (cl : Cell) (h0 : Heap) (n0 : Nat) (Z0 : n0 ≤ h0.size) (SV : Sta Z h0 "com/example/gumzo/gumzo/node/Intake" "$VALUES" "[Lcom/example/gumzo/gumzo/node/Intake;" (.ref wV)) (AV : Arr Z h0 wV cl (.object "com/example/gumzo/gumzo/node/Intake")) (EV : Exa Z h0 wV "[Lcom/example/gumzo/gumzo/node/Intake;") (FV : FitC Z cl) (hsz : cl.slots.size = 4) (hi0 : ¬ ((0 : Int32) < 0 ∨ cl.slots.size ≤ ((0 : Int32)).toNatClampNeg)) (ht0 : cl.slots[((0 : Int32)).toNatClampNeg]? = some (.ref v0)) (U0 : Fld Z h0 v0 "com/example/gumzo/gumzo/node/Intake" "untilRefused" "Z" (.int (0 : Int32))) (Y0 : Fld Z h0 v0 "com/example/gumzo/gumzo/node/Intake" "synced" "Z" (.int (1 : Int32))) (hi1 : ¬ ((1 : Int32) < 0 ∨ cl.slots.size ≤ ((1 : Int32)).toNatClampNeg)) (ht1 : cl.slots[((1 : Int32)).toNatClampNeg]? = some (.ref v1)) (U1 : Fld Z h0 v1 "com/example/gumzo/gumzo/node/Intake" "untilRefused" "Z" (.int (0 : Int32))) (Y1 : Fld Z h0 v1 "com/example/gumzo/gumzo/node/Intake" "synced" "Z" (.int (0 : Int32))) (hi2 : ¬ ((2 : Int32) < 0 ∨ cl.slots.size ≤ ((2 : Int32)).toNatClampNeg)) (ht2 : cl.slots[((2 : Int32)).toNatClampNeg]? = some (.ref v2)) (U2 : Fld Z h0 v2 "com/example/gumzo/gumzo/node/Intake" "untilRefused" "Z" (.int (1 : Int32))) (Y2 : Fld Z h0 v2 "com/example/gumzo/gumzo/node/Intake" "synced" "Z" (.int (1 : Int32))) (hi3 : ¬ ((3 : Int32) < 0 ∨ cl.slots.size ≤ ((3 : Int32)).toNatClampNeg)) (ht3 : cl.slots[((3 : Int32)).toNatClampNeg]? = some (.ref v3)) (U3 : Fld Z h0 v3 "com/example/gumzo/gumzo/node/Intake" "untilRefused" "Z" (.int (1 : Int32))) (Y3 : Fld Z h0 v3 "com/example/gumzo/gumzo/node/Intake" "synced" "Z" (.int (0 : Int32))) :
    MetFree l (⟨"com/example/gumzo/gumzo/node/Intake", "of", "(ZZ)Lcom/example/gumzo/gumzo/node/Intake;"⟩ : MethodName) (head1 (Jvm.Cond.code (⟨"com/example/gumzo/gumzo/node/Intake", "of", "(ZZ)Lcom/example/gumzo/gumzo/node/Intake;"⟩ : MethodName) prog_16_method_4_code 7 (some (.object "com/example/gumzo/gumzo/node/Intake")) :: ws) ({ frames := 2, cells := 1, slots := 4, locals := 25 } : Room)) (fun a U => a = #[(.int (0 : Int32)), (.int (1 : Int32))] ∧ Z.Warmed39 U.vm ∧ U.heap = h0) (fun _ _ _ _ _ => True) (fun _ U o U' => ∃ v L, o = .returned v ∧ Q1u01 v0 h0 n0 v U'.heap L ∧ FrameEnd U o U' L ({ frames := 2, cells := 1, slots := 4, locals := 25 } : Room).cells ({ frames := 2, cells := 1, slots := 4, locals := 25 } : Room).slots) := by
  refine MetFree.of_bodySF (plainFor_of_name pn_1) hisR ?_
  intro p e s m args below meth c s₁ Bd hml0 hP hK
  obtain ⟨rfl, hZ, hh⟩ := hP
  have hx := Bd.exec
  have hby := Bd.bytes
  have hml : c.maxLocals = 7 := hml0
  have hown : s.vm.findClass "com/example/gumzo/gumzo/node/Intake" = some m.cls := findClass_of_methodNamed Bd.named
  have hnm := (name_of_methodNamed Bd.named Bd.method).1
  have X0 : Stand p l e ({ frames := 2, cells := 1, slots := 4, locals := 25 } : Room) s m #[(.int (0 : Int32)), (.int (1 : Int32))] below meth c s₁ [] 0 0 := Stand.of_body Bd
  have e0 : s₁.heap = h0 := by rw [← hh, Bd.state]; rfl
  have N0 := Fr.nil n0
  have pre0 : ∀ t, Steps p.tables e below (s₁.setTop (mkF m 0 #[.val (.int (0 : Int32)), .val (.int (1 : Int32)), .unset, .unset, .unset, .unset, .unset] [])) t → Steps p.tables e below (s₁.setTop (entryFrame m #[(.int (0 : Int32)), (.int (1 : Int32))] 7)) t := fun t k => castTop (ef_1 m (0 : Int32) (1 : Int32)) k
  obtain ⟨_, _, ⟨T3, L3, k3, n3⟩, -, X3, ⟨Lc3, hQ3, l3, y3, z3⟩, st3⟩ := Jvm.LawKit.callS X0 hx (y := (⟨"com/example/gumzo/gumzo/node/Intake", "values", "()[Lcom/example/gumzo/gumzo/node/Intake;"⟩ : MethodName)) hown (mvT hZ (hw _ (List.mem_of_getElem? (i := 6) rfl))) (mvT hZ (hw _ (List.mem_of_getElem? (i := 7) rfl))) (mvT hZ (hw _ (List.mem_of_getElem? (i := 1) rfl))) (mvT hZ (hw _ (List.mem_of_getElem? (i := 8) rfl))) (by decide) (backOf (W := 0) (rm2 l Z a0 hw [] wV cl h0 n0 Z0 SV AV EV FV (Nat.le_of_eq hsz)) hZ (hw _ (List.mem_of_getElem? (i := 8) rfl)) (hw _ (List.mem_of_getElem? (i := 1) rfl)) (by decide) (by decide)) (g := (mkF m 2 #[.val (.int (0 : Int32)), .val (.int (1 : Int32)), .val .null, .unset, .unset, .unset, .unset] [])) rfl (by rw [hml]; rfl) (argsL := []) (rest := []) (lenOf pd_1_1 rfl) rfl (by show 2 * 0 + _ ≤ _; exact Nat.le_of_eq rfl) (hb hby d1_2) (fun _ _ => ⟨rfl, e0, (by decide : 0 + 1 ≤ _), (by decide : 0 + 4 ≤ _)⟩)
  dsimp only [Pt.U, Pt.locs, Pt.cells, Pt.slots] at X3 l3 y3 z3 st3 hQ3
  subst l3 y3 z3
  obtain ⟨b3, rfl, N3q, E3, Ar3⟩ := hQ3
  have SB : (cloneOf cl).slots.size = (4 : Int32).toNatClampNeg := hsz
  have NB : ¬ (4 : Int32) < 0 := by decide
  have gi0 : ¬ ((0 : Int32) < 0 ∨ (cloneOf cl).slots.size ≤ ((0 : Int32)).toNatClampNeg) := by
    have q : (0 : Int32) = (0 : Int32) := by decide
    rw [q]; exact hi0
  have gt0 : (cloneOf cl).slots[((0 : Int32)).toNatClampNeg]? = some (.ref v0) := by
    have q : (0 : Int32) = (0 : Int32) := by decide
    rw [q]; exact ht0
  have gi1 : ¬ (((0 : Int32) + (1 : Int32)) < 0 ∨ (cloneOf cl).slots.size ≤ (((0 : Int32) + (1 : Int32))).toNatClampNeg) := by
    have q : ((0 : Int32) + (1 : Int32)) = (1 : Int32) := by decide
    rw [q]; exact hi1
  have gt1 : (cloneOf cl).slots[(((0 : Int32) + (1 : Int32))).toNatClampNeg]? = some (.ref v1) := by
    have q : ((0 : Int32) + (1 : Int32)) = (1 : Int32) := by decide
    rw [q]; exact ht1
  have gi2 : ¬ ((((0 : Int32) + (1 : Int32)) + (1 : Int32)) < 0 ∨ (cloneOf cl).slots.size ≤ ((((0 : Int32) + (1 : Int32)) + (1 : Int32))).toNatClampNeg) := by
    have q : (((0 : Int32) + (1 : Int32)) + (1 : Int32)) = (2 : Int32) := by decide
    rw [q]; exact hi2
  have gt2 : (cloneOf cl).slots[((((0 : Int32) + (1 : Int32)) + (1 : Int32))).toNatClampNeg]? = some (.ref v2) := by
    have q : (((0 : Int32) + (1 : Int32)) + (1 : Int32)) = (2 : Int32) := by decide
    rw [q]; exact ht2
  have gi3 : ¬ (((((0 : Int32) + (1 : Int32)) + (1 : Int32)) + (1 : Int32)) < 0 ∨ (cloneOf cl).slots.size ≤ (((((0 : Int32) + (1 : Int32)) + (1 : Int32)) + (1 : Int32))).toNatClampNeg) := by
    have q : ((((0 : Int32) + (1 : Int32)) + (1 : Int32)) + (1 : Int32)) = (3 : Int32) := by decide
    rw [q]; exact hi3
  have gt3 : (cloneOf cl).slots[(((((0 : Int32) + (1 : Int32)) + (1 : Int32)) + (1 : Int32))).toNatClampNeg]? = some (.ref v3) := by
    have q : ((((0 : Int32) + (1 : Int32)) + (1 : Int32)) + (1 : Int32)) = (3 : Int32) := by decide
    rw [q]; exact ht3
  have N3 := Fr.app N0 N3q
  obtain ⟨T6, X6, e6, st6⟩ := getF X3 hx hZ hown (host := "") (Or.inl (hw _ (List.mem_of_getElem? (i := 24) rfl))) Via.refl rfl (U0.ext E3) (g := (mkF m 28 #[.val (.int (0 : Int32)), .val (.int (1 : Int32)), .val .null, .val (.ref b3), .val (.int (4 : Int32)), .val (.int (0 : Int32)), .val (.ref v0)] [(.ref v0)])) rfl rfl (hb hby d1_28)
  obtain ⟨T8, X8, e8, st8⟩ := getF X6 hx hZ hown (host := "") (Or.inl (hw _ (List.mem_of_getElem? (i := 26) rfl))) Via.refl e6 (Y0.ext E3) (g := (mkF m 37 #[.val (.int (0 : Int32)), .val (.int (1 : Int32)), .val .null, .val (.ref b3), .val (.int (4 : Int32)), .val (.int (0 : Int32)), .val (.ref v0)] [(.ref v0)])) rfl rfl (hb hby d1_37)
  obtain ⟨T11, X11, e11, st11⟩ := getF X8 hx hZ hown (host := "") (Or.inl (hw _ (List.mem_of_getElem? (i := 24) rfl))) Via.refl e8 (U1.ext E3) (g := (mkF m 28 #[.val (.int (0 : Int32)), .val (.int (1 : Int32)), .val (.ref v0), .val (.ref b3), .val (.int (4 : Int32)), .val (.int ((0 : Int32) + (1 : Int32))), .val (.ref v1)] [(.ref v1)])) rfl rfl (hb hby d1_28)
  obtain ⟨T13, X13, e13, st13⟩ := getF X11 hx hZ hown (host := "") (Or.inl (hw _ (List.mem_of_getElem? (i := 26) rfl))) Via.refl e11 (Y1.ext E3) (g := (mkF m 37 #[.val (.int (0 : Int32)), .val (.int (1 : Int32)), .val (.ref v0), .val (.ref b3), .val (.int (4 : Int32)), .val (.int ((0 : Int32) + (1 : Int32))), .val (.ref v1)] [(.ref v1)])) rfl rfl (hb hby d1_37)
  obtain ⟨T16, X16, e16, st16⟩ := getF X13 hx hZ hown (host := "") (Or.inl (hw _ (List.mem_of_getElem? (i := 24) rfl))) Via.refl e13 (U2.ext E3) (g := (mkF m 28 #[.val (.int (0 : Int32)), .val (.int (1 : Int32)), .val (.ref v0), .val (.ref b3), .val (.int (4 : Int32)), .val (.int (((0 : Int32) + (1 : Int32)) + (1 : Int32))), .val (.ref v2)] [(.ref v2)])) rfl rfl (hb hby d1_28)
  obtain ⟨T19, X19, e19, st19⟩ := getF X16 hx hZ hown (host := "") (Or.inl (hw _ (List.mem_of_getElem? (i := 24) rfl))) Via.refl e16 (U3.ext E3) (g := (mkF m 28 #[.val (.int (0 : Int32)), .val (.int (1 : Int32)), .val (.ref v0), .val (.ref b3), .val (.int (4 : Int32)), .val (.int ((((0 : Int32) + (1 : Int32)) + (1 : Int32)) + (1 : Int32))), .val (.ref v3)] [(.ref v3)])) rfl rfl (hb hby d1_28)
  obtain ⟨fs, hr, hrun, hended, hW, hsame⟩ := X19.leave (v := some (.ref v0)) (fun h => by rw [Bd.returns] at h; cases h)
  refine ⟨_, _, pre0 _ ?_, hrun, hended, _, _, rfl, ?_, ⟨_, rfl⟩, hW, hsame.mono (by decide) (by decide)⟩
  · show Steps p.tables e below (s₁.setTop (mkF m 0 #[.val (.int (0 : Int32)), .val (.int (1 : Int32)), .unset, .unset, .unset, .unset, .unset] [])) _
    refine XS.aconstNull X0.here hx rfl (hb hby d1_0) ?_
    show Steps p.tables e below (s₁.setTop (mkF m 1 #[.val (.int (0 : Int32)), .val (.int (1 : Int32)), .unset, .unset, .unset, .unset, .unset] [.null])) _
    refine XS.astoreN X0.here hx rfl (hb hby d1_1) rfl rfl (l' := #[.val (.int (0 : Int32)), .val (.int (1 : Int32)), .val .null, .unset, .unset, .unset, .unset]) rfl ?_
    show Steps p.tables e below (s₁.setTop (mkF m 2 #[.val (.int (0 : Int32)), .val (.int (1 : Int32)), .val .null, .unset, .unset, .unset, .unset] [])) _
    refine st3 _ ?_
    show Steps p.tables e below (T3.setTop (mkF m 5 #[.val (.int (0 : Int32)), .val (.int (1 : Int32)), .val .null, .unset, .unset, .unset, .unset] [(.ref b3)])) _
    refine XS.astoreN X3.here hx rfl (hb hby d1_5) rfl rfl (l' := #[.val (.int (0 : Int32)), .val (.int (1 : Int32)), .val .null, .val (.ref b3), .unset, .unset, .unset]) rfl ?_
    show Steps p.tables e below (T3.setTop (mkF m 6 #[.val (.int (0 : Int32)), .val (.int (1 : Int32)), .val .null, .val (.ref b3), .unset, .unset, .unset] [])) _
    refine XS.aloadN X3.here hx rfl (hb hby d1_6) rfl rfl ?_
    show Steps p.tables e below (T3.setTop (mkF m 7 #[.val (.int (0 : Int32)), .val (.int (1 : Int32)), .val .null, .val (.ref b3), .unset, .unset, .unset] [(.ref b3)])) _
    refine X3.arraylength hx Ar3.1 (State.isArrayOf_alike hZ.alike Ar3.2.1) (g := (mkF m 7 #[.val (.int (0 : Int32)), .val (.int (1 : Int32)), .val .null, .val (.ref b3), .unset, .unset, .unset] [(.ref b3)])) rfl rfl (hb hby d1_7) _ ?_
    rw [len_of SB NB]
    show Steps p.tables e below (T3.setTop (mkF m 8 #[.val (.int (0 : Int32)), .val (.int (1 : Int32)), .val .null, .val (.ref b3), .unset, .unset, .unset] [(.int (4 : Int32))])) _
    refine XS.istore X3.here hx rfl (hb hby d1_8) rfl (l' := #[.val (.int (0 : Int32)), .val (.int (1 : Int32)), .val .null, .val (.ref b3), .val (.int (4 : Int32)), .unset, .unset]) rfl ?_
    show Steps p.tables e below (T3.setTop (mkF m 10 #[.val (.int (0 : Int32)), .val (.int (1 : Int32)), .val .null, .val (.ref b3), .val (.int (4 : Int32)), .unset, .unset] [])) _
    refine XS.iconst X3.here hx rfl (hb hby d1_10) ?_
    show Steps p.tables e below (T3.setTop (mkF m 11 #[.val (.int (0 : Int32)), .val (.int (1 : Int32)), .val .null, .val (.ref b3), .val (.int (4 : Int32)), .unset, .unset] [(.int (0 : Int32))])) _
    refine XS.istore X3.here hx rfl (hb hby d1_11) rfl (l' := #[.val (.int (0 : Int32)), .val (.int (1 : Int32)), .val .null, .val (.ref b3), .val (.int (4 : Int32)), .val (.int (0 : Int32)), .unset]) rfl ?_
    show Steps p.tables e below (T3.setTop (mkF m 13 #[.val (.int (0 : Int32)), .val (.int (1 : Int32)), .val .null, .val (.ref b3), .val (.int (4 : Int32)), .val (.int (0 : Int32)), .unset] [])) _
    refine XS.iload X3.here hx rfl (hb hby d1_13) rfl ?_
    show Steps p.tables e below (T3.setTop (mkF m 15 #[.val (.int (0 : Int32)), .val (.int (1 : Int32)), .val .null, .val (.ref b3), .val (.int (4 : Int32)), .val (.int (0 : Int32)), .unset] [(.int (0 : Int32))])) _
    refine XS.iload X3.here hx rfl (hb hby d1_15) rfl ?_
    show Steps p.tables e below (T3.setTop (mkF m 17 #[.val (.int (0 : Int32)), .val (.int (1 : Int32)), .val .null, .val (.ref b3), .val (.int (4 : Int32)), .val (.int (0 : Int32)), .unset] [(.int (4 : Int32)), (.int (0 : Int32))])) _
    refine XS.icmpNo X3.here hx rfl (hb hby d1_17) rfl (tlt (by decide : (0 : Int32) < (4 : Int32))).2.1 ?_
    show Steps p.tables e below (T3.setTop (mkF m 20 #[.val (.int (0 : Int32)), .val (.int (1 : Int32)), .val .null, .val (.ref b3), .val (.int (4 : Int32)), .val (.int (0 : Int32)), .unset] [])) _
    refine XS.aloadN X3.here hx rfl (hb hby d1_20) rfl rfl ?_
    show Steps p.tables e below (T3.setTop (mkF m 21 #[.val (.int (0 : Int32)), .val (.int (1 : Int32)), .val .null, .val (.ref b3), .val (.int (4 : Int32)), .val (.int (0 : Int32)), .unset] [(.ref b3)])) _
    refine XS.iload X3.here hx rfl (hb hby d1_21) rfl ?_
    show Steps p.tables e below (T3.setTop (mkF m 23 #[.val (.int (0 : Int32)), .val (.int (1 : Int32)), .val .null, .val (.ref b3), .val (.int (4 : Int32)), .val (.int (0 : Int32)), .unset] [(.int (0 : Int32)), (.ref b3)])) _
    refine X3.aaload hx (j := (0 : Int32)) (v := (.ref v0)) Ar3.1 (State.isArrayOf_alike hZ.alike Ar3.2.1) rfl Ar3.2.2 gi0 gt0 (g := (mkF m 23 #[.val (.int (0 : Int32)), .val (.int (1 : Int32)), .val .null, .val (.ref b3), .val (.int (4 : Int32)), .val (.int (0 : Int32)), .unset] [(.int (0 : Int32)), (.ref b3)])) rfl rfl (hb hby d1_23) _ ?_
    show Steps p.tables e below (T3.setTop (mkF m 24 #[.val (.int (0 : Int32)), .val (.int (1 : Int32)), .val .null, .val (.ref b3), .val (.int (4 : Int32)), .val (.int (0 : Int32)), .unset] [(.ref v0)])) _
    refine XS.astore X3.here hx rfl (hb hby d1_24) rfl rfl (l' := #[.val (.int (0 : Int32)), .val (.int (1 : Int32)), .val .null, .val (.ref b3), .val (.int (4 : Int32)), .val (.int (0 : Int32)), .val (.ref v0)]) rfl ?_
    show Steps p.tables e below (T3.setTop (mkF m 26 #[.val (.int (0 : Int32)), .val (.int (1 : Int32)), .val .null, .val (.ref b3), .val (.int (4 : Int32)), .val (.int (0 : Int32)), .val (.ref v0)] [])) _
    refine XS.aload X3.here hx rfl (hb hby d1_26) rfl rfl ?_
    show Steps p.tables e below (T3.setTop (mkF m 28 #[.val (.int (0 : Int32)), .val (.int (1 : Int32)), .val .null, .val (.ref b3), .val (.int (4 : Int32)), .val (.int (0 : Int32)), .val (.ref v0)] [(.ref v0)])) _
    refine st6 _ ?_
    show Steps p.tables e below (T6.setTop (mkF m 31 #[.val (.int (0 : Int32)), .val (.int (1 : Int32)), .val .null, .val (.ref b3), .val (.int (4 : Int32)), .val (.int (0 : Int32)), .val (.ref v0)] [(.int (0 : Int32))])) _
    refine XS.iloadN X6.here hx rfl (hb hby d1_31) rfl ?_
    show Steps p.tables e below (T6.setTop (mkF m 32 #[.val (.int (0 : Int32)), .val (.int (1 : Int32)), .val .null, .val (.ref b3), .val (.int (4 : Int32)), .val (.int (0 : Int32)), .val (.ref v0)] [(.int (0 : Int32)), (.int (0 : Int32))])) _
    refine XS.icmpNo X6.here hx rfl (hb hby d1_32) rfl (teq rfl).2 ?_
    show Steps p.tables e below (T6.setTop (mkF m 35 #[.val (.int (0 : Int32)), .val (.int (1 : Int32)), .val .null, .val (.ref b3), .val (.int (4 : Int32)), .val (.int (0 : Int32)), .val (.ref v0)] [])) _
    refine XS.aload X6.here hx rfl (hb hby d1_35) rfl rfl ?_
    show Steps p.tables e below (T6.setTop (mkF m 37 #[.val (.int (0 : Int32)), .val (.int (1 : Int32)), .val .null, .val (.ref b3), .val (.int (4 : Int32)), .val (.int (0 : Int32)), .val (.ref v0)] [(.ref v0)])) _
    refine st8 _ ?_
    show Steps p.tables e below (T8.setTop (mkF m 40 #[.val (.int (0 : Int32)), .val (.int (1 : Int32)), .val .null, .val (.ref b3), .val (.int (4 : Int32)), .val (.int (0 : Int32)), .val (.ref v0)] [(.int (1 : Int32))])) _
    refine XS.iloadN X8.here hx rfl (hb hby d1_40) rfl ?_
    show Steps p.tables e below (T8.setTop (mkF m 41 #[.val (.int (0 : Int32)), .val (.int (1 : Int32)), .val .null, .val (.ref b3), .val (.int (4 : Int32)), .val (.int (0 : Int32)), .val (.ref v0)] [(.int (1 : Int32)), (.int (1 : Int32))])) _
    refine XS.icmpNo X8.here hx rfl (hb hby d1_41) rfl (teq rfl).2 ?_
    show Steps p.tables e below (T8.setTop (mkF m 44 #[.val (.int (0 : Int32)), .val (.int (1 : Int32)), .val .null, .val (.ref b3), .val (.int (4 : Int32)), .val (.int (0 : Int32)), .val (.ref v0)] [])) _
    refine XS.aload X8.here hx rfl (hb hby d1_44) rfl rfl ?_
    show Steps p.tables e below (T8.setTop (mkF m 46 #[.val (.int (0 : Int32)), .val (.int (1 : Int32)), .val .null, .val (.ref b3), .val (.int (4 : Int32)), .val (.int (0 : Int32)), .val (.ref v0)] [(.ref v0)])) _
    refine XS.astoreN X8.here hx rfl (hb hby d1_46) rfl rfl (l' := #[.val (.int (0 : Int32)), .val (.int (1 : Int32)), .val (.ref v0), .val (.ref b3), .val (.int (4 : Int32)), .val (.int (0 : Int32)), .val (.ref v0)]) rfl ?_
    show Steps p.tables e below (T8.setTop (mkF m 47 #[.val (.int (0 : Int32)), .val (.int (1 : Int32)), .val (.ref v0), .val (.ref b3), .val (.int (4 : Int32)), .val (.int (0 : Int32)), .val (.ref v0)] [])) _
    refine XS.iinc X8.here hx rfl (hb hby d1_47) rfl (l' := #[.val (.int (0 : Int32)), .val (.int (1 : Int32)), .val (.ref v0), .val (.ref b3), .val (.int (4 : Int32)), .val (.int ((0 : Int32) + (1 : Int32))), .val (.ref v0)]) rfl ?_
    show Steps p.tables e below (T8.setTop (mkF m 50 #[.val (.int (0 : Int32)), .val (.int (1 : Int32)), .val (.ref v0), .val (.ref b3), .val (.int (4 : Int32)), .val (.int ((0 : Int32) + (1 : Int32))), .val (.ref v0)] [])) _
    refine XS.goto X8.here hx rfl (pc0 := 50) (pc' := 13) rfl (hb hby d1_50) (by decide) (by decide) ?_
    show Steps p.tables e below (T8.setTop (mkF m 13 #[.val (.int (0 : Int32)), .val (.int (1 : Int32)), .val (.ref v0), .val (.ref b3), .val (.int (4 : Int32)), .val (.int ((0 : Int32) + (1 : Int32))), .val (.ref v0)] [])) _
    refine XS.iload X8.here hx rfl (hb hby d1_13) rfl ?_
    show Steps p.tables e below (T8.setTop (mkF m 15 #[.val (.int (0 : Int32)), .val (.int (1 : Int32)), .val (.ref v0), .val (.ref b3), .val (.int (4 : Int32)), .val (.int ((0 : Int32) + (1 : Int32))), .val (.ref v0)] [(.int ((0 : Int32) + (1 : Int32)))])) _
    refine XS.iload X8.here hx rfl (hb hby d1_15) rfl ?_
    show Steps p.tables e below (T8.setTop (mkF m 17 #[.val (.int (0 : Int32)), .val (.int (1 : Int32)), .val (.ref v0), .val (.ref b3), .val (.int (4 : Int32)), .val (.int ((0 : Int32) + (1 : Int32))), .val (.ref v0)] [(.int (4 : Int32)), (.int ((0 : Int32) + (1 : Int32)))])) _
    refine XS.icmpNo X8.here hx rfl (hb hby d1_17) rfl (tlt (by decide : ((0 : Int32) + (1 : Int32)) < (4 : Int32))).2.1 ?_
    show Steps p.tables e below (T8.setTop (mkF m 20 #[.val (.int (0 : Int32)), .val (.int (1 : Int32)), .val (.ref v0), .val (.ref b3), .val (.int (4 : Int32)), .val (.int ((0 : Int32) + (1 : Int32))), .val (.ref v0)] [])) _
    refine XS.aloadN X8.here hx rfl (hb hby d1_20) rfl rfl ?_
    show Steps p.tables e below (T8.setTop (mkF m 21 #[.val (.int (0 : Int32)), .val (.int (1 : Int32)), .val (.ref v0), .val (.ref b3), .val (.int (4 : Int32)), .val (.int ((0 : Int32) + (1 : Int32))), .val (.ref v0)] [(.ref b3)])) _
    refine XS.iload X8.here hx rfl (hb hby d1_21) rfl ?_
    show Steps p.tables e below (T8.setTop (mkF m 23 #[.val (.int (0 : Int32)), .val (.int (1 : Int32)), .val (.ref v0), .val (.ref b3), .val (.int (4 : Int32)), .val (.int ((0 : Int32) + (1 : Int32))), .val (.ref v0)] [(.int ((0 : Int32) + (1 : Int32))), (.ref b3)])) _
    refine X8.aaload hx (j := ((0 : Int32) + (1 : Int32))) (v := (.ref v1)) (by rw [e8]; exact Ar3.1) (State.isArrayOf_alike hZ.alike Ar3.2.1) rfl Ar3.2.2 gi1 gt1 (g := (mkF m 23 #[.val (.int (0 : Int32)), .val (.int (1 : Int32)), .val (.ref v0), .val (.ref b3), .val (.int (4 : Int32)), .val (.int ((0 : Int32) + (1 : Int32))), .val (.ref v0)] [(.int ((0 : Int32) + (1 : Int32))), (.ref b3)])) rfl rfl (hb hby d1_23) _ ?_
    show Steps p.tables e below (T8.setTop (mkF m 24 #[.val (.int (0 : Int32)), .val (.int (1 : Int32)), .val (.ref v0), .val (.ref b3), .val (.int (4 : Int32)), .val (.int ((0 : Int32) + (1 : Int32))), .val (.ref v0)] [(.ref v1)])) _
    refine XS.astore X8.here hx rfl (hb hby d1_24) rfl rfl (l' := #[.val (.int (0 : Int32)), .val (.int (1 : Int32)), .val (.ref v0), .val (.ref b3), .val (.int (4 : Int32)), .val (.int ((0 : Int32) + (1 : Int32))), .val (.ref v1)]) rfl ?_
    show Steps p.tables e below (T8.setTop (mkF m 26 #[.val (.int (0 : Int32)), .val (.int (1 : Int32)), .val (.ref v0), .val (.ref b3), .val (.int (4 : Int32)), .val (.int ((0 : Int32) + (1 : Int32))), .val (.ref v1)] [])) _
    refine XS.aload X8.here hx rfl (hb hby d1_26) rfl rfl ?_
    show Steps p.tables e below (T8.setTop (mkF m 28 #[.val (.int (0 : Int32)), .val (.int (1 : Int32)), .val (.ref v0), .val (.ref b3), .val (.int (4 : Int32)), .val (.int ((0 : Int32) + (1 : Int32))), .val (.ref v1)] [(.ref v1)])) _
    refine st11 _ ?_
    show Steps p.tables e below (T11.setTop (mkF m 31 #[.val (.int (0 : Int32)), .val (.int (1 : Int32)), .val (.ref v0), .val (.ref b3), .val (.int (4 : Int32)), .val (.int ((0 : Int32) + (1 : Int32))), .val (.ref v1)] [(.int (0 : Int32))])) _
    refine XS.iloadN X11.here hx rfl (hb hby d1_31) rfl ?_
    show Steps p.tables e below (T11.setTop (mkF m 32 #[.val (.int (0 : Int32)), .val (.int (1 : Int32)), .val (.ref v0), .val (.ref b3), .val (.int (4 : Int32)), .val (.int ((0 : Int32) + (1 : Int32))), .val (.ref v1)] [(.int (0 : Int32)), (.int (0 : Int32))])) _
    refine XS.icmpNo X11.here hx rfl (hb hby d1_32) rfl (teq rfl).2 ?_
    show Steps p.tables e below (T11.setTop (mkF m 35 #[.val (.int (0 : Int32)), .val (.int (1 : Int32)), .val (.ref v0), .val (.ref b3), .val (.int (4 : Int32)), .val (.int ((0 : Int32) + (1 : Int32))), .val (.ref v1)] [])) _
    refine XS.aload X11.here hx rfl (hb hby d1_35) rfl rfl ?_
    show Steps p.tables e below (T11.setTop (mkF m 37 #[.val (.int (0 : Int32)), .val (.int (1 : Int32)), .val (.ref v0), .val (.ref b3), .val (.int (4 : Int32)), .val (.int ((0 : Int32) + (1 : Int32))), .val (.ref v1)] [(.ref v1)])) _
    refine st13 _ ?_
    show Steps p.tables e below (T13.setTop (mkF m 40 #[.val (.int (0 : Int32)), .val (.int (1 : Int32)), .val (.ref v0), .val (.ref b3), .val (.int (4 : Int32)), .val (.int ((0 : Int32) + (1 : Int32))), .val (.ref v1)] [(.int (0 : Int32))])) _
    refine XS.iloadN X13.here hx rfl (hb hby d1_40) rfl ?_
    show Steps p.tables e below (T13.setTop (mkF m 41 #[.val (.int (0 : Int32)), .val (.int (1 : Int32)), .val (.ref v0), .val (.ref b3), .val (.int (4 : Int32)), .val (.int ((0 : Int32) + (1 : Int32))), .val (.ref v1)] [(.int (1 : Int32)), (.int (0 : Int32))])) _
    refine XS.icmpYes X13.here hx rfl (pc0 := 41) (pc' := 47) rfl (hb hby d1_41) rfl (feq (by decide)).2 (by decide) (by decide) ?_
    show Steps p.tables e below (T13.setTop (mkF m 47 #[.val (.int (0 : Int32)), .val (.int (1 : Int32)), .val (.ref v0), .val (.ref b3), .val (.int (4 : Int32)), .val (.int ((0 : Int32) + (1 : Int32))), .val (.ref v1)] [])) _
    refine XS.iinc X13.here hx rfl (hb hby d1_47) rfl (l' := #[.val (.int (0 : Int32)), .val (.int (1 : Int32)), .val (.ref v0), .val (.ref b3), .val (.int (4 : Int32)), .val (.int (((0 : Int32) + (1 : Int32)) + (1 : Int32))), .val (.ref v1)]) rfl ?_
    show Steps p.tables e below (T13.setTop (mkF m 50 #[.val (.int (0 : Int32)), .val (.int (1 : Int32)), .val (.ref v0), .val (.ref b3), .val (.int (4 : Int32)), .val (.int (((0 : Int32) + (1 : Int32)) + (1 : Int32))), .val (.ref v1)] [])) _
    refine XS.goto X13.here hx rfl (pc0 := 50) (pc' := 13) rfl (hb hby d1_50) (by decide) (by decide) ?_
    show Steps p.tables e below (T13.setTop (mkF m 13 #[.val (.int (0 : Int32)), .val (.int (1 : Int32)), .val (.ref v0), .val (.ref b3), .val (.int (4 : Int32)), .val (.int (((0 : Int32) + (1 : Int32)) + (1 : Int32))), .val (.ref v1)] [])) _
    refine XS.iload X13.here hx rfl (hb hby d1_13) rfl ?_
    show Steps p.tables e below (T13.setTop (mkF m 15 #[.val (.int (0 : Int32)), .val (.int (1 : Int32)), .val (.ref v0), .val (.ref b3), .val (.int (4 : Int32)), .val (.int (((0 : Int32) + (1 : Int32)) + (1 : Int32))), .val (.ref v1)] [(.int (((0 : Int32) + (1 : Int32)) + (1 : Int32)))])) _
    refine XS.iload X13.here hx rfl (hb hby d1_15) rfl ?_
    show Steps p.tables e below (T13.setTop (mkF m 17 #[.val (.int (0 : Int32)), .val (.int (1 : Int32)), .val (.ref v0), .val (.ref b3), .val (.int (4 : Int32)), .val (.int (((0 : Int32) + (1 : Int32)) + (1 : Int32))), .val (.ref v1)] [(.int (4 : Int32)), (.int (((0 : Int32) + (1 : Int32)) + (1 : Int32)))])) _
    refine XS.icmpNo X13.here hx rfl (hb hby d1_17) rfl (tlt (by decide : (((0 : Int32) + (1 : Int32)) + (1 : Int32)) < (4 : Int32))).2.1 ?_
    show Steps p.tables e below (T13.setTop (mkF m 20 #[.val (.int (0 : Int32)), .val (.int (1 : Int32)), .val (.ref v0), .val (.ref b3), .val (.int (4 : Int32)), .val (.int (((0 : Int32) + (1 : Int32)) + (1 : Int32))), .val (.ref v1)] [])) _
    refine XS.aloadN X13.here hx rfl (hb hby d1_20) rfl rfl ?_
    show Steps p.tables e below (T13.setTop (mkF m 21 #[.val (.int (0 : Int32)), .val (.int (1 : Int32)), .val (.ref v0), .val (.ref b3), .val (.int (4 : Int32)), .val (.int (((0 : Int32) + (1 : Int32)) + (1 : Int32))), .val (.ref v1)] [(.ref b3)])) _
    refine XS.iload X13.here hx rfl (hb hby d1_21) rfl ?_
    show Steps p.tables e below (T13.setTop (mkF m 23 #[.val (.int (0 : Int32)), .val (.int (1 : Int32)), .val (.ref v0), .val (.ref b3), .val (.int (4 : Int32)), .val (.int (((0 : Int32) + (1 : Int32)) + (1 : Int32))), .val (.ref v1)] [(.int (((0 : Int32) + (1 : Int32)) + (1 : Int32))), (.ref b3)])) _
    refine X13.aaload hx (j := (((0 : Int32) + (1 : Int32)) + (1 : Int32))) (v := (.ref v2)) (by rw [e13]; exact Ar3.1) (State.isArrayOf_alike hZ.alike Ar3.2.1) rfl Ar3.2.2 gi2 gt2 (g := (mkF m 23 #[.val (.int (0 : Int32)), .val (.int (1 : Int32)), .val (.ref v0), .val (.ref b3), .val (.int (4 : Int32)), .val (.int (((0 : Int32) + (1 : Int32)) + (1 : Int32))), .val (.ref v1)] [(.int (((0 : Int32) + (1 : Int32)) + (1 : Int32))), (.ref b3)])) rfl rfl (hb hby d1_23) _ ?_
    show Steps p.tables e below (T13.setTop (mkF m 24 #[.val (.int (0 : Int32)), .val (.int (1 : Int32)), .val (.ref v0), .val (.ref b3), .val (.int (4 : Int32)), .val (.int (((0 : Int32) + (1 : Int32)) + (1 : Int32))), .val (.ref v1)] [(.ref v2)])) _
    refine XS.astore X13.here hx rfl (hb hby d1_24) rfl rfl (l' := #[.val (.int (0 : Int32)), .val (.int (1 : Int32)), .val (.ref v0), .val (.ref b3), .val (.int (4 : Int32)), .val (.int (((0 : Int32) + (1 : Int32)) + (1 : Int32))), .val (.ref v2)]) rfl ?_
    show Steps p.tables e below (T13.setTop (mkF m 26 #[.val (.int (0 : Int32)), .val (.int (1 : Int32)), .val (.ref v0), .val (.ref b3), .val (.int (4 : Int32)), .val (.int (((0 : Int32) + (1 : Int32)) + (1 : Int32))), .val (.ref v2)] [])) _
    refine XS.aload X13.here hx rfl (hb hby d1_26) rfl rfl ?_
    show Steps p.tables e below (T13.setTop (mkF m 28 #[.val (.int (0 : Int32)), .val (.int (1 : Int32)), .val (.ref v0), .val (.ref b3), .val (.int (4 : Int32)), .val (.int (((0 : Int32) + (1 : Int32)) + (1 : Int32))), .val (.ref v2)] [(.ref v2)])) _
    refine st16 _ ?_
    show Steps p.tables e below (T16.setTop (mkF m 31 #[.val (.int (0 : Int32)), .val (.int (1 : Int32)), .val (.ref v0), .val (.ref b3), .val (.int (4 : Int32)), .val (.int (((0 : Int32) + (1 : Int32)) + (1 : Int32))), .val (.ref v2)] [(.int (1 : Int32))])) _
    refine XS.iloadN X16.here hx rfl (hb hby d1_31) rfl ?_
    show Steps p.tables e below (T16.setTop (mkF m 32 #[.val (.int (0 : Int32)), .val (.int (1 : Int32)), .val (.ref v0), .val (.ref b3), .val (.int (4 : Int32)), .val (.int (((0 : Int32) + (1 : Int32)) + (1 : Int32))), .val (.ref v2)] [(.int (0 : Int32)), (.int (1 : Int32))])) _
    refine XS.icmpYes X16.here hx rfl (pc0 := 32) (pc' := 47) rfl (hb hby d1_32) rfl (feq (by decide)).2 (by decide) (by decide) ?_
    show Steps p.tables e below (T16.setTop (mkF m 47 #[.val (.int (0 : Int32)), .val (.int (1 : Int32)), .val (.ref v0), .val (.ref b3), .val (.int (4 : Int32)), .val (.int (((0 : Int32) + (1 : Int32)) + (1 : Int32))), .val (.ref v2)] [])) _
    refine XS.iinc X16.here hx rfl (hb hby d1_47) rfl (l' := #[.val (.int (0 : Int32)), .val (.int (1 : Int32)), .val (.ref v0), .val (.ref b3), .val (.int (4 : Int32)), .val (.int ((((0 : Int32) + (1 : Int32)) + (1 : Int32)) + (1 : Int32))), .val (.ref v2)]) rfl ?_
    show Steps p.tables e below (T16.setTop (mkF m 50 #[.val (.int (0 : Int32)), .val (.int (1 : Int32)), .val (.ref v0), .val (.ref b3), .val (.int (4 : Int32)), .val (.int ((((0 : Int32) + (1 : Int32)) + (1 : Int32)) + (1 : Int32))), .val (.ref v2)] [])) _
    refine XS.goto X16.here hx rfl (pc0 := 50) (pc' := 13) rfl (hb hby d1_50) (by decide) (by decide) ?_
    show Steps p.tables e below (T16.setTop (mkF m 13 #[.val (.int (0 : Int32)), .val (.int (1 : Int32)), .val (.ref v0), .val (.ref b3), .val (.int (4 : Int32)), .val (.int ((((0 : Int32) + (1 : Int32)) + (1 : Int32)) + (1 : Int32))), .val (.ref v2)] [])) _
    refine XS.iload X16.here hx rfl (hb hby d1_13) rfl ?_
    show Steps p.tables e below (T16.setTop (mkF m 15 #[.val (.int (0 : Int32)), .val (.int (1 : Int32)), .val (.ref v0), .val (.ref b3), .val (.int (4 : Int32)), .val (.int ((((0 : Int32) + (1 : Int32)) + (1 : Int32)) + (1 : Int32))), .val (.ref v2)] [(.int ((((0 : Int32) + (1 : Int32)) + (1 : Int32)) + (1 : Int32)))])) _
    refine XS.iload X16.here hx rfl (hb hby d1_15) rfl ?_
    show Steps p.tables e below (T16.setTop (mkF m 17 #[.val (.int (0 : Int32)), .val (.int (1 : Int32)), .val (.ref v0), .val (.ref b3), .val (.int (4 : Int32)), .val (.int ((((0 : Int32) + (1 : Int32)) + (1 : Int32)) + (1 : Int32))), .val (.ref v2)] [(.int (4 : Int32)), (.int ((((0 : Int32) + (1 : Int32)) + (1 : Int32)) + (1 : Int32)))])) _
    refine XS.icmpNo X16.here hx rfl (hb hby d1_17) rfl (tlt (by decide : ((((0 : Int32) + (1 : Int32)) + (1 : Int32)) + (1 : Int32)) < (4 : Int32))).2.1 ?_
    show Steps p.tables e below (T16.setTop (mkF m 20 #[.val (.int (0 : Int32)), .val (.int (1 : Int32)), .val (.ref v0), .val (.ref b3), .val (.int (4 : Int32)), .val (.int ((((0 : Int32) + (1 : Int32)) + (1 : Int32)) + (1 : Int32))), .val (.ref v2)] [])) _
    refine XS.aloadN X16.here hx rfl (hb hby d1_20) rfl rfl ?_
    show Steps p.tables e below (T16.setTop (mkF m 21 #[.val (.int (0 : Int32)), .val (.int (1 : Int32)), .val (.ref v0), .val (.ref b3), .val (.int (4 : Int32)), .val (.int ((((0 : Int32) + (1 : Int32)) + (1 : Int32)) + (1 : Int32))), .val (.ref v2)] [(.ref b3)])) _
    refine XS.iload X16.here hx rfl (hb hby d1_21) rfl ?_
    show Steps p.tables e below (T16.setTop (mkF m 23 #[.val (.int (0 : Int32)), .val (.int (1 : Int32)), .val (.ref v0), .val (.ref b3), .val (.int (4 : Int32)), .val (.int ((((0 : Int32) + (1 : Int32)) + (1 : Int32)) + (1 : Int32))), .val (.ref v2)] [(.int ((((0 : Int32) + (1 : Int32)) + (1 : Int32)) + (1 : Int32))), (.ref b3)])) _
    refine X16.aaload hx (j := ((((0 : Int32) + (1 : Int32)) + (1 : Int32)) + (1 : Int32))) (v := (.ref v3)) (by rw [e16]; exact Ar3.1) (State.isArrayOf_alike hZ.alike Ar3.2.1) rfl Ar3.2.2 gi3 gt3 (g := (mkF m 23 #[.val (.int (0 : Int32)), .val (.int (1 : Int32)), .val (.ref v0), .val (.ref b3), .val (.int (4 : Int32)), .val (.int ((((0 : Int32) + (1 : Int32)) + (1 : Int32)) + (1 : Int32))), .val (.ref v2)] [(.int ((((0 : Int32) + (1 : Int32)) + (1 : Int32)) + (1 : Int32))), (.ref b3)])) rfl rfl (hb hby d1_23) _ ?_
    show Steps p.tables e below (T16.setTop (mkF m 24 #[.val (.int (0 : Int32)), .val (.int (1 : Int32)), .val (.ref v0), .val (.ref b3), .val (.int (4 : Int32)), .val (.int ((((0 : Int32) + (1 : Int32)) + (1 : Int32)) + (1 : Int32))), .val (.ref v2)] [(.ref v3)])) _
    refine XS.astore X16.here hx rfl (hb hby d1_24) rfl rfl (l' := #[.val (.int (0 : Int32)), .val (.int (1 : Int32)), .val (.ref v0), .val (.ref b3), .val (.int (4 : Int32)), .val (.int ((((0 : Int32) + (1 : Int32)) + (1 : Int32)) + (1 : Int32))), .val (.ref v3)]) rfl ?_
    show Steps p.tables e below (T16.setTop (mkF m 26 #[.val (.int (0 : Int32)), .val (.int (1 : Int32)), .val (.ref v0), .val (.ref b3), .val (.int (4 : Int32)), .val (.int ((((0 : Int32) + (1 : Int32)) + (1 : Int32)) + (1 : Int32))), .val (.ref v3)] [])) _
    refine XS.aload X16.here hx rfl (hb hby d1_26) rfl rfl ?_
    show Steps p.tables e below (T16.setTop (mkF m 28 #[.val (.int (0 : Int32)), .val (.int (1 : Int32)), .val (.ref v0), .val (.ref b3), .val (.int (4 : Int32)), .val (.int ((((0 : Int32) + (1 : Int32)) + (1 : Int32)) + (1 : Int32))), .val (.ref v3)] [(.ref v3)])) _
    refine st19 _ ?_
    show Steps p.tables e below (T19.setTop (mkF m 31 #[.val (.int (0 : Int32)), .val (.int (1 : Int32)), .val (.ref v0), .val (.ref b3), .val (.int (4 : Int32)), .val (.int ((((0 : Int32) + (1 : Int32)) + (1 : Int32)) + (1 : Int32))), .val (.ref v3)] [(.int (1 : Int32))])) _
    refine XS.iloadN X19.here hx rfl (hb hby d1_31) rfl ?_
    show Steps p.tables e below (T19.setTop (mkF m 32 #[.val (.int (0 : Int32)), .val (.int (1 : Int32)), .val (.ref v0), .val (.ref b3), .val (.int (4 : Int32)), .val (.int ((((0 : Int32) + (1 : Int32)) + (1 : Int32)) + (1 : Int32))), .val (.ref v3)] [(.int (0 : Int32)), (.int (1 : Int32))])) _
    refine XS.icmpYes X19.here hx rfl (pc0 := 32) (pc' := 47) rfl (hb hby d1_32) rfl (feq (by decide)).2 (by decide) (by decide) ?_
    show Steps p.tables e below (T19.setTop (mkF m 47 #[.val (.int (0 : Int32)), .val (.int (1 : Int32)), .val (.ref v0), .val (.ref b3), .val (.int (4 : Int32)), .val (.int ((((0 : Int32) + (1 : Int32)) + (1 : Int32)) + (1 : Int32))), .val (.ref v3)] [])) _
    refine XS.iinc X19.here hx rfl (hb hby d1_47) rfl (l' := #[.val (.int (0 : Int32)), .val (.int (1 : Int32)), .val (.ref v0), .val (.ref b3), .val (.int (4 : Int32)), .val (.int (((((0 : Int32) + (1 : Int32)) + (1 : Int32)) + (1 : Int32)) + (1 : Int32))), .val (.ref v3)]) rfl ?_
    show Steps p.tables e below (T19.setTop (mkF m 50 #[.val (.int (0 : Int32)), .val (.int (1 : Int32)), .val (.ref v0), .val (.ref b3), .val (.int (4 : Int32)), .val (.int (((((0 : Int32) + (1 : Int32)) + (1 : Int32)) + (1 : Int32)) + (1 : Int32))), .val (.ref v3)] [])) _
    refine XS.goto X19.here hx rfl (pc0 := 50) (pc' := 13) rfl (hb hby d1_50) (by decide) (by decide) ?_
    show Steps p.tables e below (T19.setTop (mkF m 13 #[.val (.int (0 : Int32)), .val (.int (1 : Int32)), .val (.ref v0), .val (.ref b3), .val (.int (4 : Int32)), .val (.int (((((0 : Int32) + (1 : Int32)) + (1 : Int32)) + (1 : Int32)) + (1 : Int32))), .val (.ref v3)] [])) _
    refine XS.iload X19.here hx rfl (hb hby d1_13) rfl ?_
    show Steps p.tables e below (T19.setTop (mkF m 15 #[.val (.int (0 : Int32)), .val (.int (1 : Int32)), .val (.ref v0), .val (.ref b3), .val (.int (4 : Int32)), .val (.int (((((0 : Int32) + (1 : Int32)) + (1 : Int32)) + (1 : Int32)) + (1 : Int32))), .val (.ref v3)] [(.int (((((0 : Int32) + (1 : Int32)) + (1 : Int32)) + (1 : Int32)) + (1 : Int32)))])) _
    refine XS.iload X19.here hx rfl (hb hby d1_15) rfl ?_
    show Steps p.tables e below (T19.setTop (mkF m 17 #[.val (.int (0 : Int32)), .val (.int (1 : Int32)), .val (.ref v0), .val (.ref b3), .val (.int (4 : Int32)), .val (.int (((((0 : Int32) + (1 : Int32)) + (1 : Int32)) + (1 : Int32)) + (1 : Int32))), .val (.ref v3)] [(.int (4 : Int32)), (.int (((((0 : Int32) + (1 : Int32)) + (1 : Int32)) + (1 : Int32)) + (1 : Int32)))])) _
    refine XS.icmpYes X19.here hx rfl (pc0 := 17) (pc' := 53) rfl (hb hby d1_17) rfl (flt (by decide : ¬ ((((((0 : Int32) + (1 : Int32)) + (1 : Int32)) + (1 : Int32)) + (1 : Int32)) < (4 : Int32)))).2.1 (by decide) (by decide) ?_
    show Steps p.tables e below (T19.setTop (mkF m 53 #[.val (.int (0 : Int32)), .val (.int (1 : Int32)), .val (.ref v0), .val (.ref b3), .val (.int (4 : Int32)), .val (.int (((((0 : Int32) + (1 : Int32)) + (1 : Int32)) + (1 : Int32)) + (1 : Int32))), .val (.ref v3)] [])) _
    refine XS.aloadN X19.here hx rfl (hb hby d1_53) rfl rfl ?_
    show Steps p.tables e below (T19.setTop (mkF m 54 #[.val (.int (0 : Int32)), .val (.int (1 : Int32)), .val (.ref v0), .val (.ref b3), .val (.int (4 : Int32)), .val (.int (((((0 : Int32) + (1 : Int32)) + (1 : Int32)) + (1 : Int32)) + (1 : Int32))), .val (.ref v3)] [(.ref v0)])) _
    jvm_step X19.here [X19.here.top, hx, (hb hby d1_54), X19.method', Bd.returns, Value.isRef, FieldType.isReference]
    first | (intro acts; rw [hr _ acts rfl rfl rfl]) | rw [hr _ _ rfl rfl rfl]
    exact Steps.refl _
  · show Q1u01 v0 h0 n0 _ T19.heap _
    rw [e19]
    exact ⟨rfl, N3, E3⟩
def Q1u10 (v3 : Addr) (h0 : Heap) (n0 : Nat) (v : Option Value) (h : Heap) (L : List Loc) : Prop := v = some (.ref v3) ∧ Fr n0 L ∧ Ext h0 h
set_option maxRecDepth 65536 in
set_option maxHeartbeats 40000000 in
theorem rm1u10 (l : Launch) (Z : State) (a0 : Array Value) (hw : ∀ d ∈ tables_1, d.before a0 Z = true) (ws : List Jvm.Cond) (v0 : Addr) (v1 : Addr) (v2 : Addr) (v3 : Addr) (wV : Addr) (cl : Cell) (h0 : Heap) (n0 : Nat) (Z0 : n0 ≤ h0.size) (SV : Sta Z h0 "com/example/gumzo/gumzo/node/Intake" "$VALUES" "[Lcom/example/gumzo/gumzo/node/Intake;" (.ref wV)) (AV : Arr Z h0 wV cl (.object "com/example/gumzo/gumzo/node/Intake")) (EV : Exa Z h0 wV "[Lcom/example/gumzo/gumzo/node/Intake;") (FV : FitC Z cl) (hsz : cl.slots.size = 4) (hi0 : ¬ ((0 : Int32) < 0 ∨ cl.slots.size ≤ ((0 : Int32)).toNatClampNeg)) (ht0 : cl.slots[((0 : Int32)).toNatClampNeg]? = some (.ref v0)) (U0 : Fld Z h0 v0 "com/example/gumzo/gumzo/node/Intake" "untilRefused" "Z" (.int (0 : Int32))) (Y0 : Fld Z h0 v0 "com/example/gumzo/gumzo/node/Intake" "synced" "Z" (.int (1 : Int32))) (hi1 : ¬ ((1 : Int32) < 0 ∨ cl.slots.size ≤ ((1 : Int32)).toNatClampNeg)) (ht1 : cl.slots[((1 : Int32)).toNatClampNeg]? = some (.ref v1)) (U1 : Fld Z h0 v1 "com/example/gumzo/gumzo/node/Intake" "untilRefused" "Z" (.int (0 : Int32))) (Y1 : Fld Z h0 v1 "com/example/gumzo/gumzo/node/Intake" "synced" "Z" (.int (0 : Int32))) (hi2 : ¬ ((2 : Int32) < 0 ∨ cl.slots.size ≤ ((2 : Int32)).toNatClampNeg)) (ht2 : cl.slots[((2 : Int32)).toNatClampNeg]? = some (.ref v2)) (U2 : Fld Z h0 v2 "com/example/gumzo/gumzo/node/Intake" "untilRefused" "Z" (.int (1 : Int32))) (Y2 : Fld Z h0 v2 "com/example/gumzo/gumzo/node/Intake" "synced" "Z" (.int (1 : Int32))) (hi3 : ¬ ((3 : Int32) < 0 ∨ cl.slots.size ≤ ((3 : Int32)).toNatClampNeg)) (ht3 : cl.slots[((3 : Int32)).toNatClampNeg]? = some (.ref v3)) (U3 : Fld Z h0 v3 "com/example/gumzo/gumzo/node/Intake" "untilRefused" "Z" (.int (1 : Int32))) (Y3 : Fld Z h0 v3 "com/example/gumzo/gumzo/node/Intake" "synced" "Z" (.int (0 : Int32))) :
    MetFree l (⟨"com/example/gumzo/gumzo/node/Intake", "of", "(ZZ)Lcom/example/gumzo/gumzo/node/Intake;"⟩ : MethodName) (head1 (Jvm.Cond.code (⟨"com/example/gumzo/gumzo/node/Intake", "of", "(ZZ)Lcom/example/gumzo/gumzo/node/Intake;"⟩ : MethodName) prog_16_method_4_code 7 (some (.object "com/example/gumzo/gumzo/node/Intake")) :: ws) ({ frames := 2, cells := 1, slots := 4, locals := 25 } : Room)) (fun a U => a = #[(.int (1 : Int32)), (.int (0 : Int32))] ∧ Z.Warmed39 U.vm ∧ U.heap = h0) (fun _ _ _ _ _ => True) (fun _ U o U' => ∃ v L, o = .returned v ∧ Q1u10 v3 h0 n0 v U'.heap L ∧ FrameEnd U o U' L ({ frames := 2, cells := 1, slots := 4, locals := 25 } : Room).cells ({ frames := 2, cells := 1, slots := 4, locals := 25 } : Room).slots) := by
  refine MetFree.of_bodySF (plainFor_of_name pn_1) hisR ?_
  intro p e s m args below meth c s₁ Bd hml0 hP hK
  obtain ⟨rfl, hZ, hh⟩ := hP
  have hx := Bd.exec
  have hby := Bd.bytes
  have hml : c.maxLocals = 7 := hml0
  have hown : s.vm.findClass "com/example/gumzo/gumzo/node/Intake" = some m.cls := findClass_of_methodNamed Bd.named
  have hnm := (name_of_methodNamed Bd.named Bd.method).1
  have X0 : Stand p l e ({ frames := 2, cells := 1, slots := 4, locals := 25 } : Room) s m #[(.int (1 : Int32)), (.int (0 : Int32))] below meth c s₁ [] 0 0 := Stand.of_body Bd
  have e0 : s₁.heap = h0 := by rw [← hh, Bd.state]; rfl
  have N0 := Fr.nil n0
  have pre0 : ∀ t, Steps p.tables e below (s₁.setTop (mkF m 0 #[.val (.int (1 : Int32)), .val (.int (0 : Int32)), .unset, .unset, .unset, .unset, .unset] [])) t → Steps p.tables e below (s₁.setTop (entryFrame m #[(.int (1 : Int32)), (.int (0 : Int32))] 7)) t := fun t k => castTop (ef_1 m (1 : Int32) (0 : Int32)) k
  obtain ⟨_, _, ⟨T3, L3, k3, n3⟩, -, X3, ⟨Lc3, hQ3, l3, y3, z3⟩, st3⟩ := Jvm.LawKit.callS X0 hx (y := (⟨"com/example/gumzo/gumzo/node/Intake", "values", "()[Lcom/example/gumzo/gumzo/node/Intake;"⟩ : MethodName)) hown (mvT hZ (hw _ (List.mem_of_getElem? (i := 6) rfl))) (mvT hZ (hw _ (List.mem_of_getElem? (i := 7) rfl))) (mvT hZ (hw _ (List.mem_of_getElem? (i := 1) rfl))) (mvT hZ (hw _ (List.mem_of_getElem? (i := 8) rfl))) (by decide) (backOf (W := 0) (rm2 l Z a0 hw [] wV cl h0 n0 Z0 SV AV EV FV (Nat.le_of_eq hsz)) hZ (hw _ (List.mem_of_getElem? (i := 8) rfl)) (hw _ (List.mem_of_getElem? (i := 1) rfl)) (by decide) (by decide)) (g := (mkF m 2 #[.val (.int (1 : Int32)), .val (.int (0 : Int32)), .val .null, .unset, .unset, .unset, .unset] [])) rfl (by rw [hml]; rfl) (argsL := []) (rest := []) (lenOf pd_1_1 rfl) rfl (by show 2 * 0 + _ ≤ _; exact Nat.le_of_eq rfl) (hb hby d1_2) (fun _ _ => ⟨rfl, e0, (by decide : 0 + 1 ≤ _), (by decide : 0 + 4 ≤ _)⟩)
  dsimp only [Pt.U, Pt.locs, Pt.cells, Pt.slots] at X3 l3 y3 z3 st3 hQ3
  subst l3 y3 z3
  obtain ⟨b3, rfl, N3q, E3, Ar3⟩ := hQ3
  have SB : (cloneOf cl).slots.size = (4 : Int32).toNatClampNeg := hsz
  have NB : ¬ (4 : Int32) < 0 := by decide
  have gi0 : ¬ ((0 : Int32) < 0 ∨ (cloneOf cl).slots.size ≤ ((0 : Int32)).toNatClampNeg) := by
    have q : (0 : Int32) = (0 : Int32) := by decide
    rw [q]; exact hi0
  have gt0 : (cloneOf cl).slots[((0 : Int32)).toNatClampNeg]? = some (.ref v0) := by
    have q : (0 : Int32) = (0 : Int32) := by decide
    rw [q]; exact ht0
  have gi1 : ¬ (((0 : Int32) + (1 : Int32)) < 0 ∨ (cloneOf cl).slots.size ≤ (((0 : Int32) + (1 : Int32))).toNatClampNeg) := by
    have q : ((0 : Int32) + (1 : Int32)) = (1 : Int32) := by decide
    rw [q]; exact hi1
  have gt1 : (cloneOf cl).slots[(((0 : Int32) + (1 : Int32))).toNatClampNeg]? = some (.ref v1) := by
    have q : ((0 : Int32) + (1 : Int32)) = (1 : Int32) := by decide
    rw [q]; exact ht1
  have gi2 : ¬ ((((0 : Int32) + (1 : Int32)) + (1 : Int32)) < 0 ∨ (cloneOf cl).slots.size ≤ ((((0 : Int32) + (1 : Int32)) + (1 : Int32))).toNatClampNeg) := by
    have q : (((0 : Int32) + (1 : Int32)) + (1 : Int32)) = (2 : Int32) := by decide
    rw [q]; exact hi2
  have gt2 : (cloneOf cl).slots[((((0 : Int32) + (1 : Int32)) + (1 : Int32))).toNatClampNeg]? = some (.ref v2) := by
    have q : (((0 : Int32) + (1 : Int32)) + (1 : Int32)) = (2 : Int32) := by decide
    rw [q]; exact ht2
  have gi3 : ¬ (((((0 : Int32) + (1 : Int32)) + (1 : Int32)) + (1 : Int32)) < 0 ∨ (cloneOf cl).slots.size ≤ (((((0 : Int32) + (1 : Int32)) + (1 : Int32)) + (1 : Int32))).toNatClampNeg) := by
    have q : ((((0 : Int32) + (1 : Int32)) + (1 : Int32)) + (1 : Int32)) = (3 : Int32) := by decide
    rw [q]; exact hi3
  have gt3 : (cloneOf cl).slots[(((((0 : Int32) + (1 : Int32)) + (1 : Int32)) + (1 : Int32))).toNatClampNeg]? = some (.ref v3) := by
    have q : ((((0 : Int32) + (1 : Int32)) + (1 : Int32)) + (1 : Int32)) = (3 : Int32) := by decide
    rw [q]; exact ht3
  have N3 := Fr.app N0 N3q
  obtain ⟨T6, X6, e6, st6⟩ := getF X3 hx hZ hown (host := "") (Or.inl (hw _ (List.mem_of_getElem? (i := 24) rfl))) Via.refl rfl (U0.ext E3) (g := (mkF m 28 #[.val (.int (1 : Int32)), .val (.int (0 : Int32)), .val .null, .val (.ref b3), .val (.int (4 : Int32)), .val (.int (0 : Int32)), .val (.ref v0)] [(.ref v0)])) rfl rfl (hb hby d1_28)
  obtain ⟨T9, X9, e9, st9⟩ := getF X6 hx hZ hown (host := "") (Or.inl (hw _ (List.mem_of_getElem? (i := 24) rfl))) Via.refl e6 (U1.ext E3) (g := (mkF m 28 #[.val (.int (1 : Int32)), .val (.int (0 : Int32)), .val .null, .val (.ref b3), .val (.int (4 : Int32)), .val (.int ((0 : Int32) + (1 : Int32))), .val (.ref v1)] [(.ref v1)])) rfl rfl (hb hby d1_28)
  obtain ⟨T12, X12, e12, st12⟩ := getF X9 hx hZ hown (host := "") (Or.inl (hw _ (List.mem_of_getElem? (i := 24) rfl))) Via.refl e9 (U2.ext E3) (g := (mkF m 28 #[.val (.int (1 : Int32)), .val (.int (0 : Int32)), .val .null, .val (.ref b3), .val (.int (4 : Int32)), .val (.int (((0 : Int32) + (1 : Int32)) + (1 : Int32))), .val (.ref v2)] [(.ref v2)])) rfl rfl (hb hby d1_28)
  obtain ⟨T14, X14, e14, st14⟩ := getF X12 hx hZ hown (host := "") (Or.inl (hw _ (List.mem_of_getElem? (i := 26) rfl))) Via.refl e12 (Y2.ext E3) (g := (mkF m 37 #[.val (.int (1 : Int32)), .val (.int (0 : Int32)), .val .null, .val (.ref b3), .val (.int (4 : Int32)), .val (.int (((0 : Int32) + (1 : Int32)) + (1 : Int32))), .val (.ref v2)] [(.ref v2)])) rfl rfl (hb hby d1_37)
  obtain ⟨T17, X17, e17, st17⟩ := getF X14 hx hZ hown (host := "") (Or.inl (hw _ (List.mem_of_getElem? (i := 24) rfl))) Via.refl e14 (U3.ext E3) (g := (mkF m 28 #[.val (.int (1 : Int32)), .val (.int (0 : Int32)), .val .null, .val (.ref b3), .val (.int (4 : Int32)), .val (.int ((((0 : Int32) + (1 : Int32)) + (1 : Int32)) + (1 : Int32))), .val (.ref v3)] [(.ref v3)])) rfl rfl (hb hby d1_28)
  obtain ⟨T19, X19, e19, st19⟩ := getF X17 hx hZ hown (host := "") (Or.inl (hw _ (List.mem_of_getElem? (i := 26) rfl))) Via.refl e17 (Y3.ext E3) (g := (mkF m 37 #[.val (.int (1 : Int32)), .val (.int (0 : Int32)), .val .null, .val (.ref b3), .val (.int (4 : Int32)), .val (.int ((((0 : Int32) + (1 : Int32)) + (1 : Int32)) + (1 : Int32))), .val (.ref v3)] [(.ref v3)])) rfl rfl (hb hby d1_37)
  obtain ⟨fs, hr, hrun, hended, hW, hsame⟩ := X19.leave (v := some (.ref v3)) (fun h => by rw [Bd.returns] at h; cases h)
  refine ⟨_, _, pre0 _ ?_, hrun, hended, _, _, rfl, ?_, ⟨_, rfl⟩, hW, hsame.mono (by decide) (by decide)⟩
  · show Steps p.tables e below (s₁.setTop (mkF m 0 #[.val (.int (1 : Int32)), .val (.int (0 : Int32)), .unset, .unset, .unset, .unset, .unset] [])) _
    refine XS.aconstNull X0.here hx rfl (hb hby d1_0) ?_
    show Steps p.tables e below (s₁.setTop (mkF m 1 #[.val (.int (1 : Int32)), .val (.int (0 : Int32)), .unset, .unset, .unset, .unset, .unset] [.null])) _
    refine XS.astoreN X0.here hx rfl (hb hby d1_1) rfl rfl (l' := #[.val (.int (1 : Int32)), .val (.int (0 : Int32)), .val .null, .unset, .unset, .unset, .unset]) rfl ?_
    show Steps p.tables e below (s₁.setTop (mkF m 2 #[.val (.int (1 : Int32)), .val (.int (0 : Int32)), .val .null, .unset, .unset, .unset, .unset] [])) _
    refine st3 _ ?_
    show Steps p.tables e below (T3.setTop (mkF m 5 #[.val (.int (1 : Int32)), .val (.int (0 : Int32)), .val .null, .unset, .unset, .unset, .unset] [(.ref b3)])) _
    refine XS.astoreN X3.here hx rfl (hb hby d1_5) rfl rfl (l' := #[.val (.int (1 : Int32)), .val (.int (0 : Int32)), .val .null, .val (.ref b3), .unset, .unset, .unset]) rfl ?_
    show Steps p.tables e below (T3.setTop (mkF m 6 #[.val (.int (1 : Int32)), .val (.int (0 : Int32)), .val .null, .val (.ref b3), .unset, .unset, .unset] [])) _
    refine XS.aloadN X3.here hx rfl (hb hby d1_6) rfl rfl ?_
    show Steps p.tables e below (T3.setTop (mkF m 7 #[.val (.int (1 : Int32)), .val (.int (0 : Int32)), .val .null, .val (.ref b3), .unset, .unset, .unset] [(.ref b3)])) _
    refine X3.arraylength hx Ar3.1 (State.isArrayOf_alike hZ.alike Ar3.2.1) (g := (mkF m 7 #[.val (.int (1 : Int32)), .val (.int (0 : Int32)), .val .null, .val (.ref b3), .unset, .unset, .unset] [(.ref b3)])) rfl rfl (hb hby d1_7) _ ?_
    rw [len_of SB NB]
    show Steps p.tables e below (T3.setTop (mkF m 8 #[.val (.int (1 : Int32)), .val (.int (0 : Int32)), .val .null, .val (.ref b3), .unset, .unset, .unset] [(.int (4 : Int32))])) _
    refine XS.istore X3.here hx rfl (hb hby d1_8) rfl (l' := #[.val (.int (1 : Int32)), .val (.int (0 : Int32)), .val .null, .val (.ref b3), .val (.int (4 : Int32)), .unset, .unset]) rfl ?_
    show Steps p.tables e below (T3.setTop (mkF m 10 #[.val (.int (1 : Int32)), .val (.int (0 : Int32)), .val .null, .val (.ref b3), .val (.int (4 : Int32)), .unset, .unset] [])) _
    refine XS.iconst X3.here hx rfl (hb hby d1_10) ?_
    show Steps p.tables e below (T3.setTop (mkF m 11 #[.val (.int (1 : Int32)), .val (.int (0 : Int32)), .val .null, .val (.ref b3), .val (.int (4 : Int32)), .unset, .unset] [(.int (0 : Int32))])) _
    refine XS.istore X3.here hx rfl (hb hby d1_11) rfl (l' := #[.val (.int (1 : Int32)), .val (.int (0 : Int32)), .val .null, .val (.ref b3), .val (.int (4 : Int32)), .val (.int (0 : Int32)), .unset]) rfl ?_
    show Steps p.tables e below (T3.setTop (mkF m 13 #[.val (.int (1 : Int32)), .val (.int (0 : Int32)), .val .null, .val (.ref b3), .val (.int (4 : Int32)), .val (.int (0 : Int32)), .unset] [])) _
    refine XS.iload X3.here hx rfl (hb hby d1_13) rfl ?_
    show Steps p.tables e below (T3.setTop (mkF m 15 #[.val (.int (1 : Int32)), .val (.int (0 : Int32)), .val .null, .val (.ref b3), .val (.int (4 : Int32)), .val (.int (0 : Int32)), .unset] [(.int (0 : Int32))])) _
    refine XS.iload X3.here hx rfl (hb hby d1_15) rfl ?_
    show Steps p.tables e below (T3.setTop (mkF m 17 #[.val (.int (1 : Int32)), .val (.int (0 : Int32)), .val .null, .val (.ref b3), .val (.int (4 : Int32)), .val (.int (0 : Int32)), .unset] [(.int (4 : Int32)), (.int (0 : Int32))])) _
    refine XS.icmpNo X3.here hx rfl (hb hby d1_17) rfl (tlt (by decide : (0 : Int32) < (4 : Int32))).2.1 ?_
    show Steps p.tables e below (T3.setTop (mkF m 20 #[.val (.int (1 : Int32)), .val (.int (0 : Int32)), .val .null, .val (.ref b3), .val (.int (4 : Int32)), .val (.int (0 : Int32)), .unset] [])) _
    refine XS.aloadN X3.here hx rfl (hb hby d1_20) rfl rfl ?_
    show Steps p.tables e below (T3.setTop (mkF m 21 #[.val (.int (1 : Int32)), .val (.int (0 : Int32)), .val .null, .val (.ref b3), .val (.int (4 : Int32)), .val (.int (0 : Int32)), .unset] [(.ref b3)])) _
    refine XS.iload X3.here hx rfl (hb hby d1_21) rfl ?_
    show Steps p.tables e below (T3.setTop (mkF m 23 #[.val (.int (1 : Int32)), .val (.int (0 : Int32)), .val .null, .val (.ref b3), .val (.int (4 : Int32)), .val (.int (0 : Int32)), .unset] [(.int (0 : Int32)), (.ref b3)])) _
    refine X3.aaload hx (j := (0 : Int32)) (v := (.ref v0)) Ar3.1 (State.isArrayOf_alike hZ.alike Ar3.2.1) rfl Ar3.2.2 gi0 gt0 (g := (mkF m 23 #[.val (.int (1 : Int32)), .val (.int (0 : Int32)), .val .null, .val (.ref b3), .val (.int (4 : Int32)), .val (.int (0 : Int32)), .unset] [(.int (0 : Int32)), (.ref b3)])) rfl rfl (hb hby d1_23) _ ?_
    show Steps p.tables e below (T3.setTop (mkF m 24 #[.val (.int (1 : Int32)), .val (.int (0 : Int32)), .val .null, .val (.ref b3), .val (.int (4 : Int32)), .val (.int (0 : Int32)), .unset] [(.ref v0)])) _
    refine XS.astore X3.here hx rfl (hb hby d1_24) rfl rfl (l' := #[.val (.int (1 : Int32)), .val (.int (0 : Int32)), .val .null, .val (.ref b3), .val (.int (4 : Int32)), .val (.int (0 : Int32)), .val (.ref v0)]) rfl ?_
    show Steps p.tables e below (T3.setTop (mkF m 26 #[.val (.int (1 : Int32)), .val (.int (0 : Int32)), .val .null, .val (.ref b3), .val (.int (4 : Int32)), .val (.int (0 : Int32)), .val (.ref v0)] [])) _
    refine XS.aload X3.here hx rfl (hb hby d1_26) rfl rfl ?_
    show Steps p.tables e below (T3.setTop (mkF m 28 #[.val (.int (1 : Int32)), .val (.int (0 : Int32)), .val .null, .val (.ref b3), .val (.int (4 : Int32)), .val (.int (0 : Int32)), .val (.ref v0)] [(.ref v0)])) _
    refine st6 _ ?_
    show Steps p.tables e below (T6.setTop (mkF m 31 #[.val (.int (1 : Int32)), .val (.int (0 : Int32)), .val .null, .val (.ref b3), .val (.int (4 : Int32)), .val (.int (0 : Int32)), .val (.ref v0)] [(.int (0 : Int32))])) _
    refine XS.iloadN X6.here hx rfl (hb hby d1_31) rfl ?_
    show Steps p.tables e below (T6.setTop (mkF m 32 #[.val (.int (1 : Int32)), .val (.int (0 : Int32)), .val .null, .val (.ref b3), .val (.int (4 : Int32)), .val (.int (0 : Int32)), .val (.ref v0)] [(.int (1 : Int32)), (.int (0 : Int32))])) _
    refine XS.icmpYes X6.here hx rfl (pc0 := 32) (pc' := 47) rfl (hb hby d1_32) rfl (feq (by decide)).2 (by decide) (by decide) ?_
    show Steps p.tables e below (T6.setTop (mkF m 47 #[.val (.int (1 : Int32)), .val (.int (0 : Int32)), .val .null, .val (.ref b3), .val (.int (4 : Int32)), .val (.int (0 : Int32)), .val (.ref v0)] [])) _
    refine XS.iinc X6.here hx rfl (hb hby d1_47) rfl (l' := #[.val (.int (1 : Int32)), .val (.int (0 : Int32)), .val .null, .val (.ref b3), .val (.int (4 : Int32)), .val (.int ((0 : Int32) + (1 : Int32))), .val (.ref v0)]) rfl ?_
    show Steps p.tables e below (T6.setTop (mkF m 50 #[.val (.int (1 : Int32)), .val (.int (0 : Int32)), .val .null, .val (.ref b3), .val (.int (4 : Int32)), .val (.int ((0 : Int32) + (1 : Int32))), .val (.ref v0)] [])) _
    refine XS.goto X6.here hx rfl (pc0 := 50) (pc' := 13) rfl (hb hby d1_50) (by decide) (by decide) ?_
    show Steps p.tables e below (T6.setTop (mkF m 13 #[.val (.int (1 : Int32)), .val (.int (0 : Int32)), .val .null, .val (.ref b3), .val (.int (4 : Int32)), .val (.int ((0 : Int32) + (1 : Int32))), .val (.ref v0)] [])) _
    refine XS.iload X6.here hx rfl (hb hby d1_13) rfl ?_
    show Steps p.tables e below (T6.setTop (mkF m 15 #[.val (.int (1 : Int32)), .val (.int (0 : Int32)), .val .null, .val (.ref b3), .val (.int (4 : Int32)), .val (.int ((0 : Int32) + (1 : Int32))), .val (.ref v0)] [(.int ((0 : Int32) + (1 : Int32)))])) _
    refine XS.iload X6.here hx rfl (hb hby d1_15) rfl ?_
    show Steps p.tables e below (T6.setTop (mkF m 17 #[.val (.int (1 : Int32)), .val (.int (0 : Int32)), .val .null, .val (.ref b3), .val (.int (4 : Int32)), .val (.int ((0 : Int32) + (1 : Int32))), .val (.ref v0)] [(.int (4 : Int32)), (.int ((0 : Int32) + (1 : Int32)))])) _
    refine XS.icmpNo X6.here hx rfl (hb hby d1_17) rfl (tlt (by decide : ((0 : Int32) + (1 : Int32)) < (4 : Int32))).2.1 ?_
    show Steps p.tables e below (T6.setTop (mkF m 20 #[.val (.int (1 : Int32)), .val (.int (0 : Int32)), .val .null, .val (.ref b3), .val (.int (4 : Int32)), .val (.int ((0 : Int32) + (1 : Int32))), .val (.ref v0)] [])) _
    refine XS.aloadN X6.here hx rfl (hb hby d1_20) rfl rfl ?_
    show Steps p.tables e below (T6.setTop (mkF m 21 #[.val (.int (1 : Int32)), .val (.int (0 : Int32)), .val .null, .val (.ref b3), .val (.int (4 : Int32)), .val (.int ((0 : Int32) + (1 : Int32))), .val (.ref v0)] [(.ref b3)])) _
    refine XS.iload X6.here hx rfl (hb hby d1_21) rfl ?_
    show Steps p.tables e below (T6.setTop (mkF m 23 #[.val (.int (1 : Int32)), .val (.int (0 : Int32)), .val .null, .val (.ref b3), .val (.int (4 : Int32)), .val (.int ((0 : Int32) + (1 : Int32))), .val (.ref v0)] [(.int ((0 : Int32) + (1 : Int32))), (.ref b3)])) _
    refine X6.aaload hx (j := ((0 : Int32) + (1 : Int32))) (v := (.ref v1)) (by rw [e6]; exact Ar3.1) (State.isArrayOf_alike hZ.alike Ar3.2.1) rfl Ar3.2.2 gi1 gt1 (g := (mkF m 23 #[.val (.int (1 : Int32)), .val (.int (0 : Int32)), .val .null, .val (.ref b3), .val (.int (4 : Int32)), .val (.int ((0 : Int32) + (1 : Int32))), .val (.ref v0)] [(.int ((0 : Int32) + (1 : Int32))), (.ref b3)])) rfl rfl (hb hby d1_23) _ ?_
    show Steps p.tables e below (T6.setTop (mkF m 24 #[.val (.int (1 : Int32)), .val (.int (0 : Int32)), .val .null, .val (.ref b3), .val (.int (4 : Int32)), .val (.int ((0 : Int32) + (1 : Int32))), .val (.ref v0)] [(.ref v1)])) _
    refine XS.astore X6.here hx rfl (hb hby d1_24) rfl rfl (l' := #[.val (.int (1 : Int32)), .val (.int (0 : Int32)), .val .null, .val (.ref b3), .val (.int (4 : Int32)), .val (.int ((0 : Int32) + (1 : Int32))), .val (.ref v1)]) rfl ?_
    show Steps p.tables e below (T6.setTop (mkF m 26 #[.val (.int (1 : Int32)), .val (.int (0 : Int32)), .val .null, .val (.ref b3), .val (.int (4 : Int32)), .val (.int ((0 : Int32) + (1 : Int32))), .val (.ref v1)] [])) _
    refine XS.aload X6.here hx rfl (hb hby d1_26) rfl rfl ?_
    show Steps p.tables e below (T6.setTop (mkF m 28 #[.val (.int (1 : Int32)), .val (.int (0 : Int32)), .val .null, .val (.ref b3), .val (.int (4 : Int32)), .val (.int ((0 : Int32) + (1 : Int32))), .val (.ref v1)] [(.ref v1)])) _
    refine st9 _ ?_
    show Steps p.tables e below (T9.setTop (mkF m 31 #[.val (.int (1 : Int32)), .val (.int (0 : Int32)), .val .null, .val (.ref b3), .val (.int (4 : Int32)), .val (.int ((0 : Int32) + (1 : Int32))), .val (.ref v1)] [(.int (0 : Int32))])) _
    refine XS.iloadN X9.here hx rfl (hb hby d1_31) rfl ?_
    show Steps p.tables e below (T9.setTop (mkF m 32 #[.val (.int (1 : Int32)), .val (.int (0 : Int32)), .val .null, .val (.ref b3), .val (.int (4 : Int32)), .val (.int ((0 : Int32) + (1 : Int32))), .val (.ref v1)] [(.int (1 : Int32)), (.int (0 : Int32))])) _
    refine XS.icmpYes X9.here hx rfl (pc0 := 32) (pc' := 47) rfl (hb hby d1_32) rfl (feq (by decide)).2 (by decide) (by decide) ?_
    show Steps p.tables e below (T9.setTop (mkF m 47 #[.val (.int (1 : Int32)), .val (.int (0 : Int32)), .val .null, .val (.ref b3), .val (.int (4 : Int32)), .val (.int ((0 : Int32) + (1 : Int32))), .val (.ref v1)] [])) _
    refine XS.iinc X9.here hx rfl (hb hby d1_47) rfl (l' := #[.val (.int (1 : Int32)), .val (.int (0 : Int32)), .val .null, .val (.ref b3), .val (.int (4 : Int32)), .val (.int (((0 : Int32) + (1 : Int32)) + (1 : Int32))), .val (.ref v1)]) rfl ?_
    show Steps p.tables e below (T9.setTop (mkF m 50 #[.val (.int (1 : Int32)), .val (.int (0 : Int32)), .val .null, .val (.ref b3), .val (.int (4 : Int32)), .val (.int (((0 : Int32) + (1 : Int32)) + (1 : Int32))), .val (.ref v1)] [])) _
    refine XS.goto X9.here hx rfl (pc0 := 50) (pc' := 13) rfl (hb hby d1_50) (by decide) (by decide) ?_
    show Steps p.tables e below (T9.setTop (mkF m 13 #[.val (.int (1 : Int32)), .val (.int (0 : Int32)), .val .null, .val (.ref b3), .val (.int (4 : Int32)), .val (.int (((0 : Int32) + (1 : Int32)) + (1 : Int32))), .val (.ref v1)] [])) _
    refine XS.iload X9.here hx rfl (hb hby d1_13) rfl ?_
    show Steps p.tables e below (T9.setTop (mkF m 15 #[.val (.int (1 : Int32)), .val (.int (0 : Int32)), .val .null, .val (.ref b3), .val (.int (4 : Int32)), .val (.int (((0 : Int32) + (1 : Int32)) + (1 : Int32))), .val (.ref v1)] [(.int (((0 : Int32) + (1 : Int32)) + (1 : Int32)))])) _
    refine XS.iload X9.here hx rfl (hb hby d1_15) rfl ?_
    show Steps p.tables e below (T9.setTop (mkF m 17 #[.val (.int (1 : Int32)), .val (.int (0 : Int32)), .val .null, .val (.ref b3), .val (.int (4 : Int32)), .val (.int (((0 : Int32) + (1 : Int32)) + (1 : Int32))), .val (.ref v1)] [(.int (4 : Int32)), (.int (((0 : Int32) + (1 : Int32)) + (1 : Int32)))])) _
    refine XS.icmpNo X9.here hx rfl (hb hby d1_17) rfl (tlt (by decide : (((0 : Int32) + (1 : Int32)) + (1 : Int32)) < (4 : Int32))).2.1 ?_
    show Steps p.tables e below (T9.setTop (mkF m 20 #[.val (.int (1 : Int32)), .val (.int (0 : Int32)), .val .null, .val (.ref b3), .val (.int (4 : Int32)), .val (.int (((0 : Int32) + (1 : Int32)) + (1 : Int32))), .val (.ref v1)] [])) _
    refine XS.aloadN X9.here hx rfl (hb hby d1_20) rfl rfl ?_
    show Steps p.tables e below (T9.setTop (mkF m 21 #[.val (.int (1 : Int32)), .val (.int (0 : Int32)), .val .null, .val (.ref b3), .val (.int (4 : Int32)), .val (.int (((0 : Int32) + (1 : Int32)) + (1 : Int32))), .val (.ref v1)] [(.ref b3)])) _
    refine XS.iload X9.here hx rfl (hb hby d1_21) rfl ?_
    show Steps p.tables e below (T9.setTop (mkF m 23 #[.val (.int (1 : Int32)), .val (.int (0 : Int32)), .val .null, .val (.ref b3), .val (.int (4 : Int32)), .val (.int (((0 : Int32) + (1 : Int32)) + (1 : Int32))), .val (.ref v1)] [(.int (((0 : Int32) + (1 : Int32)) + (1 : Int32))), (.ref b3)])) _
    refine X9.aaload hx (j := (((0 : Int32) + (1 : Int32)) + (1 : Int32))) (v := (.ref v2)) (by rw [e9]; exact Ar3.1) (State.isArrayOf_alike hZ.alike Ar3.2.1) rfl Ar3.2.2 gi2 gt2 (g := (mkF m 23 #[.val (.int (1 : Int32)), .val (.int (0 : Int32)), .val .null, .val (.ref b3), .val (.int (4 : Int32)), .val (.int (((0 : Int32) + (1 : Int32)) + (1 : Int32))), .val (.ref v1)] [(.int (((0 : Int32) + (1 : Int32)) + (1 : Int32))), (.ref b3)])) rfl rfl (hb hby d1_23) _ ?_
    show Steps p.tables e below (T9.setTop (mkF m 24 #[.val (.int (1 : Int32)), .val (.int (0 : Int32)), .val .null, .val (.ref b3), .val (.int (4 : Int32)), .val (.int (((0 : Int32) + (1 : Int32)) + (1 : Int32))), .val (.ref v1)] [(.ref v2)])) _
    refine XS.astore X9.here hx rfl (hb hby d1_24) rfl rfl (l' := #[.val (.int (1 : Int32)), .val (.int (0 : Int32)), .val .null, .val (.ref b3), .val (.int (4 : Int32)), .val (.int (((0 : Int32) + (1 : Int32)) + (1 : Int32))), .val (.ref v2)]) rfl ?_
    show Steps p.tables e below (T9.setTop (mkF m 26 #[.val (.int (1 : Int32)), .val (.int (0 : Int32)), .val .null, .val (.ref b3), .val (.int (4 : Int32)), .val (.int (((0 : Int32) + (1 : Int32)) + (1 : Int32))), .val (.ref v2)] [])) _
    refine XS.aload X9.here hx rfl (hb hby d1_26) rfl rfl ?_
    show Steps p.tables e below (T9.setTop (mkF m 28 #[.val (.int (1 : Int32)), .val (.int (0 : Int32)), .val .null, .val (.ref b3), .val (.int (4 : Int32)), .val (.int (((0 : Int32) + (1 : Int32)) + (1 : Int32))), .val (.ref v2)] [(.ref v2)])) _
    refine st12 _ ?_
    show Steps p.tables e below (T12.setTop (mkF m 31 #[.val (.int (1 : Int32)), .val (.int (0 : Int32)), .val .null, .val (.ref b3), .val (.int (4 : Int32)), .val (.int (((0 : Int32) + (1 : Int32)) + (1 : Int32))), .val (.ref v2)] [(.int (1 : Int32))])) _
    refine XS.iloadN X12.here hx rfl (hb hby d1_31) rfl ?_
    show Steps p.tables e below (T12.setTop (mkF m 32 #[.val (.int (1 : Int32)), .val (.int (0 : Int32)), .val .null, .val (.ref b3), .val (.int (4 : Int32)), .val (.int (((0 : Int32) + (1 : Int32)) + (1 : Int32))), .val (.ref v2)] [(.int (1 : Int32)), (.int (1 : Int32))])) _
    refine XS.icmpNo X12.here hx rfl (hb hby d1_32) rfl (teq rfl).2 ?_
    show Steps p.tables e below (T12.setTop (mkF m 35 #[.val (.int (1 : Int32)), .val (.int (0 : Int32)), .val .null, .val (.ref b3), .val (.int (4 : Int32)), .val (.int (((0 : Int32) + (1 : Int32)) + (1 : Int32))), .val (.ref v2)] [])) _
    refine XS.aload X12.here hx rfl (hb hby d1_35) rfl rfl ?_
    show Steps p.tables e below (T12.setTop (mkF m 37 #[.val (.int (1 : Int32)), .val (.int (0 : Int32)), .val .null, .val (.ref b3), .val (.int (4 : Int32)), .val (.int (((0 : Int32) + (1 : Int32)) + (1 : Int32))), .val (.ref v2)] [(.ref v2)])) _
    refine st14 _ ?_
    show Steps p.tables e below (T14.setTop (mkF m 40 #[.val (.int (1 : Int32)), .val (.int (0 : Int32)), .val .null, .val (.ref b3), .val (.int (4 : Int32)), .val (.int (((0 : Int32) + (1 : Int32)) + (1 : Int32))), .val (.ref v2)] [(.int (1 : Int32))])) _
    refine XS.iloadN X14.here hx rfl (hb hby d1_40) rfl ?_
    show Steps p.tables e below (T14.setTop (mkF m 41 #[.val (.int (1 : Int32)), .val (.int (0 : Int32)), .val .null, .val (.ref b3), .val (.int (4 : Int32)), .val (.int (((0 : Int32) + (1 : Int32)) + (1 : Int32))), .val (.ref v2)] [(.int (0 : Int32)), (.int (1 : Int32))])) _
    refine XS.icmpYes X14.here hx rfl (pc0 := 41) (pc' := 47) rfl (hb hby d1_41) rfl (feq (by decide)).2 (by decide) (by decide) ?_
    show Steps p.tables e below (T14.setTop (mkF m 47 #[.val (.int (1 : Int32)), .val (.int (0 : Int32)), .val .null, .val (.ref b3), .val (.int (4 : Int32)), .val (.int (((0 : Int32) + (1 : Int32)) + (1 : Int32))), .val (.ref v2)] [])) _
    refine XS.iinc X14.here hx rfl (hb hby d1_47) rfl (l' := #[.val (.int (1 : Int32)), .val (.int (0 : Int32)), .val .null, .val (.ref b3), .val (.int (4 : Int32)), .val (.int ((((0 : Int32) + (1 : Int32)) + (1 : Int32)) + (1 : Int32))), .val (.ref v2)]) rfl ?_
    show Steps p.tables e below (T14.setTop (mkF m 50 #[.val (.int (1 : Int32)), .val (.int (0 : Int32)), .val .null, .val (.ref b3), .val (.int (4 : Int32)), .val (.int ((((0 : Int32) + (1 : Int32)) + (1 : Int32)) + (1 : Int32))), .val (.ref v2)] [])) _
    refine XS.goto X14.here hx rfl (pc0 := 50) (pc' := 13) rfl (hb hby d1_50) (by decide) (by decide) ?_
    show Steps p.tables e below (T14.setTop (mkF m 13 #[.val (.int (1 : Int32)), .val (.int (0 : Int32)), .val .null, .val (.ref b3), .val (.int (4 : Int32)), .val (.int ((((0 : Int32) + (1 : Int32)) + (1 : Int32)) + (1 : Int32))), .val (.ref v2)] [])) _
    refine XS.iload X14.here hx rfl (hb hby d1_13) rfl ?_
    show Steps p.tables e below (T14.setTop (mkF m 15 #[.val (.int (1 : Int32)), .val (.int (0 : Int32)), .val .null, .val (.ref b3), .val (.int (4 : Int32)), .val (.int ((((0 : Int32) + (1 : Int32)) + (1 : Int32)) + (1 : Int32))), .val (.ref v2)] [(.int ((((0 : Int32) + (1 : Int32)) + (1 : Int32)) + (1 : Int32)))])) _
    refine XS.iload X14.here hx rfl (hb hby d1_15) rfl ?_
    show Steps p.tables e below (T14.setTop (mkF m 17 #[.val (.int (1 : Int32)), .val (.int (0 : Int32)), .val .null, .val (.ref b3), .val (.int (4 : Int32)), .val (.int ((((0 : Int32) + (1 : Int32)) + (1 : Int32)) + (1 : Int32))), .val (.ref v2)] [(.int (4 : Int32)), (.int ((((0 : Int32) + (1 : Int32)) + (1 : Int32)) + (1 : Int32)))])) _
    refine XS.icmpNo X14.here hx rfl (hb hby d1_17) rfl (tlt (by decide : ((((0 : Int32) + (1 : Int32)) + (1 : Int32)) + (1 : Int32)) < (4 : Int32))).2.1 ?_
    show Steps p.tables e below (T14.setTop (mkF m 20 #[.val (.int (1 : Int32)), .val (.int (0 : Int32)), .val .null, .val (.ref b3), .val (.int (4 : Int32)), .val (.int ((((0 : Int32) + (1 : Int32)) + (1 : Int32)) + (1 : Int32))), .val (.ref v2)] [])) _
    refine XS.aloadN X14.here hx rfl (hb hby d1_20) rfl rfl ?_
    show Steps p.tables e below (T14.setTop (mkF m 21 #[.val (.int (1 : Int32)), .val (.int (0 : Int32)), .val .null, .val (.ref b3), .val (.int (4 : Int32)), .val (.int ((((0 : Int32) + (1 : Int32)) + (1 : Int32)) + (1 : Int32))), .val (.ref v2)] [(.ref b3)])) _
    refine XS.iload X14.here hx rfl (hb hby d1_21) rfl ?_
    show Steps p.tables e below (T14.setTop (mkF m 23 #[.val (.int (1 : Int32)), .val (.int (0 : Int32)), .val .null, .val (.ref b3), .val (.int (4 : Int32)), .val (.int ((((0 : Int32) + (1 : Int32)) + (1 : Int32)) + (1 : Int32))), .val (.ref v2)] [(.int ((((0 : Int32) + (1 : Int32)) + (1 : Int32)) + (1 : Int32))), (.ref b3)])) _
    refine X14.aaload hx (j := ((((0 : Int32) + (1 : Int32)) + (1 : Int32)) + (1 : Int32))) (v := (.ref v3)) (by rw [e14]; exact Ar3.1) (State.isArrayOf_alike hZ.alike Ar3.2.1) rfl Ar3.2.2 gi3 gt3 (g := (mkF m 23 #[.val (.int (1 : Int32)), .val (.int (0 : Int32)), .val .null, .val (.ref b3), .val (.int (4 : Int32)), .val (.int ((((0 : Int32) + (1 : Int32)) + (1 : Int32)) + (1 : Int32))), .val (.ref v2)] [(.int ((((0 : Int32) + (1 : Int32)) + (1 : Int32)) + (1 : Int32))), (.ref b3)])) rfl rfl (hb hby d1_23) _ ?_
    show Steps p.tables e below (T14.setTop (mkF m 24 #[.val (.int (1 : Int32)), .val (.int (0 : Int32)), .val .null, .val (.ref b3), .val (.int (4 : Int32)), .val (.int ((((0 : Int32) + (1 : Int32)) + (1 : Int32)) + (1 : Int32))), .val (.ref v2)] [(.ref v3)])) _
    refine XS.astore X14.here hx rfl (hb hby d1_24) rfl rfl (l' := #[.val (.int (1 : Int32)), .val (.int (0 : Int32)), .val .null, .val (.ref b3), .val (.int (4 : Int32)), .val (.int ((((0 : Int32) + (1 : Int32)) + (1 : Int32)) + (1 : Int32))), .val (.ref v3)]) rfl ?_
    show Steps p.tables e below (T14.setTop (mkF m 26 #[.val (.int (1 : Int32)), .val (.int (0 : Int32)), .val .null, .val (.ref b3), .val (.int (4 : Int32)), .val (.int ((((0 : Int32) + (1 : Int32)) + (1 : Int32)) + (1 : Int32))), .val (.ref v3)] [])) _
    refine XS.aload X14.here hx rfl (hb hby d1_26) rfl rfl ?_
    show Steps p.tables e below (T14.setTop (mkF m 28 #[.val (.int (1 : Int32)), .val (.int (0 : Int32)), .val .null, .val (.ref b3), .val (.int (4 : Int32)), .val (.int ((((0 : Int32) + (1 : Int32)) + (1 : Int32)) + (1 : Int32))), .val (.ref v3)] [(.ref v3)])) _
    refine st17 _ ?_
    show Steps p.tables e below (T17.setTop (mkF m 31 #[.val (.int (1 : Int32)), .val (.int (0 : Int32)), .val .null, .val (.ref b3), .val (.int (4 : Int32)), .val (.int ((((0 : Int32) + (1 : Int32)) + (1 : Int32)) + (1 : Int32))), .val (.ref v3)] [(.int (1 : Int32))])) _
    refine XS.iloadN X17.here hx rfl (hb hby d1_31) rfl ?_
    show Steps p.tables e below (T17.setTop (mkF m 32 #[.val (.int (1 : Int32)), .val (.int (0 : Int32)), .val .null, .val (.ref b3), .val (.int (4 : Int32)), .val (.int ((((0 : Int32) + (1 : Int32)) + (1 : Int32)) + (1 : Int32))), .val (.ref v3)] [(.int (1 : Int32)), (.int (1 : Int32))])) _
    refine XS.icmpNo X17.here hx rfl (hb hby d1_32) rfl (teq rfl).2 ?_
    show Steps p.tables e below (T17.setTop (mkF m 35 #[.val (.int (1 : Int32)), .val (.int (0 : Int32)), .val .null, .val (.ref b3), .val (.int (4 : Int32)), .val (.int ((((0 : Int32) + (1 : Int32)) + (1 : Int32)) + (1 : Int32))), .val (.ref v3)] [])) _
    refine XS.aload X17.here hx rfl (hb hby d1_35) rfl rfl ?_
    show Steps p.tables e below (T17.setTop (mkF m 37 #[.val (.int (1 : Int32)), .val (.int (0 : Int32)), .val .null, .val (.ref b3), .val (.int (4 : Int32)), .val (.int ((((0 : Int32) + (1 : Int32)) + (1 : Int32)) + (1 : Int32))), .val (.ref v3)] [(.ref v3)])) _
    refine st19 _ ?_
    show Steps p.tables e below (T19.setTop (mkF m 40 #[.val (.int (1 : Int32)), .val (.int (0 : Int32)), .val .null, .val (.ref b3), .val (.int (4 : Int32)), .val (.int ((((0 : Int32) + (1 : Int32)) + (1 : Int32)) + (1 : Int32))), .val (.ref v3)] [(.int (0 : Int32))])) _
    refine XS.iloadN X19.here hx rfl (hb hby d1_40) rfl ?_
    show Steps p.tables e below (T19.setTop (mkF m 41 #[.val (.int (1 : Int32)), .val (.int (0 : Int32)), .val .null, .val (.ref b3), .val (.int (4 : Int32)), .val (.int ((((0 : Int32) + (1 : Int32)) + (1 : Int32)) + (1 : Int32))), .val (.ref v3)] [(.int (0 : Int32)), (.int (0 : Int32))])) _
    refine XS.icmpNo X19.here hx rfl (hb hby d1_41) rfl (teq rfl).2 ?_
    show Steps p.tables e below (T19.setTop (mkF m 44 #[.val (.int (1 : Int32)), .val (.int (0 : Int32)), .val .null, .val (.ref b3), .val (.int (4 : Int32)), .val (.int ((((0 : Int32) + (1 : Int32)) + (1 : Int32)) + (1 : Int32))), .val (.ref v3)] [])) _
    refine XS.aload X19.here hx rfl (hb hby d1_44) rfl rfl ?_
    show Steps p.tables e below (T19.setTop (mkF m 46 #[.val (.int (1 : Int32)), .val (.int (0 : Int32)), .val .null, .val (.ref b3), .val (.int (4 : Int32)), .val (.int ((((0 : Int32) + (1 : Int32)) + (1 : Int32)) + (1 : Int32))), .val (.ref v3)] [(.ref v3)])) _
    refine XS.astoreN X19.here hx rfl (hb hby d1_46) rfl rfl (l' := #[.val (.int (1 : Int32)), .val (.int (0 : Int32)), .val (.ref v3), .val (.ref b3), .val (.int (4 : Int32)), .val (.int ((((0 : Int32) + (1 : Int32)) + (1 : Int32)) + (1 : Int32))), .val (.ref v3)]) rfl ?_
    show Steps p.tables e below (T19.setTop (mkF m 47 #[.val (.int (1 : Int32)), .val (.int (0 : Int32)), .val (.ref v3), .val (.ref b3), .val (.int (4 : Int32)), .val (.int ((((0 : Int32) + (1 : Int32)) + (1 : Int32)) + (1 : Int32))), .val (.ref v3)] [])) _
    refine XS.iinc X19.here hx rfl (hb hby d1_47) rfl (l' := #[.val (.int (1 : Int32)), .val (.int (0 : Int32)), .val (.ref v3), .val (.ref b3), .val (.int (4 : Int32)), .val (.int (((((0 : Int32) + (1 : Int32)) + (1 : Int32)) + (1 : Int32)) + (1 : Int32))), .val (.ref v3)]) rfl ?_
    show Steps p.tables e below (T19.setTop (mkF m 50 #[.val (.int (1 : Int32)), .val (.int (0 : Int32)), .val (.ref v3), .val (.ref b3), .val (.int (4 : Int32)), .val (.int (((((0 : Int32) + (1 : Int32)) + (1 : Int32)) + (1 : Int32)) + (1 : Int32))), .val (.ref v3)] [])) _
    refine XS.goto X19.here hx rfl (pc0 := 50) (pc' := 13) rfl (hb hby d1_50) (by decide) (by decide) ?_
    show Steps p.tables e below (T19.setTop (mkF m 13 #[.val (.int (1 : Int32)), .val (.int (0 : Int32)), .val (.ref v3), .val (.ref b3), .val (.int (4 : Int32)), .val (.int (((((0 : Int32) + (1 : Int32)) + (1 : Int32)) + (1 : Int32)) + (1 : Int32))), .val (.ref v3)] [])) _
    refine XS.iload X19.here hx rfl (hb hby d1_13) rfl ?_
    show Steps p.tables e below (T19.setTop (mkF m 15 #[.val (.int (1 : Int32)), .val (.int (0 : Int32)), .val (.ref v3), .val (.ref b3), .val (.int (4 : Int32)), .val (.int (((((0 : Int32) + (1 : Int32)) + (1 : Int32)) + (1 : Int32)) + (1 : Int32))), .val (.ref v3)] [(.int (((((0 : Int32) + (1 : Int32)) + (1 : Int32)) + (1 : Int32)) + (1 : Int32)))])) _
    refine XS.iload X19.here hx rfl (hb hby d1_15) rfl ?_
    show Steps p.tables e below (T19.setTop (mkF m 17 #[.val (.int (1 : Int32)), .val (.int (0 : Int32)), .val (.ref v3), .val (.ref b3), .val (.int (4 : Int32)), .val (.int (((((0 : Int32) + (1 : Int32)) + (1 : Int32)) + (1 : Int32)) + (1 : Int32))), .val (.ref v3)] [(.int (4 : Int32)), (.int (((((0 : Int32) + (1 : Int32)) + (1 : Int32)) + (1 : Int32)) + (1 : Int32)))])) _
    refine XS.icmpYes X19.here hx rfl (pc0 := 17) (pc' := 53) rfl (hb hby d1_17) rfl (flt (by decide : ¬ ((((((0 : Int32) + (1 : Int32)) + (1 : Int32)) + (1 : Int32)) + (1 : Int32)) < (4 : Int32)))).2.1 (by decide) (by decide) ?_
    show Steps p.tables e below (T19.setTop (mkF m 53 #[.val (.int (1 : Int32)), .val (.int (0 : Int32)), .val (.ref v3), .val (.ref b3), .val (.int (4 : Int32)), .val (.int (((((0 : Int32) + (1 : Int32)) + (1 : Int32)) + (1 : Int32)) + (1 : Int32))), .val (.ref v3)] [])) _
    refine XS.aloadN X19.here hx rfl (hb hby d1_53) rfl rfl ?_
    show Steps p.tables e below (T19.setTop (mkF m 54 #[.val (.int (1 : Int32)), .val (.int (0 : Int32)), .val (.ref v3), .val (.ref b3), .val (.int (4 : Int32)), .val (.int (((((0 : Int32) + (1 : Int32)) + (1 : Int32)) + (1 : Int32)) + (1 : Int32))), .val (.ref v3)] [(.ref v3)])) _
    jvm_step X19.here [X19.here.top, hx, (hb hby d1_54), X19.method', Bd.returns, Value.isRef, FieldType.isReference]
    first | (intro acts; rw [hr _ acts rfl rfl rfl]) | rw [hr _ _ rfl rfl rfl]
    exact Steps.refl _
  · show Q1u10 v3 h0 n0 _ T19.heap _
    rw [e19]
    exact ⟨rfl, N3, E3⟩
def Q1u11 (v2 : Addr) (h0 : Heap) (n0 : Nat) (v : Option Value) (h : Heap) (L : List Loc) : Prop := v = some (.ref v2) ∧ Fr n0 L ∧ Ext h0 h
set_option maxRecDepth 65536 in
set_option maxHeartbeats 40000000 in
theorem rm1u11 (l : Launch) (Z : State) (a0 : Array Value) (hw : ∀ d ∈ tables_1, d.before a0 Z = true) (ws : List Jvm.Cond) (v0 : Addr) (v1 : Addr) (v2 : Addr) (v3 : Addr) (wV : Addr) (cl : Cell) (h0 : Heap) (n0 : Nat) (Z0 : n0 ≤ h0.size) (SV : Sta Z h0 "com/example/gumzo/gumzo/node/Intake" "$VALUES" "[Lcom/example/gumzo/gumzo/node/Intake;" (.ref wV)) (AV : Arr Z h0 wV cl (.object "com/example/gumzo/gumzo/node/Intake")) (EV : Exa Z h0 wV "[Lcom/example/gumzo/gumzo/node/Intake;") (FV : FitC Z cl) (hsz : cl.slots.size = 4) (hi0 : ¬ ((0 : Int32) < 0 ∨ cl.slots.size ≤ ((0 : Int32)).toNatClampNeg)) (ht0 : cl.slots[((0 : Int32)).toNatClampNeg]? = some (.ref v0)) (U0 : Fld Z h0 v0 "com/example/gumzo/gumzo/node/Intake" "untilRefused" "Z" (.int (0 : Int32))) (Y0 : Fld Z h0 v0 "com/example/gumzo/gumzo/node/Intake" "synced" "Z" (.int (1 : Int32))) (hi1 : ¬ ((1 : Int32) < 0 ∨ cl.slots.size ≤ ((1 : Int32)).toNatClampNeg)) (ht1 : cl.slots[((1 : Int32)).toNatClampNeg]? = some (.ref v1)) (U1 : Fld Z h0 v1 "com/example/gumzo/gumzo/node/Intake" "untilRefused" "Z" (.int (0 : Int32))) (Y1 : Fld Z h0 v1 "com/example/gumzo/gumzo/node/Intake" "synced" "Z" (.int (0 : Int32))) (hi2 : ¬ ((2 : Int32) < 0 ∨ cl.slots.size ≤ ((2 : Int32)).toNatClampNeg)) (ht2 : cl.slots[((2 : Int32)).toNatClampNeg]? = some (.ref v2)) (U2 : Fld Z h0 v2 "com/example/gumzo/gumzo/node/Intake" "untilRefused" "Z" (.int (1 : Int32))) (Y2 : Fld Z h0 v2 "com/example/gumzo/gumzo/node/Intake" "synced" "Z" (.int (1 : Int32))) (hi3 : ¬ ((3 : Int32) < 0 ∨ cl.slots.size ≤ ((3 : Int32)).toNatClampNeg)) (ht3 : cl.slots[((3 : Int32)).toNatClampNeg]? = some (.ref v3)) (U3 : Fld Z h0 v3 "com/example/gumzo/gumzo/node/Intake" "untilRefused" "Z" (.int (1 : Int32))) (Y3 : Fld Z h0 v3 "com/example/gumzo/gumzo/node/Intake" "synced" "Z" (.int (0 : Int32))) :
    MetFree l (⟨"com/example/gumzo/gumzo/node/Intake", "of", "(ZZ)Lcom/example/gumzo/gumzo/node/Intake;"⟩ : MethodName) (head1 (Jvm.Cond.code (⟨"com/example/gumzo/gumzo/node/Intake", "of", "(ZZ)Lcom/example/gumzo/gumzo/node/Intake;"⟩ : MethodName) prog_16_method_4_code 7 (some (.object "com/example/gumzo/gumzo/node/Intake")) :: ws) ({ frames := 2, cells := 1, slots := 4, locals := 25 } : Room)) (fun a U => a = #[(.int (1 : Int32)), (.int (1 : Int32))] ∧ Z.Warmed39 U.vm ∧ U.heap = h0) (fun _ _ _ _ _ => True) (fun _ U o U' => ∃ v L, o = .returned v ∧ Q1u11 v2 h0 n0 v U'.heap L ∧ FrameEnd U o U' L ({ frames := 2, cells := 1, slots := 4, locals := 25 } : Room).cells ({ frames := 2, cells := 1, slots := 4, locals := 25 } : Room).slots) := by
  refine MetFree.of_bodySF (plainFor_of_name pn_1) hisR ?_
  intro p e s m args below meth c s₁ Bd hml0 hP hK
  obtain ⟨rfl, hZ, hh⟩ := hP
  have hx := Bd.exec
  have hby := Bd.bytes
  have hml : c.maxLocals = 7 := hml0
  have hown : s.vm.findClass "com/example/gumzo/gumzo/node/Intake" = some m.cls := findClass_of_methodNamed Bd.named
  have hnm := (name_of_methodNamed Bd.named Bd.method).1
  have X0 : Stand p l e ({ frames := 2, cells := 1, slots := 4, locals := 25 } : Room) s m #[(.int (1 : Int32)), (.int (1 : Int32))] below meth c s₁ [] 0 0 := Stand.of_body Bd
  have e0 : s₁.heap = h0 := by rw [← hh, Bd.state]; rfl
  have N0 := Fr.nil n0
  have pre0 : ∀ t, Steps p.tables e below (s₁.setTop (mkF m 0 #[.val (.int (1 : Int32)), .val (.int (1 : Int32)), .unset, .unset, .unset, .unset, .unset] [])) t → Steps p.tables e below (s₁.setTop (entryFrame m #[(.int (1 : Int32)), (.int (1 : Int32))] 7)) t := fun t k => castTop (ef_1 m (1 : Int32) (1 : Int32)) k
  obtain ⟨_, _, ⟨T3, L3, k3, n3⟩, -, X3, ⟨Lc3, hQ3, l3, y3, z3⟩, st3⟩ := Jvm.LawKit.callS X0 hx (y := (⟨"com/example/gumzo/gumzo/node/Intake", "values", "()[Lcom/example/gumzo/gumzo/node/Intake;"⟩ : MethodName)) hown (mvT hZ (hw _ (List.mem_of_getElem? (i := 6) rfl))) (mvT hZ (hw _ (List.mem_of_getElem? (i := 7) rfl))) (mvT hZ (hw _ (List.mem_of_getElem? (i := 1) rfl))) (mvT hZ (hw _ (List.mem_of_getElem? (i := 8) rfl))) (by decide) (backOf (W := 0) (rm2 l Z a0 hw [] wV cl h0 n0 Z0 SV AV EV FV (Nat.le_of_eq hsz)) hZ (hw _ (List.mem_of_getElem? (i := 8) rfl)) (hw _ (List.mem_of_getElem? (i := 1) rfl)) (by decide) (by decide)) (g := (mkF m 2 #[.val (.int (1 : Int32)), .val (.int (1 : Int32)), .val .null, .unset, .unset, .unset, .unset] [])) rfl (by rw [hml]; rfl) (argsL := []) (rest := []) (lenOf pd_1_1 rfl) rfl (by show 2 * 0 + _ ≤ _; exact Nat.le_of_eq rfl) (hb hby d1_2) (fun _ _ => ⟨rfl, e0, (by decide : 0 + 1 ≤ _), (by decide : 0 + 4 ≤ _)⟩)
  dsimp only [Pt.U, Pt.locs, Pt.cells, Pt.slots] at X3 l3 y3 z3 st3 hQ3
  subst l3 y3 z3
  obtain ⟨b3, rfl, N3q, E3, Ar3⟩ := hQ3
  have SB : (cloneOf cl).slots.size = (4 : Int32).toNatClampNeg := hsz
  have NB : ¬ (4 : Int32) < 0 := by decide
  have gi0 : ¬ ((0 : Int32) < 0 ∨ (cloneOf cl).slots.size ≤ ((0 : Int32)).toNatClampNeg) := by
    have q : (0 : Int32) = (0 : Int32) := by decide
    rw [q]; exact hi0
  have gt0 : (cloneOf cl).slots[((0 : Int32)).toNatClampNeg]? = some (.ref v0) := by
    have q : (0 : Int32) = (0 : Int32) := by decide
    rw [q]; exact ht0
  have gi1 : ¬ (((0 : Int32) + (1 : Int32)) < 0 ∨ (cloneOf cl).slots.size ≤ (((0 : Int32) + (1 : Int32))).toNatClampNeg) := by
    have q : ((0 : Int32) + (1 : Int32)) = (1 : Int32) := by decide
    rw [q]; exact hi1
  have gt1 : (cloneOf cl).slots[(((0 : Int32) + (1 : Int32))).toNatClampNeg]? = some (.ref v1) := by
    have q : ((0 : Int32) + (1 : Int32)) = (1 : Int32) := by decide
    rw [q]; exact ht1
  have gi2 : ¬ ((((0 : Int32) + (1 : Int32)) + (1 : Int32)) < 0 ∨ (cloneOf cl).slots.size ≤ ((((0 : Int32) + (1 : Int32)) + (1 : Int32))).toNatClampNeg) := by
    have q : (((0 : Int32) + (1 : Int32)) + (1 : Int32)) = (2 : Int32) := by decide
    rw [q]; exact hi2
  have gt2 : (cloneOf cl).slots[((((0 : Int32) + (1 : Int32)) + (1 : Int32))).toNatClampNeg]? = some (.ref v2) := by
    have q : (((0 : Int32) + (1 : Int32)) + (1 : Int32)) = (2 : Int32) := by decide
    rw [q]; exact ht2
  have gi3 : ¬ (((((0 : Int32) + (1 : Int32)) + (1 : Int32)) + (1 : Int32)) < 0 ∨ (cloneOf cl).slots.size ≤ (((((0 : Int32) + (1 : Int32)) + (1 : Int32)) + (1 : Int32))).toNatClampNeg) := by
    have q : ((((0 : Int32) + (1 : Int32)) + (1 : Int32)) + (1 : Int32)) = (3 : Int32) := by decide
    rw [q]; exact hi3
  have gt3 : (cloneOf cl).slots[(((((0 : Int32) + (1 : Int32)) + (1 : Int32)) + (1 : Int32))).toNatClampNeg]? = some (.ref v3) := by
    have q : ((((0 : Int32) + (1 : Int32)) + (1 : Int32)) + (1 : Int32)) = (3 : Int32) := by decide
    rw [q]; exact ht3
  have N3 := Fr.app N0 N3q
  obtain ⟨T6, X6, e6, st6⟩ := getF X3 hx hZ hown (host := "") (Or.inl (hw _ (List.mem_of_getElem? (i := 24) rfl))) Via.refl rfl (U0.ext E3) (g := (mkF m 28 #[.val (.int (1 : Int32)), .val (.int (1 : Int32)), .val .null, .val (.ref b3), .val (.int (4 : Int32)), .val (.int (0 : Int32)), .val (.ref v0)] [(.ref v0)])) rfl rfl (hb hby d1_28)
  obtain ⟨T9, X9, e9, st9⟩ := getF X6 hx hZ hown (host := "") (Or.inl (hw _ (List.mem_of_getElem? (i := 24) rfl))) Via.refl e6 (U1.ext E3) (g := (mkF m 28 #[.val (.int (1 : Int32)), .val (.int (1 : Int32)), .val .null, .val (.ref b3), .val (.int (4 : Int32)), .val (.int ((0 : Int32) + (1 : Int32))), .val (.ref v1)] [(.ref v1)])) rfl rfl (hb hby d1_28)
  obtain ⟨T12, X12, e12, st12⟩ := getF X9 hx hZ hown (host := "") (Or.inl (hw _ (List.mem_of_getElem? (i := 24) rfl))) Via.refl e9 (U2.ext E3) (g := (mkF m 28 #[.val (.int (1 : Int32)), .val (.int (1 : Int32)), .val .null, .val (.ref b3), .val (.int (4 : Int32)), .val (.int (((0 : Int32) + (1 : Int32)) + (1 : Int32))), .val (.ref v2)] [(.ref v2)])) rfl rfl (hb hby d1_28)
  obtain ⟨T14, X14, e14, st14⟩ := getF X12 hx hZ hown (host := "") (Or.inl (hw _ (List.mem_of_getElem? (i := 26) rfl))) Via.refl e12 (Y2.ext E3) (g := (mkF m 37 #[.val (.int (1 : Int32)), .val (.int (1 : Int32)), .val .null, .val (.ref b3), .val (.int (4 : Int32)), .val (.int (((0 : Int32) + (1 : Int32)) + (1 : Int32))), .val (.ref v2)] [(.ref v2)])) rfl rfl (hb hby d1_37)
  obtain ⟨T17, X17, e17, st17⟩ := getF X14 hx hZ hown (host := "") (Or.inl (hw _ (List.mem_of_getElem? (i := 24) rfl))) Via.refl e14 (U3.ext E3) (g := (mkF m 28 #[.val (.int (1 : Int32)), .val (.int (1 : Int32)), .val (.ref v2), .val (.ref b3), .val (.int (4 : Int32)), .val (.int ((((0 : Int32) + (1 : Int32)) + (1 : Int32)) + (1 : Int32))), .val (.ref v3)] [(.ref v3)])) rfl rfl (hb hby d1_28)
  obtain ⟨T19, X19, e19, st19⟩ := getF X17 hx hZ hown (host := "") (Or.inl (hw _ (List.mem_of_getElem? (i := 26) rfl))) Via.refl e17 (Y3.ext E3) (g := (mkF m 37 #[.val (.int (1 : Int32)), .val (.int (1 : Int32)), .val (.ref v2), .val (.ref b3), .val (.int (4 : Int32)), .val (.int ((((0 : Int32) + (1 : Int32)) + (1 : Int32)) + (1 : Int32))), .val (.ref v3)] [(.ref v3)])) rfl rfl (hb hby d1_37)
  obtain ⟨fs, hr, hrun, hended, hW, hsame⟩ := X19.leave (v := some (.ref v2)) (fun h => by rw [Bd.returns] at h; cases h)
  refine ⟨_, _, pre0 _ ?_, hrun, hended, _, _, rfl, ?_, ⟨_, rfl⟩, hW, hsame.mono (by decide) (by decide)⟩
  · show Steps p.tables e below (s₁.setTop (mkF m 0 #[.val (.int (1 : Int32)), .val (.int (1 : Int32)), .unset, .unset, .unset, .unset, .unset] [])) _
    refine XS.aconstNull X0.here hx rfl (hb hby d1_0) ?_
    show Steps p.tables e below (s₁.setTop (mkF m 1 #[.val (.int (1 : Int32)), .val (.int (1 : Int32)), .unset, .unset, .unset, .unset, .unset] [.null])) _
    refine XS.astoreN X0.here hx rfl (hb hby d1_1) rfl rfl (l' := #[.val (.int (1 : Int32)), .val (.int (1 : Int32)), .val .null, .unset, .unset, .unset, .unset]) rfl ?_
    show Steps p.tables e below (s₁.setTop (mkF m 2 #[.val (.int (1 : Int32)), .val (.int (1 : Int32)), .val .null, .unset, .unset, .unset, .unset] [])) _
    refine st3 _ ?_
    show Steps p.tables e below (T3.setTop (mkF m 5 #[.val (.int (1 : Int32)), .val (.int (1 : Int32)), .val .null, .unset, .unset, .unset, .unset] [(.ref b3)])) _
    refine XS.astoreN X3.here hx rfl (hb hby d1_5) rfl rfl (l' := #[.val (.int (1 : Int32)), .val (.int (1 : Int32)), .val .null, .val (.ref b3), .unset, .unset, .unset]) rfl ?_
    show Steps p.tables e below (T3.setTop (mkF m 6 #[.val (.int (1 : Int32)), .val (.int (1 : Int32)), .val .null, .val (.ref b3), .unset, .unset, .unset] [])) _
    refine XS.aloadN X3.here hx rfl (hb hby d1_6) rfl rfl ?_
    show Steps p.tables e below (T3.setTop (mkF m 7 #[.val (.int (1 : Int32)), .val (.int (1 : Int32)), .val .null, .val (.ref b3), .unset, .unset, .unset] [(.ref b3)])) _
    refine X3.arraylength hx Ar3.1 (State.isArrayOf_alike hZ.alike Ar3.2.1) (g := (mkF m 7 #[.val (.int (1 : Int32)), .val (.int (1 : Int32)), .val .null, .val (.ref b3), .unset, .unset, .unset] [(.ref b3)])) rfl rfl (hb hby d1_7) _ ?_
    rw [len_of SB NB]
    show Steps p.tables e below (T3.setTop (mkF m 8 #[.val (.int (1 : Int32)), .val (.int (1 : Int32)), .val .null, .val (.ref b3), .unset, .unset, .unset] [(.int (4 : Int32))])) _
    refine XS.istore X3.here hx rfl (hb hby d1_8) rfl (l' := #[.val (.int (1 : Int32)), .val (.int (1 : Int32)), .val .null, .val (.ref b3), .val (.int (4 : Int32)), .unset, .unset]) rfl ?_
    show Steps p.tables e below (T3.setTop (mkF m 10 #[.val (.int (1 : Int32)), .val (.int (1 : Int32)), .val .null, .val (.ref b3), .val (.int (4 : Int32)), .unset, .unset] [])) _
    refine XS.iconst X3.here hx rfl (hb hby d1_10) ?_
    show Steps p.tables e below (T3.setTop (mkF m 11 #[.val (.int (1 : Int32)), .val (.int (1 : Int32)), .val .null, .val (.ref b3), .val (.int (4 : Int32)), .unset, .unset] [(.int (0 : Int32))])) _
    refine XS.istore X3.here hx rfl (hb hby d1_11) rfl (l' := #[.val (.int (1 : Int32)), .val (.int (1 : Int32)), .val .null, .val (.ref b3), .val (.int (4 : Int32)), .val (.int (0 : Int32)), .unset]) rfl ?_
    show Steps p.tables e below (T3.setTop (mkF m 13 #[.val (.int (1 : Int32)), .val (.int (1 : Int32)), .val .null, .val (.ref b3), .val (.int (4 : Int32)), .val (.int (0 : Int32)), .unset] [])) _
    refine XS.iload X3.here hx rfl (hb hby d1_13) rfl ?_
    show Steps p.tables e below (T3.setTop (mkF m 15 #[.val (.int (1 : Int32)), .val (.int (1 : Int32)), .val .null, .val (.ref b3), .val (.int (4 : Int32)), .val (.int (0 : Int32)), .unset] [(.int (0 : Int32))])) _
    refine XS.iload X3.here hx rfl (hb hby d1_15) rfl ?_
    show Steps p.tables e below (T3.setTop (mkF m 17 #[.val (.int (1 : Int32)), .val (.int (1 : Int32)), .val .null, .val (.ref b3), .val (.int (4 : Int32)), .val (.int (0 : Int32)), .unset] [(.int (4 : Int32)), (.int (0 : Int32))])) _
    refine XS.icmpNo X3.here hx rfl (hb hby d1_17) rfl (tlt (by decide : (0 : Int32) < (4 : Int32))).2.1 ?_
    show Steps p.tables e below (T3.setTop (mkF m 20 #[.val (.int (1 : Int32)), .val (.int (1 : Int32)), .val .null, .val (.ref b3), .val (.int (4 : Int32)), .val (.int (0 : Int32)), .unset] [])) _
    refine XS.aloadN X3.here hx rfl (hb hby d1_20) rfl rfl ?_
    show Steps p.tables e below (T3.setTop (mkF m 21 #[.val (.int (1 : Int32)), .val (.int (1 : Int32)), .val .null, .val (.ref b3), .val (.int (4 : Int32)), .val (.int (0 : Int32)), .unset] [(.ref b3)])) _
    refine XS.iload X3.here hx rfl (hb hby d1_21) rfl ?_
    show Steps p.tables e below (T3.setTop (mkF m 23 #[.val (.int (1 : Int32)), .val (.int (1 : Int32)), .val .null, .val (.ref b3), .val (.int (4 : Int32)), .val (.int (0 : Int32)), .unset] [(.int (0 : Int32)), (.ref b3)])) _
    refine X3.aaload hx (j := (0 : Int32)) (v := (.ref v0)) Ar3.1 (State.isArrayOf_alike hZ.alike Ar3.2.1) rfl Ar3.2.2 gi0 gt0 (g := (mkF m 23 #[.val (.int (1 : Int32)), .val (.int (1 : Int32)), .val .null, .val (.ref b3), .val (.int (4 : Int32)), .val (.int (0 : Int32)), .unset] [(.int (0 : Int32)), (.ref b3)])) rfl rfl (hb hby d1_23) _ ?_
    show Steps p.tables e below (T3.setTop (mkF m 24 #[.val (.int (1 : Int32)), .val (.int (1 : Int32)), .val .null, .val (.ref b3), .val (.int (4 : Int32)), .val (.int (0 : Int32)), .unset] [(.ref v0)])) _
    refine XS.astore X3.here hx rfl (hb hby d1_24) rfl rfl (l' := #[.val (.int (1 : Int32)), .val (.int (1 : Int32)), .val .null, .val (.ref b3), .val (.int (4 : Int32)), .val (.int (0 : Int32)), .val (.ref v0)]) rfl ?_
    show Steps p.tables e below (T3.setTop (mkF m 26 #[.val (.int (1 : Int32)), .val (.int (1 : Int32)), .val .null, .val (.ref b3), .val (.int (4 : Int32)), .val (.int (0 : Int32)), .val (.ref v0)] [])) _
    refine XS.aload X3.here hx rfl (hb hby d1_26) rfl rfl ?_
    show Steps p.tables e below (T3.setTop (mkF m 28 #[.val (.int (1 : Int32)), .val (.int (1 : Int32)), .val .null, .val (.ref b3), .val (.int (4 : Int32)), .val (.int (0 : Int32)), .val (.ref v0)] [(.ref v0)])) _
    refine st6 _ ?_
    show Steps p.tables e below (T6.setTop (mkF m 31 #[.val (.int (1 : Int32)), .val (.int (1 : Int32)), .val .null, .val (.ref b3), .val (.int (4 : Int32)), .val (.int (0 : Int32)), .val (.ref v0)] [(.int (0 : Int32))])) _
    refine XS.iloadN X6.here hx rfl (hb hby d1_31) rfl ?_
    show Steps p.tables e below (T6.setTop (mkF m 32 #[.val (.int (1 : Int32)), .val (.int (1 : Int32)), .val .null, .val (.ref b3), .val (.int (4 : Int32)), .val (.int (0 : Int32)), .val (.ref v0)] [(.int (1 : Int32)), (.int (0 : Int32))])) _
    refine XS.icmpYes X6.here hx rfl (pc0 := 32) (pc' := 47) rfl (hb hby d1_32) rfl (feq (by decide)).2 (by decide) (by decide) ?_
    show Steps p.tables e below (T6.setTop (mkF m 47 #[.val (.int (1 : Int32)), .val (.int (1 : Int32)), .val .null, .val (.ref b3), .val (.int (4 : Int32)), .val (.int (0 : Int32)), .val (.ref v0)] [])) _
    refine XS.iinc X6.here hx rfl (hb hby d1_47) rfl (l' := #[.val (.int (1 : Int32)), .val (.int (1 : Int32)), .val .null, .val (.ref b3), .val (.int (4 : Int32)), .val (.int ((0 : Int32) + (1 : Int32))), .val (.ref v0)]) rfl ?_
    show Steps p.tables e below (T6.setTop (mkF m 50 #[.val (.int (1 : Int32)), .val (.int (1 : Int32)), .val .null, .val (.ref b3), .val (.int (4 : Int32)), .val (.int ((0 : Int32) + (1 : Int32))), .val (.ref v0)] [])) _
    refine XS.goto X6.here hx rfl (pc0 := 50) (pc' := 13) rfl (hb hby d1_50) (by decide) (by decide) ?_
    show Steps p.tables e below (T6.setTop (mkF m 13 #[.val (.int (1 : Int32)), .val (.int (1 : Int32)), .val .null, .val (.ref b3), .val (.int (4 : Int32)), .val (.int ((0 : Int32) + (1 : Int32))), .val (.ref v0)] [])) _
    refine XS.iload X6.here hx rfl (hb hby d1_13) rfl ?_
    show Steps p.tables e below (T6.setTop (mkF m 15 #[.val (.int (1 : Int32)), .val (.int (1 : Int32)), .val .null, .val (.ref b3), .val (.int (4 : Int32)), .val (.int ((0 : Int32) + (1 : Int32))), .val (.ref v0)] [(.int ((0 : Int32) + (1 : Int32)))])) _
    refine XS.iload X6.here hx rfl (hb hby d1_15) rfl ?_
    show Steps p.tables e below (T6.setTop (mkF m 17 #[.val (.int (1 : Int32)), .val (.int (1 : Int32)), .val .null, .val (.ref b3), .val (.int (4 : Int32)), .val (.int ((0 : Int32) + (1 : Int32))), .val (.ref v0)] [(.int (4 : Int32)), (.int ((0 : Int32) + (1 : Int32)))])) _
    refine XS.icmpNo X6.here hx rfl (hb hby d1_17) rfl (tlt (by decide : ((0 : Int32) + (1 : Int32)) < (4 : Int32))).2.1 ?_
    show Steps p.tables e below (T6.setTop (mkF m 20 #[.val (.int (1 : Int32)), .val (.int (1 : Int32)), .val .null, .val (.ref b3), .val (.int (4 : Int32)), .val (.int ((0 : Int32) + (1 : Int32))), .val (.ref v0)] [])) _
    refine XS.aloadN X6.here hx rfl (hb hby d1_20) rfl rfl ?_
    show Steps p.tables e below (T6.setTop (mkF m 21 #[.val (.int (1 : Int32)), .val (.int (1 : Int32)), .val .null, .val (.ref b3), .val (.int (4 : Int32)), .val (.int ((0 : Int32) + (1 : Int32))), .val (.ref v0)] [(.ref b3)])) _
    refine XS.iload X6.here hx rfl (hb hby d1_21) rfl ?_
    show Steps p.tables e below (T6.setTop (mkF m 23 #[.val (.int (1 : Int32)), .val (.int (1 : Int32)), .val .null, .val (.ref b3), .val (.int (4 : Int32)), .val (.int ((0 : Int32) + (1 : Int32))), .val (.ref v0)] [(.int ((0 : Int32) + (1 : Int32))), (.ref b3)])) _
    refine X6.aaload hx (j := ((0 : Int32) + (1 : Int32))) (v := (.ref v1)) (by rw [e6]; exact Ar3.1) (State.isArrayOf_alike hZ.alike Ar3.2.1) rfl Ar3.2.2 gi1 gt1 (g := (mkF m 23 #[.val (.int (1 : Int32)), .val (.int (1 : Int32)), .val .null, .val (.ref b3), .val (.int (4 : Int32)), .val (.int ((0 : Int32) + (1 : Int32))), .val (.ref v0)] [(.int ((0 : Int32) + (1 : Int32))), (.ref b3)])) rfl rfl (hb hby d1_23) _ ?_
    show Steps p.tables e below (T6.setTop (mkF m 24 #[.val (.int (1 : Int32)), .val (.int (1 : Int32)), .val .null, .val (.ref b3), .val (.int (4 : Int32)), .val (.int ((0 : Int32) + (1 : Int32))), .val (.ref v0)] [(.ref v1)])) _
    refine XS.astore X6.here hx rfl (hb hby d1_24) rfl rfl (l' := #[.val (.int (1 : Int32)), .val (.int (1 : Int32)), .val .null, .val (.ref b3), .val (.int (4 : Int32)), .val (.int ((0 : Int32) + (1 : Int32))), .val (.ref v1)]) rfl ?_
    show Steps p.tables e below (T6.setTop (mkF m 26 #[.val (.int (1 : Int32)), .val (.int (1 : Int32)), .val .null, .val (.ref b3), .val (.int (4 : Int32)), .val (.int ((0 : Int32) + (1 : Int32))), .val (.ref v1)] [])) _
    refine XS.aload X6.here hx rfl (hb hby d1_26) rfl rfl ?_
    show Steps p.tables e below (T6.setTop (mkF m 28 #[.val (.int (1 : Int32)), .val (.int (1 : Int32)), .val .null, .val (.ref b3), .val (.int (4 : Int32)), .val (.int ((0 : Int32) + (1 : Int32))), .val (.ref v1)] [(.ref v1)])) _
    refine st9 _ ?_
    show Steps p.tables e below (T9.setTop (mkF m 31 #[.val (.int (1 : Int32)), .val (.int (1 : Int32)), .val .null, .val (.ref b3), .val (.int (4 : Int32)), .val (.int ((0 : Int32) + (1 : Int32))), .val (.ref v1)] [(.int (0 : Int32))])) _
    refine XS.iloadN X9.here hx rfl (hb hby d1_31) rfl ?_
    show Steps p.tables e below (T9.setTop (mkF m 32 #[.val (.int (1 : Int32)), .val (.int (1 : Int32)), .val .null, .val (.ref b3), .val (.int (4 : Int32)), .val (.int ((0 : Int32) + (1 : Int32))), .val (.ref v1)] [(.int (1 : Int32)), (.int (0 : Int32))])) _
    refine XS.icmpYes X9.here hx rfl (pc0 := 32) (pc' := 47) rfl (hb hby d1_32) rfl (feq (by decide)).2 (by decide) (by decide) ?_
    show Steps p.tables e below (T9.setTop (mkF m 47 #[.val (.int (1 : Int32)), .val (.int (1 : Int32)), .val .null, .val (.ref b3), .val (.int (4 : Int32)), .val (.int ((0 : Int32) + (1 : Int32))), .val (.ref v1)] [])) _
    refine XS.iinc X9.here hx rfl (hb hby d1_47) rfl (l' := #[.val (.int (1 : Int32)), .val (.int (1 : Int32)), .val .null, .val (.ref b3), .val (.int (4 : Int32)), .val (.int (((0 : Int32) + (1 : Int32)) + (1 : Int32))), .val (.ref v1)]) rfl ?_
    show Steps p.tables e below (T9.setTop (mkF m 50 #[.val (.int (1 : Int32)), .val (.int (1 : Int32)), .val .null, .val (.ref b3), .val (.int (4 : Int32)), .val (.int (((0 : Int32) + (1 : Int32)) + (1 : Int32))), .val (.ref v1)] [])) _
    refine XS.goto X9.here hx rfl (pc0 := 50) (pc' := 13) rfl (hb hby d1_50) (by decide) (by decide) ?_
    show Steps p.tables e below (T9.setTop (mkF m 13 #[.val (.int (1 : Int32)), .val (.int (1 : Int32)), .val .null, .val (.ref b3), .val (.int (4 : Int32)), .val (.int (((0 : Int32) + (1 : Int32)) + (1 : Int32))), .val (.ref v1)] [])) _
    refine XS.iload X9.here hx rfl (hb hby d1_13) rfl ?_
    show Steps p.tables e below (T9.setTop (mkF m 15 #[.val (.int (1 : Int32)), .val (.int (1 : Int32)), .val .null, .val (.ref b3), .val (.int (4 : Int32)), .val (.int (((0 : Int32) + (1 : Int32)) + (1 : Int32))), .val (.ref v1)] [(.int (((0 : Int32) + (1 : Int32)) + (1 : Int32)))])) _
    refine XS.iload X9.here hx rfl (hb hby d1_15) rfl ?_
    show Steps p.tables e below (T9.setTop (mkF m 17 #[.val (.int (1 : Int32)), .val (.int (1 : Int32)), .val .null, .val (.ref b3), .val (.int (4 : Int32)), .val (.int (((0 : Int32) + (1 : Int32)) + (1 : Int32))), .val (.ref v1)] [(.int (4 : Int32)), (.int (((0 : Int32) + (1 : Int32)) + (1 : Int32)))])) _
    refine XS.icmpNo X9.here hx rfl (hb hby d1_17) rfl (tlt (by decide : (((0 : Int32) + (1 : Int32)) + (1 : Int32)) < (4 : Int32))).2.1 ?_
    show Steps p.tables e below (T9.setTop (mkF m 20 #[.val (.int (1 : Int32)), .val (.int (1 : Int32)), .val .null, .val (.ref b3), .val (.int (4 : Int32)), .val (.int (((0 : Int32) + (1 : Int32)) + (1 : Int32))), .val (.ref v1)] [])) _
    refine XS.aloadN X9.here hx rfl (hb hby d1_20) rfl rfl ?_
    show Steps p.tables e below (T9.setTop (mkF m 21 #[.val (.int (1 : Int32)), .val (.int (1 : Int32)), .val .null, .val (.ref b3), .val (.int (4 : Int32)), .val (.int (((0 : Int32) + (1 : Int32)) + (1 : Int32))), .val (.ref v1)] [(.ref b3)])) _
    refine XS.iload X9.here hx rfl (hb hby d1_21) rfl ?_
    show Steps p.tables e below (T9.setTop (mkF m 23 #[.val (.int (1 : Int32)), .val (.int (1 : Int32)), .val .null, .val (.ref b3), .val (.int (4 : Int32)), .val (.int (((0 : Int32) + (1 : Int32)) + (1 : Int32))), .val (.ref v1)] [(.int (((0 : Int32) + (1 : Int32)) + (1 : Int32))), (.ref b3)])) _
    refine X9.aaload hx (j := (((0 : Int32) + (1 : Int32)) + (1 : Int32))) (v := (.ref v2)) (by rw [e9]; exact Ar3.1) (State.isArrayOf_alike hZ.alike Ar3.2.1) rfl Ar3.2.2 gi2 gt2 (g := (mkF m 23 #[.val (.int (1 : Int32)), .val (.int (1 : Int32)), .val .null, .val (.ref b3), .val (.int (4 : Int32)), .val (.int (((0 : Int32) + (1 : Int32)) + (1 : Int32))), .val (.ref v1)] [(.int (((0 : Int32) + (1 : Int32)) + (1 : Int32))), (.ref b3)])) rfl rfl (hb hby d1_23) _ ?_
    show Steps p.tables e below (T9.setTop (mkF m 24 #[.val (.int (1 : Int32)), .val (.int (1 : Int32)), .val .null, .val (.ref b3), .val (.int (4 : Int32)), .val (.int (((0 : Int32) + (1 : Int32)) + (1 : Int32))), .val (.ref v1)] [(.ref v2)])) _
    refine XS.astore X9.here hx rfl (hb hby d1_24) rfl rfl (l' := #[.val (.int (1 : Int32)), .val (.int (1 : Int32)), .val .null, .val (.ref b3), .val (.int (4 : Int32)), .val (.int (((0 : Int32) + (1 : Int32)) + (1 : Int32))), .val (.ref v2)]) rfl ?_
    show Steps p.tables e below (T9.setTop (mkF m 26 #[.val (.int (1 : Int32)), .val (.int (1 : Int32)), .val .null, .val (.ref b3), .val (.int (4 : Int32)), .val (.int (((0 : Int32) + (1 : Int32)) + (1 : Int32))), .val (.ref v2)] [])) _
    refine XS.aload X9.here hx rfl (hb hby d1_26) rfl rfl ?_
    show Steps p.tables e below (T9.setTop (mkF m 28 #[.val (.int (1 : Int32)), .val (.int (1 : Int32)), .val .null, .val (.ref b3), .val (.int (4 : Int32)), .val (.int (((0 : Int32) + (1 : Int32)) + (1 : Int32))), .val (.ref v2)] [(.ref v2)])) _
    refine st12 _ ?_
    show Steps p.tables e below (T12.setTop (mkF m 31 #[.val (.int (1 : Int32)), .val (.int (1 : Int32)), .val .null, .val (.ref b3), .val (.int (4 : Int32)), .val (.int (((0 : Int32) + (1 : Int32)) + (1 : Int32))), .val (.ref v2)] [(.int (1 : Int32))])) _
    refine XS.iloadN X12.here hx rfl (hb hby d1_31) rfl ?_
    show Steps p.tables e below (T12.setTop (mkF m 32 #[.val (.int (1 : Int32)), .val (.int (1 : Int32)), .val .null, .val (.ref b3), .val (.int (4 : Int32)), .val (.int (((0 : Int32) + (1 : Int32)) + (1 : Int32))), .val (.ref v2)] [(.int (1 : Int32)), (.int (1 : Int32))])) _
    refine XS.icmpNo X12.here hx rfl (hb hby d1_32) rfl (teq rfl).2 ?_
    show Steps p.tables e below (T12.setTop (mkF m 35 #[.val (.int (1 : Int32)), .val (.int (1 : Int32)), .val .null, .val (.ref b3), .val (.int (4 : Int32)), .val (.int (((0 : Int32) + (1 : Int32)) + (1 : Int32))), .val (.ref v2)] [])) _
    refine XS.aload X12.here hx rfl (hb hby d1_35) rfl rfl ?_
    show Steps p.tables e below (T12.setTop (mkF m 37 #[.val (.int (1 : Int32)), .val (.int (1 : Int32)), .val .null, .val (.ref b3), .val (.int (4 : Int32)), .val (.int (((0 : Int32) + (1 : Int32)) + (1 : Int32))), .val (.ref v2)] [(.ref v2)])) _
    refine st14 _ ?_
    show Steps p.tables e below (T14.setTop (mkF m 40 #[.val (.int (1 : Int32)), .val (.int (1 : Int32)), .val .null, .val (.ref b3), .val (.int (4 : Int32)), .val (.int (((0 : Int32) + (1 : Int32)) + (1 : Int32))), .val (.ref v2)] [(.int (1 : Int32))])) _
    refine XS.iloadN X14.here hx rfl (hb hby d1_40) rfl ?_
    show Steps p.tables e below (T14.setTop (mkF m 41 #[.val (.int (1 : Int32)), .val (.int (1 : Int32)), .val .null, .val (.ref b3), .val (.int (4 : Int32)), .val (.int (((0 : Int32) + (1 : Int32)) + (1 : Int32))), .val (.ref v2)] [(.int (1 : Int32)), (.int (1 : Int32))])) _
    refine XS.icmpNo X14.here hx rfl (hb hby d1_41) rfl (teq rfl).2 ?_
    show Steps p.tables e below (T14.setTop (mkF m 44 #[.val (.int (1 : Int32)), .val (.int (1 : Int32)), .val .null, .val (.ref b3), .val (.int (4 : Int32)), .val (.int (((0 : Int32) + (1 : Int32)) + (1 : Int32))), .val (.ref v2)] [])) _
    refine XS.aload X14.here hx rfl (hb hby d1_44) rfl rfl ?_
    show Steps p.tables e below (T14.setTop (mkF m 46 #[.val (.int (1 : Int32)), .val (.int (1 : Int32)), .val .null, .val (.ref b3), .val (.int (4 : Int32)), .val (.int (((0 : Int32) + (1 : Int32)) + (1 : Int32))), .val (.ref v2)] [(.ref v2)])) _
    refine XS.astoreN X14.here hx rfl (hb hby d1_46) rfl rfl (l' := #[.val (.int (1 : Int32)), .val (.int (1 : Int32)), .val (.ref v2), .val (.ref b3), .val (.int (4 : Int32)), .val (.int (((0 : Int32) + (1 : Int32)) + (1 : Int32))), .val (.ref v2)]) rfl ?_
    show Steps p.tables e below (T14.setTop (mkF m 47 #[.val (.int (1 : Int32)), .val (.int (1 : Int32)), .val (.ref v2), .val (.ref b3), .val (.int (4 : Int32)), .val (.int (((0 : Int32) + (1 : Int32)) + (1 : Int32))), .val (.ref v2)] [])) _
    refine XS.iinc X14.here hx rfl (hb hby d1_47) rfl (l' := #[.val (.int (1 : Int32)), .val (.int (1 : Int32)), .val (.ref v2), .val (.ref b3), .val (.int (4 : Int32)), .val (.int ((((0 : Int32) + (1 : Int32)) + (1 : Int32)) + (1 : Int32))), .val (.ref v2)]) rfl ?_
    show Steps p.tables e below (T14.setTop (mkF m 50 #[.val (.int (1 : Int32)), .val (.int (1 : Int32)), .val (.ref v2), .val (.ref b3), .val (.int (4 : Int32)), .val (.int ((((0 : Int32) + (1 : Int32)) + (1 : Int32)) + (1 : Int32))), .val (.ref v2)] [])) _
    refine XS.goto X14.here hx rfl (pc0 := 50) (pc' := 13) rfl (hb hby d1_50) (by decide) (by decide) ?_
    show Steps p.tables e below (T14.setTop (mkF m 13 #[.val (.int (1 : Int32)), .val (.int (1 : Int32)), .val (.ref v2), .val (.ref b3), .val (.int (4 : Int32)), .val (.int ((((0 : Int32) + (1 : Int32)) + (1 : Int32)) + (1 : Int32))), .val (.ref v2)] [])) _
    refine XS.iload X14.here hx rfl (hb hby d1_13) rfl ?_
    show Steps p.tables e below (T14.setTop (mkF m 15 #[.val (.int (1 : Int32)), .val (.int (1 : Int32)), .val (.ref v2), .val (.ref b3), .val (.int (4 : Int32)), .val (.int ((((0 : Int32) + (1 : Int32)) + (1 : Int32)) + (1 : Int32))), .val (.ref v2)] [(.int ((((0 : Int32) + (1 : Int32)) + (1 : Int32)) + (1 : Int32)))])) _
    refine XS.iload X14.here hx rfl (hb hby d1_15) rfl ?_
    show Steps p.tables e below (T14.setTop (mkF m 17 #[.val (.int (1 : Int32)), .val (.int (1 : Int32)), .val (.ref v2), .val (.ref b3), .val (.int (4 : Int32)), .val (.int ((((0 : Int32) + (1 : Int32)) + (1 : Int32)) + (1 : Int32))), .val (.ref v2)] [(.int (4 : Int32)), (.int ((((0 : Int32) + (1 : Int32)) + (1 : Int32)) + (1 : Int32)))])) _
    refine XS.icmpNo X14.here hx rfl (hb hby d1_17) rfl (tlt (by decide : ((((0 : Int32) + (1 : Int32)) + (1 : Int32)) + (1 : Int32)) < (4 : Int32))).2.1 ?_
    show Steps p.tables e below (T14.setTop (mkF m 20 #[.val (.int (1 : Int32)), .val (.int (1 : Int32)), .val (.ref v2), .val (.ref b3), .val (.int (4 : Int32)), .val (.int ((((0 : Int32) + (1 : Int32)) + (1 : Int32)) + (1 : Int32))), .val (.ref v2)] [])) _
    refine XS.aloadN X14.here hx rfl (hb hby d1_20) rfl rfl ?_
    show Steps p.tables e below (T14.setTop (mkF m 21 #[.val (.int (1 : Int32)), .val (.int (1 : Int32)), .val (.ref v2), .val (.ref b3), .val (.int (4 : Int32)), .val (.int ((((0 : Int32) + (1 : Int32)) + (1 : Int32)) + (1 : Int32))), .val (.ref v2)] [(.ref b3)])) _
    refine XS.iload X14.here hx rfl (hb hby d1_21) rfl ?_
    show Steps p.tables e below (T14.setTop (mkF m 23 #[.val (.int (1 : Int32)), .val (.int (1 : Int32)), .val (.ref v2), .val (.ref b3), .val (.int (4 : Int32)), .val (.int ((((0 : Int32) + (1 : Int32)) + (1 : Int32)) + (1 : Int32))), .val (.ref v2)] [(.int ((((0 : Int32) + (1 : Int32)) + (1 : Int32)) + (1 : Int32))), (.ref b3)])) _
    refine X14.aaload hx (j := ((((0 : Int32) + (1 : Int32)) + (1 : Int32)) + (1 : Int32))) (v := (.ref v3)) (by rw [e14]; exact Ar3.1) (State.isArrayOf_alike hZ.alike Ar3.2.1) rfl Ar3.2.2 gi3 gt3 (g := (mkF m 23 #[.val (.int (1 : Int32)), .val (.int (1 : Int32)), .val (.ref v2), .val (.ref b3), .val (.int (4 : Int32)), .val (.int ((((0 : Int32) + (1 : Int32)) + (1 : Int32)) + (1 : Int32))), .val (.ref v2)] [(.int ((((0 : Int32) + (1 : Int32)) + (1 : Int32)) + (1 : Int32))), (.ref b3)])) rfl rfl (hb hby d1_23) _ ?_
    show Steps p.tables e below (T14.setTop (mkF m 24 #[.val (.int (1 : Int32)), .val (.int (1 : Int32)), .val (.ref v2), .val (.ref b3), .val (.int (4 : Int32)), .val (.int ((((0 : Int32) + (1 : Int32)) + (1 : Int32)) + (1 : Int32))), .val (.ref v2)] [(.ref v3)])) _
    refine XS.astore X14.here hx rfl (hb hby d1_24) rfl rfl (l' := #[.val (.int (1 : Int32)), .val (.int (1 : Int32)), .val (.ref v2), .val (.ref b3), .val (.int (4 : Int32)), .val (.int ((((0 : Int32) + (1 : Int32)) + (1 : Int32)) + (1 : Int32))), .val (.ref v3)]) rfl ?_
    show Steps p.tables e below (T14.setTop (mkF m 26 #[.val (.int (1 : Int32)), .val (.int (1 : Int32)), .val (.ref v2), .val (.ref b3), .val (.int (4 : Int32)), .val (.int ((((0 : Int32) + (1 : Int32)) + (1 : Int32)) + (1 : Int32))), .val (.ref v3)] [])) _
    refine XS.aload X14.here hx rfl (hb hby d1_26) rfl rfl ?_
    show Steps p.tables e below (T14.setTop (mkF m 28 #[.val (.int (1 : Int32)), .val (.int (1 : Int32)), .val (.ref v2), .val (.ref b3), .val (.int (4 : Int32)), .val (.int ((((0 : Int32) + (1 : Int32)) + (1 : Int32)) + (1 : Int32))), .val (.ref v3)] [(.ref v3)])) _
    refine st17 _ ?_
    show Steps p.tables e below (T17.setTop (mkF m 31 #[.val (.int (1 : Int32)), .val (.int (1 : Int32)), .val (.ref v2), .val (.ref b3), .val (.int (4 : Int32)), .val (.int ((((0 : Int32) + (1 : Int32)) + (1 : Int32)) + (1 : Int32))), .val (.ref v3)] [(.int (1 : Int32))])) _
    refine XS.iloadN X17.here hx rfl (hb hby d1_31) rfl ?_
    show Steps p.tables e below (T17.setTop (mkF m 32 #[.val (.int (1 : Int32)), .val (.int (1 : Int32)), .val (.ref v2), .val (.ref b3), .val (.int (4 : Int32)), .val (.int ((((0 : Int32) + (1 : Int32)) + (1 : Int32)) + (1 : Int32))), .val (.ref v3)] [(.int (1 : Int32)), (.int (1 : Int32))])) _
    refine XS.icmpNo X17.here hx rfl (hb hby d1_32) rfl (teq rfl).2 ?_
    show Steps p.tables e below (T17.setTop (mkF m 35 #[.val (.int (1 : Int32)), .val (.int (1 : Int32)), .val (.ref v2), .val (.ref b3), .val (.int (4 : Int32)), .val (.int ((((0 : Int32) + (1 : Int32)) + (1 : Int32)) + (1 : Int32))), .val (.ref v3)] [])) _
    refine XS.aload X17.here hx rfl (hb hby d1_35) rfl rfl ?_
    show Steps p.tables e below (T17.setTop (mkF m 37 #[.val (.int (1 : Int32)), .val (.int (1 : Int32)), .val (.ref v2), .val (.ref b3), .val (.int (4 : Int32)), .val (.int ((((0 : Int32) + (1 : Int32)) + (1 : Int32)) + (1 : Int32))), .val (.ref v3)] [(.ref v3)])) _
    refine st19 _ ?_
    show Steps p.tables e below (T19.setTop (mkF m 40 #[.val (.int (1 : Int32)), .val (.int (1 : Int32)), .val (.ref v2), .val (.ref b3), .val (.int (4 : Int32)), .val (.int ((((0 : Int32) + (1 : Int32)) + (1 : Int32)) + (1 : Int32))), .val (.ref v3)] [(.int (0 : Int32))])) _
    refine XS.iloadN X19.here hx rfl (hb hby d1_40) rfl ?_
    show Steps p.tables e below (T19.setTop (mkF m 41 #[.val (.int (1 : Int32)), .val (.int (1 : Int32)), .val (.ref v2), .val (.ref b3), .val (.int (4 : Int32)), .val (.int ((((0 : Int32) + (1 : Int32)) + (1 : Int32)) + (1 : Int32))), .val (.ref v3)] [(.int (1 : Int32)), (.int (0 : Int32))])) _
    refine XS.icmpYes X19.here hx rfl (pc0 := 41) (pc' := 47) rfl (hb hby d1_41) rfl (feq (by decide)).2 (by decide) (by decide) ?_
    show Steps p.tables e below (T19.setTop (mkF m 47 #[.val (.int (1 : Int32)), .val (.int (1 : Int32)), .val (.ref v2), .val (.ref b3), .val (.int (4 : Int32)), .val (.int ((((0 : Int32) + (1 : Int32)) + (1 : Int32)) + (1 : Int32))), .val (.ref v3)] [])) _
    refine XS.iinc X19.here hx rfl (hb hby d1_47) rfl (l' := #[.val (.int (1 : Int32)), .val (.int (1 : Int32)), .val (.ref v2), .val (.ref b3), .val (.int (4 : Int32)), .val (.int (((((0 : Int32) + (1 : Int32)) + (1 : Int32)) + (1 : Int32)) + (1 : Int32))), .val (.ref v3)]) rfl ?_
    show Steps p.tables e below (T19.setTop (mkF m 50 #[.val (.int (1 : Int32)), .val (.int (1 : Int32)), .val (.ref v2), .val (.ref b3), .val (.int (4 : Int32)), .val (.int (((((0 : Int32) + (1 : Int32)) + (1 : Int32)) + (1 : Int32)) + (1 : Int32))), .val (.ref v3)] [])) _
    refine XS.goto X19.here hx rfl (pc0 := 50) (pc' := 13) rfl (hb hby d1_50) (by decide) (by decide) ?_
    show Steps p.tables e below (T19.setTop (mkF m 13 #[.val (.int (1 : Int32)), .val (.int (1 : Int32)), .val (.ref v2), .val (.ref b3), .val (.int (4 : Int32)), .val (.int (((((0 : Int32) + (1 : Int32)) + (1 : Int32)) + (1 : Int32)) + (1 : Int32))), .val (.ref v3)] [])) _
    refine XS.iload X19.here hx rfl (hb hby d1_13) rfl ?_
    show Steps p.tables e below (T19.setTop (mkF m 15 #[.val (.int (1 : Int32)), .val (.int (1 : Int32)), .val (.ref v2), .val (.ref b3), .val (.int (4 : Int32)), .val (.int (((((0 : Int32) + (1 : Int32)) + (1 : Int32)) + (1 : Int32)) + (1 : Int32))), .val (.ref v3)] [(.int (((((0 : Int32) + (1 : Int32)) + (1 : Int32)) + (1 : Int32)) + (1 : Int32)))])) _
    refine XS.iload X19.here hx rfl (hb hby d1_15) rfl ?_
    show Steps p.tables e below (T19.setTop (mkF m 17 #[.val (.int (1 : Int32)), .val (.int (1 : Int32)), .val (.ref v2), .val (.ref b3), .val (.int (4 : Int32)), .val (.int (((((0 : Int32) + (1 : Int32)) + (1 : Int32)) + (1 : Int32)) + (1 : Int32))), .val (.ref v3)] [(.int (4 : Int32)), (.int (((((0 : Int32) + (1 : Int32)) + (1 : Int32)) + (1 : Int32)) + (1 : Int32)))])) _
    refine XS.icmpYes X19.here hx rfl (pc0 := 17) (pc' := 53) rfl (hb hby d1_17) rfl (flt (by decide : ¬ ((((((0 : Int32) + (1 : Int32)) + (1 : Int32)) + (1 : Int32)) + (1 : Int32)) < (4 : Int32)))).2.1 (by decide) (by decide) ?_
    show Steps p.tables e below (T19.setTop (mkF m 53 #[.val (.int (1 : Int32)), .val (.int (1 : Int32)), .val (.ref v2), .val (.ref b3), .val (.int (4 : Int32)), .val (.int (((((0 : Int32) + (1 : Int32)) + (1 : Int32)) + (1 : Int32)) + (1 : Int32))), .val (.ref v3)] [])) _
    refine XS.aloadN X19.here hx rfl (hb hby d1_53) rfl rfl ?_
    show Steps p.tables e below (T19.setTop (mkF m 54 #[.val (.int (1 : Int32)), .val (.int (1 : Int32)), .val (.ref v2), .val (.ref b3), .val (.int (4 : Int32)), .val (.int (((((0 : Int32) + (1 : Int32)) + (1 : Int32)) + (1 : Int32)) + (1 : Int32))), .val (.ref v3)] [(.ref v2)])) _
    jvm_step X19.here [X19.here.top, hx, (hb hby d1_54), X19.method', Bd.returns, Value.isRef, FieldType.isReference]
    first | (intro acts; rw [hr _ acts rfl rfl rfl]) | rw [hr _ _ rfl rfl rfl]
    exact Steps.refl _
  · show Q1u11 v2 h0 n0 _ T19.heap _
    rw [e19]
    exact ⟨rfl, N3, E3⟩
theorem pn_0 : plainName "com/example/gumzo/gumzo/node/IntakeOfPinLaw" = true := by first | (simp [plainName, overriddenIn]; done) | decide +kernel
theorem pd_0_0 : parseMethodDescriptor "(ZZ)Lcom/example/gumzo/gumzo/node/Intake;" = some ⟨[.boolean, .boolean], some (.object "com/example/gumzo/gumzo/node/Intake")⟩ := by decide +kernel
theorem pd_0_3 : parseMethodDescriptor "()Z" = some ⟨[], some .boolean⟩ := by decide +kernel
theorem ef_0 (m : MethodId) (x0 : Int32) : entryFrame m #[(.int x0)] maxLocals = mkF m 0 #[.val (.int x0), .unset, .unset, .unset, .unset] [] := by first | (simp [entryFrame, mkF, argsToLocals, Value.category, maxLocals]; done) | rfl
def Q0l11 (n0 : Nat) (v : Option Value) (h : Heap) (L : List Loc) : Prop := v = some (.int (1 : Int32)) ∧ Fr n0 L
set_option maxRecDepth 65536 in
set_option maxHeartbeats 40000000 in
theorem rm0l11 (l : Launch) (Z : State) (a0 : Array Value) (hw : ∀ d ∈ tables_1, d.before a0 Z = true) (ws : List Jvm.Cond) (p1 : Int32) (v0 : Addr) (v1 : Addr) (v2 : Addr) (v3 : Addr) (wV : Addr) (cl : Cell) (h0 : Heap) (n0 : Nat) (Z0 : n0 ≤ h0.size) (SV : Sta Z h0 "com/example/gumzo/gumzo/node/Intake" "$VALUES" "[Lcom/example/gumzo/gumzo/node/Intake;" (.ref wV)) (AV : Arr Z h0 wV cl (.object "com/example/gumzo/gumzo/node/Intake")) (EV : Exa Z h0 wV "[Lcom/example/gumzo/gumzo/node/Intake;") (FV : FitC Z cl) (hsz : cl.slots.size = 4) (hi0 : ¬ ((0 : Int32) < 0 ∨ cl.slots.size ≤ ((0 : Int32)).toNatClampNeg)) (ht0 : cl.slots[((0 : Int32)).toNatClampNeg]? = some (.ref v0)) (U0 : Fld Z h0 v0 "com/example/gumzo/gumzo/node/Intake" "untilRefused" "Z" (.int (0 : Int32))) (Y0 : Fld Z h0 v0 "com/example/gumzo/gumzo/node/Intake" "synced" "Z" (.int (1 : Int32))) (hi1 : ¬ ((1 : Int32) < 0 ∨ cl.slots.size ≤ ((1 : Int32)).toNatClampNeg)) (ht1 : cl.slots[((1 : Int32)).toNatClampNeg]? = some (.ref v1)) (U1 : Fld Z h0 v1 "com/example/gumzo/gumzo/node/Intake" "untilRefused" "Z" (.int (0 : Int32))) (Y1 : Fld Z h0 v1 "com/example/gumzo/gumzo/node/Intake" "synced" "Z" (.int (0 : Int32))) (hi2 : ¬ ((2 : Int32) < 0 ∨ cl.slots.size ≤ ((2 : Int32)).toNatClampNeg)) (ht2 : cl.slots[((2 : Int32)).toNatClampNeg]? = some (.ref v2)) (U2 : Fld Z h0 v2 "com/example/gumzo/gumzo/node/Intake" "untilRefused" "Z" (.int (1 : Int32))) (Y2 : Fld Z h0 v2 "com/example/gumzo/gumzo/node/Intake" "synced" "Z" (.int (1 : Int32))) (hi3 : ¬ ((3 : Int32) < 0 ∨ cl.slots.size ≤ ((3 : Int32)).toNatClampNeg)) (ht3 : cl.slots[((3 : Int32)).toNatClampNeg]? = some (.ref v3)) (U3 : Fld Z h0 v3 "com/example/gumzo/gumzo/node/Intake" "untilRefused" "Z" (.int (1 : Int32))) (Y3 : Fld Z h0 v3 "com/example/gumzo/gumzo/node/Intake" "synced" "Z" (.int (0 : Int32))) (S0 : Sta Z h0 "com/example/gumzo/gumzo/node/Intake" "SYNCED" "Lcom/example/gumzo/gumzo/node/Intake;" (.ref v0)) (E0 : Exa Z h0 v0 "com/example/gumzo/gumzo/node/Intake") (S1 : Sta Z h0 "com/example/gumzo/gumzo/node/Intake" "UNSYNCED" "Lcom/example/gumzo/gumzo/node/Intake;" (.ref v1)) (E1 : Exa Z h0 v1 "com/example/gumzo/gumzo/node/Intake") (S2 : Sta Z h0 "com/example/gumzo/gumzo/node/Intake" "SYNCED_UNTIL_REFUSED" "Lcom/example/gumzo/gumzo/node/Intake;" (.ref v2)) (E2 : Exa Z h0 v2 "com/example/gumzo/gumzo/node/Intake") (S3 : Sta Z h0 "com/example/gumzo/gumzo/node/Intake" "UNSYNCED_UNTIL_REFUSED" "Lcom/example/gumzo/gumzo/node/Intake;" (.ref v3)) (E3 : Exa Z h0 v3 "com/example/gumzo/gumzo/node/Intake") (hc3 : ¬ ((p1 &&& (1 : Int32)) = (0 : Int32))) (hc15 : ¬ ((p1 &&& (2 : Int32)) = (0 : Int32))) :
    MetFree l x (head1 (Jvm.Cond.code x code maxLocals ret :: ws) room_1) (fun a U => a = #[(.int p1)] ∧ Z.Warmed39 U.vm ∧ U.heap = h0) (fun _ _ _ _ _ => True) (fun _ U o U' => ∃ v L, o = .returned v ∧ Q0l11 n0 v U'.heap L ∧ FrameEnd U o U' L room_1.cells room_1.slots) := by
  refine MetFree.of_bodySF (plainFor_of_name pn_0) hisR ?_
  intro p e s m args below meth c s₁ Bd hml0 hP hK
  obtain ⟨rfl, hZ, hh⟩ := hP
  have hx := Bd.exec
  have hby := Bd.bytes
  have hml : c.maxLocals = 5 := hml0
  have hown : s.vm.findClass "com/example/gumzo/gumzo/node/IntakeOfPinLaw" = some m.cls := findClass_of_methodNamed Bd.named
  have hnm := (name_of_methodNamed Bd.named Bd.method).1
  have X0 : Stand p l e room_1 s m #[(.int p1)] below meth c s₁ [] 0 0 := Stand.of_body Bd
  have e0 : s₁.heap = h0 := by rw [← hh, Bd.state]; rfl
  have N0 := Fr.nil n0
  have pre0 : ∀ t, Steps p.tables e below (s₁.setTop (mkF m 0 #[.val (.int p1), .unset, .unset, .unset, .unset] [])) t → Steps p.tables e below (s₁.setTop (entryFrame m #[(.int p1)] maxLocals)) t := fun t k => castTop (ef_0 m p1) k
  -- 3. LAWS
  obtain ⟨T3, X3, e3, st3⟩ := getS2 X0 hx hZ hown (host := "") (Or.inl (hw _ (List.mem_of_getElem? (i := 38) rfl))) Via.refl e0 S2 (g := (mkF m 32 #[.val (.int p1), .val (.int (1 : Int32)), .val (.int (1 : Int32)), .unset, .unset] [])) rfl (hb hby at_32)
  -- pc 63: com/example/gumzo/gumzo/node/Intake.of by its contract rm1
  obtain ⟨_, _, ⟨T4, L4, k4, n4⟩, -, X4, ⟨Lc4, hQ4, l4, y4, z4⟩, st4⟩ := Jvm.LawKit.callS X3 hx (y := (⟨"com/example/gumzo/gumzo/node/Intake", "of", "(ZZ)Lcom/example/gumzo/gumzo/node/Intake;"⟩ : MethodName)) hown (mvT hZ (hw _ (List.mem_of_getElem? (i := 3) rfl))) (mvT hZ (hw _ (List.mem_of_getElem? (i := 4) rfl))) (mvT hZ (hw _ (List.mem_of_getElem? (i := 1) rfl))) (mvT hZ (hw _ (List.mem_of_getElem? (i := 5) rfl))) (by decide) (backOf (W := 0) (rm1u11 l Z a0 hw [] v0 v1 v2 v3 wV cl h0 n0 Z0 SV AV EV FV hsz hi0 ht0 U0 Y0 hi1 ht1 U1 Y1 hi2 ht2 U2 Y2 hi3 ht3 U3 Y3) hZ (hw _ (List.mem_of_getElem? (i := 5) rfl)) (hw _ (List.mem_of_getElem? (i := 1) rfl)) (by decide) (by decide)) (g := (mkF m 63 #[.val (.int p1), .val (.int (1 : Int32)), .val (.int (1 : Int32)), .val (.ref v2), .unset] [(.int (1 : Int32)), (.int (1 : Int32))])) rfl (by rw [hml]; rfl) (argsL := [(.int (1 : Int32)), (.int (1 : Int32))]) (rest := []) (lenOf pd_0_0 rfl) rfl (by show 2 * 0 + _ ≤ _; exact Nat.le_of_eq rfl) (hb hby at_63) (fun _ _ => ⟨rfl, e3, (by decide : 0 + 1 ≤ _), (by decide : 0 + 4 ≤ _)⟩)
  dsimp only [Pt.U, Pt.locs, Pt.cells, Pt.slots] at X4 l4 y4 z4 st4 hQ4
  subst l4 y4 z4
  obtain ⟨rfl, N4q, O4⟩ := hQ4
  have Z4 : n0 ≤ T4.heap.size := Nat.le_trans Z0 O4.1      -- what it returned, that it wrote nothing old, and the rest of your Q1
  have N4 := Fr.app N0 N4q
  -- pc 76: com/example/gumzo/gumzo/node/Intake.untilRefused by the contract of the body that the receiver's class selects, rm3
  -- ✋ yours, out of the call's Q: E_v2 : Exa Z h0 v2 "com/example/gumzo/gumzo/node/Intake"
  obtain ⟨cq5, kq5, q5a, q5b, q5c⟩ := isOf hZ rfl (E2.ext O4)
  obtain ⟨_, _, ⟨T5, L5, k5, n5⟩, -, X5, ⟨Lc5, hQ5, l5, y5, z5⟩, st5⟩ := X4.virtualBack hx (y := (⟨"com/example/gumzo/gumzo/node/Intake", "untilRefused", "()Z"⟩ : MethodName)) (z := (⟨"com/example/gumzo/gumzo/node/Intake", "untilRefused", "()Z"⟩ : MethodName)) hown (mvT hZ (hw _ (List.mem_of_getElem? (i := 28) rfl))) (mvT hZ (hw _ (List.mem_of_getElem? (i := 29) rfl))) (notFace_of_selects (args := #[]) (mvT hZ (hw _ (List.mem_of_getElem? (i := 31) rfl)))) (mvT hZ (hw _ (List.mem_of_getElem? (i := 31) rfl))) (mvT hZ (hw _ (List.mem_of_getElem? (i := 30) rfl))) (by decide) (backOf (W := 0) (rm3 l Z a0 hw [] v2 (1 : Int32) T4.heap n0 Z4 (U2.ext O4) (by decide)) hZ (hw _ (List.mem_of_getElem? (i := 32) rfl)) (hw _ (List.mem_of_getElem? (i := 1) rfl)) (by decide) (by decide)) q5a q5c (g := (mkF m 76 #[.val (.int p1), .val (.int (1 : Int32)), .val (.int (1 : Int32)), .val (.ref v2), .val (.ref v2)] [(.ref v2)])) rfl (by rw [hml]; rfl) (Steps.refl _) (argsL := []) (rest := []) (lenOf pd_0_3 rfl) rfl (by show 2 * 0 + _ ≤ _; exact Nat.le_of_eq rfl) (hb hby at_76) (fun _ _ => ⟨rfl, rfl, (by decide : 0 + 1 + 0 ≤ _), (by decide : 0 + 4 + 0 ≤ _)⟩)
  dsimp only [Pt.U, Pt.locs, Pt.cells, Pt.slots] at X5 l5 y5 z5 st5 hQ5
  subst l5 y5 z5
  obtain ⟨rfl, N5q, eq5⟩ := hQ5
  have O5 : Ext T4.heap T5.heap := own_ext (own_same eq5)
  have Z5 : n0 ≤ T5.heap.size := Nat.le_trans Z4 O5.1      -- what it returned, that it wrote nothing old, and the rest of your Q3
  have N5 := Fr.app N4 N5q
  -- pc 85: com/example/gumzo/gumzo/node/Intake.synced by the contract of the body that the receiver's class selects, rm4
  obtain ⟨cq6, kq6, q6a, q6b, q6c⟩ := isOf hZ rfl ((E2.ext O4).ext O5)
  obtain ⟨_, _, ⟨T6, L6, k6, n6⟩, -, X6, ⟨Lc6, hQ6, l6, y6, z6⟩, st6⟩ := X5.virtualBack hx (y := (⟨"com/example/gumzo/gumzo/node/Intake", "synced", "()Z"⟩ : MethodName)) (z := (⟨"com/example/gumzo/gumzo/node/Intake", "synced", "()Z"⟩ : MethodName)) hown (mvT hZ (hw _ (List.mem_of_getElem? (i := 33) rfl))) (mvT hZ (hw _ (List.mem_of_getElem? (i := 34) rfl))) (notFace_of_selects (args := #[]) (mvT hZ (hw _ (List.mem_of_getElem? (i := 36) rfl)))) (mvT hZ (hw _ (List.mem_of_getElem? (i := 36) rfl))) (mvT hZ (hw _ (List.mem_of_getElem? (i := 35) rfl))) (by decide) (backOf (W := 0) (rm4 l Z a0 hw [] v2 (1 : Int32) T5.heap n0 Z5 ((Y2.ext O4).ext O5) (by decide)) hZ (hw _ (List.mem_of_getElem? (i := 37) rfl)) (hw _ (List.mem_of_getElem? (i := 1) rfl)) (by decide) (by decide)) q6a q6c (g := (mkF m 85 #[.val (.int p1), .val (.int (1 : Int32)), .val (.int (1 : Int32)), .val (.ref v2), .val (.ref v2)] [(.ref v2)])) rfl (by rw [hml]; rfl) (Steps.refl _) (argsL := []) (rest := []) (lenOf pd_0_3 rfl) rfl (by show 2 * 0 + _ ≤ _; exact Nat.le_of_eq rfl) (hb hby at_85) (fun _ _ => ⟨rfl, rfl, (by decide : 0 + 1 + 0 ≤ _), (by decide : 0 + 4 + 0 ≤ _)⟩)
  dsimp only [Pt.U, Pt.locs, Pt.cells, Pt.slots] at X6 l6 y6 z6 st6 hQ6
  subst l6 y6 z6
  obtain ⟨rfl, N6q, eq6⟩ := hQ6      -- what it returned, that it wrote nothing old, and the rest of your Q4
  have N6 := Fr.app N5 N6q
  obtain ⟨fs, hr, hrun, hended, hW, hsame⟩ := X6.leave (v := some (.int (1 : Int32))) (fun h => by rw [Bd.returns] at h; cases h)
  refine ⟨_, _, pre0 _ ?_, hrun, hended, _, _, rfl, ?_, ⟨_, rfl⟩, hW, hsame.mono (by decide) (by decide)⟩
  -- 4. STEPS
  · show Steps p.tables e below (s₁.setTop (mkF m 0 #[.val (.int p1), .unset, .unset, .unset, .unset] [])) _
    refine XS.iloadN X0.here hx rfl (hb hby at_0) rfl ?_
    show Steps p.tables e below (s₁.setTop (mkF m 1 #[.val (.int p1), .unset, .unset, .unset, .unset] [(.int p1)])) _
    refine XS.iconst X0.here hx rfl (hb hby at_1) ?_
    show Steps p.tables e below (s₁.setTop (mkF m 2 #[.val (.int p1), .unset, .unset, .unset, .unset] [(.int (1 : Int32)), (.int p1)])) _
    refine XS.iand X0.here hx rfl (hb hby at_2) rfl ?_
    show Steps p.tables e below (s₁.setTop (mkF m 3 #[.val (.int p1), .unset, .unset, .unset, .unset] [(.int (p1 &&& (1 : Int32)))])) _
    refine XS.ifNo X0.here hx rfl (hb hby at_3) rfl ((if0 _ _).trans (feq hc3).1) ?_
    show Steps p.tables e below (s₁.setTop (mkF m 6 #[.val (.int p1), .unset, .unset, .unset, .unset] [])) _
    refine XS.iconst X0.here hx rfl (hb hby at_6) ?_
    show Steps p.tables e below (s₁.setTop (mkF m 7 #[.val (.int p1), .unset, .unset, .unset, .unset] [(.int (1 : Int32))])) _
    refine XS.goto X0.here hx rfl (pc0 := 7) (pc' := 11) rfl (hb hby at_7) (by decide) (by decide) ?_
    show Steps p.tables e below (s₁.setTop (mkF m 11 #[.val (.int p1), .unset, .unset, .unset, .unset] [(.int (1 : Int32))])) _
    refine XS.istoreN X0.here hx rfl (hb hby at_11) rfl (l' := #[.val (.int p1), .val (.int (1 : Int32)), .unset, .unset, .unset]) rfl ?_
    show Steps p.tables e below (s₁.setTop (mkF m 12 #[.val (.int p1), .val (.int (1 : Int32)), .unset, .unset, .unset] [])) _
    refine XS.iloadN X0.here hx rfl (hb hby at_12) rfl ?_
    show Steps p.tables e below (s₁.setTop (mkF m 13 #[.val (.int p1), .val (.int (1 : Int32)), .unset, .unset, .unset] [(.int p1)])) _
    refine XS.iconst X0.here hx rfl (hb hby at_13) ?_
    show Steps p.tables e below (s₁.setTop (mkF m 14 #[.val (.int p1), .val (.int (1 : Int32)), .unset, .unset, .unset] [(.int (2 : Int32)), (.int p1)])) _
    refine XS.iand X0.here hx rfl (hb hby at_14) rfl ?_
    show Steps p.tables e below (s₁.setTop (mkF m 15 #[.val (.int p1), .val (.int (1 : Int32)), .unset, .unset, .unset] [(.int (p1 &&& (2 : Int32)))])) _
    refine XS.ifNo X0.here hx rfl (hb hby at_15) rfl ((if0 _ _).trans (feq hc15).1) ?_
    show Steps p.tables e below (s₁.setTop (mkF m 18 #[.val (.int p1), .val (.int (1 : Int32)), .unset, .unset, .unset] [])) _
    refine XS.iconst X0.here hx rfl (hb hby at_18) ?_
    show Steps p.tables e below (s₁.setTop (mkF m 19 #[.val (.int p1), .val (.int (1 : Int32)), .unset, .unset, .unset] [(.int (1 : Int32))])) _
    refine XS.goto X0.here hx rfl (pc0 := 19) (pc' := 23) rfl (hb hby at_19) (by decide) (by decide) ?_
    show Steps p.tables e below (s₁.setTop (mkF m 23 #[.val (.int p1), .val (.int (1 : Int32)), .unset, .unset, .unset] [(.int (1 : Int32))])) _
    refine XS.istoreN X0.here hx rfl (hb hby at_23) rfl (l' := #[.val (.int p1), .val (.int (1 : Int32)), .val (.int (1 : Int32)), .unset, .unset]) rfl ?_
    show Steps p.tables e below (s₁.setTop (mkF m 24 #[.val (.int p1), .val (.int (1 : Int32)), .val (.int (1 : Int32)), .unset, .unset] [])) _
    refine XS.iloadN X0.here hx rfl (hb hby at_24) rfl ?_
    show Steps p.tables e below (s₁.setTop (mkF m 25 #[.val (.int p1), .val (.int (1 : Int32)), .val (.int (1 : Int32)), .unset, .unset] [(.int (1 : Int32))])) _
    refine XS.ifNo X0.here hx rfl (hb hby at_25) rfl ((if0 _ _).trans (feq (by decide)).1) ?_
    show Steps p.tables e below (s₁.setTop (mkF m 28 #[.val (.int p1), .val (.int (1 : Int32)), .val (.int (1 : Int32)), .unset, .unset] [])) _
    refine XS.iloadN X0.here hx rfl (hb hby at_28) rfl ?_
    show Steps p.tables e below (s₁.setTop (mkF m 29 #[.val (.int p1), .val (.int (1 : Int32)), .val (.int (1 : Int32)), .unset, .unset] [(.int (1 : Int32))])) _
    refine XS.ifNo X0.here hx rfl (hb hby at_29) rfl ((if0 _ _).trans (feq (by decide)).1) ?_
    show Steps p.tables e below (s₁.setTop (mkF m 32 #[.val (.int p1), .val (.int (1 : Int32)), .val (.int (1 : Int32)), .unset, .unset] [])) _
    refine st3 _ ?_
    show Steps p.tables e below (T3.setTop (mkF m 35 #[.val (.int p1), .val (.int (1 : Int32)), .val (.int (1 : Int32)), .unset, .unset] [(.ref v2)])) _
    refine XS.astoreN X3.here hx rfl (hb hby at_35) rfl rfl (l' := #[.val (.int p1), .val (.int (1 : Int32)), .val (.int (1 : Int32)), .val (.ref v2), .unset]) rfl ?_
    show Steps p.tables e below (T3.setTop (mkF m 36 #[.val (.int p1), .val (.int (1 : Int32)), .val (.int (1 : Int32)), .val (.ref v2), .unset] [])) _
    refine XS.goto X3.here hx rfl (pc0 := 36) (pc' := 61) rfl (hb hby at_36) (by decide) (by decide) ?_
    show Steps p.tables e below (T3.setTop (mkF m 61 #[.val (.int p1), .val (.int (1 : Int32)), .val (.int (1 : Int32)), .val (.ref v2), .unset] [])) _
    refine XS.iloadN X3.here hx rfl (hb hby at_61) rfl ?_
    show Steps p.tables e below (T3.setTop (mkF m 62 #[.val (.int p1), .val (.int (1 : Int32)), .val (.int (1 : Int32)), .val (.ref v2), .unset] [(.int (1 : Int32))])) _
    refine XS.iloadN X3.here hx rfl (hb hby at_62) rfl ?_
    show Steps p.tables e below (T3.setTop (mkF m 63 #[.val (.int p1), .val (.int (1 : Int32)), .val (.int (1 : Int32)), .val (.ref v2), .unset] [(.int (1 : Int32)), (.int (1 : Int32))])) _
    refine st4 _ ?_
    show Steps p.tables e below (T4.setTop (mkF m 66 #[.val (.int p1), .val (.int (1 : Int32)), .val (.int (1 : Int32)), .val (.ref v2), .unset] [(.ref v2)])) _
    refine XS.astore X4.here hx rfl (hb hby at_66) rfl rfl (l' := #[.val (.int p1), .val (.int (1 : Int32)), .val (.int (1 : Int32)), .val (.ref v2), .val (.ref v2)]) rfl ?_
    show Steps p.tables e below (T4.setTop (mkF m 68 #[.val (.int p1), .val (.int (1 : Int32)), .val (.int (1 : Int32)), .val (.ref v2), .val (.ref v2)] [])) _
    refine XS.aload X4.here hx rfl (hb hby at_68) rfl rfl ?_
    show Steps p.tables e below (T4.setTop (mkF m 70 #[.val (.int p1), .val (.int (1 : Int32)), .val (.int (1 : Int32)), .val (.ref v2), .val (.ref v2)] [(.ref v2)])) _
    refine XS.aloadN X4.here hx rfl (hb hby at_70) rfl rfl ?_
    show Steps p.tables e below (T4.setTop (mkF m 71 #[.val (.int p1), .val (.int (1 : Int32)), .val (.int (1 : Int32)), .val (.ref v2), .val (.ref v2)] [(.ref v2), (.ref v2)])) _
    refine Jvm.RoadKit.acmp (g := (mkF m 71 #[.val (.int p1), .val (.int (1 : Int32)), .val (.int (1 : Int32)), .val (.ref v2), .val (.ref v2)] [(.ref v2), (.ref v2)])) X4 hx rfl rfl rfl (pc0 := 71) (pc' := 74) (same := true) rfl (hb hby at_71) rfl (decide_eq_true (rfl)) (by decide) (by decide) ?_
    show Steps p.tables e below (T4.setTop (mkF m 74 #[.val (.int p1), .val (.int (1 : Int32)), .val (.int (1 : Int32)), .val (.ref v2), .val (.ref v2)] [])) _
    refine XS.aload X4.here hx rfl (hb hby at_74) rfl rfl ?_
    show Steps p.tables e below (T4.setTop (mkF m 76 #[.val (.int p1), .val (.int (1 : Int32)), .val (.int (1 : Int32)), .val (.ref v2), .val (.ref v2)] [(.ref v2)])) _
    refine st5.trans ?_
    show Steps p.tables e below (T5.setTop (mkF m 79 #[.val (.int p1), .val (.int (1 : Int32)), .val (.int (1 : Int32)), .val (.ref v2), .val (.ref v2)] [(.int (1 : Int32))])) _
    refine XS.iloadN X5.here hx rfl (hb hby at_79) rfl ?_
    show Steps p.tables e below (T5.setTop (mkF m 80 #[.val (.int p1), .val (.int (1 : Int32)), .val (.int (1 : Int32)), .val (.ref v2), .val (.ref v2)] [(.int (1 : Int32)), (.int (1 : Int32))])) _
    refine XS.icmpNo X5.here hx rfl (hb hby at_80) rfl (teq rfl).2 ?_
    show Steps p.tables e below (T5.setTop (mkF m 83 #[.val (.int p1), .val (.int (1 : Int32)), .val (.int (1 : Int32)), .val (.ref v2), .val (.ref v2)] [])) _
    refine XS.aload X5.here hx rfl (hb hby at_83) rfl rfl ?_
    show Steps p.tables e below (T5.setTop (mkF m 85 #[.val (.int p1), .val (.int (1 : Int32)), .val (.int (1 : Int32)), .val (.ref v2), .val (.ref v2)] [(.ref v2)])) _
    refine st6.trans ?_
    show Steps p.tables e below (T6.setTop (mkF m 88 #[.val (.int p1), .val (.int (1 : Int32)), .val (.int (1 : Int32)), .val (.ref v2), .val (.ref v2)] [(.int (1 : Int32))])) _
    refine XS.iloadN X6.here hx rfl (hb hby at_88) rfl ?_
    show Steps p.tables e below (T6.setTop (mkF m 89 #[.val (.int p1), .val (.int (1 : Int32)), .val (.int (1 : Int32)), .val (.ref v2), .val (.ref v2)] [(.int (1 : Int32)), (.int (1 : Int32))])) _
    refine XS.icmpNo X6.here hx rfl (hb hby at_89) rfl (teq rfl).2 ?_
    show Steps p.tables e below (T6.setTop (mkF m 92 #[.val (.int p1), .val (.int (1 : Int32)), .val (.int (1 : Int32)), .val (.ref v2), .val (.ref v2)] [])) _
    refine XS.iconst X6.here hx rfl (hb hby at_92) ?_
    show Steps p.tables e below (T6.setTop (mkF m 93 #[.val (.int p1), .val (.int (1 : Int32)), .val (.int (1 : Int32)), .val (.ref v2), .val (.ref v2)] [(.int (1 : Int32))])) _
    refine XS.goto X6.here hx rfl (pc0 := 93) (pc' := 97) rfl (hb hby at_93) (by decide) (by decide) ?_
    show Steps p.tables e below (T6.setTop (mkF m 97 #[.val (.int p1), .val (.int (1 : Int32)), .val (.int (1 : Int32)), .val (.ref v2), .val (.ref v2)] [(.int (1 : Int32))])) _
    exact retN X6 hx (t := .boolean) Bd.returns (by simp) (hb hby at_97) hr
  · show Q0l11 n0 _ T6.heap _
    exact ⟨rfl, N6⟩
def Q0l10 (n0 : Nat) (v : Option Value) (h : Heap) (L : List Loc) : Prop := v = some (.int (1 : Int32)) ∧ Fr n0 L
set_option maxRecDepth 65536 in
set_option maxHeartbeats 40000000 in
theorem rm0l10 (l : Launch) (Z : State) (a0 : Array Value) (hw : ∀ d ∈ tables_1, d.before a0 Z = true) (ws : List Jvm.Cond) (p1 : Int32) (v0 : Addr) (v1 : Addr) (v2 : Addr) (v3 : Addr) (wV : Addr) (cl : Cell) (h0 : Heap) (n0 : Nat) (Z0 : n0 ≤ h0.size) (SV : Sta Z h0 "com/example/gumzo/gumzo/node/Intake" "$VALUES" "[Lcom/example/gumzo/gumzo/node/Intake;" (.ref wV)) (AV : Arr Z h0 wV cl (.object "com/example/gumzo/gumzo/node/Intake")) (EV : Exa Z h0 wV "[Lcom/example/gumzo/gumzo/node/Intake;") (FV : FitC Z cl) (hsz : cl.slots.size = 4) (hi0 : ¬ ((0 : Int32) < 0 ∨ cl.slots.size ≤ ((0 : Int32)).toNatClampNeg)) (ht0 : cl.slots[((0 : Int32)).toNatClampNeg]? = some (.ref v0)) (U0 : Fld Z h0 v0 "com/example/gumzo/gumzo/node/Intake" "untilRefused" "Z" (.int (0 : Int32))) (Y0 : Fld Z h0 v0 "com/example/gumzo/gumzo/node/Intake" "synced" "Z" (.int (1 : Int32))) (hi1 : ¬ ((1 : Int32) < 0 ∨ cl.slots.size ≤ ((1 : Int32)).toNatClampNeg)) (ht1 : cl.slots[((1 : Int32)).toNatClampNeg]? = some (.ref v1)) (U1 : Fld Z h0 v1 "com/example/gumzo/gumzo/node/Intake" "untilRefused" "Z" (.int (0 : Int32))) (Y1 : Fld Z h0 v1 "com/example/gumzo/gumzo/node/Intake" "synced" "Z" (.int (0 : Int32))) (hi2 : ¬ ((2 : Int32) < 0 ∨ cl.slots.size ≤ ((2 : Int32)).toNatClampNeg)) (ht2 : cl.slots[((2 : Int32)).toNatClampNeg]? = some (.ref v2)) (U2 : Fld Z h0 v2 "com/example/gumzo/gumzo/node/Intake" "untilRefused" "Z" (.int (1 : Int32))) (Y2 : Fld Z h0 v2 "com/example/gumzo/gumzo/node/Intake" "synced" "Z" (.int (1 : Int32))) (hi3 : ¬ ((3 : Int32) < 0 ∨ cl.slots.size ≤ ((3 : Int32)).toNatClampNeg)) (ht3 : cl.slots[((3 : Int32)).toNatClampNeg]? = some (.ref v3)) (U3 : Fld Z h0 v3 "com/example/gumzo/gumzo/node/Intake" "untilRefused" "Z" (.int (1 : Int32))) (Y3 : Fld Z h0 v3 "com/example/gumzo/gumzo/node/Intake" "synced" "Z" (.int (0 : Int32))) (S0 : Sta Z h0 "com/example/gumzo/gumzo/node/Intake" "SYNCED" "Lcom/example/gumzo/gumzo/node/Intake;" (.ref v0)) (E0 : Exa Z h0 v0 "com/example/gumzo/gumzo/node/Intake") (S1 : Sta Z h0 "com/example/gumzo/gumzo/node/Intake" "UNSYNCED" "Lcom/example/gumzo/gumzo/node/Intake;" (.ref v1)) (E1 : Exa Z h0 v1 "com/example/gumzo/gumzo/node/Intake") (S2 : Sta Z h0 "com/example/gumzo/gumzo/node/Intake" "SYNCED_UNTIL_REFUSED" "Lcom/example/gumzo/gumzo/node/Intake;" (.ref v2)) (E2 : Exa Z h0 v2 "com/example/gumzo/gumzo/node/Intake") (S3 : Sta Z h0 "com/example/gumzo/gumzo/node/Intake" "UNSYNCED_UNTIL_REFUSED" "Lcom/example/gumzo/gumzo/node/Intake;" (.ref v3)) (E3 : Exa Z h0 v3 "com/example/gumzo/gumzo/node/Intake") (hc3 : ¬ ((p1 &&& (1 : Int32)) = (0 : Int32))) (hc15 : (p1 &&& (2 : Int32)) = (0 : Int32)) :
    MetFree l x (head1 (Jvm.Cond.code x code maxLocals ret :: ws) room_1) (fun a U => a = #[(.int p1)] ∧ Z.Warmed39 U.vm ∧ U.heap = h0) (fun _ _ _ _ _ => True) (fun _ U o U' => ∃ v L, o = .returned v ∧ Q0l10 n0 v U'.heap L ∧ FrameEnd U o U' L room_1.cells room_1.slots) := by
  refine MetFree.of_bodySF (plainFor_of_name pn_0) hisR ?_
  intro p e s m args below meth c s₁ Bd hml0 hP hK
  obtain ⟨rfl, hZ, hh⟩ := hP
  have hx := Bd.exec
  have hby := Bd.bytes
  have hml : c.maxLocals = 5 := hml0
  have hown : s.vm.findClass "com/example/gumzo/gumzo/node/IntakeOfPinLaw" = some m.cls := findClass_of_methodNamed Bd.named
  have hnm := (name_of_methodNamed Bd.named Bd.method).1
  have X0 : Stand p l e room_1 s m #[(.int p1)] below meth c s₁ [] 0 0 := Stand.of_body Bd
  have e0 : s₁.heap = h0 := by rw [← hh, Bd.state]; rfl
  have N0 := Fr.nil n0
  have pre0 : ∀ t, Steps p.tables e below (s₁.setTop (mkF m 0 #[.val (.int p1), .unset, .unset, .unset, .unset] [])) t → Steps p.tables e below (s₁.setTop (entryFrame m #[(.int p1)] maxLocals)) t := fun t k => castTop (ef_0 m p1) k
  -- 3. LAWS
  obtain ⟨T3, X3, e3, st3⟩ := getS2 X0 hx hZ hown (host := "") (Or.inl (hw _ (List.mem_of_getElem? (i := 40) rfl))) Via.refl e0 S3 (g := (mkF m 39 #[.val (.int p1), .val (.int (1 : Int32)), .val (.int (0 : Int32)), .unset, .unset] [])) rfl (hb hby at_39)
  -- pc 63: com/example/gumzo/gumzo/node/Intake.of by its contract rm1
  obtain ⟨_, _, ⟨T4, L4, k4, n4⟩, -, X4, ⟨Lc4, hQ4, l4, y4, z4⟩, st4⟩ := Jvm.LawKit.callS X3 hx (y := (⟨"com/example/gumzo/gumzo/node/Intake", "of", "(ZZ)Lcom/example/gumzo/gumzo/node/Intake;"⟩ : MethodName)) hown (mvT hZ (hw _ (List.mem_of_getElem? (i := 3) rfl))) (mvT hZ (hw _ (List.mem_of_getElem? (i := 4) rfl))) (mvT hZ (hw _ (List.mem_of_getElem? (i := 1) rfl))) (mvT hZ (hw _ (List.mem_of_getElem? (i := 5) rfl))) (by decide) (backOf (W := 0) (rm1u10 l Z a0 hw [] v0 v1 v2 v3 wV cl h0 n0 Z0 SV AV EV FV hsz hi0 ht0 U0 Y0 hi1 ht1 U1 Y1 hi2 ht2 U2 Y2 hi3 ht3 U3 Y3) hZ (hw _ (List.mem_of_getElem? (i := 5) rfl)) (hw _ (List.mem_of_getElem? (i := 1) rfl)) (by decide) (by decide)) (g := (mkF m 63 #[.val (.int p1), .val (.int (1 : Int32)), .val (.int (0 : Int32)), .val (.ref v3), .unset] [(.int (0 : Int32)), (.int (1 : Int32))])) rfl (by rw [hml]; rfl) (argsL := [(.int (1 : Int32)), (.int (0 : Int32))]) (rest := []) (lenOf pd_0_0 rfl) rfl (by show 2 * 0 + _ ≤ _; exact Nat.le_of_eq rfl) (hb hby at_63) (fun _ _ => ⟨rfl, e3, (by decide : 0 + 1 ≤ _), (by decide : 0 + 4 ≤ _)⟩)
  dsimp only [Pt.U, Pt.locs, Pt.cells, Pt.slots] at X4 l4 y4 z4 st4 hQ4
  subst l4 y4 z4
  obtain ⟨rfl, N4q, O4⟩ := hQ4
  have Z4 : n0 ≤ T4.heap.size := Nat.le_trans Z0 O4.1      -- what it returned, that it wrote nothing old, and the rest of your Q1
  have N4 := Fr.app N0 N4q
  -- pc 76: com/example/gumzo/gumzo/node/Intake.untilRefused by the contract of the body that the receiver's class selects, rm3
  -- ✋ yours, out of the call's Q: E_v3 : Exa Z h0 v3 "com/example/gumzo/gumzo/node/Intake"
  obtain ⟨cq5, kq5, q5a, q5b, q5c⟩ := isOf hZ rfl (E3.ext O4)
  obtain ⟨_, _, ⟨T5, L5, k5, n5⟩, -, X5, ⟨Lc5, hQ5, l5, y5, z5⟩, st5⟩ := X4.virtualBack hx (y := (⟨"com/example/gumzo/gumzo/node/Intake", "untilRefused", "()Z"⟩ : MethodName)) (z := (⟨"com/example/gumzo/gumzo/node/Intake", "untilRefused", "()Z"⟩ : MethodName)) hown (mvT hZ (hw _ (List.mem_of_getElem? (i := 28) rfl))) (mvT hZ (hw _ (List.mem_of_getElem? (i := 29) rfl))) (notFace_of_selects (args := #[]) (mvT hZ (hw _ (List.mem_of_getElem? (i := 31) rfl)))) (mvT hZ (hw _ (List.mem_of_getElem? (i := 31) rfl))) (mvT hZ (hw _ (List.mem_of_getElem? (i := 30) rfl))) (by decide) (backOf (W := 0) (rm3 l Z a0 hw [] v3 (1 : Int32) T4.heap n0 Z4 (U3.ext O4) (by decide)) hZ (hw _ (List.mem_of_getElem? (i := 32) rfl)) (hw _ (List.mem_of_getElem? (i := 1) rfl)) (by decide) (by decide)) q5a q5c (g := (mkF m 76 #[.val (.int p1), .val (.int (1 : Int32)), .val (.int (0 : Int32)), .val (.ref v3), .val (.ref v3)] [(.ref v3)])) rfl (by rw [hml]; rfl) (Steps.refl _) (argsL := []) (rest := []) (lenOf pd_0_3 rfl) rfl (by show 2 * 0 + _ ≤ _; exact Nat.le_of_eq rfl) (hb hby at_76) (fun _ _ => ⟨rfl, rfl, (by decide : 0 + 1 + 0 ≤ _), (by decide : 0 + 4 + 0 ≤ _)⟩)
  dsimp only [Pt.U, Pt.locs, Pt.cells, Pt.slots] at X5 l5 y5 z5 st5 hQ5
  subst l5 y5 z5
  obtain ⟨rfl, N5q, eq5⟩ := hQ5
  have O5 : Ext T4.heap T5.heap := own_ext (own_same eq5)
  have Z5 : n0 ≤ T5.heap.size := Nat.le_trans Z4 O5.1      -- what it returned, that it wrote nothing old, and the rest of your Q3
  have N5 := Fr.app N4 N5q
  -- pc 85: com/example/gumzo/gumzo/node/Intake.synced by the contract of the body that the receiver's class selects, rm4
  obtain ⟨cq6, kq6, q6a, q6b, q6c⟩ := isOf hZ rfl ((E3.ext O4).ext O5)
  obtain ⟨_, _, ⟨T6, L6, k6, n6⟩, -, X6, ⟨Lc6, hQ6, l6, y6, z6⟩, st6⟩ := X5.virtualBack hx (y := (⟨"com/example/gumzo/gumzo/node/Intake", "synced", "()Z"⟩ : MethodName)) (z := (⟨"com/example/gumzo/gumzo/node/Intake", "synced", "()Z"⟩ : MethodName)) hown (mvT hZ (hw _ (List.mem_of_getElem? (i := 33) rfl))) (mvT hZ (hw _ (List.mem_of_getElem? (i := 34) rfl))) (notFace_of_selects (args := #[]) (mvT hZ (hw _ (List.mem_of_getElem? (i := 36) rfl)))) (mvT hZ (hw _ (List.mem_of_getElem? (i := 36) rfl))) (mvT hZ (hw _ (List.mem_of_getElem? (i := 35) rfl))) (by decide) (backOf (W := 0) (rm4 l Z a0 hw [] v3 (0 : Int32) T5.heap n0 Z5 ((Y3.ext O4).ext O5) (by decide)) hZ (hw _ (List.mem_of_getElem? (i := 37) rfl)) (hw _ (List.mem_of_getElem? (i := 1) rfl)) (by decide) (by decide)) q6a q6c (g := (mkF m 85 #[.val (.int p1), .val (.int (1 : Int32)), .val (.int (0 : Int32)), .val (.ref v3), .val (.ref v3)] [(.ref v3)])) rfl (by rw [hml]; rfl) (Steps.refl _) (argsL := []) (rest := []) (lenOf pd_0_3 rfl) rfl (by show 2 * 0 + _ ≤ _; exact Nat.le_of_eq rfl) (hb hby at_85) (fun _ _ => ⟨rfl, rfl, (by decide : 0 + 1 + 0 ≤ _), (by decide : 0 + 4 + 0 ≤ _)⟩)
  dsimp only [Pt.U, Pt.locs, Pt.cells, Pt.slots] at X6 l6 y6 z6 st6 hQ6
  subst l6 y6 z6
  obtain ⟨rfl, N6q, eq6⟩ := hQ6      -- what it returned, that it wrote nothing old, and the rest of your Q4
  have N6 := Fr.app N5 N6q
  obtain ⟨fs, hr, hrun, hended, hW, hsame⟩ := X6.leave (v := some (.int (1 : Int32))) (fun h => by rw [Bd.returns] at h; cases h)
  refine ⟨_, _, pre0 _ ?_, hrun, hended, _, _, rfl, ?_, ⟨_, rfl⟩, hW, hsame.mono (by decide) (by decide)⟩
  -- 4. STEPS
  · show Steps p.tables e below (s₁.setTop (mkF m 0 #[.val (.int p1), .unset, .unset, .unset, .unset] [])) _
    refine XS.iloadN X0.here hx rfl (hb hby at_0) rfl ?_
    show Steps p.tables e below (s₁.setTop (mkF m 1 #[.val (.int p1), .unset, .unset, .unset, .unset] [(.int p1)])) _
    refine XS.iconst X0.here hx rfl (hb hby at_1) ?_
    show Steps p.tables e below (s₁.setTop (mkF m 2 #[.val (.int p1), .unset, .unset, .unset, .unset] [(.int (1 : Int32)), (.int p1)])) _
    refine XS.iand X0.here hx rfl (hb hby at_2) rfl ?_
    show Steps p.tables e below (s₁.setTop (mkF m 3 #[.val (.int p1), .unset, .unset, .unset, .unset] [(.int (p1 &&& (1 : Int32)))])) _
    refine XS.ifNo X0.here hx rfl (hb hby at_3) rfl ((if0 _ _).trans (feq hc3).1) ?_
    show Steps p.tables e below (s₁.setTop (mkF m 6 #[.val (.int p1), .unset, .unset, .unset, .unset] [])) _
    refine XS.iconst X0.here hx rfl (hb hby at_6) ?_
    show Steps p.tables e below (s₁.setTop (mkF m 7 #[.val (.int p1), .unset, .unset, .unset, .unset] [(.int (1 : Int32))])) _
    refine XS.goto X0.here hx rfl (pc0 := 7) (pc' := 11) rfl (hb hby at_7) (by decide) (by decide) ?_
    show Steps p.tables e below (s₁.setTop (mkF m 11 #[.val (.int p1), .unset, .unset, .unset, .unset] [(.int (1 : Int32))])) _
    refine XS.istoreN X0.here hx rfl (hb hby at_11) rfl (l' := #[.val (.int p1), .val (.int (1 : Int32)), .unset, .unset, .unset]) rfl ?_
    show Steps p.tables e below (s₁.setTop (mkF m 12 #[.val (.int p1), .val (.int (1 : Int32)), .unset, .unset, .unset] [])) _
    refine XS.iloadN X0.here hx rfl (hb hby at_12) rfl ?_
    show Steps p.tables e below (s₁.setTop (mkF m 13 #[.val (.int p1), .val (.int (1 : Int32)), .unset, .unset, .unset] [(.int p1)])) _
    refine XS.iconst X0.here hx rfl (hb hby at_13) ?_
    show Steps p.tables e below (s₁.setTop (mkF m 14 #[.val (.int p1), .val (.int (1 : Int32)), .unset, .unset, .unset] [(.int (2 : Int32)), (.int p1)])) _
    refine XS.iand X0.here hx rfl (hb hby at_14) rfl ?_
    show Steps p.tables e below (s₁.setTop (mkF m 15 #[.val (.int p1), .val (.int (1 : Int32)), .unset, .unset, .unset] [(.int (p1 &&& (2 : Int32)))])) _
    refine XS.ifYes X0.here hx rfl (pc0 := 15) (pc' := 22) rfl (hb hby at_15) rfl ((if0 _ _).trans (teq hc15).1) (by decide) (by decide) ?_
    show Steps p.tables e below (s₁.setTop (mkF m 22 #[.val (.int p1), .val (.int (1 : Int32)), .unset, .unset, .unset] [])) _
    refine XS.iconst X0.here hx rfl (hb hby at_22) ?_
    show Steps p.tables e below (s₁.setTop (mkF m 23 #[.val (.int p1), .val (.int (1 : Int32)), .unset, .unset, .unset] [(.int (0 : Int32))])) _
    refine XS.istoreN X0.here hx rfl (hb hby at_23) rfl (l' := #[.val (.int p1), .val (.int (1 : Int32)), .val (.int (0 : Int32)), .unset, .unset]) rfl ?_
    show Steps p.tables e below (s₁.setTop (mkF m 24 #[.val (.int p1), .val (.int (1 : Int32)), .val (.int (0 : Int32)), .unset, .unset] [])) _
    refine XS.iloadN X0.here hx rfl (hb hby at_24) rfl ?_
    show Steps p.tables e below (s₁.setTop (mkF m 25 #[.val (.int p1), .val (.int (1 : Int32)), .val (.int (0 : Int32)), .unset, .unset] [(.int (1 : Int32))])) _
    refine XS.ifNo X0.here hx rfl (hb hby at_25) rfl ((if0 _ _).trans (feq (by decide)).1) ?_
    show Steps p.tables e below (s₁.setTop (mkF m 28 #[.val (.int p1), .val (.int (1 : Int32)), .val (.int (0 : Int32)), .unset, .unset] [])) _
    refine XS.iloadN X0.here hx rfl (hb hby at_28) rfl ?_
    show Steps p.tables e below (s₁.setTop (mkF m 29 #[.val (.int p1), .val (.int (1 : Int32)), .val (.int (0 : Int32)), .unset, .unset] [(.int (0 : Int32))])) _
    refine XS.ifYes X0.here hx rfl (pc0 := 29) (pc' := 39) rfl (hb hby at_29) rfl ((if0 _ _).trans (teq (rfl : (0 : Int32) = (0 : Int32))).1) (by decide) (by decide) ?_
    show Steps p.tables e below (s₁.setTop (mkF m 39 #[.val (.int p1), .val (.int (1 : Int32)), .val (.int (0 : Int32)), .unset, .unset] [])) _
    refine st3 _ ?_
    show Steps p.tables e below (T3.setTop (mkF m 42 #[.val (.int p1), .val (.int (1 : Int32)), .val (.int (0 : Int32)), .unset, .unset] [(.ref v3)])) _
    refine XS.astoreN X3.here hx rfl (hb hby at_42) rfl rfl (l' := #[.val (.int p1), .val (.int (1 : Int32)), .val (.int (0 : Int32)), .val (.ref v3), .unset]) rfl ?_
    show Steps p.tables e below (T3.setTop (mkF m 43 #[.val (.int p1), .val (.int (1 : Int32)), .val (.int (0 : Int32)), .val (.ref v3), .unset] [])) _
    refine XS.goto X3.here hx rfl (pc0 := 43) (pc' := 61) rfl (hb hby at_43) (by decide) (by decide) ?_
    show Steps p.tables e below (T3.setTop (mkF m 61 #[.val (.int p1), .val (.int (1 : Int32)), .val (.int (0 : Int32)), .val (.ref v3), .unset] [])) _
    refine XS.iloadN X3.here hx rfl (hb hby at_61) rfl ?_
    show Steps p.tables e below (T3.setTop (mkF m 62 #[.val (.int p1), .val (.int (1 : Int32)), .val (.int (0 : Int32)), .val (.ref v3), .unset] [(.int (1 : Int32))])) _
    refine XS.iloadN X3.here hx rfl (hb hby at_62) rfl ?_
    show Steps p.tables e below (T3.setTop (mkF m 63 #[.val (.int p1), .val (.int (1 : Int32)), .val (.int (0 : Int32)), .val (.ref v3), .unset] [(.int (0 : Int32)), (.int (1 : Int32))])) _
    refine st4 _ ?_
    show Steps p.tables e below (T4.setTop (mkF m 66 #[.val (.int p1), .val (.int (1 : Int32)), .val (.int (0 : Int32)), .val (.ref v3), .unset] [(.ref v3)])) _
    refine XS.astore X4.here hx rfl (hb hby at_66) rfl rfl (l' := #[.val (.int p1), .val (.int (1 : Int32)), .val (.int (0 : Int32)), .val (.ref v3), .val (.ref v3)]) rfl ?_
    show Steps p.tables e below (T4.setTop (mkF m 68 #[.val (.int p1), .val (.int (1 : Int32)), .val (.int (0 : Int32)), .val (.ref v3), .val (.ref v3)] [])) _
    refine XS.aload X4.here hx rfl (hb hby at_68) rfl rfl ?_
    show Steps p.tables e below (T4.setTop (mkF m 70 #[.val (.int p1), .val (.int (1 : Int32)), .val (.int (0 : Int32)), .val (.ref v3), .val (.ref v3)] [(.ref v3)])) _
    refine XS.aloadN X4.here hx rfl (hb hby at_70) rfl rfl ?_
    show Steps p.tables e below (T4.setTop (mkF m 71 #[.val (.int p1), .val (.int (1 : Int32)), .val (.int (0 : Int32)), .val (.ref v3), .val (.ref v3)] [(.ref v3), (.ref v3)])) _
    refine Jvm.RoadKit.acmp (g := (mkF m 71 #[.val (.int p1), .val (.int (1 : Int32)), .val (.int (0 : Int32)), .val (.ref v3), .val (.ref v3)] [(.ref v3), (.ref v3)])) X4 hx rfl rfl rfl (pc0 := 71) (pc' := 74) (same := true) rfl (hb hby at_71) rfl (decide_eq_true (rfl)) (by decide) (by decide) ?_
    show Steps p.tables e below (T4.setTop (mkF m 74 #[.val (.int p1), .val (.int (1 : Int32)), .val (.int (0 : Int32)), .val (.ref v3), .val (.ref v3)] [])) _
    refine XS.aload X4.here hx rfl (hb hby at_74) rfl rfl ?_
    show Steps p.tables e below (T4.setTop (mkF m 76 #[.val (.int p1), .val (.int (1 : Int32)), .val (.int (0 : Int32)), .val (.ref v3), .val (.ref v3)] [(.ref v3)])) _
    refine st5.trans ?_
    show Steps p.tables e below (T5.setTop (mkF m 79 #[.val (.int p1), .val (.int (1 : Int32)), .val (.int (0 : Int32)), .val (.ref v3), .val (.ref v3)] [(.int (1 : Int32))])) _
    refine XS.iloadN X5.here hx rfl (hb hby at_79) rfl ?_
    show Steps p.tables e below (T5.setTop (mkF m 80 #[.val (.int p1), .val (.int (1 : Int32)), .val (.int (0 : Int32)), .val (.ref v3), .val (.ref v3)] [(.int (1 : Int32)), (.int (1 : Int32))])) _
    refine XS.icmpNo X5.here hx rfl (hb hby at_80) rfl (teq rfl).2 ?_
    show Steps p.tables e below (T5.setTop (mkF m 83 #[.val (.int p1), .val (.int (1 : Int32)), .val (.int (0 : Int32)), .val (.ref v3), .val (.ref v3)] [])) _
    refine XS.aload X5.here hx rfl (hb hby at_83) rfl rfl ?_
    show Steps p.tables e below (T5.setTop (mkF m 85 #[.val (.int p1), .val (.int (1 : Int32)), .val (.int (0 : Int32)), .val (.ref v3), .val (.ref v3)] [(.ref v3)])) _
    refine st6.trans ?_
    show Steps p.tables e below (T6.setTop (mkF m 88 #[.val (.int p1), .val (.int (1 : Int32)), .val (.int (0 : Int32)), .val (.ref v3), .val (.ref v3)] [(.int (0 : Int32))])) _
    refine XS.iloadN X6.here hx rfl (hb hby at_88) rfl ?_
    show Steps p.tables e below (T6.setTop (mkF m 89 #[.val (.int p1), .val (.int (1 : Int32)), .val (.int (0 : Int32)), .val (.ref v3), .val (.ref v3)] [(.int (0 : Int32)), (.int (0 : Int32))])) _
    refine XS.icmpNo X6.here hx rfl (hb hby at_89) rfl (teq rfl).2 ?_
    show Steps p.tables e below (T6.setTop (mkF m 92 #[.val (.int p1), .val (.int (1 : Int32)), .val (.int (0 : Int32)), .val (.ref v3), .val (.ref v3)] [])) _
    refine XS.iconst X6.here hx rfl (hb hby at_92) ?_
    show Steps p.tables e below (T6.setTop (mkF m 93 #[.val (.int p1), .val (.int (1 : Int32)), .val (.int (0 : Int32)), .val (.ref v3), .val (.ref v3)] [(.int (1 : Int32))])) _
    refine XS.goto X6.here hx rfl (pc0 := 93) (pc' := 97) rfl (hb hby at_93) (by decide) (by decide) ?_
    show Steps p.tables e below (T6.setTop (mkF m 97 #[.val (.int p1), .val (.int (1 : Int32)), .val (.int (0 : Int32)), .val (.ref v3), .val (.ref v3)] [(.int (1 : Int32))])) _
    exact retN X6 hx (t := .boolean) Bd.returns (by simp) (hb hby at_97) hr
  · show Q0l10 n0 _ T6.heap _
    exact ⟨rfl, N6⟩
def Q0l01 (n0 : Nat) (v : Option Value) (h : Heap) (L : List Loc) : Prop := v = some (.int (1 : Int32)) ∧ Fr n0 L
set_option maxRecDepth 65536 in
set_option maxHeartbeats 40000000 in
theorem rm0l01 (l : Launch) (Z : State) (a0 : Array Value) (hw : ∀ d ∈ tables_1, d.before a0 Z = true) (ws : List Jvm.Cond) (p1 : Int32) (v0 : Addr) (v1 : Addr) (v2 : Addr) (v3 : Addr) (wV : Addr) (cl : Cell) (h0 : Heap) (n0 : Nat) (Z0 : n0 ≤ h0.size) (SV : Sta Z h0 "com/example/gumzo/gumzo/node/Intake" "$VALUES" "[Lcom/example/gumzo/gumzo/node/Intake;" (.ref wV)) (AV : Arr Z h0 wV cl (.object "com/example/gumzo/gumzo/node/Intake")) (EV : Exa Z h0 wV "[Lcom/example/gumzo/gumzo/node/Intake;") (FV : FitC Z cl) (hsz : cl.slots.size = 4) (hi0 : ¬ ((0 : Int32) < 0 ∨ cl.slots.size ≤ ((0 : Int32)).toNatClampNeg)) (ht0 : cl.slots[((0 : Int32)).toNatClampNeg]? = some (.ref v0)) (U0 : Fld Z h0 v0 "com/example/gumzo/gumzo/node/Intake" "untilRefused" "Z" (.int (0 : Int32))) (Y0 : Fld Z h0 v0 "com/example/gumzo/gumzo/node/Intake" "synced" "Z" (.int (1 : Int32))) (hi1 : ¬ ((1 : Int32) < 0 ∨ cl.slots.size ≤ ((1 : Int32)).toNatClampNeg)) (ht1 : cl.slots[((1 : Int32)).toNatClampNeg]? = some (.ref v1)) (U1 : Fld Z h0 v1 "com/example/gumzo/gumzo/node/Intake" "untilRefused" "Z" (.int (0 : Int32))) (Y1 : Fld Z h0 v1 "com/example/gumzo/gumzo/node/Intake" "synced" "Z" (.int (0 : Int32))) (hi2 : ¬ ((2 : Int32) < 0 ∨ cl.slots.size ≤ ((2 : Int32)).toNatClampNeg)) (ht2 : cl.slots[((2 : Int32)).toNatClampNeg]? = some (.ref v2)) (U2 : Fld Z h0 v2 "com/example/gumzo/gumzo/node/Intake" "untilRefused" "Z" (.int (1 : Int32))) (Y2 : Fld Z h0 v2 "com/example/gumzo/gumzo/node/Intake" "synced" "Z" (.int (1 : Int32))) (hi3 : ¬ ((3 : Int32) < 0 ∨ cl.slots.size ≤ ((3 : Int32)).toNatClampNeg)) (ht3 : cl.slots[((3 : Int32)).toNatClampNeg]? = some (.ref v3)) (U3 : Fld Z h0 v3 "com/example/gumzo/gumzo/node/Intake" "untilRefused" "Z" (.int (1 : Int32))) (Y3 : Fld Z h0 v3 "com/example/gumzo/gumzo/node/Intake" "synced" "Z" (.int (0 : Int32))) (S0 : Sta Z h0 "com/example/gumzo/gumzo/node/Intake" "SYNCED" "Lcom/example/gumzo/gumzo/node/Intake;" (.ref v0)) (E0 : Exa Z h0 v0 "com/example/gumzo/gumzo/node/Intake") (S1 : Sta Z h0 "com/example/gumzo/gumzo/node/Intake" "UNSYNCED" "Lcom/example/gumzo/gumzo/node/Intake;" (.ref v1)) (E1 : Exa Z h0 v1 "com/example/gumzo/gumzo/node/Intake") (S2 : Sta Z h0 "com/example/gumzo/gumzo/node/Intake" "SYNCED_UNTIL_REFUSED" "Lcom/example/gumzo/gumzo/node/Intake;" (.ref v2)) (E2 : Exa Z h0 v2 "com/example/gumzo/gumzo/node/Intake") (S3 : Sta Z h0 "com/example/gumzo/gumzo/node/Intake" "UNSYNCED_UNTIL_REFUSED" "Lcom/example/gumzo/gumzo/node/Intake;" (.ref v3)) (E3 : Exa Z h0 v3 "com/example/gumzo/gumzo/node/Intake") (hc3 : (p1 &&& (1 : Int32)) = (0 : Int32)) (hc15 : ¬ ((p1 &&& (2 : Int32)) = (0 : Int32))) :
    MetFree l x (head1 (Jvm.Cond.code x code maxLocals ret :: ws) room_1) (fun a U => a = #[(.int p1)] ∧ Z.Warmed39 U.vm ∧ U.heap = h0) (fun _ _ _ _ _ => True) (fun _ U o U' => ∃ v L, o = .returned v ∧ Q0l01 n0 v U'.heap L ∧ FrameEnd U o U' L room_1.cells room_1.slots) := by
  refine MetFree.of_bodySF (plainFor_of_name pn_0) hisR ?_
  intro p e s m args below meth c s₁ Bd hml0 hP hK
  obtain ⟨rfl, hZ, hh⟩ := hP
  have hx := Bd.exec
  have hby := Bd.bytes
  have hml : c.maxLocals = 5 := hml0
  have hown : s.vm.findClass "com/example/gumzo/gumzo/node/IntakeOfPinLaw" = some m.cls := findClass_of_methodNamed Bd.named
  have hnm := (name_of_methodNamed Bd.named Bd.method).1
  have X0 : Stand p l e room_1 s m #[(.int p1)] below meth c s₁ [] 0 0 := Stand.of_body Bd
  have e0 : s₁.heap = h0 := by rw [← hh, Bd.state]; rfl
  have N0 := Fr.nil n0
  have pre0 : ∀ t, Steps p.tables e below (s₁.setTop (mkF m 0 #[.val (.int p1), .unset, .unset, .unset, .unset] [])) t → Steps p.tables e below (s₁.setTop (entryFrame m #[(.int p1)] maxLocals)) t := fun t k => castTop (ef_0 m p1) k
  -- 3. LAWS
  obtain ⟨T3, X3, e3, st3⟩ := getS2 X0 hx hZ hown (host := "") (Or.inl (hw _ (List.mem_of_getElem? (i := 39) rfl))) Via.refl e0 S0 (g := (mkF m 50 #[.val (.int p1), .val (.int (0 : Int32)), .val (.int (1 : Int32)), .unset, .unset] [])) rfl (hb hby at_50)
  -- pc 63: com/example/gumzo/gumzo/node/Intake.of by its contract rm1
  obtain ⟨_, _, ⟨T4, L4, k4, n4⟩, -, X4, ⟨Lc4, hQ4, l4, y4, z4⟩, st4⟩ := Jvm.LawKit.callS X3 hx (y := (⟨"com/example/gumzo/gumzo/node/Intake", "of", "(ZZ)Lcom/example/gumzo/gumzo/node/Intake;"⟩ : MethodName)) hown (mvT hZ (hw _ (List.mem_of_getElem? (i := 3) rfl))) (mvT hZ (hw _ (List.mem_of_getElem? (i := 4) rfl))) (mvT hZ (hw _ (List.mem_of_getElem? (i := 1) rfl))) (mvT hZ (hw _ (List.mem_of_getElem? (i := 5) rfl))) (by decide) (backOf (W := 0) (rm1u01 l Z a0 hw [] v0 v1 v2 v3 wV cl h0 n0 Z0 SV AV EV FV hsz hi0 ht0 U0 Y0 hi1 ht1 U1 Y1 hi2 ht2 U2 Y2 hi3 ht3 U3 Y3) hZ (hw _ (List.mem_of_getElem? (i := 5) rfl)) (hw _ (List.mem_of_getElem? (i := 1) rfl)) (by decide) (by decide)) (g := (mkF m 63 #[.val (.int p1), .val (.int (0 : Int32)), .val (.int (1 : Int32)), .val (.ref v0), .unset] [(.int (1 : Int32)), (.int (0 : Int32))])) rfl (by rw [hml]; rfl) (argsL := [(.int (0 : Int32)), (.int (1 : Int32))]) (rest := []) (lenOf pd_0_0 rfl) rfl (by show 2 * 0 + _ ≤ _; exact Nat.le_of_eq rfl) (hb hby at_63) (fun _ _ => ⟨rfl, e3, (by decide : 0 + 1 ≤ _), (by decide : 0 + 4 ≤ _)⟩)
  dsimp only [Pt.U, Pt.locs, Pt.cells, Pt.slots] at X4 l4 y4 z4 st4 hQ4
  subst l4 y4 z4
  obtain ⟨rfl, N4q, O4⟩ := hQ4
  have Z4 : n0 ≤ T4.heap.size := Nat.le_trans Z0 O4.1      -- what it returned, that it wrote nothing old, and the rest of your Q1
  have N4 := Fr.app N0 N4q
  -- pc 76: com/example/gumzo/gumzo/node/Intake.untilRefused by the contract of the body that the receiver's class selects, rm3
  -- ✋ yours, out of the call's Q: E_v0 : Exa Z h0 v0 "com/example/gumzo/gumzo/node/Intake"
  obtain ⟨cq5, kq5, q5a, q5b, q5c⟩ := isOf hZ rfl (E0.ext O4)
  obtain ⟨_, _, ⟨T5, L5, k5, n5⟩, -, X5, ⟨Lc5, hQ5, l5, y5, z5⟩, st5⟩ := X4.virtualBack hx (y := (⟨"com/example/gumzo/gumzo/node/Intake", "untilRefused", "()Z"⟩ : MethodName)) (z := (⟨"com/example/gumzo/gumzo/node/Intake", "untilRefused", "()Z"⟩ : MethodName)) hown (mvT hZ (hw _ (List.mem_of_getElem? (i := 28) rfl))) (mvT hZ (hw _ (List.mem_of_getElem? (i := 29) rfl))) (notFace_of_selects (args := #[]) (mvT hZ (hw _ (List.mem_of_getElem? (i := 31) rfl)))) (mvT hZ (hw _ (List.mem_of_getElem? (i := 31) rfl))) (mvT hZ (hw _ (List.mem_of_getElem? (i := 30) rfl))) (by decide) (backOf (W := 0) (rm3 l Z a0 hw [] v0 (0 : Int32) T4.heap n0 Z4 (U0.ext O4) (by decide)) hZ (hw _ (List.mem_of_getElem? (i := 32) rfl)) (hw _ (List.mem_of_getElem? (i := 1) rfl)) (by decide) (by decide)) q5a q5c (g := (mkF m 76 #[.val (.int p1), .val (.int (0 : Int32)), .val (.int (1 : Int32)), .val (.ref v0), .val (.ref v0)] [(.ref v0)])) rfl (by rw [hml]; rfl) (Steps.refl _) (argsL := []) (rest := []) (lenOf pd_0_3 rfl) rfl (by show 2 * 0 + _ ≤ _; exact Nat.le_of_eq rfl) (hb hby at_76) (fun _ _ => ⟨rfl, rfl, (by decide : 0 + 1 + 0 ≤ _), (by decide : 0 + 4 + 0 ≤ _)⟩)
  dsimp only [Pt.U, Pt.locs, Pt.cells, Pt.slots] at X5 l5 y5 z5 st5 hQ5
  subst l5 y5 z5
  obtain ⟨rfl, N5q, eq5⟩ := hQ5
  have O5 : Ext T4.heap T5.heap := own_ext (own_same eq5)
  have Z5 : n0 ≤ T5.heap.size := Nat.le_trans Z4 O5.1      -- what it returned, that it wrote nothing old, and the rest of your Q3
  have N5 := Fr.app N4 N5q
  -- pc 85: com/example/gumzo/gumzo/node/Intake.synced by the contract of the body that the receiver's class selects, rm4
  obtain ⟨cq6, kq6, q6a, q6b, q6c⟩ := isOf hZ rfl ((E0.ext O4).ext O5)
  obtain ⟨_, _, ⟨T6, L6, k6, n6⟩, -, X6, ⟨Lc6, hQ6, l6, y6, z6⟩, st6⟩ := X5.virtualBack hx (y := (⟨"com/example/gumzo/gumzo/node/Intake", "synced", "()Z"⟩ : MethodName)) (z := (⟨"com/example/gumzo/gumzo/node/Intake", "synced", "()Z"⟩ : MethodName)) hown (mvT hZ (hw _ (List.mem_of_getElem? (i := 33) rfl))) (mvT hZ (hw _ (List.mem_of_getElem? (i := 34) rfl))) (notFace_of_selects (args := #[]) (mvT hZ (hw _ (List.mem_of_getElem? (i := 36) rfl)))) (mvT hZ (hw _ (List.mem_of_getElem? (i := 36) rfl))) (mvT hZ (hw _ (List.mem_of_getElem? (i := 35) rfl))) (by decide) (backOf (W := 0) (rm4 l Z a0 hw [] v0 (1 : Int32) T5.heap n0 Z5 ((Y0.ext O4).ext O5) (by decide)) hZ (hw _ (List.mem_of_getElem? (i := 37) rfl)) (hw _ (List.mem_of_getElem? (i := 1) rfl)) (by decide) (by decide)) q6a q6c (g := (mkF m 85 #[.val (.int p1), .val (.int (0 : Int32)), .val (.int (1 : Int32)), .val (.ref v0), .val (.ref v0)] [(.ref v0)])) rfl (by rw [hml]; rfl) (Steps.refl _) (argsL := []) (rest := []) (lenOf pd_0_3 rfl) rfl (by show 2 * 0 + _ ≤ _; exact Nat.le_of_eq rfl) (hb hby at_85) (fun _ _ => ⟨rfl, rfl, (by decide : 0 + 1 + 0 ≤ _), (by decide : 0 + 4 + 0 ≤ _)⟩)
  dsimp only [Pt.U, Pt.locs, Pt.cells, Pt.slots] at X6 l6 y6 z6 st6 hQ6
  subst l6 y6 z6
  obtain ⟨rfl, N6q, eq6⟩ := hQ6      -- what it returned, that it wrote nothing old, and the rest of your Q4
  have N6 := Fr.app N5 N6q
  obtain ⟨fs, hr, hrun, hended, hW, hsame⟩ := X6.leave (v := some (.int (1 : Int32))) (fun h => by rw [Bd.returns] at h; cases h)
  refine ⟨_, _, pre0 _ ?_, hrun, hended, _, _, rfl, ?_, ⟨_, rfl⟩, hW, hsame.mono (by decide) (by decide)⟩
  -- 4. STEPS
  · show Steps p.tables e below (s₁.setTop (mkF m 0 #[.val (.int p1), .unset, .unset, .unset, .unset] [])) _
    refine XS.iloadN X0.here hx rfl (hb hby at_0) rfl ?_
    show Steps p.tables e below (s₁.setTop (mkF m 1 #[.val (.int p1), .unset, .unset, .unset, .unset] [(.int p1)])) _
    refine XS.iconst X0.here hx rfl (hb hby at_1) ?_
    show Steps p.tables e below (s₁.setTop (mkF m 2 #[.val (.int p1), .unset, .unset, .unset, .unset] [(.int (1 : Int32)), (.int p1)])) _
    refine XS.iand X0.here hx rfl (hb hby at_2) rfl ?_
    show Steps p.tables e below (s₁.setTop (mkF m 3 #[.val (.int p1), .unset, .unset, .unset, .unset] [(.int (p1 &&& (1 : Int32)))])) _
    refine XS.ifYes X0.here hx rfl (pc0 := 3) (pc' := 10) rfl (hb hby at_3) rfl ((if0 _ _).trans (teq hc3).1) (by decide) (by decide) ?_
    show Steps p.tables e below (s₁.setTop (mkF m 10 #[.val (.int p1), .unset, .unset, .unset, .unset] [])) _
    refine XS.iconst X0.here hx rfl (hb hby at_10) ?_
    show Steps p.tables e below (s₁.setTop (mkF m 11 #[.val (.int p1), .unset, .unset, .unset, .unset] [(.int (0 : Int32))])) _
    refine XS.istoreN X0.here hx rfl (hb hby at_11) rfl (l' := #[.val (.int p1), .val (.int (0 : Int32)), .unset, .unset, .unset]) rfl ?_
    show Steps p.tables e below (s₁.setTop (mkF m 12 #[.val (.int p1), .val (.int (0 : Int32)), .unset, .unset, .unset] [])) _
    refine XS.iloadN X0.here hx rfl (hb hby at_12) rfl ?_
    show Steps p.tables e below (s₁.setTop (mkF m 13 #[.val (.int p1), .val (.int (0 : Int32)), .unset, .unset, .unset] [(.int p1)])) _
    refine XS.iconst X0.here hx rfl (hb hby at_13) ?_
    show Steps p.tables e below (s₁.setTop (mkF m 14 #[.val (.int p1), .val (.int (0 : Int32)), .unset, .unset, .unset] [(.int (2 : Int32)), (.int p1)])) _
    refine XS.iand X0.here hx rfl (hb hby at_14) rfl ?_
    show Steps p.tables e below (s₁.setTop (mkF m 15 #[.val (.int p1), .val (.int (0 : Int32)), .unset, .unset, .unset] [(.int (p1 &&& (2 : Int32)))])) _
    refine XS.ifNo X0.here hx rfl (hb hby at_15) rfl ((if0 _ _).trans (feq hc15).1) ?_
    show Steps p.tables e below (s₁.setTop (mkF m 18 #[.val (.int p1), .val (.int (0 : Int32)), .unset, .unset, .unset] [])) _
    refine XS.iconst X0.here hx rfl (hb hby at_18) ?_
    show Steps p.tables e below (s₁.setTop (mkF m 19 #[.val (.int p1), .val (.int (0 : Int32)), .unset, .unset, .unset] [(.int (1 : Int32))])) _
    refine XS.goto X0.here hx rfl (pc0 := 19) (pc' := 23) rfl (hb hby at_19) (by decide) (by decide) ?_
    show Steps p.tables e below (s₁.setTop (mkF m 23 #[.val (.int p1), .val (.int (0 : Int32)), .unset, .unset, .unset] [(.int (1 : Int32))])) _
    refine XS.istoreN X0.here hx rfl (hb hby at_23) rfl (l' := #[.val (.int p1), .val (.int (0 : Int32)), .val (.int (1 : Int32)), .unset, .unset]) rfl ?_
    show Steps p.tables e below (s₁.setTop (mkF m 24 #[.val (.int p1), .val (.int (0 : Int32)), .val (.int (1 : Int32)), .unset, .unset] [])) _
    refine XS.iloadN X0.here hx rfl (hb hby at_24) rfl ?_
    show Steps p.tables e below (s₁.setTop (mkF m 25 #[.val (.int p1), .val (.int (0 : Int32)), .val (.int (1 : Int32)), .unset, .unset] [(.int (0 : Int32))])) _
    refine XS.ifYes X0.here hx rfl (pc0 := 25) (pc' := 46) rfl (hb hby at_25) rfl ((if0 _ _).trans (teq (rfl : (0 : Int32) = (0 : Int32))).1) (by decide) (by decide) ?_
    show Steps p.tables e below (s₁.setTop (mkF m 46 #[.val (.int p1), .val (.int (0 : Int32)), .val (.int (1 : Int32)), .unset, .unset] [])) _
    refine XS.iloadN X0.here hx rfl (hb hby at_46) rfl ?_
    show Steps p.tables e below (s₁.setTop (mkF m 47 #[.val (.int p1), .val (.int (0 : Int32)), .val (.int (1 : Int32)), .unset, .unset] [(.int (1 : Int32))])) _
    refine XS.ifNo X0.here hx rfl (hb hby at_47) rfl ((if0 _ _).trans (feq (by decide)).1) ?_
    show Steps p.tables e below (s₁.setTop (mkF m 50 #[.val (.int p1), .val (.int (0 : Int32)), .val (.int (1 : Int32)), .unset, .unset] [])) _
    refine st3 _ ?_
    show Steps p.tables e below (T3.setTop (mkF m 53 #[.val (.int p1), .val (.int (0 : Int32)), .val (.int (1 : Int32)), .unset, .unset] [(.ref v0)])) _
    refine XS.astoreN X3.here hx rfl (hb hby at_53) rfl rfl (l' := #[.val (.int p1), .val (.int (0 : Int32)), .val (.int (1 : Int32)), .val (.ref v0), .unset]) rfl ?_
    show Steps p.tables e below (T3.setTop (mkF m 54 #[.val (.int p1), .val (.int (0 : Int32)), .val (.int (1 : Int32)), .val (.ref v0), .unset] [])) _
    refine XS.goto X3.here hx rfl (pc0 := 54) (pc' := 61) rfl (hb hby at_54) (by decide) (by decide) ?_
    show Steps p.tables e below (T3.setTop (mkF m 61 #[.val (.int p1), .val (.int (0 : Int32)), .val (.int (1 : Int32)), .val (.ref v0), .unset] [])) _
    refine XS.iloadN X3.here hx rfl (hb hby at_61) rfl ?_
    show Steps p.tables e below (T3.setTop (mkF m 62 #[.val (.int p1), .val (.int (0 : Int32)), .val (.int (1 : Int32)), .val (.ref v0), .unset] [(.int (0 : Int32))])) _
    refine XS.iloadN X3.here hx rfl (hb hby at_62) rfl ?_
    show Steps p.tables e below (T3.setTop (mkF m 63 #[.val (.int p1), .val (.int (0 : Int32)), .val (.int (1 : Int32)), .val (.ref v0), .unset] [(.int (1 : Int32)), (.int (0 : Int32))])) _
    refine st4 _ ?_
    show Steps p.tables e below (T4.setTop (mkF m 66 #[.val (.int p1), .val (.int (0 : Int32)), .val (.int (1 : Int32)), .val (.ref v0), .unset] [(.ref v0)])) _
    refine XS.astore X4.here hx rfl (hb hby at_66) rfl rfl (l' := #[.val (.int p1), .val (.int (0 : Int32)), .val (.int (1 : Int32)), .val (.ref v0), .val (.ref v0)]) rfl ?_
    show Steps p.tables e below (T4.setTop (mkF m 68 #[.val (.int p1), .val (.int (0 : Int32)), .val (.int (1 : Int32)), .val (.ref v0), .val (.ref v0)] [])) _
    refine XS.aload X4.here hx rfl (hb hby at_68) rfl rfl ?_
    show Steps p.tables e below (T4.setTop (mkF m 70 #[.val (.int p1), .val (.int (0 : Int32)), .val (.int (1 : Int32)), .val (.ref v0), .val (.ref v0)] [(.ref v0)])) _
    refine XS.aloadN X4.here hx rfl (hb hby at_70) rfl rfl ?_
    show Steps p.tables e below (T4.setTop (mkF m 71 #[.val (.int p1), .val (.int (0 : Int32)), .val (.int (1 : Int32)), .val (.ref v0), .val (.ref v0)] [(.ref v0), (.ref v0)])) _
    refine Jvm.RoadKit.acmp (g := (mkF m 71 #[.val (.int p1), .val (.int (0 : Int32)), .val (.int (1 : Int32)), .val (.ref v0), .val (.ref v0)] [(.ref v0), (.ref v0)])) X4 hx rfl rfl rfl (pc0 := 71) (pc' := 74) (same := true) rfl (hb hby at_71) rfl (decide_eq_true (rfl)) (by decide) (by decide) ?_
    show Steps p.tables e below (T4.setTop (mkF m 74 #[.val (.int p1), .val (.int (0 : Int32)), .val (.int (1 : Int32)), .val (.ref v0), .val (.ref v0)] [])) _
    refine XS.aload X4.here hx rfl (hb hby at_74) rfl rfl ?_
    show Steps p.tables e below (T4.setTop (mkF m 76 #[.val (.int p1), .val (.int (0 : Int32)), .val (.int (1 : Int32)), .val (.ref v0), .val (.ref v0)] [(.ref v0)])) _
    refine st5.trans ?_
    show Steps p.tables e below (T5.setTop (mkF m 79 #[.val (.int p1), .val (.int (0 : Int32)), .val (.int (1 : Int32)), .val (.ref v0), .val (.ref v0)] [(.int (0 : Int32))])) _
    refine XS.iloadN X5.here hx rfl (hb hby at_79) rfl ?_
    show Steps p.tables e below (T5.setTop (mkF m 80 #[.val (.int p1), .val (.int (0 : Int32)), .val (.int (1 : Int32)), .val (.ref v0), .val (.ref v0)] [(.int (0 : Int32)), (.int (0 : Int32))])) _
    refine XS.icmpNo X5.here hx rfl (hb hby at_80) rfl (teq rfl).2 ?_
    show Steps p.tables e below (T5.setTop (mkF m 83 #[.val (.int p1), .val (.int (0 : Int32)), .val (.int (1 : Int32)), .val (.ref v0), .val (.ref v0)] [])) _
    refine XS.aload X5.here hx rfl (hb hby at_83) rfl rfl ?_
    show Steps p.tables e below (T5.setTop (mkF m 85 #[.val (.int p1), .val (.int (0 : Int32)), .val (.int (1 : Int32)), .val (.ref v0), .val (.ref v0)] [(.ref v0)])) _
    refine st6.trans ?_
    show Steps p.tables e below (T6.setTop (mkF m 88 #[.val (.int p1), .val (.int (0 : Int32)), .val (.int (1 : Int32)), .val (.ref v0), .val (.ref v0)] [(.int (1 : Int32))])) _
    refine XS.iloadN X6.here hx rfl (hb hby at_88) rfl ?_
    show Steps p.tables e below (T6.setTop (mkF m 89 #[.val (.int p1), .val (.int (0 : Int32)), .val (.int (1 : Int32)), .val (.ref v0), .val (.ref v0)] [(.int (1 : Int32)), (.int (1 : Int32))])) _
    refine XS.icmpNo X6.here hx rfl (hb hby at_89) rfl (teq rfl).2 ?_
    show Steps p.tables e below (T6.setTop (mkF m 92 #[.val (.int p1), .val (.int (0 : Int32)), .val (.int (1 : Int32)), .val (.ref v0), .val (.ref v0)] [])) _
    refine XS.iconst X6.here hx rfl (hb hby at_92) ?_
    show Steps p.tables e below (T6.setTop (mkF m 93 #[.val (.int p1), .val (.int (0 : Int32)), .val (.int (1 : Int32)), .val (.ref v0), .val (.ref v0)] [(.int (1 : Int32))])) _
    refine XS.goto X6.here hx rfl (pc0 := 93) (pc' := 97) rfl (hb hby at_93) (by decide) (by decide) ?_
    show Steps p.tables e below (T6.setTop (mkF m 97 #[.val (.int p1), .val (.int (0 : Int32)), .val (.int (1 : Int32)), .val (.ref v0), .val (.ref v0)] [(.int (1 : Int32))])) _
    exact retN X6 hx (t := .boolean) Bd.returns (by simp) (hb hby at_97) hr
  · show Q0l01 n0 _ T6.heap _
    exact ⟨rfl, N6⟩
def Q0l00 (n0 : Nat) (v : Option Value) (h : Heap) (L : List Loc) : Prop := v = some (.int (1 : Int32)) ∧ Fr n0 L
set_option maxRecDepth 65536 in
set_option maxHeartbeats 40000000 in
theorem rm0l00 (l : Launch) (Z : State) (a0 : Array Value) (hw : ∀ d ∈ tables_1, d.before a0 Z = true) (ws : List Jvm.Cond) (p1 : Int32) (v0 : Addr) (v1 : Addr) (v2 : Addr) (v3 : Addr) (wV : Addr) (cl : Cell) (h0 : Heap) (n0 : Nat) (Z0 : n0 ≤ h0.size) (SV : Sta Z h0 "com/example/gumzo/gumzo/node/Intake" "$VALUES" "[Lcom/example/gumzo/gumzo/node/Intake;" (.ref wV)) (AV : Arr Z h0 wV cl (.object "com/example/gumzo/gumzo/node/Intake")) (EV : Exa Z h0 wV "[Lcom/example/gumzo/gumzo/node/Intake;") (FV : FitC Z cl) (hsz : cl.slots.size = 4) (hi0 : ¬ ((0 : Int32) < 0 ∨ cl.slots.size ≤ ((0 : Int32)).toNatClampNeg)) (ht0 : cl.slots[((0 : Int32)).toNatClampNeg]? = some (.ref v0)) (U0 : Fld Z h0 v0 "com/example/gumzo/gumzo/node/Intake" "untilRefused" "Z" (.int (0 : Int32))) (Y0 : Fld Z h0 v0 "com/example/gumzo/gumzo/node/Intake" "synced" "Z" (.int (1 : Int32))) (hi1 : ¬ ((1 : Int32) < 0 ∨ cl.slots.size ≤ ((1 : Int32)).toNatClampNeg)) (ht1 : cl.slots[((1 : Int32)).toNatClampNeg]? = some (.ref v1)) (U1 : Fld Z h0 v1 "com/example/gumzo/gumzo/node/Intake" "untilRefused" "Z" (.int (0 : Int32))) (Y1 : Fld Z h0 v1 "com/example/gumzo/gumzo/node/Intake" "synced" "Z" (.int (0 : Int32))) (hi2 : ¬ ((2 : Int32) < 0 ∨ cl.slots.size ≤ ((2 : Int32)).toNatClampNeg)) (ht2 : cl.slots[((2 : Int32)).toNatClampNeg]? = some (.ref v2)) (U2 : Fld Z h0 v2 "com/example/gumzo/gumzo/node/Intake" "untilRefused" "Z" (.int (1 : Int32))) (Y2 : Fld Z h0 v2 "com/example/gumzo/gumzo/node/Intake" "synced" "Z" (.int (1 : Int32))) (hi3 : ¬ ((3 : Int32) < 0 ∨ cl.slots.size ≤ ((3 : Int32)).toNatClampNeg)) (ht3 : cl.slots[((3 : Int32)).toNatClampNeg]? = some (.ref v3)) (U3 : Fld Z h0 v3 "com/example/gumzo/gumzo/node/Intake" "untilRefused" "Z" (.int (1 : Int32))) (Y3 : Fld Z h0 v3 "com/example/gumzo/gumzo/node/Intake" "synced" "Z" (.int (0 : Int32))) (S0 : Sta Z h0 "com/example/gumzo/gumzo/node/Intake" "SYNCED" "Lcom/example/gumzo/gumzo/node/Intake;" (.ref v0)) (E0 : Exa Z h0 v0 "com/example/gumzo/gumzo/node/Intake") (S1 : Sta Z h0 "com/example/gumzo/gumzo/node/Intake" "UNSYNCED" "Lcom/example/gumzo/gumzo/node/Intake;" (.ref v1)) (E1 : Exa Z h0 v1 "com/example/gumzo/gumzo/node/Intake") (S2 : Sta Z h0 "com/example/gumzo/gumzo/node/Intake" "SYNCED_UNTIL_REFUSED" "Lcom/example/gumzo/gumzo/node/Intake;" (.ref v2)) (E2 : Exa Z h0 v2 "com/example/gumzo/gumzo/node/Intake") (S3 : Sta Z h0 "com/example/gumzo/gumzo/node/Intake" "UNSYNCED_UNTIL_REFUSED" "Lcom/example/gumzo/gumzo/node/Intake;" (.ref v3)) (E3 : Exa Z h0 v3 "com/example/gumzo/gumzo/node/Intake") (hc3 : (p1 &&& (1 : Int32)) = (0 : Int32)) (hc15 : (p1 &&& (2 : Int32)) = (0 : Int32)) :
    MetFree l x (head1 (Jvm.Cond.code x code maxLocals ret :: ws) room_1) (fun a U => a = #[(.int p1)] ∧ Z.Warmed39 U.vm ∧ U.heap = h0) (fun _ _ _ _ _ => True) (fun _ U o U' => ∃ v L, o = .returned v ∧ Q0l00 n0 v U'.heap L ∧ FrameEnd U o U' L room_1.cells room_1.slots) := by
  refine MetFree.of_bodySF (plainFor_of_name pn_0) hisR ?_
  intro p e s m args below meth c s₁ Bd hml0 hP hK
  obtain ⟨rfl, hZ, hh⟩ := hP
  have hx := Bd.exec
  have hby := Bd.bytes
  have hml : c.maxLocals = 5 := hml0
  have hown : s.vm.findClass "com/example/gumzo/gumzo/node/IntakeOfPinLaw" = some m.cls := findClass_of_methodNamed Bd.named
  have hnm := (name_of_methodNamed Bd.named Bd.method).1
  have X0 : Stand p l e room_1 s m #[(.int p1)] below meth c s₁ [] 0 0 := Stand.of_body Bd
  have e0 : s₁.heap = h0 := by rw [← hh, Bd.state]; rfl
  have N0 := Fr.nil n0
  have pre0 : ∀ t, Steps p.tables e below (s₁.setTop (mkF m 0 #[.val (.int p1), .unset, .unset, .unset, .unset] [])) t → Steps p.tables e below (s₁.setTop (entryFrame m #[(.int p1)] maxLocals)) t := fun t k => castTop (ef_0 m p1) k
  -- 3. LAWS
  obtain ⟨T3, X3, e3, st3⟩ := getS2 X0 hx hZ hown (host := "") (Or.inl (hw _ (List.mem_of_getElem? (i := 0) rfl))) Via.refl e0 S1 (g := (mkF m 57 #[.val (.int p1), .val (.int (0 : Int32)), .val (.int (0 : Int32)), .unset, .unset] [])) rfl (hb hby at_57)
  -- pc 63: com/example/gumzo/gumzo/node/Intake.of by its contract rm1
  obtain ⟨_, _, ⟨T4, L4, k4, n4⟩, -, X4, ⟨Lc4, hQ4, l4, y4, z4⟩, st4⟩ := Jvm.LawKit.callS X3 hx (y := (⟨"com/example/gumzo/gumzo/node/Intake", "of", "(ZZ)Lcom/example/gumzo/gumzo/node/Intake;"⟩ : MethodName)) hown (mvT hZ (hw _ (List.mem_of_getElem? (i := 3) rfl))) (mvT hZ (hw _ (List.mem_of_getElem? (i := 4) rfl))) (mvT hZ (hw _ (List.mem_of_getElem? (i := 1) rfl))) (mvT hZ (hw _ (List.mem_of_getElem? (i := 5) rfl))) (by decide) (backOf (W := 0) (rm1u00 l Z a0 hw [] v0 v1 v2 v3 wV cl h0 n0 Z0 SV AV EV FV hsz hi0 ht0 U0 Y0 hi1 ht1 U1 Y1 hi2 ht2 U2 Y2 hi3 ht3 U3 Y3) hZ (hw _ (List.mem_of_getElem? (i := 5) rfl)) (hw _ (List.mem_of_getElem? (i := 1) rfl)) (by decide) (by decide)) (g := (mkF m 63 #[.val (.int p1), .val (.int (0 : Int32)), .val (.int (0 : Int32)), .val (.ref v1), .unset] [(.int (0 : Int32)), (.int (0 : Int32))])) rfl (by rw [hml]; rfl) (argsL := [(.int (0 : Int32)), (.int (0 : Int32))]) (rest := []) (lenOf pd_0_0 rfl) rfl (by show 2 * 0 + _ ≤ _; exact Nat.le_of_eq rfl) (hb hby at_63) (fun _ _ => ⟨rfl, e3, (by decide : 0 + 1 ≤ _), (by decide : 0 + 4 ≤ _)⟩)
  dsimp only [Pt.U, Pt.locs, Pt.cells, Pt.slots] at X4 l4 y4 z4 st4 hQ4
  subst l4 y4 z4
  obtain ⟨rfl, N4q, O4⟩ := hQ4
  have Z4 : n0 ≤ T4.heap.size := Nat.le_trans Z0 O4.1      -- what it returned, that it wrote nothing old, and the rest of your Q1
  have N4 := Fr.app N0 N4q
  -- pc 76: com/example/gumzo/gumzo/node/Intake.untilRefused by the contract of the body that the receiver's class selects, rm3
  -- ✋ yours, out of the call's Q: E_v1 : Exa Z h0 v1 "com/example/gumzo/gumzo/node/Intake"
  obtain ⟨cq5, kq5, q5a, q5b, q5c⟩ := isOf hZ rfl (E1.ext O4)
  obtain ⟨_, _, ⟨T5, L5, k5, n5⟩, -, X5, ⟨Lc5, hQ5, l5, y5, z5⟩, st5⟩ := X4.virtualBack hx (y := (⟨"com/example/gumzo/gumzo/node/Intake", "untilRefused", "()Z"⟩ : MethodName)) (z := (⟨"com/example/gumzo/gumzo/node/Intake", "untilRefused", "()Z"⟩ : MethodName)) hown (mvT hZ (hw _ (List.mem_of_getElem? (i := 28) rfl))) (mvT hZ (hw _ (List.mem_of_getElem? (i := 29) rfl))) (notFace_of_selects (args := #[]) (mvT hZ (hw _ (List.mem_of_getElem? (i := 31) rfl)))) (mvT hZ (hw _ (List.mem_of_getElem? (i := 31) rfl))) (mvT hZ (hw _ (List.mem_of_getElem? (i := 30) rfl))) (by decide) (backOf (W := 0) (rm3 l Z a0 hw [] v1 (0 : Int32) T4.heap n0 Z4 (U1.ext O4) (by decide)) hZ (hw _ (List.mem_of_getElem? (i := 32) rfl)) (hw _ (List.mem_of_getElem? (i := 1) rfl)) (by decide) (by decide)) q5a q5c (g := (mkF m 76 #[.val (.int p1), .val (.int (0 : Int32)), .val (.int (0 : Int32)), .val (.ref v1), .val (.ref v1)] [(.ref v1)])) rfl (by rw [hml]; rfl) (Steps.refl _) (argsL := []) (rest := []) (lenOf pd_0_3 rfl) rfl (by show 2 * 0 + _ ≤ _; exact Nat.le_of_eq rfl) (hb hby at_76) (fun _ _ => ⟨rfl, rfl, (by decide : 0 + 1 + 0 ≤ _), (by decide : 0 + 4 + 0 ≤ _)⟩)
  dsimp only [Pt.U, Pt.locs, Pt.cells, Pt.slots] at X5 l5 y5 z5 st5 hQ5
  subst l5 y5 z5
  obtain ⟨rfl, N5q, eq5⟩ := hQ5
  have O5 : Ext T4.heap T5.heap := own_ext (own_same eq5)
  have Z5 : n0 ≤ T5.heap.size := Nat.le_trans Z4 O5.1      -- what it returned, that it wrote nothing old, and the rest of your Q3
  have N5 := Fr.app N4 N5q
  -- pc 85: com/example/gumzo/gumzo/node/Intake.synced by the contract of the body that the receiver's class selects, rm4
  obtain ⟨cq6, kq6, q6a, q6b, q6c⟩ := isOf hZ rfl ((E1.ext O4).ext O5)
  obtain ⟨_, _, ⟨T6, L6, k6, n6⟩, -, X6, ⟨Lc6, hQ6, l6, y6, z6⟩, st6⟩ := X5.virtualBack hx (y := (⟨"com/example/gumzo/gumzo/node/Intake", "synced", "()Z"⟩ : MethodName)) (z := (⟨"com/example/gumzo/gumzo/node/Intake", "synced", "()Z"⟩ : MethodName)) hown (mvT hZ (hw _ (List.mem_of_getElem? (i := 33) rfl))) (mvT hZ (hw _ (List.mem_of_getElem? (i := 34) rfl))) (notFace_of_selects (args := #[]) (mvT hZ (hw _ (List.mem_of_getElem? (i := 36) rfl)))) (mvT hZ (hw _ (List.mem_of_getElem? (i := 36) rfl))) (mvT hZ (hw _ (List.mem_of_getElem? (i := 35) rfl))) (by decide) (backOf (W := 0) (rm4 l Z a0 hw [] v1 (0 : Int32) T5.heap n0 Z5 ((Y1.ext O4).ext O5) (by decide)) hZ (hw _ (List.mem_of_getElem? (i := 37) rfl)) (hw _ (List.mem_of_getElem? (i := 1) rfl)) (by decide) (by decide)) q6a q6c (g := (mkF m 85 #[.val (.int p1), .val (.int (0 : Int32)), .val (.int (0 : Int32)), .val (.ref v1), .val (.ref v1)] [(.ref v1)])) rfl (by rw [hml]; rfl) (Steps.refl _) (argsL := []) (rest := []) (lenOf pd_0_3 rfl) rfl (by show 2 * 0 + _ ≤ _; exact Nat.le_of_eq rfl) (hb hby at_85) (fun _ _ => ⟨rfl, rfl, (by decide : 0 + 1 + 0 ≤ _), (by decide : 0 + 4 + 0 ≤ _)⟩)
  dsimp only [Pt.U, Pt.locs, Pt.cells, Pt.slots] at X6 l6 y6 z6 st6 hQ6
  subst l6 y6 z6
  obtain ⟨rfl, N6q, eq6⟩ := hQ6      -- what it returned, that it wrote nothing old, and the rest of your Q4
  have N6 := Fr.app N5 N6q
  obtain ⟨fs, hr, hrun, hended, hW, hsame⟩ := X6.leave (v := some (.int (1 : Int32))) (fun h => by rw [Bd.returns] at h; cases h)
  refine ⟨_, _, pre0 _ ?_, hrun, hended, _, _, rfl, ?_, ⟨_, rfl⟩, hW, hsame.mono (by decide) (by decide)⟩
  -- 4. STEPS
  · show Steps p.tables e below (s₁.setTop (mkF m 0 #[.val (.int p1), .unset, .unset, .unset, .unset] [])) _
    refine XS.iloadN X0.here hx rfl (hb hby at_0) rfl ?_
    show Steps p.tables e below (s₁.setTop (mkF m 1 #[.val (.int p1), .unset, .unset, .unset, .unset] [(.int p1)])) _
    refine XS.iconst X0.here hx rfl (hb hby at_1) ?_
    show Steps p.tables e below (s₁.setTop (mkF m 2 #[.val (.int p1), .unset, .unset, .unset, .unset] [(.int (1 : Int32)), (.int p1)])) _
    refine XS.iand X0.here hx rfl (hb hby at_2) rfl ?_
    show Steps p.tables e below (s₁.setTop (mkF m 3 #[.val (.int p1), .unset, .unset, .unset, .unset] [(.int (p1 &&& (1 : Int32)))])) _
    refine XS.ifYes X0.here hx rfl (pc0 := 3) (pc' := 10) rfl (hb hby at_3) rfl ((if0 _ _).trans (teq hc3).1) (by decide) (by decide) ?_
    show Steps p.tables e below (s₁.setTop (mkF m 10 #[.val (.int p1), .unset, .unset, .unset, .unset] [])) _
    refine XS.iconst X0.here hx rfl (hb hby at_10) ?_
    show Steps p.tables e below (s₁.setTop (mkF m 11 #[.val (.int p1), .unset, .unset, .unset, .unset] [(.int (0 : Int32))])) _
    refine XS.istoreN X0.here hx rfl (hb hby at_11) rfl (l' := #[.val (.int p1), .val (.int (0 : Int32)), .unset, .unset, .unset]) rfl ?_
    show Steps p.tables e below (s₁.setTop (mkF m 12 #[.val (.int p1), .val (.int (0 : Int32)), .unset, .unset, .unset] [])) _
    refine XS.iloadN X0.here hx rfl (hb hby at_12) rfl ?_
    show Steps p.tables e below (s₁.setTop (mkF m 13 #[.val (.int p1), .val (.int (0 : Int32)), .unset, .unset, .unset] [(.int p1)])) _
    refine XS.iconst X0.here hx rfl (hb hby at_13) ?_
    show Steps p.tables e below (s₁.setTop (mkF m 14 #[.val (.int p1), .val (.int (0 : Int32)), .unset, .unset, .unset] [(.int (2 : Int32)), (.int p1)])) _
    refine XS.iand X0.here hx rfl (hb hby at_14) rfl ?_
    show Steps p.tables e below (s₁.setTop (mkF m 15 #[.val (.int p1), .val (.int (0 : Int32)), .unset, .unset, .unset] [(.int (p1 &&& (2 : Int32)))])) _
    refine XS.ifYes X0.here hx rfl (pc0 := 15) (pc' := 22) rfl (hb hby at_15) rfl ((if0 _ _).trans (teq hc15).1) (by decide) (by decide) ?_
    show Steps p.tables e below (s₁.setTop (mkF m 22 #[.val (.int p1), .val (.int (0 : Int32)), .unset, .unset, .unset] [])) _
    refine XS.iconst X0.here hx rfl (hb hby at_22) ?_
    show Steps p.tables e below (s₁.setTop (mkF m 23 #[.val (.int p1), .val (.int (0 : Int32)), .unset, .unset, .unset] [(.int (0 : Int32))])) _
    refine XS.istoreN X0.here hx rfl (hb hby at_23) rfl (l' := #[.val (.int p1), .val (.int (0 : Int32)), .val (.int (0 : Int32)), .unset, .unset]) rfl ?_
    show Steps p.tables e below (s₁.setTop (mkF m 24 #[.val (.int p1), .val (.int (0 : Int32)), .val (.int (0 : Int32)), .unset, .unset] [])) _
    refine XS.iloadN X0.here hx rfl (hb hby at_24) rfl ?_
    show Steps p.tables e below (s₁.setTop (mkF m 25 #[.val (.int p1), .val (.int (0 : Int32)), .val (.int (0 : Int32)), .unset, .unset] [(.int (0 : Int32))])) _
    refine XS.ifYes X0.here hx rfl (pc0 := 25) (pc' := 46) rfl (hb hby at_25) rfl ((if0 _ _).trans (teq (rfl : (0 : Int32) = (0 : Int32))).1) (by decide) (by decide) ?_
    show Steps p.tables e below (s₁.setTop (mkF m 46 #[.val (.int p1), .val (.int (0 : Int32)), .val (.int (0 : Int32)), .unset, .unset] [])) _
    refine XS.iloadN X0.here hx rfl (hb hby at_46) rfl ?_
    show Steps p.tables e below (s₁.setTop (mkF m 47 #[.val (.int p1), .val (.int (0 : Int32)), .val (.int (0 : Int32)), .unset, .unset] [(.int (0 : Int32))])) _
    refine XS.ifYes X0.here hx rfl (pc0 := 47) (pc' := 57) rfl (hb hby at_47) rfl ((if0 _ _).trans (teq (rfl : (0 : Int32) = (0 : Int32))).1) (by decide) (by decide) ?_
    show Steps p.tables e below (s₁.setTop (mkF m 57 #[.val (.int p1), .val (.int (0 : Int32)), .val (.int (0 : Int32)), .unset, .unset] [])) _
    refine st3 _ ?_
    show Steps p.tables e below (T3.setTop (mkF m 60 #[.val (.int p1), .val (.int (0 : Int32)), .val (.int (0 : Int32)), .unset, .unset] [(.ref v1)])) _
    refine XS.astoreN X3.here hx rfl (hb hby at_60) rfl rfl (l' := #[.val (.int p1), .val (.int (0 : Int32)), .val (.int (0 : Int32)), .val (.ref v1), .unset]) rfl ?_
    show Steps p.tables e below (T3.setTop (mkF m 61 #[.val (.int p1), .val (.int (0 : Int32)), .val (.int (0 : Int32)), .val (.ref v1), .unset] [])) _
    refine XS.iloadN X3.here hx rfl (hb hby at_61) rfl ?_
    show Steps p.tables e below (T3.setTop (mkF m 62 #[.val (.int p1), .val (.int (0 : Int32)), .val (.int (0 : Int32)), .val (.ref v1), .unset] [(.int (0 : Int32))])) _
    refine XS.iloadN X3.here hx rfl (hb hby at_62) rfl ?_
    show Steps p.tables e below (T3.setTop (mkF m 63 #[.val (.int p1), .val (.int (0 : Int32)), .val (.int (0 : Int32)), .val (.ref v1), .unset] [(.int (0 : Int32)), (.int (0 : Int32))])) _
    refine st4 _ ?_
    show Steps p.tables e below (T4.setTop (mkF m 66 #[.val (.int p1), .val (.int (0 : Int32)), .val (.int (0 : Int32)), .val (.ref v1), .unset] [(.ref v1)])) _
    refine XS.astore X4.here hx rfl (hb hby at_66) rfl rfl (l' := #[.val (.int p1), .val (.int (0 : Int32)), .val (.int (0 : Int32)), .val (.ref v1), .val (.ref v1)]) rfl ?_
    show Steps p.tables e below (T4.setTop (mkF m 68 #[.val (.int p1), .val (.int (0 : Int32)), .val (.int (0 : Int32)), .val (.ref v1), .val (.ref v1)] [])) _
    refine XS.aload X4.here hx rfl (hb hby at_68) rfl rfl ?_
    show Steps p.tables e below (T4.setTop (mkF m 70 #[.val (.int p1), .val (.int (0 : Int32)), .val (.int (0 : Int32)), .val (.ref v1), .val (.ref v1)] [(.ref v1)])) _
    refine XS.aloadN X4.here hx rfl (hb hby at_70) rfl rfl ?_
    show Steps p.tables e below (T4.setTop (mkF m 71 #[.val (.int p1), .val (.int (0 : Int32)), .val (.int (0 : Int32)), .val (.ref v1), .val (.ref v1)] [(.ref v1), (.ref v1)])) _
    refine Jvm.RoadKit.acmp (g := (mkF m 71 #[.val (.int p1), .val (.int (0 : Int32)), .val (.int (0 : Int32)), .val (.ref v1), .val (.ref v1)] [(.ref v1), (.ref v1)])) X4 hx rfl rfl rfl (pc0 := 71) (pc' := 74) (same := true) rfl (hb hby at_71) rfl (decide_eq_true (rfl)) (by decide) (by decide) ?_
    show Steps p.tables e below (T4.setTop (mkF m 74 #[.val (.int p1), .val (.int (0 : Int32)), .val (.int (0 : Int32)), .val (.ref v1), .val (.ref v1)] [])) _
    refine XS.aload X4.here hx rfl (hb hby at_74) rfl rfl ?_
    show Steps p.tables e below (T4.setTop (mkF m 76 #[.val (.int p1), .val (.int (0 : Int32)), .val (.int (0 : Int32)), .val (.ref v1), .val (.ref v1)] [(.ref v1)])) _
    refine st5.trans ?_
    show Steps p.tables e below (T5.setTop (mkF m 79 #[.val (.int p1), .val (.int (0 : Int32)), .val (.int (0 : Int32)), .val (.ref v1), .val (.ref v1)] [(.int (0 : Int32))])) _
    refine XS.iloadN X5.here hx rfl (hb hby at_79) rfl ?_
    show Steps p.tables e below (T5.setTop (mkF m 80 #[.val (.int p1), .val (.int (0 : Int32)), .val (.int (0 : Int32)), .val (.ref v1), .val (.ref v1)] [(.int (0 : Int32)), (.int (0 : Int32))])) _
    refine XS.icmpNo X5.here hx rfl (hb hby at_80) rfl (teq rfl).2 ?_
    show Steps p.tables e below (T5.setTop (mkF m 83 #[.val (.int p1), .val (.int (0 : Int32)), .val (.int (0 : Int32)), .val (.ref v1), .val (.ref v1)] [])) _
    refine XS.aload X5.here hx rfl (hb hby at_83) rfl rfl ?_
    show Steps p.tables e below (T5.setTop (mkF m 85 #[.val (.int p1), .val (.int (0 : Int32)), .val (.int (0 : Int32)), .val (.ref v1), .val (.ref v1)] [(.ref v1)])) _
    refine st6.trans ?_
    show Steps p.tables e below (T6.setTop (mkF m 88 #[.val (.int p1), .val (.int (0 : Int32)), .val (.int (0 : Int32)), .val (.ref v1), .val (.ref v1)] [(.int (0 : Int32))])) _
    refine XS.iloadN X6.here hx rfl (hb hby at_88) rfl ?_
    show Steps p.tables e below (T6.setTop (mkF m 89 #[.val (.int p1), .val (.int (0 : Int32)), .val (.int (0 : Int32)), .val (.ref v1), .val (.ref v1)] [(.int (0 : Int32)), (.int (0 : Int32))])) _
    refine XS.icmpNo X6.here hx rfl (hb hby at_89) rfl (teq rfl).2 ?_
    show Steps p.tables e below (T6.setTop (mkF m 92 #[.val (.int p1), .val (.int (0 : Int32)), .val (.int (0 : Int32)), .val (.ref v1), .val (.ref v1)] [])) _
    refine XS.iconst X6.here hx rfl (hb hby at_92) ?_
    show Steps p.tables e below (T6.setTop (mkF m 93 #[.val (.int p1), .val (.int (0 : Int32)), .val (.int (0 : Int32)), .val (.ref v1), .val (.ref v1)] [(.int (1 : Int32))])) _
    refine XS.goto X6.here hx rfl (pc0 := 93) (pc' := 97) rfl (hb hby at_93) (by decide) (by decide) ?_
    show Steps p.tables e below (T6.setTop (mkF m 97 #[.val (.int p1), .val (.int (0 : Int32)), .val (.int (0 : Int32)), .val (.ref v1), .val (.ref v1)] [(.int (1 : Int32))])) _
    exact retN X6 hx (t := .boolean) Bd.returns (by simp) (hb hby at_97) hr
  · show Q0l00 n0 _ T6.heap _
    exact ⟨rfl, N6⟩
set_option maxRecDepth 65536 in
set_option maxHeartbeats 40000000 in
theorem rm0 (l : Launch) (Z : State) (a0 : Array Value) (hw : ∀ d ∈ tables_1, d.before a0 Z = true) (ws : List Jvm.Cond) (p1 : Int32) (v0 : Addr) (v1 : Addr) (v2 : Addr) (v3 : Addr) (wV : Addr) (cl : Cell) (h0 : Heap) (n0 : Nat) (Z0 : n0 ≤ h0.size) (SV : Sta Z h0 "com/example/gumzo/gumzo/node/Intake" "$VALUES" "[Lcom/example/gumzo/gumzo/node/Intake;" (.ref wV)) (AV : Arr Z h0 wV cl (.object "com/example/gumzo/gumzo/node/Intake")) (EV : Exa Z h0 wV "[Lcom/example/gumzo/gumzo/node/Intake;") (FV : FitC Z cl) (hsz : cl.slots.size = 4) (hi0 : ¬ ((0 : Int32) < 0 ∨ cl.slots.size ≤ ((0 : Int32)).toNatClampNeg)) (ht0 : cl.slots[((0 : Int32)).toNatClampNeg]? = some (.ref v0)) (U0 : Fld Z h0 v0 "com/example/gumzo/gumzo/node/Intake" "untilRefused" "Z" (.int (0 : Int32))) (Y0 : Fld Z h0 v0 "com/example/gumzo/gumzo/node/Intake" "synced" "Z" (.int (1 : Int32))) (hi1 : ¬ ((1 : Int32) < 0 ∨ cl.slots.size ≤ ((1 : Int32)).toNatClampNeg)) (ht1 : cl.slots[((1 : Int32)).toNatClampNeg]? = some (.ref v1)) (U1 : Fld Z h0 v1 "com/example/gumzo/gumzo/node/Intake" "untilRefused" "Z" (.int (0 : Int32))) (Y1 : Fld Z h0 v1 "com/example/gumzo/gumzo/node/Intake" "synced" "Z" (.int (0 : Int32))) (hi2 : ¬ ((2 : Int32) < 0 ∨ cl.slots.size ≤ ((2 : Int32)).toNatClampNeg)) (ht2 : cl.slots[((2 : Int32)).toNatClampNeg]? = some (.ref v2)) (U2 : Fld Z h0 v2 "com/example/gumzo/gumzo/node/Intake" "untilRefused" "Z" (.int (1 : Int32))) (Y2 : Fld Z h0 v2 "com/example/gumzo/gumzo/node/Intake" "synced" "Z" (.int (1 : Int32))) (hi3 : ¬ ((3 : Int32) < 0 ∨ cl.slots.size ≤ ((3 : Int32)).toNatClampNeg)) (ht3 : cl.slots[((3 : Int32)).toNatClampNeg]? = some (.ref v3)) (U3 : Fld Z h0 v3 "com/example/gumzo/gumzo/node/Intake" "untilRefused" "Z" (.int (1 : Int32))) (Y3 : Fld Z h0 v3 "com/example/gumzo/gumzo/node/Intake" "synced" "Z" (.int (0 : Int32))) (S0 : Sta Z h0 "com/example/gumzo/gumzo/node/Intake" "SYNCED" "Lcom/example/gumzo/gumzo/node/Intake;" (.ref v0)) (E0 : Exa Z h0 v0 "com/example/gumzo/gumzo/node/Intake") (S1 : Sta Z h0 "com/example/gumzo/gumzo/node/Intake" "UNSYNCED" "Lcom/example/gumzo/gumzo/node/Intake;" (.ref v1)) (E1 : Exa Z h0 v1 "com/example/gumzo/gumzo/node/Intake") (S2 : Sta Z h0 "com/example/gumzo/gumzo/node/Intake" "SYNCED_UNTIL_REFUSED" "Lcom/example/gumzo/gumzo/node/Intake;" (.ref v2)) (E2 : Exa Z h0 v2 "com/example/gumzo/gumzo/node/Intake") (S3 : Sta Z h0 "com/example/gumzo/gumzo/node/Intake" "UNSYNCED_UNTIL_REFUSED" "Lcom/example/gumzo/gumzo/node/Intake;" (.ref v3)) (E3 : Exa Z h0 v3 "com/example/gumzo/gumzo/node/Intake") :
    MetFree l x (head1 (Jvm.Cond.code x code maxLocals ret :: ws) room_1) (fun a U => a = #[(.int p1)] ∧ Z.Warmed39 U.vm ∧ U.heap = h0) (fun _ _ _ _ _ => True) (fun _ U o U' => ∃ v L, o = .returned v ∧ (v = some (.int (1 : Int32)) ∧ Fr n0 L) ∧ FrameEnd U o U' L room_1.cells room_1.slots) := by
  by_cases q0 : (p1 &&& (1 : Int32)) = (0 : Int32)
  · by_cases q1 : (p1 &&& (2 : Int32)) = (0 : Int32)
    · exact rm0l00 l Z a0 hw ws p1 v0 v1 v2 v3 wV cl h0 n0 Z0 SV AV EV FV hsz hi0 ht0 U0 Y0 hi1 ht1 U1 Y1 hi2 ht2 U2 Y2 hi3 ht3 U3 Y3 S0 E0 S1 E1 S2 E2 S3 E3 q0 q1
    · exact rm0l01 l Z a0 hw ws p1 v0 v1 v2 v3 wV cl h0 n0 Z0 SV AV EV FV hsz hi0 ht0 U0 Y0 hi1 ht1 U1 Y1 hi2 ht2 U2 Y2 hi3 ht3 U3 Y3 S0 E0 S1 E1 S2 E2 S3 E3 q0 q1
  · by_cases q1 : (p1 &&& (2 : Int32)) = (0 : Int32)
    · exact rm0l10 l Z a0 hw ws p1 v0 v1 v2 v3 wV cl h0 n0 Z0 SV AV EV FV hsz hi0 ht0 U0 Y0 hi1 ht1 U1 Y1 hi2 ht2 U2 Y2 hi3 ht3 U3 Y3 S0 E0 S1 E1 S2 E2 S3 E3 q0 q1
    · exact rm0l11 l Z a0 hw ws p1 v0 v1 v2 v3 wV cl h0 n0 Z0 SV AV EV FV hsz hi0 ht0 U0 Y0 hi1 ht1 U1 Y1 hi2 ht2 U2 Y2 hi3 ht3 U3 Y3 S0 E0 S1 E1 S2 E2 S3 E3 q0 q1
set_option maxRecDepth 65536 in
set_option maxHeartbeats 40000000 in
theorem comes_1 {Post : Tables → Env → Array Value → State → Outcome → State → Prop} (hpost : ∀ tb e args s v u, (limb_1_1.after args s (.returned v) u = true ∧ limb_1_2.after args s (.returned v) u = true ∧ True) → FrameEnd s (.returned v) u (Jvm.fieldLocs frame_1_writes args s ++ Jvm.arrayLocs frame_1_arrays args s ++ Jvm.staticLocs frame_1_statics s) 16 128 → Post tb e args s (.returned v) u) :
    ArmFor flags0 classFile x code maxLocals ret World_1 tables_1 room_1 Calls_1 rest_1 Pre_1 Post := by
  intro l hfl _ _ p e ha hc hk s m args below hf hA hF happ hP
  obtain ⟨hcalls, hrest, hpre⟩ := hP
  obtain ⟨-, -, -, hnamed, -, -, -, hat⟩ := (Spec.applies_iff hf).mp happ
  obtain ⟨hg, hn⟩ := and_e (Cond.before_iff.mp (show (Jvm.Cond.and given_1 narrow_1).before args s = true from hpre))
  obtain ⟨g7, g8⟩ := and_e hg
  obtain ⟨w0, rfl⟩ : ∃ w0 : Value, args = #[w0] := by
    have hs : args.size = 1 := by simpa [Cond.value, given_1] using g7
    obtain ⟨L⟩ := args
    match L, hs with
    | [w0], _ => exact ⟨w0, rfl⟩
  have hw := fun d (hd : d ∈ tables_1) => atoms_spec (ws := Jvm.Cond.code x code maxLocals ret :: tables_1) hat d (List.mem_cons_of_mem _ hd)
  have hfit : Fit s := fun {y c} hc i hi => by
    obtain ⟨ha, rfl⟩ := Array.getElem?_eq_some_iff.mp hc
    have q := List.all_eq_true.mp ((Array.all_eq_true_iff_forall_mem.mp hF) _ (Array.getElem_mem ha)) i (List.mem_range.mpr hi)
    simpa [Array.getElem?_eq_getElem hi] using q
  obtain ⟨i0, ei0⟩ := is_v g8
  obtain rfl : w0 = (.int i0) := Option.some.inj ei0
  obtain ⟨k_E1, r0⟩ := and_e hn
  obtain ⟨k_arr, r1⟩ := and_e r0
  obtain ⟨k_exV, r2⟩ := and_e r1
  obtain ⟨k_len, r3⟩ := and_e r2
  obtain ⟨k_E0, r4⟩ := and_e r3
  obtain ⟨k_e0, r5⟩ := and_e r4
  obtain ⟨k_e1, r6⟩ := and_e r5
  obtain ⟨k_E2, r7⟩ := and_e r6
  obtain ⟨k_e2, r8⟩ := and_e r7
  obtain ⟨k_E3, r9⟩ := and_e r8
  obtain ⟨k_e3, r10⟩ := and_e r9
  obtain ⟨k_U0, r11⟩ := and_e r10
  obtain ⟨k_Y0, r12⟩ := and_e r11
  obtain ⟨k_U1, r13⟩ := and_e r12
  obtain ⟨k_Y1, r14⟩ := and_e r13
  obtain ⟨k_U2, r15⟩ := and_e r14
  obtain ⟨k_U3, r16⟩ := and_e r15
  obtain ⟨k_Y2, r17⟩ := and_e r16
  have k_Y3 := r17
  obtain ⟨x0, ev0⟩ := exa_v k_E0
  have S0 := Sta.start ev0 (Or.inr ⟨(hw _ (List.mem_of_getElem? (i := 1) rfl)), (hw _ (List.mem_of_getElem? (i := 18) rfl))⟩)
  have E0 := Exa.start ev0 k_E0
  have U0 := own_fint ev0 k_U0
  have Y0 := own_fint ev0 k_Y0
  obtain ⟨x1, ev1⟩ := exa_v k_E1
  have S1 := Sta.start ev1 (Or.inr ⟨(hw _ (List.mem_of_getElem? (i := 1) rfl)), (hw _ (List.mem_of_getElem? (i := 2) rfl))⟩)
  have E1 := Exa.start ev1 k_E1
  have U1 := own_fint ev1 k_U1
  have Y1 := own_fint ev1 k_Y1
  obtain ⟨x2, ev2⟩ := exa_v k_E2
  have S2 := Sta.start ev2 (Or.inr ⟨(hw _ (List.mem_of_getElem? (i := 1) rfl)), (hw _ (List.mem_of_getElem? (i := 19) rfl))⟩)
  have E2 := Exa.start ev2 k_E2
  have U2 := own_fint ev2 k_U2
  have Y2 := own_fint ev2 k_Y2
  obtain ⟨x3, ev3⟩ := exa_v k_E3
  have S3 := Sta.start ev3 (Or.inr ⟨(hw _ (List.mem_of_getElem? (i := 1) rfl)), (hw _ (List.mem_of_getElem? (i := 20) rfl))⟩)
  have E3 := Exa.start ev3 k_E3
  have U3 := own_fint ev3 k_U3
  have Y3 := own_fint ev3 k_Y3
  obtain ⟨xV, evV⟩ := arr_v k_arr
  have SV := Sta.start evV (Or.inr ⟨(hw _ (List.mem_of_getElem? (i := 1) rfl)), (hw _ (List.mem_of_getElem? (i := 10) rfl))⟩)
  have EV := Exa.start evV k_exV
  obtain ⟨cl, AV⟩ := Arr.start evV k_arr
  have FV := FitC.start hfit AV
  have hsz : cl.slots.size = 4 := own_size (own_len evV AV (own_eqi k_len)) 4 (by decide)
  have G0 := elem_in (own_eqR ev0 k_e0) evV (Term.int_eval 0) AV.1
  have G1 := elem_in (own_eqR ev1 k_e1) evV (Term.int_eval 1) AV.1
  have G2 := elem_in (own_eqR ev2 k_e2) evV (Term.int_eval 2) AV.1
  have G3 := elem_in (own_eqR ev3 k_e3) evV (Term.int_eval 3) AV.1
  obtain ⟨n, o, h1, h2, h3, _, L, rfl, ⟨rfl, N⟩, hq⟩ := rm0 l s _ hw tables_1 i0 x0 x1 x2 x3 xV cl s.heap s.heap.size (Nat.le_refl _) SV AV EV FV hsz G0.1 G0.2 U0 Y0 G1.1 G1.2 U1 Y1 G2.1 G2.2 U2 Y2 G3.1 G3.2 U3 Y3 S0 E0 S1 E1 S2 E2 S3 E3 p e ha hc hk s m _ below hf ((Spec.applies_iff_loose hf).mp happ).1 ⟨rfl, State.Warmed39.refl s, rfl⟩ trivial
  refine ⟨n, _, h1, h2, h3, hpost _ _ _ _ _ _ ⟨Cond.after_iff.mpr rfl, Cond.after_iff.mpr (eq_i res_at (Term.int_eval (1)) rfl), trivial⟩ ⟨hq.1, hq.2.1, (hq.2.2.sift fun y hy => Or.inr (N y hy)).mono (by decide) (by decide)⟩⟩
theorem main_1_1 : Claimed_1_1 := comes_1 fun _ _ _ _ _ _ h hF => ⟨h.1, hF⟩
theorem main_1_2 : Claimed_1_2 := comes_1 fun _ _ _ _ _ _ h hF => ⟨h.2.1, hF⟩
end Jvm.Pilot.@@N@@
namespace Jvm.Pilot.@@N@@
open Jvm Jvm.ClassFile Sem Op Lib Jvm.Free Jvm.Stand Jvm.Pilot.@@N@@.Jvm.D
/-! MADE BY PROGRAM (witnessworld.py) out of the Statement's table words and the real class files: 13 classes; the members and pool entries that the words name. The judged class is class 1, her method 1. -/
namespace start1
open Jvm.ClassFile
def u (s : String) : CpInfo := .utf8 (stringToUtf16 s)
/-- a pool by its gaps: so many unusable entries, then the entry; so many at the end -/
def gap : Nat → List CpInfo → List CpInfo
  | 0, r => r
  | n + 1, r => .unusable :: gap n r
def poolList (es : List (Nat × CpInfo)) (last : Nat) : List CpInfo := es.foldr (fun e r => gap e.1 (e.2 :: r)) (gap last [])
def pool (es : List (Nat × CpInfo)) (last : Nat) : Array CpInfo := ⟨poolList es last⟩
def fileOf (pool : Array CpInfo) (this : Nat) (attrs : Array Attribute := #[]) (ms : Array MethodInfo := #[]) (fl : Nat := 33) (sup : Nat := 0) (ifs : Array Nat := #[]) (fds : Array FieldInfo := #[]) : ClassFile where
  minorVersion := 0
  majorVersion := 65
  constantPool := pool
  accessFlags := fl
  thisClass := this
  superClass := sup
  interfaces := ifs
  fields := fds
  methods := ms
  attributes := attrs
def plain (name : String) (sup : Option ClassId) : Class where
  name := name
  kind := .ordinary
  loader := none
  accessFlags := 33
  super := sup
  interfaces := #[]
  cf := none
  fields := #[]
  methods := #[]
  instanceTypes := #[]
  staticTypes := #[]
  resolved := #[]
  callSites := []
  init := .initialized
  statics := none
  mirror := none

def pool0 : Array CpInfo := pool [(5, u "<init>"), (0, u "()V"), (1, .class_ 10), (1, u "java/lang/Object"), (85, u "clone"), (0, u "()Ljava/lang/Object;")] 26

def k0m0 : Method := { name := "<init>", desc := "()V", sig := { parameters := [], returnType := none }, accessFlags := 1, code := none }
def k0m1 : Method := { name := "clone", desc := "()Ljava/lang/Object;", sig := { parameters := [], returnType := some (.object "java/lang/Object") }, accessFlags := 260, code := none }
/-- java/lang/Object -/
def k0 : Class := { plain "java/lang/Object" none with
  accessFlags := 33
  interfaces := #[]
  cf := some (fileOf pool0 8 #[] #[{ accessFlags := 1, nameIndex := 5, descriptorIndex := 6, attributes := #[] }, { accessFlags := 260, nameIndex := 96, descriptorIndex := 97, attributes := #[] }] 33 0 #[] #[])
  fields := #[]
  methods := #[k0m0, k0m1]
  instanceTypes := #[]
  staticTypes := #[]
  resolved := Array.replicate 124 none
  statics := none }

def pool1 : Array CpInfo := pool [(2, .class_ 4), (1, u "java/lang/Object"), (0, u "<init>"), (0, u "()V"), (0, .fieldref 8 9), (0, .class_ 10), (0, .nameAndType 11 12), (0, u "com/example/gumzo/gumzo/node/Intake"), (0, u "SYNCED_UNTIL_REFUSED"), (0, u "Lcom/example/gumzo/gumzo/node/Intake;"), (0, .fieldref 8 14), (0, .nameAndType 15 12), (0, u "UNSYNCED_UNTIL_REFUSED"), (0, .fieldref 8 17), (0, .nameAndType 18 12), (0, u "SYNCED"), (0, .fieldref 8 20), (0, .nameAndType 21 12), (0, u "UNSYNCED"), (0, .methodref 8 23), (0, .nameAndType 24 25), (0, u "of"), (0, u "(ZZ)Lcom/example/gumzo/gumzo/node/Intake;"), (0, .methodref 8 27), (0, .nameAndType 28 29), (0, u "untilRefused"), (0, u "()Z"), (0, .methodref 8 31), (0, .nameAndType 32 29), (0, u "synced"), (0, .class_ 34), (0, u "com/example/gumzo/gumzo/node/IntakeOfPinLaw"), (2, u "law"), (0, u "(I)Z")] 3

def k1m0 : Method := { name := "<init>", desc := "()V", sig := { parameters := [], returnType := none }, accessFlags := 1, code := none }
def k1c1 : Code := { maxStack := 2, maxLocals := 5, code := code, exceptionTable := #[], attributes := #[] }
def k1m1 : Method := { name := "law", desc := "(I)Z", sig := { parameters := [.int], returnType := some .boolean }, accessFlags := 9, code := some k1c1 }
/-- com/example/gumzo/gumzo/node/IntakeOfPinLaw -/
def k1 : Class := { plain "com/example/gumzo/gumzo/node/IntakeOfPinLaw" (some 0) with
  accessFlags := 49
  interfaces := #[]
  cf := some (fileOf pool1 33 #[] #[{ accessFlags := 1, nameIndex := 5, descriptorIndex := 6, attributes := #[] }, { accessFlags := 9, nameIndex := 37, descriptorIndex := 38, attributes := #[] }] 49 2 #[] #[])
  fields := #[]
  methods := #[k1m0, k1m1]
  instanceTypes := #[]
  staticTypes := #[]
  resolved := Array.replicate 42 none
  statics := none }

def pool2 : Array CpInfo := pool [(1, .class_ 2), (0, u "java/lang/constant/Constable"), (0, .class_ 4), (0, u "java/lang/Object")] 6

/-- java/lang/constant/Constable -/
def k2 : Class := { plain "java/lang/constant/Constable" (some 0) with
  accessFlags := 1537
  interfaces := #[]
  cf := some (fileOf pool2 1 #[] #[] 1537 3 #[] #[])
  fields := #[]
  methods := #[]
  instanceTypes := #[]
  staticTypes := #[]
  resolved := Array.replicate 11 none
  statics := none }

def pool3 : Array CpInfo := pool [(1, .class_ 2), (0, u "java/lang/Comparable"), (0, .class_ 4), (0, u "java/lang/Object")] 7

/-- java/lang/Comparable -/
def k3 : Class := { plain "java/lang/Comparable" (some 0) with
  accessFlags := 1537
  interfaces := #[]
  cf := some (fileOf pool3 1 #[] #[] 1537 3 #[] #[])
  fields := #[]
  methods := #[]
  instanceTypes := #[]
  staticTypes := #[]
  resolved := Array.replicate 12 none
  statics := none }

def pool4 : Array CpInfo := pool [(1, .class_ 2), (0, u "java/io/Serializable"), (0, .class_ 4), (0, u "java/lang/Object")] 2

/-- java/io/Serializable -/
def k4 : Class := { plain "java/io/Serializable" (some 0) with
  accessFlags := 1537
  interfaces := #[]
  cf := some (fileOf pool4 1 #[] #[] 1537 3 #[] #[])
  fields := #[]
  methods := #[]
  instanceTypes := #[]
  staticTypes := #[]
  resolved := Array.replicate 7 none
  statics := none }

def pool5 : Array CpInfo := pool [(2, .class_ 4), (1, u "java/lang/Enum"), (0, u "name"), (0, u "Ljava/lang/String;"), (2, u "ordinal"), (0, u "I"), (1, .class_ 14), (1, u "java/lang/Object"), (4, u "hash"), (86, .class_ 108), (1, u "java/lang/Enum$EnumDesc"), (2, .class_ 112), (0, u "java/lang/constant/Constable"), (0, .class_ 114), (0, u "java/lang/Comparable"), (0, .class_ 116), (0, u "java/io/Serializable")] 87

/-- java/lang/Enum -/
def k5 : Class := { plain "java/lang/Enum" (some 0) with
  accessFlags := 1057
  interfaces := #[2, 3, 4]
  cf := some (fileOf pool5 2 #[.nestMembers #[106]] #[] 1057 12 #[111, 113, 115] #[{ accessFlags := 18, nameIndex := 5, descriptorIndex := 6, attributes := #[] }, { accessFlags := 18, nameIndex := 9, descriptorIndex := 10, attributes := #[] }, { accessFlags := 2, nameIndex := 19, descriptorIndex := 10, attributes := #[] }])
  fields := #[{ name := "name", type := (.object "java/lang/String"), accessFlags := 18, slot := 0, constantValue := 0 }, { name := "ordinal", type := .int, accessFlags := 18, slot := 1, constantValue := 0 }, { name := "hash", type := .int, accessFlags := 2, slot := 2, constantValue := 0 }]
  methods := #[]
  instanceTypes := #[(.object "java/lang/String"), .int, .int]
  staticTypes := #[]
  resolved := Array.replicate 204 none
  statics := none }

def pool6 : Array CpInfo := pool [(1, .class_ 2), (0, u "com/example/gumzo/gumzo/node/Intake"), (2, u "SYNCED"), (0, u "Lcom/example/gumzo/gumzo/node/Intake;"), (2, u "UNSYNCED"), (2, u "SYNCED_UNTIL_REFUSED"), (2, u "UNSYNCED_UNTIL_REFUSED"), (0, .fieldref 1 17), (0, .nameAndType 18 19), (0, u "$VALUES"), (0, u "[Lcom/example/gumzo/gumzo/node/Intake;"), (0, .methodref 21 22), (0, .class_ 19), (0, .nameAndType 23 24), (0, u "clone"), (0, u "()Ljava/lang/Object;"), (1, .class_ 28), (1, u "java/lang/Enum"), (6, .fieldref 1 36), (0, .nameAndType 37 38), (0, u "untilRefused"), (0, u "Z"), (0, .fieldref 1 40), (0, .nameAndType 41 38), (0, u "synced"), (0, .methodref 1 43), (0, .nameAndType 44 45), (0, u "values"), (0, u "()[Lcom/example/gumzo/gumzo/node/Intake;"), (16, u "of"), (0, u "(ZZ)Lcom/example/gumzo/gumzo/node/Intake;"), (1, u "()Z")] 5

def k6c0 : Code := { maxStack := 1, maxLocals := 0, code := prog_16_method_1_code, exceptionTable := #[], attributes := #[] }
def k6m0 : Method := { name := "values", desc := "()[Lcom/example/gumzo/gumzo/node/Intake;", sig := { parameters := [], returnType := some (.array (.object "com/example/gumzo/gumzo/node/Intake")) }, accessFlags := 9, code := some k6c0 }
def k6c1 : Code := { maxStack := 2, maxLocals := 7, code := prog_16_method_4_code, exceptionTable := #[], attributes := #[] }
def k6m1 : Method := { name := "of", desc := "(ZZ)Lcom/example/gumzo/gumzo/node/Intake;", sig := { parameters := [.boolean, .boolean], returnType := some (.object "com/example/gumzo/gumzo/node/Intake") }, accessFlags := 8, code := some k6c1 }
def k6c2 : Code := { maxStack := 1, maxLocals := 1, code := prog_16_method_5_code, exceptionTable := #[], attributes := #[] }
def k6m2 : Method := { name := "untilRefused", desc := "()Z", sig := { parameters := [], returnType := some .boolean }, accessFlags := 0, code := some k6c2 }
def k6c3 : Code := { maxStack := 1, maxLocals := 1, code := prog_16_method_6_code, exceptionTable := #[], attributes := #[] }
def k6m3 : Method := { name := "synced", desc := "()Z", sig := { parameters := [], returnType := some .boolean }, accessFlags := 0, code := some k6c3 }
/-- com/example/gumzo/gumzo/node/Intake -/
def k6 : Class := { plain "com/example/gumzo/gumzo/node/Intake" (some 5) with
  accessFlags := 16432
  interfaces := #[]
  cf := some (fileOf pool6 1 #[] #[{ accessFlags := 9, nameIndex := 44, descriptorIndex := 45, attributes := #[] }, { accessFlags := 8, nameIndex := 62, descriptorIndex := 63, attributes := #[] }, { accessFlags := 0, nameIndex := 37, descriptorIndex := 65, attributes := #[] }, { accessFlags := 0, nameIndex := 41, descriptorIndex := 65, attributes := #[] }] 16432 26 #[] #[{ accessFlags := 16409, nameIndex := 5, descriptorIndex := 6, attributes := #[] }, { accessFlags := 16409, nameIndex := 9, descriptorIndex := 6, attributes := #[] }, { accessFlags := 16409, nameIndex := 12, descriptorIndex := 6, attributes := #[] }, { accessFlags := 16409, nameIndex := 15, descriptorIndex := 6, attributes := #[] }, { accessFlags := 18, nameIndex := 37, descriptorIndex := 38, attributes := #[] }, { accessFlags := 18, nameIndex := 41, descriptorIndex := 38, attributes := #[] }, { accessFlags := 4122, nameIndex := 18, descriptorIndex := 19, attributes := #[] }])
  fields := #[{ name := "SYNCED", type := (.object "com/example/gumzo/gumzo/node/Intake"), accessFlags := 16409, slot := 0, constantValue := 0 }, { name := "UNSYNCED", type := (.object "com/example/gumzo/gumzo/node/Intake"), accessFlags := 16409, slot := 1, constantValue := 0 }, { name := "SYNCED_UNTIL_REFUSED", type := (.object "com/example/gumzo/gumzo/node/Intake"), accessFlags := 16409, slot := 2, constantValue := 0 }, { name := "UNSYNCED_UNTIL_REFUSED", type := (.object "com/example/gumzo/gumzo/node/Intake"), accessFlags := 16409, slot := 3, constantValue := 0 }, { name := "untilRefused", type := .boolean, accessFlags := 18, slot := 3, constantValue := 0 }, { name := "synced", type := .boolean, accessFlags := 18, slot := 4, constantValue := 0 }, { name := "$VALUES", type := (.array (.object "com/example/gumzo/gumzo/node/Intake")), accessFlags := 4122, slot := 4, constantValue := 0 }]
  methods := #[k6m0, k6m1, k6m2, k6m3]
  instanceTypes := #[(.object "java/lang/String"), .int, .int, .boolean, .boolean]
  staticTypes := #[(.object "com/example/gumzo/gumzo/node/Intake"), (.object "com/example/gumzo/gumzo/node/Intake"), (.object "com/example/gumzo/gumzo/node/Intake"), (.object "com/example/gumzo/gumzo/node/Intake"), (.array (.object "com/example/gumzo/gumzo/node/Intake"))]
  resolved := Array.replicate 71 none
  statics := some 0 }

def pool7 : Array CpInfo := pool [(1, .class_ 2), (0, u "java/lang/Cloneable"), (0, .class_ 4), (0, u "java/lang/Object")] 2

/-- java/lang/Cloneable -/
def k7 : Class := { plain "java/lang/Cloneable" (some 0) with
  accessFlags := 1537
  interfaces := #[]
  cf := some (fileOf pool7 1 #[] #[] 1537 3 #[] #[])
  fields := #[]
  methods := #[]
  instanceTypes := #[]
  staticTypes := #[]
  resolved := Array.replicate 7 none
  statics := none }

/-- the primitive byte -/
def k8 : Class := { plain "byte" none with kind := .primitive 'B', accessFlags := 0x411 }
/-- [B -/
def k9 : Class := { plain "[B" (some 0) with kind := .array 8 .byte, interfaces := #[7, 4], accessFlags := 1041 }

/-- the primitive int -/
def k10 : Class := { plain "int" none with kind := .primitive 'I', accessFlags := 0x411 }
/-- [I -/
def k11 : Class := { plain "[I" (some 0) with kind := .array 10 .int, interfaces := #[7, 4], accessFlags := 1041 }

/-- [Lcom/example/gumzo/gumzo/node/Intake; -/
def k12 : Class := { plain "[Lcom/example/gumzo/gumzo/node/Intake;" (some 0) with kind := .array 6 (.object "com/example/gumzo/gumzo/node/Intake"), interfaces := #[7, 4], accessFlags := 1041 }

def heap : Heap := #[{ cls := 6, slots := #[.ref 2, .ref 3, .ref 4, .ref 5, .ref 1], vm := .statics 6 },
  { cls := 12, slots := #[.ref 2, .ref 3, .ref 4, .ref 5], vm := .none },
  { cls := 6, slots := #[.null, .int 0, .int 0, .int 0, .int 1], vm := .none },
  { cls := 6, slots := #[.null, .int 1, .int 0, .int 0, .int 0], vm := .none },
  { cls := 6, slots := #[.null, .int 2, .int 0, .int 1, .int 1], vm := .none },
  { cls := 6, slots := #[.null, .int 3, .int 0, .int 1, .int 0], vm := .none }]
def classes : Array Class := #[k0, k1, k2, k3, k4, k5, k6, k7, k8, k9, k10, k11, k12]
def interned : List (Array UInt16 × Addr) := []
def slotsUsed : Nat := 29
def theMethod : MethodId := ⟨1, 1⟩
def args0 : Array Value := #[.int 1]
def aboutOver (below : List Frame) : State where
  vm := { classes := classes, interned := interned.toArray }
  heap := heap
  slotsUsed := slotsUsed
  threads := #[{ frames := .invoking theMethod args0 :: below }]
def below0 : List Frame := [.native { method := ⟨0, 0⟩, args := #[] }]
def about1 : State := aboutOver below0
def p0 : Program := .bare "" "" ""
def e0 : Env := launch0.env 0 0 0
theorem w_frames : about1.frames = Frame.invoking theMethod args0 :: below0 := rfl
set_option maxRecDepth 65536 in
theorem w_args : argsFit about1.vm theMethod args0 = true := by decide +kernel
set_option maxRecDepth 65536 in
theorem w_heap : heapFits about1 = true := by decide +kernel
set_option maxRecDepth 65536 in
theorem w_runnable : about1.curStatus? = some .runnable := by decide +kernel
set_option maxRecDepth 65536 in
theorem w_alone : about1.alone = true := by decide +kernel
set_option maxRecDepth 65536 in
theorem w_named : about1.methodNamed? x = some theMethod := by decide +kernel
set_option maxRecDepth 65536 in
theorem w_hears : about1.hears theMethod below0 = true := by decide +kernel
set_option maxRecDepth 65536 in
theorem w_ripe : about1.ripe theMethod args0 below0 = true := by decide +kernel
theorem w_running : about1.status = .running := rfl
set_option maxRecDepth 65536 in
theorem w_room : about1.hasRoom e0.platform room_1 = true :=
  launch0.hasRoom_least _ room_1 (by decide +kernel) (by decide +kernel) (by decide +kernel) (by decide +kernel) (by decide +kernel) (by decide +kernel)
theorem allAtoms_all (ts : List Jvm.Cond) (a : Array Jvm.Value) (st : Jvm.State) : (allAtoms ts).before a st = ts.all (fun c => c.before a st) := by
  induction ts with
  | nil => rfl
  | cons c t ih =>
    show (Jvm.Cond.and c (allAtoms t)).before a st = _
    rw [Jvm.Cond.before_and, ih, List.all_cons]
def words1 : List Jvm.Cond := Jvm.Cond.code x code maxLocals ret :: tables_1
/-- a 'code' word, met by the world's own term for the bytes: nothing is compared byte by byte -/
theorem code_word {y : MethodName} {bytes : ByteArray} {mx : Nat} {rt : Option FieldType} {a : Array Value} {s : State} {m : MethodId} {meth : Method} {c : Code} (h1 : s.methodNamed? y = some m) (h2 : s.vm.method? m = some meth) (h3 : meth.code = some c) (h4 : c.code = bytes)
    (h5 : (c.maxLocals == mx && c.exceptionTable.isEmpty && decide (c.maxStack ≤ mostOperands) && decide (meth.sig.returnType = rt) && !meth.locks && decide (parseMethodDescriptor y.desc = some meth.sig)) = true) : (Jvm.Cond.code y bytes mx rt).before a s = true := by
  simp only [Bool.and_eq_true, beq_iff_eq, Bool.not_eq_true', decide_eq_true_eq] at h5
  obtain ⟨⟨⟨⟨⟨g1, g2⟩, g3⟩, g4⟩, g5⟩, g6⟩ := h5
  simp [Cond.before, Cond.holds, Cond.value, h1, h2, h3, h4, g1, g2, g3, g4, g5, g6]
def isCode : Jvm.Cond → Bool
  | .code _ _ _ _ => true
  | _ => false
theorem all_split {L : List Jvm.Cond} {P : Jvm.Cond → Bool} (h1 : L.all (fun c => isCode c || P c) = true) (h2 : ∀ c ∈ L.filter isCode, P c = true) : L.all P = true := by
  refine List.all_eq_true.mpr fun c hc => ?_
  have h := List.all_eq_true.mp h1 c hc
  rcases Bool.eq_false_or_eq_true (isCode c) with hi | hi
  · exact h2 c (List.mem_filter.mpr ⟨hc, hi⟩)
  · simpa [hi] using h
set_option maxRecDepth 65536 in
theorem w_c0 : (Jvm.Cond.code x code maxLocals ret).before args0 about1 = true := code_word (m := ⟨1, 1⟩) (meth := k1m1) (c := k1c1) (by decide +kernel) rfl rfl rfl (by decide +kernel)
set_option maxRecDepth 65536 in
theorem w_c1 : (Jvm.Cond.code ({ cls := "com/example/gumzo/gumzo/node/Intake", name := "of", desc := "(ZZ)Lcom/example/gumzo/gumzo/node/Intake;" } : Jvm.MethodName) prog_16_method_4_code (7 : Nat) (Option.some (Jvm.ClassFile.FieldType.object "com/example/gumzo/gumzo/node/Intake"))).before args0 about1 = true := code_word (m := ⟨6, 1⟩) (meth := k6m1) (c := k6c1) (by decide +kernel) rfl rfl rfl (by decide +kernel)
set_option maxRecDepth 65536 in
theorem w_c2 : (Jvm.Cond.code ({ cls := "com/example/gumzo/gumzo/node/Intake", name := "values", desc := "()[Lcom/example/gumzo/gumzo/node/Intake;" } : Jvm.MethodName) prog_16_method_1_code (0 : Nat) (Option.some (Jvm.ClassFile.FieldType.array (Jvm.ClassFile.FieldType.object "com/example/gumzo/gumzo/node/Intake")))).before args0 about1 = true := code_word (m := ⟨6, 0⟩) (meth := k6m0) (c := k6c0) (by decide +kernel) rfl rfl rfl (by decide +kernel)
set_option maxRecDepth 65536 in
theorem w_c3 : (Jvm.Cond.code ({ cls := "com/example/gumzo/gumzo/node/Intake", name := "untilRefused", desc := "()Z" } : Jvm.MethodName) prog_16_method_5_code (1 : Nat) (Option.some Jvm.ClassFile.FieldType.boolean)).before args0 about1 = true := code_word (m := ⟨6, 2⟩) (meth := k6m2) (c := k6c2) (by decide +kernel) rfl rfl rfl (by decide +kernel)
set_option maxRecDepth 65536 in
theorem w_c4 : (Jvm.Cond.code ({ cls := "com/example/gumzo/gumzo/node/Intake", name := "synced", desc := "()Z" } : Jvm.MethodName) prog_16_method_6_code (1 : Nat) (Option.some Jvm.ClassFile.FieldType.boolean)).before args0 about1 = true := code_word (m := ⟨6, 3⟩) (meth := k6m3) (c := k6c3) (by decide +kernel) rfl rfl rfl (by decide +kernel)
def codes1 : List Jvm.Cond := [Jvm.Cond.code x code maxLocals ret, Jvm.Cond.code ({ cls := "com/example/gumzo/gumzo/node/Intake", name := "of", desc := "(ZZ)Lcom/example/gumzo/gumzo/node/Intake;" } : Jvm.MethodName) prog_16_method_4_code (7 : Nat) (Option.some (Jvm.ClassFile.FieldType.object "com/example/gumzo/gumzo/node/Intake")), Jvm.Cond.code ({ cls := "com/example/gumzo/gumzo/node/Intake", name := "values", desc := "()[Lcom/example/gumzo/gumzo/node/Intake;" } : Jvm.MethodName) prog_16_method_1_code (0 : Nat) (Option.some (Jvm.ClassFile.FieldType.array (Jvm.ClassFile.FieldType.object "com/example/gumzo/gumzo/node/Intake"))), Jvm.Cond.code ({ cls := "com/example/gumzo/gumzo/node/Intake", name := "untilRefused", desc := "()Z" } : Jvm.MethodName) prog_16_method_5_code (1 : Nat) (Option.some Jvm.ClassFile.FieldType.boolean), Jvm.Cond.code ({ cls := "com/example/gumzo/gumzo/node/Intake", name := "synced", desc := "()Z" } : Jvm.MethodName) prog_16_method_6_code (1 : Nat) (Option.some Jvm.ClassFile.FieldType.boolean)]
set_option maxRecDepth 65536 in
theorem codes_eq : words1.filter isCode = codes1 := rfl
theorem w_codes : ∀ c ∈ words1.filter isCode, c.before args0 about1 = true := by
  rw [codes_eq]
  intro c hc
  simp only [codes1, List.mem_cons, List.not_mem_nil, or_false] at hc
  rcases hc with rfl | rfl | rfl | rfl | rfl
  · exact w_c0
  · exact w_c1
  · exact w_c2
  · exact w_c3
  · exact w_c4
set_option maxRecDepth 65536 in
theorem w_t1 : (words1.take 24).all (fun c => isCode c || c.before args0 about1) = true := by decide +kernel
set_option maxRecDepth 65536 in
theorem w_t2 : (words1.drop 24).all (fun c => isCode c || c.before args0 about1) = true := by decide +kernel
theorem w_tables : (allAtoms (Jvm.Cond.code x code maxLocals ret :: tables_1)).before args0 about1 = true := by
  rw [allAtoms_all]
  show words1.all (fun c => c.before args0 about1) = true
  refine all_split ?_ w_codes
  rw [← List.take_append_drop 24 words1, List.all_append, w_t1, w_t2]
  rfl
set_option maxRecDepth 65536 in
theorem w_case : (Jvm.Cond.and given_1 narrow_1).before args0 about1 = true := by decide +kernel
theorem w_applies : (headSpec (Jvm.Cond.code x code maxLocals ret :: tables_1) room_1).applies x e0.platform about1 = true :=
  (Spec.applies_iff w_frames).mpr ⟨w_running, w_runnable, w_alone, w_named, w_hears, w_ripe, w_room, w_tables⟩
theorem atStart : AtStart classFile x code maxLocals ret World_1 tables_1 room_1 Calls_1 rest_1 Pre_1 launch0 p0 e0 about1 theMethod args0 below0 :=
  ⟨lists_1, trivial, launch0.admits_env _ _ _, launch0.least_env, fairChoices_fair.cas, fairChoices_fair.clock, w_frames, w_args, w_heap, w_applies, trivial, trivial, w_case⟩
end start1
theorem witness_1 : WitnessClaimed_1 := ⟨start1.p0, start1.e0, start1.about1, start1.theMethod, start1.args0, start1.below0, start1.atStart⟩
end Jvm.Pilot.@@N@@
