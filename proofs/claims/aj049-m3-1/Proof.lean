import JvmDerived
import JvmDerived.Pilot.@@N@@Statement
import JvmDerived.Pilot.@@N@@Code
set_option linter.unusedVariables false
set_option linter.unusedSimpArgs false
namespace Jvm.RoadKit
open Sem ClassFile Op Lib Jvm.Stand Jvm.Free Jvm.LawKit
section New
variable {p : Program} {l : Launch} {e : Env} {R : Room} {s : State} {m : MethodId} {args : Array Value} {below : List Frame} {meth : Method} {c : Code} {T : State} {locs : List Loc} {cells slots : Nat}
theorem retI (X : Stand p l e R s m args below meth c T locs cells slots) (hx : p.tables.exec = Jvm.exec) {pc : Nat} {Ls : Array Slot} {z : Int32} {rest : List Value} (hret : meth.sig.returnType = some .int) (hd : decode c.code pc = .ok (.ireturn, 1)) {fs : List Frame}
    (hl : ∀ (f : JFrame) (acts : List Action), f.method = m → f.locked = none → f.entered = [] → (doReturn e (T.setTop f) acts (some (.int z))).1 = T.setFrames fs) : Steps p.tables e below (T.setTop (mkF m pc Ls (.int z :: rest))) (T.setFrames fs) := by
  have hm' : T.vm.method? m = some meth := X.method'
  have hn : narrow .int (.int z) = .int z := rfl
  show Steps p.tables e below (T.setTop { method := m, pc := pc, locals := Ls, stack := _ :: rest, locked := none }) _
  jvm_step X.here [X.here.top, hx, hd, hm', hret, hn]
  first | (intro acts; rw [hl _ acts rfl rfl rfl]) | rw [hl _ _ rfl rfl rfl]
  exact Steps.refl _
end New
end Jvm.RoadKit
namespace Jvm.Pilot.@@N@@
open Jvm Jvm.ClassFile Sem Op Lib Jvm.Free Jvm.Stand Jvm.LawKit Jvm.RoadKit Bundle Jvm.Pilot.@@N@@.Jvm.D
theorem own_same {h0 h : Heap} {ws : List Addr} (q : h = h0) : Keep h0 h ws := q ▸ Keep.refl _ _
theorem own_ext {h0 h : Heap} (K : Keep h0 h []) : Ext h0 h := ⟨K.1, fun a c q => K.2.1 a c q (by simp)⟩
theorem own_eqi {args : Array Value} {s : State} {t : Term} {k : Int32} (h : (Jvm.Cond.eq t (Term.int k)).value args s none s [] = some true) : t.eval args s none [] s = some (.int k) := by
  obtain ⟨x, y, hx, hy, k1, k2⟩ := cmp_v (Or.inl h)
  cases (Term.int_eval k).symm.trans hy
  obtain ⟨z, rfl⟩ := k2
  simp [Jvm.Cond.value, hx, Term.int_eval] at h
  rw [hx, h]
theorem own_fint {args : Array Value} {s : State} {t : Term} {a : Addr} {C n d : String} {k : Int32} (ht : t.eval args s none [] s = some (.ref a)) (h : (Jvm.Cond.eq (Term.field t C n d) (Term.int k)).value args s none s [] = some true) : Fld s s.heap a C n d (.int k) := by
  have q := own_eqi h
  rw [fld_at ht] at q
  exact Fld.start q
theorem own_ne {Z : State} {h : Heap} {a b : Addr} {C n d : String} {v w : Value} (F : Fld Z h a C n d v) (G : Fld Z h b C n d w) (hn : v ≠ w) : ¬ (a = b) := fun e => by
  subst e
  obtain ⟨c, cf, k, i, f, h1, h2, -, -, -, -, h7⟩ := F
  obtain ⟨c', cf', k', i', f', g1, g2, -, -, -, -, g7⟩ := G
  cases h1.symm.trans g1
  cases h2.symm.trans g2
  exact hn (Option.some.inj (h7.symm.trans g7))
theorem d1_0 : decode method_2_code 0 = .ok (.iload_n 0, 1) := by decide +kernel
theorem d1_1 : decode method_2_code 1 = .ok (.ifCond .ne 7, 3) := by decide +kernel
theorem d1_4 : decode method_2_code 4 = .ok (.getstatic 7, 3) := by decide +kernel
theorem d1_7 : decode method_2_code 7 = .ok (.areturn, 1) := by decide +kernel
theorem pn_1 : plainName "fourfold/model/UserTypeAdministersPinLaw" = true := by first | (simp [plainName, overriddenIn]; done) | decide +kernel
theorem ef_1 (m : MethodId) (x0 : Int32) : entryFrame m #[(.int x0)] 1 = mkF m 0 #[.val (.int x0)] [] := by first | (simp [entryFrame, mkF, argsToLocals, Value.category]; done) | rfl
def Q1V (Z : State) (p1 : Int32) (w2 : Addr) (h0 : Heap) (n0 : Nat) (v : Option Value) (h : Heap) (L : List Loc) : Prop := v = some (.ref w2) ∧ Fr n0 L ∧ h = h0
set_option maxRecDepth 65536 in
set_option maxHeartbeats 40000000 in
theorem rm1V (l : Launch) (Z : State) (a0 : Array Value) (hw : ∀ d ∈ tables_1, d.before a0 Z = true) (ws : List Jvm.Cond) (p1 : Int32) (w2 : Addr) (h0 : Heap) (n0 : Nat) (Z0 : n0 ≤ h0.size) (S_VIEWER : Sta Z h0 "fourfold/model/UserType" "VIEWER" "Lfourfold/model/UserType;" (.ref w2)) (hc1 : p1 = (0 : Int32)) :
    MetFree l (⟨"fourfold/model/UserTypeAdministersPinLaw", "pick", "(I)Lfourfold/model/UserType;"⟩ : MethodName) (head1 (Jvm.Cond.code (⟨"fourfold/model/UserTypeAdministersPinLaw", "pick", "(I)Lfourfold/model/UserType;"⟩ : MethodName) method_2_code 1 (some (.object "fourfold/model/UserType")) :: ws) ({ frames := 0, cells := 0, slots := 0, locals := 0 } : Room)) (fun a U => a = #[(.int p1)] ∧ Z.Warmed39 U.vm ∧ U.heap = h0) (fun _ _ _ _ _ => True) (fun _ U o U' => ∃ v L, o = .returned v ∧ Q1V Z p1 w2 h0 n0 v U'.heap L ∧ FrameEnd U o U' L ({ frames := 0, cells := 0, slots := 0, locals := 0 } : Room).cells ({ frames := 0, cells := 0, slots := 0, locals := 0 } : Room).slots) := by
  refine MetFree.of_bodySF (plainFor_of_name pn_1) hisR ?_
  intro p e s m args below meth c s₁ Bd hml0 hP hK
  obtain ⟨rfl, hZ, hh⟩ := hP
  have hx := Bd.exec
  have hby := Bd.bytes
  have hml : c.maxLocals = 1 := hml0
  have hown : s.vm.findClass "fourfold/model/UserTypeAdministersPinLaw" = some m.cls := findClass_of_methodNamed Bd.named
  have hnm := (name_of_methodNamed Bd.named Bd.method).1
  have X0 : Stand p l e ({ frames := 0, cells := 0, slots := 0, locals := 0 } : Room) s m #[(.int p1)] below meth c s₁ [] 0 0 := Stand.of_body Bd
  have e0 : s₁.heap = h0 := by rw [← hh, Bd.state]; rfl
  have N0 := Fr.nil n0
  have pre0 : ∀ t, Steps p.tables e below (s₁.setTop (mkF m 0 #[.val (.int p1)] [])) t → Steps p.tables e below (s₁.setTop (entryFrame m #[(.int p1)] 1)) t := fun t k => castTop (ef_1 m p1) k
  -- 3. LAWS
  obtain ⟨T3, X3, e3, st3⟩ := getS2 X0 hx hZ hown (host := "") (Or.inl (hw _ (List.mem_of_getElem? (i := 4) rfl))) Via.refl e0 S_VIEWER (g := (mkF m 4 #[.val (.int p1)] [])) rfl (hb hby d1_4)
  obtain ⟨fs, hr, hrun, hended, hW, hsame⟩ := X3.leave (v := some (.ref w2)) (fun h => by rw [Bd.returns] at h; cases h)
  refine ⟨_, _, pre0 _ ?_, hrun, hended, _, _, rfl, ?_, ⟨_, rfl⟩, hW, hsame.mono (by decide) (by decide)⟩
  -- 4. STEPS
  · show Steps p.tables e below (s₁.setTop (mkF m 0 #[.val (.int p1)] [])) _
    refine XS.iloadN X0.here hx rfl (hb hby d1_0) rfl ?_
    show Steps p.tables e below (s₁.setTop (mkF m 1 #[.val (.int p1)] [(.int p1)])) _
    refine XS.ifNo X0.here hx rfl (hb hby d1_1) rfl ((if0 _ _).trans (teq hc1).2) ?_
    show Steps p.tables e below (s₁.setTop (mkF m 4 #[.val (.int p1)] [])) _
    refine st3 _ ?_
    show Steps p.tables e below (T3.setTop (mkF m 7 #[.val (.int p1)] [(.ref w2)])) _
    jvm_step X3.here [X3.here.top, hx, (hb hby d1_7), X3.method', Bd.returns, Value.isRef, FieldType.isReference]
    first | (intro acts; rw [hr _ acts rfl rfl rfl]) | rw [hr _ _ rfl rfl rfl]
    exact Steps.refl _
  · show Q1V Z p1 w2 h0 n0 _ T3.heap _
    rw [e3]
    exact ⟨rfl, N0, rfl⟩
theorem d1_8 : decode method_2_code 8 = .ok (.iload_n 0, 1) := by decide +kernel
theorem d1_9 : decode method_2_code 9 = .ok (.iconst 1, 1) := by decide +kernel
theorem d1_10 : decode method_2_code 10 = .ok (.if_icmp .ne 7, 3) := by decide +kernel
theorem d1_13 : decode method_2_code 13 = .ok (.getstatic 13, 3) := by decide +kernel
theorem d1_16 : decode method_2_code 16 = .ok (.areturn, 1) := by decide +kernel
def Q1E (Z : State) (p1 : Int32) (w2 : Addr) (h0 : Heap) (n0 : Nat) (v : Option Value) (h : Heap) (L : List Loc) : Prop := v = some (.ref w2) ∧ Fr n0 L ∧ h = h0
set_option maxRecDepth 65536 in
set_option maxHeartbeats 40000000 in
theorem rm1E (l : Launch) (Z : State) (a0 : Array Value) (hw : ∀ d ∈ tables_1, d.before a0 Z = true) (ws : List Jvm.Cond) (p1 : Int32) (w2 : Addr) (h0 : Heap) (n0 : Nat) (Z0 : n0 ≤ h0.size) (S_EDITOR : Sta Z h0 "fourfold/model/UserType" "EDITOR" "Lfourfold/model/UserType;" (.ref w2)) (hc1 : ¬ (p1 = (0 : Int32))) (hc10 : p1 = (1 : Int32)) :
    MetFree l (⟨"fourfold/model/UserTypeAdministersPinLaw", "pick", "(I)Lfourfold/model/UserType;"⟩ : MethodName) (head1 (Jvm.Cond.code (⟨"fourfold/model/UserTypeAdministersPinLaw", "pick", "(I)Lfourfold/model/UserType;"⟩ : MethodName) method_2_code 1 (some (.object "fourfold/model/UserType")) :: ws) ({ frames := 0, cells := 0, slots := 0, locals := 0 } : Room)) (fun a U => a = #[(.int p1)] ∧ Z.Warmed39 U.vm ∧ U.heap = h0) (fun _ _ _ _ _ => True) (fun _ U o U' => ∃ v L, o = .returned v ∧ Q1E Z p1 w2 h0 n0 v U'.heap L ∧ FrameEnd U o U' L ({ frames := 0, cells := 0, slots := 0, locals := 0 } : Room).cells ({ frames := 0, cells := 0, slots := 0, locals := 0 } : Room).slots) := by
  refine MetFree.of_bodySF (plainFor_of_name pn_1) hisR ?_
  intro p e s m args below meth c s₁ Bd hml0 hP hK
  obtain ⟨rfl, hZ, hh⟩ := hP
  have hx := Bd.exec
  have hby := Bd.bytes
  have hml : c.maxLocals = 1 := hml0
  have hown : s.vm.findClass "fourfold/model/UserTypeAdministersPinLaw" = some m.cls := findClass_of_methodNamed Bd.named
  have hnm := (name_of_methodNamed Bd.named Bd.method).1
  have X0 : Stand p l e ({ frames := 0, cells := 0, slots := 0, locals := 0 } : Room) s m #[(.int p1)] below meth c s₁ [] 0 0 := Stand.of_body Bd
  have e0 : s₁.heap = h0 := by rw [← hh, Bd.state]; rfl
  have N0 := Fr.nil n0
  have pre0 : ∀ t, Steps p.tables e below (s₁.setTop (mkF m 0 #[.val (.int p1)] [])) t → Steps p.tables e below (s₁.setTop (entryFrame m #[(.int p1)] 1)) t := fun t k => castTop (ef_1 m p1) k
  -- 3. LAWS
  obtain ⟨T3, X3, e3, st3⟩ := getS2 X0 hx hZ hown (host := "") (Or.inl (hw _ (List.mem_of_getElem? (i := 18) rfl))) Via.refl e0 S_EDITOR (g := (mkF m 13 #[.val (.int p1)] [])) rfl (hb hby d1_13)
  obtain ⟨fs, hr, hrun, hended, hW, hsame⟩ := X3.leave (v := some (.ref w2)) (fun h => by rw [Bd.returns] at h; cases h)
  refine ⟨_, _, pre0 _ ?_, hrun, hended, _, _, rfl, ?_, ⟨_, rfl⟩, hW, hsame.mono (by decide) (by decide)⟩
  -- 4. STEPS
  · show Steps p.tables e below (s₁.setTop (mkF m 0 #[.val (.int p1)] [])) _
    refine XS.iloadN X0.here hx rfl (hb hby d1_0) rfl ?_
    show Steps p.tables e below (s₁.setTop (mkF m 1 #[.val (.int p1)] [(.int p1)])) _
    refine XS.ifYes X0.here hx rfl (pc0 := 1) (pc' := 8) rfl (hb hby d1_1) rfl ((if0 _ _).trans (feq hc1).2) (by decide) (by decide) ?_
    show Steps p.tables e below (s₁.setTop (mkF m 8 #[.val (.int p1)] [])) _
    refine XS.iloadN X0.here hx rfl (hb hby d1_8) rfl ?_
    show Steps p.tables e below (s₁.setTop (mkF m 9 #[.val (.int p1)] [(.int p1)])) _
    refine XS.iconst X0.here hx rfl (hb hby d1_9) ?_
    show Steps p.tables e below (s₁.setTop (mkF m 10 #[.val (.int p1)] [(.int (1 : Int32)), (.int p1)])) _
    refine XS.icmpNo X0.here hx rfl (hb hby d1_10) rfl (teq hc10).2 ?_
    show Steps p.tables e below (s₁.setTop (mkF m 13 #[.val (.int p1)] [])) _
    refine st3 _ ?_
    show Steps p.tables e below (T3.setTop (mkF m 16 #[.val (.int p1)] [(.ref w2)])) _
    jvm_step X3.here [X3.here.top, hx, (hb hby d1_16), X3.method', Bd.returns, Value.isRef, FieldType.isReference]
    first | (intro acts; rw [hr _ acts rfl rfl rfl]) | rw [hr _ _ rfl rfl rfl]
    exact Steps.refl _
  · show Q1E Z p1 w2 h0 n0 _ T3.heap _
    rw [e3]
    exact ⟨rfl, N0, rfl⟩
theorem d1_17 : decode method_2_code 17 = .ok (.iload_n 0, 1) := by decide +kernel
theorem d1_18 : decode method_2_code 18 = .ok (.iconst 2, 1) := by decide +kernel
theorem d1_19 : decode method_2_code 19 = .ok (.if_icmp .ne 7, 3) := by decide +kernel
theorem d1_22 : decode method_2_code 22 = .ok (.getstatic 16, 3) := by decide +kernel
theorem d1_25 : decode method_2_code 25 = .ok (.areturn, 1) := by decide +kernel
def Q1A (Z : State) (p1 : Int32) (w2 : Addr) (h0 : Heap) (n0 : Nat) (v : Option Value) (h : Heap) (L : List Loc) : Prop := v = some (.ref w2) ∧ Fr n0 L ∧ h = h0
set_option maxRecDepth 65536 in
set_option maxHeartbeats 40000000 in
theorem rm1A (l : Launch) (Z : State) (a0 : Array Value) (hw : ∀ d ∈ tables_1, d.before a0 Z = true) (ws : List Jvm.Cond) (p1 : Int32) (w2 : Addr) (h0 : Heap) (n0 : Nat) (Z0 : n0 ≤ h0.size) (S_ADMINISTRATOR : Sta Z h0 "fourfold/model/UserType" "ADMINISTRATOR" "Lfourfold/model/UserType;" (.ref w2)) (hc1 : ¬ (p1 = (0 : Int32))) (hc10 : ¬ (p1 = (1 : Int32))) (hc19 : p1 = (2 : Int32)) :
    MetFree l (⟨"fourfold/model/UserTypeAdministersPinLaw", "pick", "(I)Lfourfold/model/UserType;"⟩ : MethodName) (head1 (Jvm.Cond.code (⟨"fourfold/model/UserTypeAdministersPinLaw", "pick", "(I)Lfourfold/model/UserType;"⟩ : MethodName) method_2_code 1 (some (.object "fourfold/model/UserType")) :: ws) ({ frames := 0, cells := 0, slots := 0, locals := 0 } : Room)) (fun a U => a = #[(.int p1)] ∧ Z.Warmed39 U.vm ∧ U.heap = h0) (fun _ _ _ _ _ => True) (fun _ U o U' => ∃ v L, o = .returned v ∧ Q1A Z p1 w2 h0 n0 v U'.heap L ∧ FrameEnd U o U' L ({ frames := 0, cells := 0, slots := 0, locals := 0 } : Room).cells ({ frames := 0, cells := 0, slots := 0, locals := 0 } : Room).slots) := by
  refine MetFree.of_bodySF (plainFor_of_name pn_1) hisR ?_
  intro p e s m args below meth c s₁ Bd hml0 hP hK
  obtain ⟨rfl, hZ, hh⟩ := hP
  have hx := Bd.exec
  have hby := Bd.bytes
  have hml : c.maxLocals = 1 := hml0
  have hown : s.vm.findClass "fourfold/model/UserTypeAdministersPinLaw" = some m.cls := findClass_of_methodNamed Bd.named
  have hnm := (name_of_methodNamed Bd.named Bd.method).1
  have X0 : Stand p l e ({ frames := 0, cells := 0, slots := 0, locals := 0 } : Room) s m #[(.int p1)] below meth c s₁ [] 0 0 := Stand.of_body Bd
  have e0 : s₁.heap = h0 := by rw [← hh, Bd.state]; rfl
  have N0 := Fr.nil n0
  have pre0 : ∀ t, Steps p.tables e below (s₁.setTop (mkF m 0 #[.val (.int p1)] [])) t → Steps p.tables e below (s₁.setTop (entryFrame m #[(.int p1)] 1)) t := fun t k => castTop (ef_1 m p1) k
  -- 3. LAWS
  obtain ⟨T3, X3, e3, st3⟩ := getS2 X0 hx hZ hown (host := "") (Or.inl (hw _ (List.mem_of_getElem? (i := 17) rfl))) Via.refl e0 S_ADMINISTRATOR (g := (mkF m 22 #[.val (.int p1)] [])) rfl (hb hby d1_22)
  obtain ⟨fs, hr, hrun, hended, hW, hsame⟩ := X3.leave (v := some (.ref w2)) (fun h => by rw [Bd.returns] at h; cases h)
  refine ⟨_, _, pre0 _ ?_, hrun, hended, _, _, rfl, ?_, ⟨_, rfl⟩, hW, hsame.mono (by decide) (by decide)⟩
  -- 4. STEPS
  · show Steps p.tables e below (s₁.setTop (mkF m 0 #[.val (.int p1)] [])) _
    refine XS.iloadN X0.here hx rfl (hb hby d1_0) rfl ?_
    show Steps p.tables e below (s₁.setTop (mkF m 1 #[.val (.int p1)] [(.int p1)])) _
    refine XS.ifYes X0.here hx rfl (pc0 := 1) (pc' := 8) rfl (hb hby d1_1) rfl ((if0 _ _).trans (feq hc1).2) (by decide) (by decide) ?_
    show Steps p.tables e below (s₁.setTop (mkF m 8 #[.val (.int p1)] [])) _
    refine XS.iloadN X0.here hx rfl (hb hby d1_8) rfl ?_
    show Steps p.tables e below (s₁.setTop (mkF m 9 #[.val (.int p1)] [(.int p1)])) _
    refine XS.iconst X0.here hx rfl (hb hby d1_9) ?_
    show Steps p.tables e below (s₁.setTop (mkF m 10 #[.val (.int p1)] [(.int (1 : Int32)), (.int p1)])) _
    refine XS.icmpYes X0.here hx rfl (pc0 := 10) (pc' := 17) rfl (hb hby d1_10) rfl (feq hc10).2 (by decide) (by decide) ?_
    show Steps p.tables e below (s₁.setTop (mkF m 17 #[.val (.int p1)] [])) _
    refine XS.iloadN X0.here hx rfl (hb hby d1_17) rfl ?_
    show Steps p.tables e below (s₁.setTop (mkF m 18 #[.val (.int p1)] [(.int p1)])) _
    refine XS.iconst X0.here hx rfl (hb hby d1_18) ?_
    show Steps p.tables e below (s₁.setTop (mkF m 19 #[.val (.int p1)] [(.int (2 : Int32)), (.int p1)])) _
    refine XS.icmpNo X0.here hx rfl (hb hby d1_19) rfl (teq hc19).2 ?_
    show Steps p.tables e below (s₁.setTop (mkF m 22 #[.val (.int p1)] [])) _
    refine st3 _ ?_
    show Steps p.tables e below (T3.setTop (mkF m 25 #[.val (.int p1)] [(.ref w2)])) _
    jvm_step X3.here [X3.here.top, hx, (hb hby d1_25), X3.method', Bd.returns, Value.isRef, FieldType.isReference]
    first | (intro acts; rw [hr _ acts rfl rfl rfl]) | rw [hr _ _ rfl rfl rfl]
    exact Steps.refl _
  · show Q1A Z p1 w2 h0 n0 _ T3.heap _
    rw [e3]
    exact ⟨rfl, N0, rfl⟩
theorem d1_26 : decode method_2_code 26 = .ok (.getstatic 19, 3) := by decide +kernel
theorem d1_29 : decode method_2_code 29 = .ok (.areturn, 1) := by decide +kernel
def Q1O (Z : State) (p1 : Int32) (w2 : Addr) (h0 : Heap) (n0 : Nat) (v : Option Value) (h : Heap) (L : List Loc) : Prop := v = some (.ref w2) ∧ Fr n0 L ∧ h = h0
set_option maxRecDepth 65536 in
set_option maxHeartbeats 40000000 in
theorem rm1O (l : Launch) (Z : State) (a0 : Array Value) (hw : ∀ d ∈ tables_1, d.before a0 Z = true) (ws : List Jvm.Cond) (p1 : Int32) (w2 : Addr) (h0 : Heap) (n0 : Nat) (Z0 : n0 ≤ h0.size) (S_OWNER : Sta Z h0 "fourfold/model/UserType" "OWNER" "Lfourfold/model/UserType;" (.ref w2)) (hc1 : ¬ (p1 = (0 : Int32))) (hc10 : ¬ (p1 = (1 : Int32))) (hc19 : ¬ (p1 = (2 : Int32))) :
    MetFree l (⟨"fourfold/model/UserTypeAdministersPinLaw", "pick", "(I)Lfourfold/model/UserType;"⟩ : MethodName) (head1 (Jvm.Cond.code (⟨"fourfold/model/UserTypeAdministersPinLaw", "pick", "(I)Lfourfold/model/UserType;"⟩ : MethodName) method_2_code 1 (some (.object "fourfold/model/UserType")) :: ws) ({ frames := 0, cells := 0, slots := 0, locals := 0 } : Room)) (fun a U => a = #[(.int p1)] ∧ Z.Warmed39 U.vm ∧ U.heap = h0) (fun _ _ _ _ _ => True) (fun _ U o U' => ∃ v L, o = .returned v ∧ Q1O Z p1 w2 h0 n0 v U'.heap L ∧ FrameEnd U o U' L ({ frames := 0, cells := 0, slots := 0, locals := 0 } : Room).cells ({ frames := 0, cells := 0, slots := 0, locals := 0 } : Room).slots) := by
  refine MetFree.of_bodySF (plainFor_of_name pn_1) hisR ?_
  intro p e s m args below meth c s₁ Bd hml0 hP hK
  obtain ⟨rfl, hZ, hh⟩ := hP
  have hx := Bd.exec
  have hby := Bd.bytes
  have hml : c.maxLocals = 1 := hml0
  have hown : s.vm.findClass "fourfold/model/UserTypeAdministersPinLaw" = some m.cls := findClass_of_methodNamed Bd.named
  have hnm := (name_of_methodNamed Bd.named Bd.method).1
  have X0 : Stand p l e ({ frames := 0, cells := 0, slots := 0, locals := 0 } : Room) s m #[(.int p1)] below meth c s₁ [] 0 0 := Stand.of_body Bd
  have e0 : s₁.heap = h0 := by rw [← hh, Bd.state]; rfl
  have N0 := Fr.nil n0
  have pre0 : ∀ t, Steps p.tables e below (s₁.setTop (mkF m 0 #[.val (.int p1)] [])) t → Steps p.tables e below (s₁.setTop (entryFrame m #[(.int p1)] 1)) t := fun t k => castTop (ef_1 m p1) k
  -- 3. LAWS
  obtain ⟨T3, X3, e3, st3⟩ := getS2 X0 hx hZ hown (host := "") (Or.inl (hw _ (List.mem_of_getElem? (i := 16) rfl))) Via.refl e0 S_OWNER (g := (mkF m 26 #[.val (.int p1)] [])) rfl (hb hby d1_26)
  obtain ⟨fs, hr, hrun, hended, hW, hsame⟩ := X3.leave (v := some (.ref w2)) (fun h => by rw [Bd.returns] at h; cases h)
  refine ⟨_, _, pre0 _ ?_, hrun, hended, _, _, rfl, ?_, ⟨_, rfl⟩, hW, hsame.mono (by decide) (by decide)⟩
  -- 4. STEPS
  · show Steps p.tables e below (s₁.setTop (mkF m 0 #[.val (.int p1)] [])) _
    refine XS.iloadN X0.here hx rfl (hb hby d1_0) rfl ?_
    show Steps p.tables e below (s₁.setTop (mkF m 1 #[.val (.int p1)] [(.int p1)])) _
    refine XS.ifYes X0.here hx rfl (pc0 := 1) (pc' := 8) rfl (hb hby d1_1) rfl ((if0 _ _).trans (feq hc1).2) (by decide) (by decide) ?_
    show Steps p.tables e below (s₁.setTop (mkF m 8 #[.val (.int p1)] [])) _
    refine XS.iloadN X0.here hx rfl (hb hby d1_8) rfl ?_
    show Steps p.tables e below (s₁.setTop (mkF m 9 #[.val (.int p1)] [(.int p1)])) _
    refine XS.iconst X0.here hx rfl (hb hby d1_9) ?_
    show Steps p.tables e below (s₁.setTop (mkF m 10 #[.val (.int p1)] [(.int (1 : Int32)), (.int p1)])) _
    refine XS.icmpYes X0.here hx rfl (pc0 := 10) (pc' := 17) rfl (hb hby d1_10) rfl (feq hc10).2 (by decide) (by decide) ?_
    show Steps p.tables e below (s₁.setTop (mkF m 17 #[.val (.int p1)] [])) _
    refine XS.iloadN X0.here hx rfl (hb hby d1_17) rfl ?_
    show Steps p.tables e below (s₁.setTop (mkF m 18 #[.val (.int p1)] [(.int p1)])) _
    refine XS.iconst X0.here hx rfl (hb hby d1_18) ?_
    show Steps p.tables e below (s₁.setTop (mkF m 19 #[.val (.int p1)] [(.int (2 : Int32)), (.int p1)])) _
    refine XS.icmpYes X0.here hx rfl (pc0 := 19) (pc' := 26) rfl (hb hby d1_19) rfl (feq hc19).2 (by decide) (by decide) ?_
    show Steps p.tables e below (s₁.setTop (mkF m 26 #[.val (.int p1)] [])) _
    refine st3 _ ?_
    show Steps p.tables e below (T3.setTop (mkF m 29 #[.val (.int p1)] [(.ref w2)])) _
    jvm_step X3.here [X3.here.top, hx, (hb hby d1_29), X3.method', Bd.returns, Value.isRef, FieldType.isReference]
    first | (intro acts; rw [hr _ acts rfl rfl rfl]) | rw [hr _ _ rfl rfl rfl]
    exact Steps.refl _
  · show Q1O Z p1 w2 h0 n0 _ T3.heap _
    rw [e3]
    exact ⟨rfl, N0, rfl⟩
theorem d2_0 : decode prog_34_method_6_code 0 = .ok (.aload_n 0, 1) := by decide +kernel
theorem d2_1 : decode prog_34_method_6_code 1 = .ok (.getstatic 10, 3) := by decide +kernel
theorem d2_4 : decode prog_34_method_6_code 4 = .ok (.if_acmp .eq 10, 3) := by decide +kernel
theorem d2_14 : decode prog_34_method_6_code 14 = .ok (.iconst 1, 1) := by decide +kernel
theorem d2_15 : decode prog_34_method_6_code 15 = .ok (.goto 4, 3) := by decide +kernel
theorem d2_19 : decode prog_34_method_6_code 19 = .ok (.ireturn, 1) := by decide +kernel
theorem pn_2 : plainName "fourfold/model/UserType" = true := by first | (simp [plainName, overriddenIn]; done) | decide +kernel
theorem ef_2 (m : MethodId) (x0 : Addr) : entryFrame m #[(.ref x0)] 1 = mkF m 0 #[.val (.ref x0)] [] := by first | (simp [entryFrame, mkF, argsToLocals, Value.category]; done) | rfl
def Q2A (Z : State) (a1 : Addr) (w2 : Addr) (h0 : Heap) (n0 : Nat) (v : Option Value) (h : Heap) (L : List Loc) : Prop := v = some (.int (1 : Int32)) ∧ Fr n0 L ∧ h = h0
set_option maxRecDepth 65536 in
set_option maxHeartbeats 40000000 in
theorem rm2A (l : Launch) (Z : State) (a0 : Array Value) (hw : ∀ d ∈ tables_1, d.before a0 Z = true) (ws : List Jvm.Cond) (a1 : Addr) (w2 : Addr) (h0 : Heap) (n0 : Nat) (Z0 : n0 ≤ h0.size) (S_ADMINISTRATOR : Sta Z h0 "fourfold/model/UserType" "ADMINISTRATOR" "Lfourfold/model/UserType;" (.ref w2)) (ha4 : a1 = w2) :
    MetFree l (⟨"fourfold/model/UserType", "administers", "()Z"⟩ : MethodName) (head1 (Jvm.Cond.code (⟨"fourfold/model/UserType", "administers", "()Z"⟩ : MethodName) prog_34_method_6_code 1 (some .boolean) :: ws) ({ frames := 0, cells := 0, slots := 0, locals := 0 } : Room)) (fun a U => a = #[(.ref a1)] ∧ Z.Warmed39 U.vm ∧ U.heap = h0) (fun _ _ _ _ _ => True) (fun _ U o U' => ∃ v L, o = .returned v ∧ Q2A Z a1 w2 h0 n0 v U'.heap L ∧ FrameEnd U o U' L ({ frames := 0, cells := 0, slots := 0, locals := 0 } : Room).cells ({ frames := 0, cells := 0, slots := 0, locals := 0 } : Room).slots) := by
  refine MetFree.of_bodySF (plainFor_of_name pn_2) hisR ?_
  intro p e s m args below meth c s₁ Bd hml0 hP hK
  obtain ⟨rfl, hZ, hh⟩ := hP
  have hx := Bd.exec
  have hby := Bd.bytes
  have hml : c.maxLocals = 1 := hml0
  have hown : s.vm.findClass "fourfold/model/UserType" = some m.cls := findClass_of_methodNamed Bd.named
  have hnm := (name_of_methodNamed Bd.named Bd.method).1
  have X0 : Stand p l e ({ frames := 0, cells := 0, slots := 0, locals := 0 } : Room) s m #[(.ref a1)] below meth c s₁ [] 0 0 := Stand.of_body Bd
  have e0 : s₁.heap = h0 := by rw [← hh, Bd.state]; rfl
  have N0 := Fr.nil n0
  have pre0 : ∀ t, Steps p.tables e below (s₁.setTop (mkF m 0 #[.val (.ref a1)] [])) t → Steps p.tables e below (s₁.setTop (entryFrame m #[(.ref a1)] 1)) t := fun t k => castTop (ef_2 m a1) k
  -- 3. LAWS
  obtain ⟨T3, X3, e3, st3⟩ := getS2 X0 hx hZ hown (host := "") (Or.inl (hw _ (List.mem_of_getElem? (i := 12) rfl))) Via.refl e0 S_ADMINISTRATOR (g := (mkF m 1 #[.val (.ref a1)] [(.ref a1)])) rfl (hb hby d2_1)
  obtain ⟨fs, hr, hrun, hended, hW, hsame⟩ := X3.leave (v := some (.int (1 : Int32))) (fun h => by rw [Bd.returns] at h; cases h)
  refine ⟨_, _, pre0 _ ?_, hrun, hended, _, _, rfl, ?_, ⟨_, rfl⟩, hW, hsame.mono (by decide) (by decide)⟩
  -- 4. STEPS
  · show Steps p.tables e below (s₁.setTop (mkF m 0 #[.val (.ref a1)] [])) _
    refine XS.aloadN X0.here hx rfl (hb hby d2_0) rfl rfl ?_
    show Steps p.tables e below (s₁.setTop (mkF m 1 #[.val (.ref a1)] [(.ref a1)])) _
    refine st3 _ ?_
    show Steps p.tables e below (T3.setTop (mkF m 4 #[.val (.ref a1)] [(.ref w2), (.ref a1)])) _
    refine Jvm.RoadKit.acmp (g := (mkF m 4 #[.val (.ref a1)] [(.ref w2), (.ref a1)])) X3 hx rfl rfl rfl (pc0 := 4) (pc' := 14) (same := true) rfl (hb hby d2_4) rfl (decide_eq_true (congrArg Value.ref ha4)) (by decide) (by decide) ?_
    show Steps p.tables e below (T3.setTop (mkF m 14 #[.val (.ref a1)] [])) _
    refine XS.iconst X3.here hx rfl (hb hby d2_14) ?_
    show Steps p.tables e below (T3.setTop (mkF m 15 #[.val (.ref a1)] [(.int (1 : Int32))])) _
    refine XS.goto X3.here hx rfl (pc0 := 15) (pc' := 19) rfl (hb hby d2_15) (by decide) (by decide) ?_
    show Steps p.tables e below (T3.setTop (mkF m 19 #[.val (.ref a1)] [(.int (1 : Int32))])) _
    exact retN X3 hx (t := .boolean) Bd.returns (by simp) (hb hby d2_19) hr
  · show Q2A Z a1 w2 h0 n0 _ T3.heap _
    rw [e3]
    exact ⟨rfl, N0, rfl⟩
theorem d2_7 : decode prog_34_method_6_code 7 = .ok (.aload_n 0, 1) := by decide +kernel
theorem d2_8 : decode prog_34_method_6_code 8 = .ok (.getstatic 13, 3) := by decide +kernel
theorem d2_11 : decode prog_34_method_6_code 11 = .ok (.if_acmp .ne 7, 3) := by decide +kernel
def Q2O (Z : State) (a1 : Addr) (w2 : Addr) (w4 : Addr) (h0 : Heap) (n0 : Nat) (v : Option Value) (h : Heap) (L : List Loc) : Prop := v = some (.int (1 : Int32)) ∧ Fr n0 L ∧ h = h0
set_option maxRecDepth 65536 in
set_option maxHeartbeats 40000000 in
theorem rm2O (l : Launch) (Z : State) (a0 : Array Value) (hw : ∀ d ∈ tables_1, d.before a0 Z = true) (ws : List Jvm.Cond) (a1 : Addr) (w2 : Addr) (w4 : Addr) (h0 : Heap) (n0 : Nat) (Z0 : n0 ≤ h0.size) (S_ADMINISTRATOR : Sta Z h0 "fourfold/model/UserType" "ADMINISTRATOR" "Lfourfold/model/UserType;" (.ref w2)) (S_OWNER : Sta Z h0 "fourfold/model/UserType" "OWNER" "Lfourfold/model/UserType;" (.ref w4)) (ha4 : ¬ (a1 = w2)) (ha11 : a1 = w4) :
    MetFree l (⟨"fourfold/model/UserType", "administers", "()Z"⟩ : MethodName) (head1 (Jvm.Cond.code (⟨"fourfold/model/UserType", "administers", "()Z"⟩ : MethodName) prog_34_method_6_code 1 (some .boolean) :: ws) ({ frames := 0, cells := 0, slots := 0, locals := 0 } : Room)) (fun a U => a = #[(.ref a1)] ∧ Z.Warmed39 U.vm ∧ U.heap = h0) (fun _ _ _ _ _ => True) (fun _ U o U' => ∃ v L, o = .returned v ∧ Q2O Z a1 w2 w4 h0 n0 v U'.heap L ∧ FrameEnd U o U' L ({ frames := 0, cells := 0, slots := 0, locals := 0 } : Room).cells ({ frames := 0, cells := 0, slots := 0, locals := 0 } : Room).slots) := by
  refine MetFree.of_bodySF (plainFor_of_name pn_2) hisR ?_
  intro p e s m args below meth c s₁ Bd hml0 hP hK
  obtain ⟨rfl, hZ, hh⟩ := hP
  have hx := Bd.exec
  have hby := Bd.bytes
  have hml : c.maxLocals = 1 := hml0
  have hown : s.vm.findClass "fourfold/model/UserType" = some m.cls := findClass_of_methodNamed Bd.named
  have hnm := (name_of_methodNamed Bd.named Bd.method).1
  have X0 : Stand p l e ({ frames := 0, cells := 0, slots := 0, locals := 0 } : Room) s m #[(.ref a1)] below meth c s₁ [] 0 0 := Stand.of_body Bd
  have e0 : s₁.heap = h0 := by rw [← hh, Bd.state]; rfl
  have N0 := Fr.nil n0
  have pre0 : ∀ t, Steps p.tables e below (s₁.setTop (mkF m 0 #[.val (.ref a1)] [])) t → Steps p.tables e below (s₁.setTop (entryFrame m #[(.ref a1)] 1)) t := fun t k => castTop (ef_2 m a1) k
  -- 3. LAWS
  obtain ⟨T3, X3, e3, st3⟩ := getS2 X0 hx hZ hown (host := "") (Or.inl (hw _ (List.mem_of_getElem? (i := 12) rfl))) Via.refl e0 S_ADMINISTRATOR (g := (mkF m 1 #[.val (.ref a1)] [(.ref a1)])) rfl (hb hby d2_1)
  obtain ⟨T5, X5, e5, st5⟩ := getS2 X3 hx hZ hown (host := "") (Or.inl (hw _ (List.mem_of_getElem? (i := 14) rfl))) Via.refl e3 S_OWNER (g := (mkF m 8 #[.val (.ref a1)] [(.ref a1)])) rfl (hb hby d2_8)
  obtain ⟨fs, hr, hrun, hended, hW, hsame⟩ := X5.leave (v := some (.int (1 : Int32))) (fun h => by rw [Bd.returns] at h; cases h)
  refine ⟨_, _, pre0 _ ?_, hrun, hended, _, _, rfl, ?_, ⟨_, rfl⟩, hW, hsame.mono (by decide) (by decide)⟩
  -- 4. STEPS
  · show Steps p.tables e below (s₁.setTop (mkF m 0 #[.val (.ref a1)] [])) _
    refine XS.aloadN X0.here hx rfl (hb hby d2_0) rfl rfl ?_
    show Steps p.tables e below (s₁.setTop (mkF m 1 #[.val (.ref a1)] [(.ref a1)])) _
    refine st3 _ ?_
    show Steps p.tables e below (T3.setTop (mkF m 4 #[.val (.ref a1)] [(.ref w2), (.ref a1)])) _
    refine Jvm.RoadKit.acmp (g := (mkF m 4 #[.val (.ref a1)] [(.ref w2), (.ref a1)])) X3 hx rfl rfl rfl (pc0 := 4) (pc' := 7) (same := false) rfl (hb hby d2_4) rfl (decide_eq_false fun q => ha4 (Value.ref.inj q)) (by decide) (by decide) ?_
    show Steps p.tables e below (T3.setTop (mkF m 7 #[.val (.ref a1)] [])) _
    refine XS.aloadN X3.here hx rfl (hb hby d2_7) rfl rfl ?_
    show Steps p.tables e below (T3.setTop (mkF m 8 #[.val (.ref a1)] [(.ref a1)])) _
    refine st5 _ ?_
    show Steps p.tables e below (T5.setTop (mkF m 11 #[.val (.ref a1)] [(.ref w4), (.ref a1)])) _
    refine Jvm.RoadKit.acmp (g := (mkF m 11 #[.val (.ref a1)] [(.ref w4), (.ref a1)])) X5 hx rfl rfl rfl (pc0 := 11) (pc' := 14) (same := true) rfl (hb hby d2_11) rfl (decide_eq_true (congrArg Value.ref ha11)) (by decide) (by decide) ?_
    show Steps p.tables e below (T5.setTop (mkF m 14 #[.val (.ref a1)] [])) _
    refine XS.iconst X5.here hx rfl (hb hby d2_14) ?_
    show Steps p.tables e below (T5.setTop (mkF m 15 #[.val (.ref a1)] [(.int (1 : Int32))])) _
    refine XS.goto X5.here hx rfl (pc0 := 15) (pc' := 19) rfl (hb hby d2_15) (by decide) (by decide) ?_
    show Steps p.tables e below (T5.setTop (mkF m 19 #[.val (.ref a1)] [(.int (1 : Int32))])) _
    exact retN X5 hx (t := .boolean) Bd.returns (by simp) (hb hby d2_19) hr
  · show Q2O Z a1 w2 w4 h0 n0 _ T5.heap _
    rw [e5]
    exact ⟨rfl, N0, rfl⟩
theorem d2_18 : decode prog_34_method_6_code 18 = .ok (.iconst 0, 1) := by decide +kernel
def Q2N (Z : State) (a1 : Addr) (w2 : Addr) (w4 : Addr) (h0 : Heap) (n0 : Nat) (v : Option Value) (h : Heap) (L : List Loc) : Prop := v = some (.int (0 : Int32)) ∧ Fr n0 L ∧ h = h0
set_option maxRecDepth 65536 in
set_option maxHeartbeats 40000000 in
theorem rm2N (l : Launch) (Z : State) (a0 : Array Value) (hw : ∀ d ∈ tables_1, d.before a0 Z = true) (ws : List Jvm.Cond) (a1 : Addr) (w2 : Addr) (w4 : Addr) (h0 : Heap) (n0 : Nat) (Z0 : n0 ≤ h0.size) (S_ADMINISTRATOR : Sta Z h0 "fourfold/model/UserType" "ADMINISTRATOR" "Lfourfold/model/UserType;" (.ref w2)) (S_OWNER : Sta Z h0 "fourfold/model/UserType" "OWNER" "Lfourfold/model/UserType;" (.ref w4)) (ha4 : ¬ (a1 = w2)) (ha11 : ¬ (a1 = w4)) :
    MetFree l (⟨"fourfold/model/UserType", "administers", "()Z"⟩ : MethodName) (head1 (Jvm.Cond.code (⟨"fourfold/model/UserType", "administers", "()Z"⟩ : MethodName) prog_34_method_6_code 1 (some .boolean) :: ws) ({ frames := 0, cells := 0, slots := 0, locals := 0 } : Room)) (fun a U => a = #[(.ref a1)] ∧ Z.Warmed39 U.vm ∧ U.heap = h0) (fun _ _ _ _ _ => True) (fun _ U o U' => ∃ v L, o = .returned v ∧ Q2N Z a1 w2 w4 h0 n0 v U'.heap L ∧ FrameEnd U o U' L ({ frames := 0, cells := 0, slots := 0, locals := 0 } : Room).cells ({ frames := 0, cells := 0, slots := 0, locals := 0 } : Room).slots) := by
  refine MetFree.of_bodySF (plainFor_of_name pn_2) hisR ?_
  intro p e s m args below meth c s₁ Bd hml0 hP hK
  obtain ⟨rfl, hZ, hh⟩ := hP
  have hx := Bd.exec
  have hby := Bd.bytes
  have hml : c.maxLocals = 1 := hml0
  have hown : s.vm.findClass "fourfold/model/UserType" = some m.cls := findClass_of_methodNamed Bd.named
  have hnm := (name_of_methodNamed Bd.named Bd.method).1
  have X0 : Stand p l e ({ frames := 0, cells := 0, slots := 0, locals := 0 } : Room) s m #[(.ref a1)] below meth c s₁ [] 0 0 := Stand.of_body Bd
  have e0 : s₁.heap = h0 := by rw [← hh, Bd.state]; rfl
  have N0 := Fr.nil n0
  have pre0 : ∀ t, Steps p.tables e below (s₁.setTop (mkF m 0 #[.val (.ref a1)] [])) t → Steps p.tables e below (s₁.setTop (entryFrame m #[(.ref a1)] 1)) t := fun t k => castTop (ef_2 m a1) k
  -- 3. LAWS
  obtain ⟨T3, X3, e3, st3⟩ := getS2 X0 hx hZ hown (host := "") (Or.inl (hw _ (List.mem_of_getElem? (i := 12) rfl))) Via.refl e0 S_ADMINISTRATOR (g := (mkF m 1 #[.val (.ref a1)] [(.ref a1)])) rfl (hb hby d2_1)
  obtain ⟨T5, X5, e5, st5⟩ := getS2 X3 hx hZ hown (host := "") (Or.inl (hw _ (List.mem_of_getElem? (i := 14) rfl))) Via.refl e3 S_OWNER (g := (mkF m 8 #[.val (.ref a1)] [(.ref a1)])) rfl (hb hby d2_8)
  obtain ⟨fs, hr, hrun, hended, hW, hsame⟩ := X5.leave (v := some (.int (0 : Int32))) (fun h => by rw [Bd.returns] at h; cases h)
  refine ⟨_, _, pre0 _ ?_, hrun, hended, _, _, rfl, ?_, ⟨_, rfl⟩, hW, hsame.mono (by decide) (by decide)⟩
  -- 4. STEPS
  · show Steps p.tables e below (s₁.setTop (mkF m 0 #[.val (.ref a1)] [])) _
    refine XS.aloadN X0.here hx rfl (hb hby d2_0) rfl rfl ?_
    show Steps p.tables e below (s₁.setTop (mkF m 1 #[.val (.ref a1)] [(.ref a1)])) _
    refine st3 _ ?_
    show Steps p.tables e below (T3.setTop (mkF m 4 #[.val (.ref a1)] [(.ref w2), (.ref a1)])) _
    refine Jvm.RoadKit.acmp (g := (mkF m 4 #[.val (.ref a1)] [(.ref w2), (.ref a1)])) X3 hx rfl rfl rfl (pc0 := 4) (pc' := 7) (same := false) rfl (hb hby d2_4) rfl (decide_eq_false fun q => ha4 (Value.ref.inj q)) (by decide) (by decide) ?_
    show Steps p.tables e below (T3.setTop (mkF m 7 #[.val (.ref a1)] [])) _
    refine XS.aloadN X3.here hx rfl (hb hby d2_7) rfl rfl ?_
    show Steps p.tables e below (T3.setTop (mkF m 8 #[.val (.ref a1)] [(.ref a1)])) _
    refine st5 _ ?_
    show Steps p.tables e below (T5.setTop (mkF m 11 #[.val (.ref a1)] [(.ref w4), (.ref a1)])) _
    refine Jvm.RoadKit.acmp (g := (mkF m 11 #[.val (.ref a1)] [(.ref w4), (.ref a1)])) X5 hx rfl rfl rfl (pc0 := 11) (pc' := 18) (same := false) rfl (hb hby d2_11) rfl (decide_eq_false fun q => ha11 (Value.ref.inj q)) (by decide) (by decide) ?_
    show Steps p.tables e below (T5.setTop (mkF m 18 #[.val (.ref a1)] [])) _
    refine XS.iconst X5.here hx rfl (hb hby d2_18) ?_
    show Steps p.tables e below (T5.setTop (mkF m 19 #[.val (.ref a1)] [(.int (0 : Int32))])) _
    exact retN X5 hx (t := .boolean) Bd.returns (by simp) (hb hby d2_19) hr
  · show Q2N Z a1 w2 w4 h0 n0 _ T5.heap _
    rw [e5]
    exact ⟨rfl, N0, rfl⟩
theorem pn_0 : plainName "fourfold/model/UserTypeAdministersPinLaw" = true := by first | (simp [plainName, overriddenIn]; done) | decide +kernel
theorem pd_0_0 : parseMethodDescriptor "(I)Lfourfold/model/UserType;" = some ⟨[.int], some (.object "fourfold/model/UserType")⟩ := by decide +kernel
theorem pd_0_1 : parseMethodDescriptor "()Z" = some ⟨[], some .boolean⟩ := by decide +kernel
theorem ef_0 (m : MethodId) (x0 : Int32) : entryFrame m #[(.int x0)] maxLocals = mkF m 0 #[.val (.int x0), .unset, .unset, .unset] [] := by first | (simp [entryFrame, mkF, argsToLocals, Value.category, maxLocals]; done) | rfl
def Q0V (Z : State) (p1 : Int32) (h0 : Heap) (n0 : Nat) (v : Option Value) (h : Heap) (L : List Loc) : Prop := v = some (.int (1 : Int32)) ∧ Fr n0 L
set_option maxRecDepth 65536 in
set_option maxHeartbeats 40000000 in
theorem rm0V (l : Launch) (Z : State) (a0 : Array Value) (hw : ∀ d ∈ tables_1, d.before a0 Z = true) (ws : List Jvm.Cond) (p1 : Int32) (wV : Addr) (wE : Addr) (wA : Addr) (wO : Addr) (h0 : Heap) (n0 : Nat) (Z0 : n0 ≤ h0.size) (SV : Sta Z h0 "fourfold/model/UserType" "VIEWER" "Lfourfold/model/UserType;" (.ref wV)) (EV : Exa Z h0 wV "fourfold/model/UserType") (SE : Sta Z h0 "fourfold/model/UserType" "EDITOR" "Lfourfold/model/UserType;" (.ref wE)) (EE : Exa Z h0 wE "fourfold/model/UserType") (SA : Sta Z h0 "fourfold/model/UserType" "ADMINISTRATOR" "Lfourfold/model/UserType;" (.ref wA)) (EA : Exa Z h0 wA "fourfold/model/UserType") (SO : Sta Z h0 "fourfold/model/UserType" "OWNER" "Lfourfold/model/UserType;" (.ref wO)) (EO : Exa Z h0 wO "fourfold/model/UserType") (hVA : ¬ (wV = wA)) (hVO : ¬ (wV = wO)) (hEA : ¬ (wE = wA)) (hEO : ¬ (wE = wO)) (hOA : ¬ (wO = wA)) (hc10 : (p1 &&& (3 : Int32)) = (0 : Int32)) :
    MetFree l x (head1 (Jvm.Cond.code x code maxLocals ret :: ws) room_1) (fun a U => a = #[(.int p1)] ∧ Z.Warmed39 U.vm ∧ U.heap = h0) (fun _ _ _ _ _ => True) (fun _ U o U' => ∃ v L, o = .returned v ∧ Q0V Z p1 h0 n0 v U'.heap L ∧ FrameEnd U o U' L room_1.cells room_1.slots) := by
  refine MetFree.of_bodySF (plainFor_of_name pn_0) hisR ?_
  intro p e s m args below meth c s₁ Bd hml0 hP hK
  obtain ⟨rfl, hZ, hh⟩ := hP
  have hx := Bd.exec
  have hby := Bd.bytes
  have hml : c.maxLocals = 4 := hml0
  have hown : s.vm.findClass "fourfold/model/UserTypeAdministersPinLaw" = some m.cls := findClass_of_methodNamed Bd.named
  have hnm := (name_of_methodNamed Bd.named Bd.method).1
  have X0 : Stand p l e room_1 s m #[(.int p1)] below meth c s₁ [] 0 0 := Stand.of_body Bd
  have e0 : s₁.heap = h0 := by rw [← hh, Bd.state]; rfl
  have N0 := Fr.nil n0
  have pre0 : ∀ t, Steps p.tables e below (s₁.setTop (mkF m 0 #[.val (.int p1), .unset, .unset, .unset] [])) t → Steps p.tables e below (s₁.setTop (entryFrame m #[(.int p1)] maxLocals)) t := fun t k => castTop (ef_0 m p1) k
  -- 3. LAWS
  -- pc 5: fourfold/model/UserTypeAdministersPinLaw.pick by its contract rm1
  obtain ⟨_, _, ⟨T2, L2, k2, n2⟩, -, X2, ⟨Lc2, hQ2, l2, y2, z2⟩, st2⟩ := Jvm.LawKit.callS X0 hx (y := (⟨"fourfold/model/UserTypeAdministersPinLaw", "pick", "(I)Lfourfold/model/UserType;"⟩ : MethodName)) hown (mvT hZ (hw _ (List.mem_of_getElem? (i := 0) rfl))) (mvT hZ (hw _ (List.mem_of_getElem? (i := 1) rfl))) (mvT hZ (hw _ (List.mem_of_getElem? (i := 2) rfl))) (mvT hZ (hw _ (List.mem_of_getElem? (i := 3) rfl))) (by decide) (backOf (W := 0) (rm1V l Z a0 hw [] (p1 &&& (3 : Int32)) wV h0 n0 Z0 SV hc10) hZ (hw _ (List.mem_of_getElem? (i := 3) rfl)) (hw _ (List.mem_of_getElem? (i := 2) rfl)) (by decide) (by decide)) (g := (mkF m 5 #[.val (.int p1), .val (.int (p1 &&& (3 : Int32))), .unset, .unset] [(.int (p1 &&& (3 : Int32)))])) rfl (by rw [hml]; rfl) (argsL := [(.int (p1 &&& (3 : Int32)))]) (rest := []) (lenOf pd_0_0 rfl) rfl (by show 2 * 0 + _ ≤ _; exact Nat.le_of_eq rfl) (hb hby at_5) (fun _ _ => ⟨rfl, e0, (by decide : 0 + 0 ≤ _), (by decide : 0 + 0 ≤ _)⟩)
  dsimp only [Pt.U, Pt.locs, Pt.cells, Pt.slots] at X2 l2 y2 z2 st2 hQ2
  subst l2 y2 z2
  obtain ⟨rfl, N2q, eq2⟩ := hQ2
  have Kc2 : Keep h0 T2.heap [] := own_same eq2
  have O2 : Ext h0 T2.heap := own_ext Kc2
  have Z2 : n0 ≤ T2.heap.size := Nat.le_trans Z0 Kc2.1      -- what it returned, that it wrote nothing old, and the rest of your Q1
  have N2 := Fr.app N0 N2q
  -- pc 41: fourfold/model/UserType.administers by the contract of the body that the receiver's class selects, rm2
  -- ✋ yours, out of the call's Q: E_wV : Exa Z h0 wV "fourfold/model/UserType"
  obtain ⟨cq3, kq3, q3a, q3b, q3c⟩ := isOf hZ rfl (EV.keep Kc2)
  obtain ⟨_, _, ⟨T3, L3, k3, n3⟩, -, X3, ⟨Lc3, hQ3, l3, y3, z3⟩, st3⟩ := X2.virtualBack hx (y := (⟨"fourfold/model/UserType", "administers", "()Z"⟩ : MethodName)) (z := (⟨"fourfold/model/UserType", "administers", "()Z"⟩ : MethodName)) hown (mvT hZ (hw _ (List.mem_of_getElem? (i := 7) rfl))) (mvT hZ (hw _ (List.mem_of_getElem? (i := 8) rfl))) (notFace_of_selects (args := #[]) (mvT hZ (hw _ (List.mem_of_getElem? (i := 10) rfl)))) (mvT hZ (hw _ (List.mem_of_getElem? (i := 10) rfl))) (mvT hZ (hw _ (List.mem_of_getElem? (i := 9) rfl))) (by decide) (backOf (W := 0) (rm2N l Z a0 hw [] wV wA wO T2.heap n0 Z2 (SA.ext O2) (SO.ext O2) hVA hVO) hZ (hw _ (List.mem_of_getElem? (i := 11) rfl)) (hw _ (List.mem_of_getElem? (i := 5) rfl)) (by decide) (by decide)) q3a q3c (g := (mkF m 41 #[.val (.int p1), .val (.int (p1 &&& (3 : Int32))), .val (.ref wV), .val (.int (0 : Int32))] [(.ref wV)])) rfl (by rw [hml]; rfl) (Steps.refl _) (argsL := []) (rest := []) (lenOf pd_0_1 rfl) rfl (by show 2 * 0 + _ ≤ _; exact Nat.le_of_eq rfl) (hb hby at_41) (fun _ _ => ⟨rfl, rfl, (by decide : 0 + 0 ≤ _), (by decide : 0 + 0 ≤ _)⟩)
  dsimp only [Pt.U, Pt.locs, Pt.cells, Pt.slots] at X3 l3 y3 z3 st3 hQ3
  subst l3 y3 z3
  obtain ⟨rfl, N3q, eq3⟩ := hQ3      -- what it returned, that it wrote nothing old, and the rest of your Q2
  have N3 := Fr.app N2 N3q
  obtain ⟨fs, hr, hrun, hended, hW, hsame⟩ := X3.leave (v := some (.int (1 : Int32))) (fun h => by rw [Bd.returns] at h; cases h)
  refine ⟨_, _, pre0 _ ?_, hrun, hended, _, _, rfl, ?_, ⟨_, rfl⟩, hW, hsame.mono (by decide) (by decide)⟩
  -- 4. STEPS
  · show Steps p.tables e below (s₁.setTop (mkF m 0 #[.val (.int p1), .unset, .unset, .unset] [])) _
    refine XS.iloadN X0.here hx rfl (hb hby at_0) rfl ?_
    show Steps p.tables e below (s₁.setTop (mkF m 1 #[.val (.int p1), .unset, .unset, .unset] [(.int p1)])) _
    refine XS.iconst X0.here hx rfl (hb hby at_1) ?_
    show Steps p.tables e below (s₁.setTop (mkF m 2 #[.val (.int p1), .unset, .unset, .unset] [(.int (3 : Int32)), (.int p1)])) _
    refine XS.iand X0.here hx rfl (hb hby at_2) rfl ?_
    show Steps p.tables e below (s₁.setTop (mkF m 3 #[.val (.int p1), .unset, .unset, .unset] [(.int (p1 &&& (3 : Int32)))])) _
    refine XS.istoreN X0.here hx rfl (hb hby at_3) rfl (l' := #[.val (.int p1), .val (.int (p1 &&& (3 : Int32))), .unset, .unset]) rfl ?_
    show Steps p.tables e below (s₁.setTop (mkF m 4 #[.val (.int p1), .val (.int (p1 &&& (3 : Int32))), .unset, .unset] [])) _
    refine XS.iloadN X0.here hx rfl (hb hby at_4) rfl ?_
    show Steps p.tables e below (s₁.setTop (mkF m 5 #[.val (.int p1), .val (.int (p1 &&& (3 : Int32))), .unset, .unset] [(.int (p1 &&& (3 : Int32)))])) _
    refine st2 _ ?_
    show Steps p.tables e below (T2.setTop (mkF m 8 #[.val (.int p1), .val (.int (p1 &&& (3 : Int32))), .unset, .unset] [(.ref wV)])) _
    refine XS.astoreN X2.here hx rfl (hb hby at_8) rfl rfl (l' := #[.val (.int p1), .val (.int (p1 &&& (3 : Int32))), .val (.ref wV), .unset]) rfl ?_
    show Steps p.tables e below (T2.setTop (mkF m 9 #[.val (.int p1), .val (.int (p1 &&& (3 : Int32))), .val (.ref wV), .unset] [])) _
    refine XS.iloadN X2.here hx rfl (hb hby at_9) rfl ?_
    show Steps p.tables e below (T2.setTop (mkF m 10 #[.val (.int p1), .val (.int (p1 &&& (3 : Int32))), .val (.ref wV), .unset] [(.int (p1 &&& (3 : Int32)))])) _
    refine XS.ifNo X2.here hx rfl (hb hby at_10) rfl ((if0 _ _).trans (teq hc10).2) ?_
    show Steps p.tables e below (T2.setTop (mkF m 13 #[.val (.int p1), .val (.int (p1 &&& (3 : Int32))), .val (.ref wV), .unset] [])) _
    refine XS.iconst X2.here hx rfl (hb hby at_13) ?_
    show Steps p.tables e below (T2.setTop (mkF m 14 #[.val (.int p1), .val (.int (p1 &&& (3 : Int32))), .val (.ref wV), .unset] [(.int (0 : Int32))])) _
    refine XS.istoreN X2.here hx rfl (hb hby at_14) rfl (l' := #[.val (.int p1), .val (.int (p1 &&& (3 : Int32))), .val (.ref wV), .val (.int (0 : Int32))]) rfl ?_
    show Steps p.tables e below (T2.setTop (mkF m 15 #[.val (.int p1), .val (.int (p1 &&& (3 : Int32))), .val (.ref wV), .val (.int (0 : Int32))] [])) _
    refine XS.goto X2.here hx rfl (pc0 := 15) (pc' := 40) rfl (hb hby at_15) (by decide) (by decide) ?_
    show Steps p.tables e below (T2.setTop (mkF m 40 #[.val (.int p1), .val (.int (p1 &&& (3 : Int32))), .val (.ref wV), .val (.int (0 : Int32))] [])) _
    refine XS.aloadN X2.here hx rfl (hb hby at_40) rfl rfl ?_
    show Steps p.tables e below (T2.setTop (mkF m 41 #[.val (.int p1), .val (.int (p1 &&& (3 : Int32))), .val (.ref wV), .val (.int (0 : Int32))] [(.ref wV)])) _
    refine st3.trans ?_
    show Steps p.tables e below (T3.setTop (mkF m 44 #[.val (.int p1), .val (.int (p1 &&& (3 : Int32))), .val (.ref wV), .val (.int (0 : Int32))] [(.int (0 : Int32))])) _
    refine XS.iloadN X3.here hx rfl (hb hby at_44) rfl ?_
    show Steps p.tables e below (T3.setTop (mkF m 45 #[.val (.int p1), .val (.int (p1 &&& (3 : Int32))), .val (.ref wV), .val (.int (0 : Int32))] [(.int (0 : Int32)), (.int (0 : Int32))])) _
    refine XS.icmpNo X3.here hx rfl (hb hby at_45) rfl (teq rfl).2 ?_
    show Steps p.tables e below (T3.setTop (mkF m 48 #[.val (.int p1), .val (.int (p1 &&& (3 : Int32))), .val (.ref wV), .val (.int (0 : Int32))] [])) _
    refine XS.iconst X3.here hx rfl (hb hby at_48) ?_
    show Steps p.tables e below (T3.setTop (mkF m 49 #[.val (.int p1), .val (.int (p1 &&& (3 : Int32))), .val (.ref wV), .val (.int (0 : Int32))] [(.int (1 : Int32))])) _
    refine XS.goto X3.here hx rfl (pc0 := 49) (pc' := 53) rfl (hb hby at_49) (by decide) (by decide) ?_
    show Steps p.tables e below (T3.setTop (mkF m 53 #[.val (.int p1), .val (.int (p1 &&& (3 : Int32))), .val (.ref wV), .val (.int (0 : Int32))] [(.int (1 : Int32))])) _
    exact retN X3 hx (t := .boolean) Bd.returns (by simp) (hb hby at_53) hr
  · show Q0V Z p1 h0 n0 _ T3.heap _
    exact ⟨rfl, N3⟩
def Q0E (Z : State) (p1 : Int32) (h0 : Heap) (n0 : Nat) (v : Option Value) (h : Heap) (L : List Loc) : Prop := v = some (.int (1 : Int32)) ∧ Fr n0 L
set_option maxRecDepth 65536 in
set_option maxHeartbeats 40000000 in
theorem rm0E (l : Launch) (Z : State) (a0 : Array Value) (hw : ∀ d ∈ tables_1, d.before a0 Z = true) (ws : List Jvm.Cond) (p1 : Int32) (wV : Addr) (wE : Addr) (wA : Addr) (wO : Addr) (h0 : Heap) (n0 : Nat) (Z0 : n0 ≤ h0.size) (SV : Sta Z h0 "fourfold/model/UserType" "VIEWER" "Lfourfold/model/UserType;" (.ref wV)) (EV : Exa Z h0 wV "fourfold/model/UserType") (SE : Sta Z h0 "fourfold/model/UserType" "EDITOR" "Lfourfold/model/UserType;" (.ref wE)) (EE : Exa Z h0 wE "fourfold/model/UserType") (SA : Sta Z h0 "fourfold/model/UserType" "ADMINISTRATOR" "Lfourfold/model/UserType;" (.ref wA)) (EA : Exa Z h0 wA "fourfold/model/UserType") (SO : Sta Z h0 "fourfold/model/UserType" "OWNER" "Lfourfold/model/UserType;" (.ref wO)) (EO : Exa Z h0 wO "fourfold/model/UserType") (hVA : ¬ (wV = wA)) (hVO : ¬ (wV = wO)) (hEA : ¬ (wE = wA)) (hEO : ¬ (wE = wO)) (hOA : ¬ (wO = wA)) (hc10 : ¬ ((p1 &&& (3 : Int32)) = (0 : Int32))) (hc20 : (p1 &&& (3 : Int32)) = (1 : Int32)) :
    MetFree l x (head1 (Jvm.Cond.code x code maxLocals ret :: ws) room_1) (fun a U => a = #[(.int p1)] ∧ Z.Warmed39 U.vm ∧ U.heap = h0) (fun _ _ _ _ _ => True) (fun _ U o U' => ∃ v L, o = .returned v ∧ Q0E Z p1 h0 n0 v U'.heap L ∧ FrameEnd U o U' L room_1.cells room_1.slots) := by
  refine MetFree.of_bodySF (plainFor_of_name pn_0) hisR ?_
  intro p e s m args below meth c s₁ Bd hml0 hP hK
  obtain ⟨rfl, hZ, hh⟩ := hP
  have hx := Bd.exec
  have hby := Bd.bytes
  have hml : c.maxLocals = 4 := hml0
  have hown : s.vm.findClass "fourfold/model/UserTypeAdministersPinLaw" = some m.cls := findClass_of_methodNamed Bd.named
  have hnm := (name_of_methodNamed Bd.named Bd.method).1
  have X0 : Stand p l e room_1 s m #[(.int p1)] below meth c s₁ [] 0 0 := Stand.of_body Bd
  have e0 : s₁.heap = h0 := by rw [← hh, Bd.state]; rfl
  have N0 := Fr.nil n0
  have pre0 : ∀ t, Steps p.tables e below (s₁.setTop (mkF m 0 #[.val (.int p1), .unset, .unset, .unset] [])) t → Steps p.tables e below (s₁.setTop (entryFrame m #[(.int p1)] maxLocals)) t := fun t k => castTop (ef_0 m p1) k
  -- 3. LAWS
  -- pc 5: fourfold/model/UserTypeAdministersPinLaw.pick by its contract rm1
  obtain ⟨_, _, ⟨T2, L2, k2, n2⟩, -, X2, ⟨Lc2, hQ2, l2, y2, z2⟩, st2⟩ := Jvm.LawKit.callS X0 hx (y := (⟨"fourfold/model/UserTypeAdministersPinLaw", "pick", "(I)Lfourfold/model/UserType;"⟩ : MethodName)) hown (mvT hZ (hw _ (List.mem_of_getElem? (i := 0) rfl))) (mvT hZ (hw _ (List.mem_of_getElem? (i := 1) rfl))) (mvT hZ (hw _ (List.mem_of_getElem? (i := 2) rfl))) (mvT hZ (hw _ (List.mem_of_getElem? (i := 3) rfl))) (by decide) (backOf (W := 0) (rm1E l Z a0 hw [] (p1 &&& (3 : Int32)) wE h0 n0 Z0 SE hc10 hc20) hZ (hw _ (List.mem_of_getElem? (i := 3) rfl)) (hw _ (List.mem_of_getElem? (i := 2) rfl)) (by decide) (by decide)) (g := (mkF m 5 #[.val (.int p1), .val (.int (p1 &&& (3 : Int32))), .unset, .unset] [(.int (p1 &&& (3 : Int32)))])) rfl (by rw [hml]; rfl) (argsL := [(.int (p1 &&& (3 : Int32)))]) (rest := []) (lenOf pd_0_0 rfl) rfl (by show 2 * 0 + _ ≤ _; exact Nat.le_of_eq rfl) (hb hby at_5) (fun _ _ => ⟨rfl, e0, (by decide : 0 + 0 ≤ _), (by decide : 0 + 0 ≤ _)⟩)
  dsimp only [Pt.U, Pt.locs, Pt.cells, Pt.slots] at X2 l2 y2 z2 st2 hQ2
  subst l2 y2 z2
  obtain ⟨rfl, N2q, eq2⟩ := hQ2
  have Kc2 : Keep h0 T2.heap [] := own_same eq2
  have O2 : Ext h0 T2.heap := own_ext Kc2
  have Z2 : n0 ≤ T2.heap.size := Nat.le_trans Z0 Kc2.1      -- what it returned, that it wrote nothing old, and the rest of your Q1
  have N2 := Fr.app N0 N2q
  -- pc 41: fourfold/model/UserType.administers by the contract of the body that the receiver's class selects, rm2
  -- ✋ yours, out of the call's Q: E_wE : Exa Z h0 wE "fourfold/model/UserType"
  obtain ⟨cq3, kq3, q3a, q3b, q3c⟩ := isOf hZ rfl (EE.keep Kc2)
  obtain ⟨_, _, ⟨T3, L3, k3, n3⟩, -, X3, ⟨Lc3, hQ3, l3, y3, z3⟩, st3⟩ := X2.virtualBack hx (y := (⟨"fourfold/model/UserType", "administers", "()Z"⟩ : MethodName)) (z := (⟨"fourfold/model/UserType", "administers", "()Z"⟩ : MethodName)) hown (mvT hZ (hw _ (List.mem_of_getElem? (i := 7) rfl))) (mvT hZ (hw _ (List.mem_of_getElem? (i := 8) rfl))) (notFace_of_selects (args := #[]) (mvT hZ (hw _ (List.mem_of_getElem? (i := 10) rfl)))) (mvT hZ (hw _ (List.mem_of_getElem? (i := 10) rfl))) (mvT hZ (hw _ (List.mem_of_getElem? (i := 9) rfl))) (by decide) (backOf (W := 0) (rm2N l Z a0 hw [] wE wA wO T2.heap n0 Z2 (SA.ext O2) (SO.ext O2) hEA hEO) hZ (hw _ (List.mem_of_getElem? (i := 11) rfl)) (hw _ (List.mem_of_getElem? (i := 5) rfl)) (by decide) (by decide)) q3a q3c (g := (mkF m 41 #[.val (.int p1), .val (.int (p1 &&& (3 : Int32))), .val (.ref wE), .val (.int (0 : Int32))] [(.ref wE)])) rfl (by rw [hml]; rfl) (Steps.refl _) (argsL := []) (rest := []) (lenOf pd_0_1 rfl) rfl (by show 2 * 0 + _ ≤ _; exact Nat.le_of_eq rfl) (hb hby at_41) (fun _ _ => ⟨rfl, rfl, (by decide : 0 + 0 ≤ _), (by decide : 0 + 0 ≤ _)⟩)
  dsimp only [Pt.U, Pt.locs, Pt.cells, Pt.slots] at X3 l3 y3 z3 st3 hQ3
  subst l3 y3 z3
  obtain ⟨rfl, N3q, eq3⟩ := hQ3      -- what it returned, that it wrote nothing old, and the rest of your Q2
  have N3 := Fr.app N2 N3q
  obtain ⟨fs, hr, hrun, hended, hW, hsame⟩ := X3.leave (v := some (.int (1 : Int32))) (fun h => by rw [Bd.returns] at h; cases h)
  refine ⟨_, _, pre0 _ ?_, hrun, hended, _, _, rfl, ?_, ⟨_, rfl⟩, hW, hsame.mono (by decide) (by decide)⟩
  -- 4. STEPS
  · show Steps p.tables e below (s₁.setTop (mkF m 0 #[.val (.int p1), .unset, .unset, .unset] [])) _
    refine XS.iloadN X0.here hx rfl (hb hby at_0) rfl ?_
    show Steps p.tables e below (s₁.setTop (mkF m 1 #[.val (.int p1), .unset, .unset, .unset] [(.int p1)])) _
    refine XS.iconst X0.here hx rfl (hb hby at_1) ?_
    show Steps p.tables e below (s₁.setTop (mkF m 2 #[.val (.int p1), .unset, .unset, .unset] [(.int (3 : Int32)), (.int p1)])) _
    refine XS.iand X0.here hx rfl (hb hby at_2) rfl ?_
    show Steps p.tables e below (s₁.setTop (mkF m 3 #[.val (.int p1), .unset, .unset, .unset] [(.int (p1 &&& (3 : Int32)))])) _
    refine XS.istoreN X0.here hx rfl (hb hby at_3) rfl (l' := #[.val (.int p1), .val (.int (p1 &&& (3 : Int32))), .unset, .unset]) rfl ?_
    show Steps p.tables e below (s₁.setTop (mkF m 4 #[.val (.int p1), .val (.int (p1 &&& (3 : Int32))), .unset, .unset] [])) _
    refine XS.iloadN X0.here hx rfl (hb hby at_4) rfl ?_
    show Steps p.tables e below (s₁.setTop (mkF m 5 #[.val (.int p1), .val (.int (p1 &&& (3 : Int32))), .unset, .unset] [(.int (p1 &&& (3 : Int32)))])) _
    refine st2 _ ?_
    show Steps p.tables e below (T2.setTop (mkF m 8 #[.val (.int p1), .val (.int (p1 &&& (3 : Int32))), .unset, .unset] [(.ref wE)])) _
    refine XS.astoreN X2.here hx rfl (hb hby at_8) rfl rfl (l' := #[.val (.int p1), .val (.int (p1 &&& (3 : Int32))), .val (.ref wE), .unset]) rfl ?_
    show Steps p.tables e below (T2.setTop (mkF m 9 #[.val (.int p1), .val (.int (p1 &&& (3 : Int32))), .val (.ref wE), .unset] [])) _
    refine XS.iloadN X2.here hx rfl (hb hby at_9) rfl ?_
    show Steps p.tables e below (T2.setTop (mkF m 10 #[.val (.int p1), .val (.int (p1 &&& (3 : Int32))), .val (.ref wE), .unset] [(.int (p1 &&& (3 : Int32)))])) _
    refine XS.ifYes X2.here hx rfl (pc0 := 10) (pc' := 18) rfl (hb hby at_10) rfl ((if0 _ _).trans (feq hc10).2) (by decide) (by decide) ?_
    show Steps p.tables e below (T2.setTop (mkF m 18 #[.val (.int p1), .val (.int (p1 &&& (3 : Int32))), .val (.ref wE), .unset] [])) _
    refine XS.iloadN X2.here hx rfl (hb hby at_18) rfl ?_
    show Steps p.tables e below (T2.setTop (mkF m 19 #[.val (.int p1), .val (.int (p1 &&& (3 : Int32))), .val (.ref wE), .unset] [(.int (p1 &&& (3 : Int32)))])) _
    refine XS.iconst X2.here hx rfl (hb hby at_19) ?_
    show Steps p.tables e below (T2.setTop (mkF m 20 #[.val (.int p1), .val (.int (p1 &&& (3 : Int32))), .val (.ref wE), .unset] [(.int (1 : Int32)), (.int (p1 &&& (3 : Int32)))])) _
    refine XS.icmpNo X2.here hx rfl (hb hby at_20) rfl (teq hc20).2 ?_
    show Steps p.tables e below (T2.setTop (mkF m 23 #[.val (.int p1), .val (.int (p1 &&& (3 : Int32))), .val (.ref wE), .unset] [])) _
    refine XS.iconst X2.here hx rfl (hb hby at_23) ?_
    show Steps p.tables e below (T2.setTop (mkF m 24 #[.val (.int p1), .val (.int (p1 &&& (3 : Int32))), .val (.ref wE), .unset] [(.int (0 : Int32))])) _
    refine XS.istoreN X2.here hx rfl (hb hby at_24) rfl (l' := #[.val (.int p1), .val (.int (p1 &&& (3 : Int32))), .val (.ref wE), .val (.int (0 : Int32))]) rfl ?_
    show Steps p.tables e below (T2.setTop (mkF m 25 #[.val (.int p1), .val (.int (p1 &&& (3 : Int32))), .val (.ref wE), .val (.int (0 : Int32))] [])) _
    refine XS.goto X2.here hx rfl (pc0 := 25) (pc' := 40) rfl (hb hby at_25) (by decide) (by decide) ?_
    show Steps p.tables e below (T2.setTop (mkF m 40 #[.val (.int p1), .val (.int (p1 &&& (3 : Int32))), .val (.ref wE), .val (.int (0 : Int32))] [])) _
    refine XS.aloadN X2.here hx rfl (hb hby at_40) rfl rfl ?_
    show Steps p.tables e below (T2.setTop (mkF m 41 #[.val (.int p1), .val (.int (p1 &&& (3 : Int32))), .val (.ref wE), .val (.int (0 : Int32))] [(.ref wE)])) _
    refine st3.trans ?_
    show Steps p.tables e below (T3.setTop (mkF m 44 #[.val (.int p1), .val (.int (p1 &&& (3 : Int32))), .val (.ref wE), .val (.int (0 : Int32))] [(.int (0 : Int32))])) _
    refine XS.iloadN X3.here hx rfl (hb hby at_44) rfl ?_
    show Steps p.tables e below (T3.setTop (mkF m 45 #[.val (.int p1), .val (.int (p1 &&& (3 : Int32))), .val (.ref wE), .val (.int (0 : Int32))] [(.int (0 : Int32)), (.int (0 : Int32))])) _
    refine XS.icmpNo X3.here hx rfl (hb hby at_45) rfl (teq rfl).2 ?_
    show Steps p.tables e below (T3.setTop (mkF m 48 #[.val (.int p1), .val (.int (p1 &&& (3 : Int32))), .val (.ref wE), .val (.int (0 : Int32))] [])) _
    refine XS.iconst X3.here hx rfl (hb hby at_48) ?_
    show Steps p.tables e below (T3.setTop (mkF m 49 #[.val (.int p1), .val (.int (p1 &&& (3 : Int32))), .val (.ref wE), .val (.int (0 : Int32))] [(.int (1 : Int32))])) _
    refine XS.goto X3.here hx rfl (pc0 := 49) (pc' := 53) rfl (hb hby at_49) (by decide) (by decide) ?_
    show Steps p.tables e below (T3.setTop (mkF m 53 #[.val (.int p1), .val (.int (p1 &&& (3 : Int32))), .val (.ref wE), .val (.int (0 : Int32))] [(.int (1 : Int32))])) _
    exact retN X3 hx (t := .boolean) Bd.returns (by simp) (hb hby at_53) hr
  · show Q0E Z p1 h0 n0 _ T3.heap _
    exact ⟨rfl, N3⟩
def Q0A (Z : State) (p1 : Int32) (h0 : Heap) (n0 : Nat) (v : Option Value) (h : Heap) (L : List Loc) : Prop := v = some (.int (1 : Int32)) ∧ Fr n0 L
set_option maxRecDepth 65536 in
set_option maxHeartbeats 40000000 in
theorem rm0A (l : Launch) (Z : State) (a0 : Array Value) (hw : ∀ d ∈ tables_1, d.before a0 Z = true) (ws : List Jvm.Cond) (p1 : Int32) (wV : Addr) (wE : Addr) (wA : Addr) (wO : Addr) (h0 : Heap) (n0 : Nat) (Z0 : n0 ≤ h0.size) (SV : Sta Z h0 "fourfold/model/UserType" "VIEWER" "Lfourfold/model/UserType;" (.ref wV)) (EV : Exa Z h0 wV "fourfold/model/UserType") (SE : Sta Z h0 "fourfold/model/UserType" "EDITOR" "Lfourfold/model/UserType;" (.ref wE)) (EE : Exa Z h0 wE "fourfold/model/UserType") (SA : Sta Z h0 "fourfold/model/UserType" "ADMINISTRATOR" "Lfourfold/model/UserType;" (.ref wA)) (EA : Exa Z h0 wA "fourfold/model/UserType") (SO : Sta Z h0 "fourfold/model/UserType" "OWNER" "Lfourfold/model/UserType;" (.ref wO)) (EO : Exa Z h0 wO "fourfold/model/UserType") (hVA : ¬ (wV = wA)) (hVO : ¬ (wV = wO)) (hEA : ¬ (wE = wA)) (hEO : ¬ (wE = wO)) (hOA : ¬ (wO = wA)) (hc10 : ¬ ((p1 &&& (3 : Int32)) = (0 : Int32))) (hc20 : ¬ ((p1 &&& (3 : Int32)) = (1 : Int32))) (hc30 : (p1 &&& (3 : Int32)) = (2 : Int32)) :
    MetFree l x (head1 (Jvm.Cond.code x code maxLocals ret :: ws) room_1) (fun a U => a = #[(.int p1)] ∧ Z.Warmed39 U.vm ∧ U.heap = h0) (fun _ _ _ _ _ => True) (fun _ U o U' => ∃ v L, o = .returned v ∧ Q0A Z p1 h0 n0 v U'.heap L ∧ FrameEnd U o U' L room_1.cells room_1.slots) := by
  refine MetFree.of_bodySF (plainFor_of_name pn_0) hisR ?_
  intro p e s m args below meth c s₁ Bd hml0 hP hK
  obtain ⟨rfl, hZ, hh⟩ := hP
  have hx := Bd.exec
  have hby := Bd.bytes
  have hml : c.maxLocals = 4 := hml0
  have hown : s.vm.findClass "fourfold/model/UserTypeAdministersPinLaw" = some m.cls := findClass_of_methodNamed Bd.named
  have hnm := (name_of_methodNamed Bd.named Bd.method).1
  have X0 : Stand p l e room_1 s m #[(.int p1)] below meth c s₁ [] 0 0 := Stand.of_body Bd
  have e0 : s₁.heap = h0 := by rw [← hh, Bd.state]; rfl
  have N0 := Fr.nil n0
  have pre0 : ∀ t, Steps p.tables e below (s₁.setTop (mkF m 0 #[.val (.int p1), .unset, .unset, .unset] [])) t → Steps p.tables e below (s₁.setTop (entryFrame m #[(.int p1)] maxLocals)) t := fun t k => castTop (ef_0 m p1) k
  -- 3. LAWS
  -- pc 5: fourfold/model/UserTypeAdministersPinLaw.pick by its contract rm1
  obtain ⟨_, _, ⟨T2, L2, k2, n2⟩, -, X2, ⟨Lc2, hQ2, l2, y2, z2⟩, st2⟩ := Jvm.LawKit.callS X0 hx (y := (⟨"fourfold/model/UserTypeAdministersPinLaw", "pick", "(I)Lfourfold/model/UserType;"⟩ : MethodName)) hown (mvT hZ (hw _ (List.mem_of_getElem? (i := 0) rfl))) (mvT hZ (hw _ (List.mem_of_getElem? (i := 1) rfl))) (mvT hZ (hw _ (List.mem_of_getElem? (i := 2) rfl))) (mvT hZ (hw _ (List.mem_of_getElem? (i := 3) rfl))) (by decide) (backOf (W := 0) (rm1A l Z a0 hw [] (p1 &&& (3 : Int32)) wA h0 n0 Z0 SA hc10 hc20 hc30) hZ (hw _ (List.mem_of_getElem? (i := 3) rfl)) (hw _ (List.mem_of_getElem? (i := 2) rfl)) (by decide) (by decide)) (g := (mkF m 5 #[.val (.int p1), .val (.int (p1 &&& (3 : Int32))), .unset, .unset] [(.int (p1 &&& (3 : Int32)))])) rfl (by rw [hml]; rfl) (argsL := [(.int (p1 &&& (3 : Int32)))]) (rest := []) (lenOf pd_0_0 rfl) rfl (by show 2 * 0 + _ ≤ _; exact Nat.le_of_eq rfl) (hb hby at_5) (fun _ _ => ⟨rfl, e0, (by decide : 0 + 0 ≤ _), (by decide : 0 + 0 ≤ _)⟩)
  dsimp only [Pt.U, Pt.locs, Pt.cells, Pt.slots] at X2 l2 y2 z2 st2 hQ2
  subst l2 y2 z2
  obtain ⟨rfl, N2q, eq2⟩ := hQ2
  have Kc2 : Keep h0 T2.heap [] := own_same eq2
  have O2 : Ext h0 T2.heap := own_ext Kc2
  have Z2 : n0 ≤ T2.heap.size := Nat.le_trans Z0 Kc2.1      -- what it returned, that it wrote nothing old, and the rest of your Q1
  have N2 := Fr.app N0 N2q
  -- pc 41: fourfold/model/UserType.administers by the contract of the body that the receiver's class selects, rm2
  -- ✋ yours, out of the call's Q: E_wA : Exa Z h0 wA "fourfold/model/UserType"
  obtain ⟨cq3, kq3, q3a, q3b, q3c⟩ := isOf hZ rfl (EA.keep Kc2)
  obtain ⟨_, _, ⟨T3, L3, k3, n3⟩, -, X3, ⟨Lc3, hQ3, l3, y3, z3⟩, st3⟩ := X2.virtualBack hx (y := (⟨"fourfold/model/UserType", "administers", "()Z"⟩ : MethodName)) (z := (⟨"fourfold/model/UserType", "administers", "()Z"⟩ : MethodName)) hown (mvT hZ (hw _ (List.mem_of_getElem? (i := 7) rfl))) (mvT hZ (hw _ (List.mem_of_getElem? (i := 8) rfl))) (notFace_of_selects (args := #[]) (mvT hZ (hw _ (List.mem_of_getElem? (i := 10) rfl)))) (mvT hZ (hw _ (List.mem_of_getElem? (i := 10) rfl))) (mvT hZ (hw _ (List.mem_of_getElem? (i := 9) rfl))) (by decide) (backOf (W := 0) (rm2A l Z a0 hw [] wA wA T2.heap n0 Z2 (SA.ext O2) rfl) hZ (hw _ (List.mem_of_getElem? (i := 11) rfl)) (hw _ (List.mem_of_getElem? (i := 5) rfl)) (by decide) (by decide)) q3a q3c (g := (mkF m 41 #[.val (.int p1), .val (.int (p1 &&& (3 : Int32))), .val (.ref wA), .val (.int (1 : Int32))] [(.ref wA)])) rfl (by rw [hml]; rfl) (Steps.refl _) (argsL := []) (rest := []) (lenOf pd_0_1 rfl) rfl (by show 2 * 0 + _ ≤ _; exact Nat.le_of_eq rfl) (hb hby at_41) (fun _ _ => ⟨rfl, rfl, (by decide : 0 + 0 ≤ _), (by decide : 0 + 0 ≤ _)⟩)
  dsimp only [Pt.U, Pt.locs, Pt.cells, Pt.slots] at X3 l3 y3 z3 st3 hQ3
  subst l3 y3 z3
  obtain ⟨rfl, N3q, eq3⟩ := hQ3      -- what it returned, that it wrote nothing old, and the rest of your Q2
  have N3 := Fr.app N2 N3q
  obtain ⟨fs, hr, hrun, hended, hW, hsame⟩ := X3.leave (v := some (.int (1 : Int32))) (fun h => by rw [Bd.returns] at h; cases h)
  refine ⟨_, _, pre0 _ ?_, hrun, hended, _, _, rfl, ?_, ⟨_, rfl⟩, hW, hsame.mono (by decide) (by decide)⟩
  -- 4. STEPS
  · show Steps p.tables e below (s₁.setTop (mkF m 0 #[.val (.int p1), .unset, .unset, .unset] [])) _
    refine XS.iloadN X0.here hx rfl (hb hby at_0) rfl ?_
    show Steps p.tables e below (s₁.setTop (mkF m 1 #[.val (.int p1), .unset, .unset, .unset] [(.int p1)])) _
    refine XS.iconst X0.here hx rfl (hb hby at_1) ?_
    show Steps p.tables e below (s₁.setTop (mkF m 2 #[.val (.int p1), .unset, .unset, .unset] [(.int (3 : Int32)), (.int p1)])) _
    refine XS.iand X0.here hx rfl (hb hby at_2) rfl ?_
    show Steps p.tables e below (s₁.setTop (mkF m 3 #[.val (.int p1), .unset, .unset, .unset] [(.int (p1 &&& (3 : Int32)))])) _
    refine XS.istoreN X0.here hx rfl (hb hby at_3) rfl (l' := #[.val (.int p1), .val (.int (p1 &&& (3 : Int32))), .unset, .unset]) rfl ?_
    show Steps p.tables e below (s₁.setTop (mkF m 4 #[.val (.int p1), .val (.int (p1 &&& (3 : Int32))), .unset, .unset] [])) _
    refine XS.iloadN X0.here hx rfl (hb hby at_4) rfl ?_
    show Steps p.tables e below (s₁.setTop (mkF m 5 #[.val (.int p1), .val (.int (p1 &&& (3 : Int32))), .unset, .unset] [(.int (p1 &&& (3 : Int32)))])) _
    refine st2 _ ?_
    show Steps p.tables e below (T2.setTop (mkF m 8 #[.val (.int p1), .val (.int (p1 &&& (3 : Int32))), .unset, .unset] [(.ref wA)])) _
    refine XS.astoreN X2.here hx rfl (hb hby at_8) rfl rfl (l' := #[.val (.int p1), .val (.int (p1 &&& (3 : Int32))), .val (.ref wA), .unset]) rfl ?_
    show Steps p.tables e below (T2.setTop (mkF m 9 #[.val (.int p1), .val (.int (p1 &&& (3 : Int32))), .val (.ref wA), .unset] [])) _
    refine XS.iloadN X2.here hx rfl (hb hby at_9) rfl ?_
    show Steps p.tables e below (T2.setTop (mkF m 10 #[.val (.int p1), .val (.int (p1 &&& (3 : Int32))), .val (.ref wA), .unset] [(.int (p1 &&& (3 : Int32)))])) _
    refine XS.ifYes X2.here hx rfl (pc0 := 10) (pc' := 18) rfl (hb hby at_10) rfl ((if0 _ _).trans (feq hc10).2) (by decide) (by decide) ?_
    show Steps p.tables e below (T2.setTop (mkF m 18 #[.val (.int p1), .val (.int (p1 &&& (3 : Int32))), .val (.ref wA), .unset] [])) _
    refine XS.iloadN X2.here hx rfl (hb hby at_18) rfl ?_
    show Steps p.tables e below (T2.setTop (mkF m 19 #[.val (.int p1), .val (.int (p1 &&& (3 : Int32))), .val (.ref wA), .unset] [(.int (p1 &&& (3 : Int32)))])) _
    refine XS.iconst X2.here hx rfl (hb hby at_19) ?_
    show Steps p.tables e below (T2.setTop (mkF m 20 #[.val (.int p1), .val (.int (p1 &&& (3 : Int32))), .val (.ref wA), .unset] [(.int (1 : Int32)), (.int (p1 &&& (3 : Int32)))])) _
    refine XS.icmpYes X2.here hx rfl (pc0 := 20) (pc' := 28) rfl (hb hby at_20) rfl (feq hc20).2 (by decide) (by decide) ?_
    show Steps p.tables e below (T2.setTop (mkF m 28 #[.val (.int p1), .val (.int (p1 &&& (3 : Int32))), .val (.ref wA), .unset] [])) _
    refine XS.iloadN X2.here hx rfl (hb hby at_28) rfl ?_
    show Steps p.tables e below (T2.setTop (mkF m 29 #[.val (.int p1), .val (.int (p1 &&& (3 : Int32))), .val (.ref wA), .unset] [(.int (p1 &&& (3 : Int32)))])) _
    refine XS.iconst X2.here hx rfl (hb hby at_29) ?_
    show Steps p.tables e below (T2.setTop (mkF m 30 #[.val (.int p1), .val (.int (p1 &&& (3 : Int32))), .val (.ref wA), .unset] [(.int (2 : Int32)), (.int (p1 &&& (3 : Int32)))])) _
    refine XS.icmpNo X2.here hx rfl (hb hby at_30) rfl (teq hc30).2 ?_
    show Steps p.tables e below (T2.setTop (mkF m 33 #[.val (.int p1), .val (.int (p1 &&& (3 : Int32))), .val (.ref wA), .unset] [])) _
    refine XS.iconst X2.here hx rfl (hb hby at_33) ?_
    show Steps p.tables e below (T2.setTop (mkF m 34 #[.val (.int p1), .val (.int (p1 &&& (3 : Int32))), .val (.ref wA), .unset] [(.int (1 : Int32))])) _
    refine XS.istoreN X2.here hx rfl (hb hby at_34) rfl (l' := #[.val (.int p1), .val (.int (p1 &&& (3 : Int32))), .val (.ref wA), .val (.int (1 : Int32))]) rfl ?_
    show Steps p.tables e below (T2.setTop (mkF m 35 #[.val (.int p1), .val (.int (p1 &&& (3 : Int32))), .val (.ref wA), .val (.int (1 : Int32))] [])) _
    refine XS.goto X2.here hx rfl (pc0 := 35) (pc' := 40) rfl (hb hby at_35) (by decide) (by decide) ?_
    show Steps p.tables e below (T2.setTop (mkF m 40 #[.val (.int p1), .val (.int (p1 &&& (3 : Int32))), .val (.ref wA), .val (.int (1 : Int32))] [])) _
    refine XS.aloadN X2.here hx rfl (hb hby at_40) rfl rfl ?_
    show Steps p.tables e below (T2.setTop (mkF m 41 #[.val (.int p1), .val (.int (p1 &&& (3 : Int32))), .val (.ref wA), .val (.int (1 : Int32))] [(.ref wA)])) _
    refine st3.trans ?_
    show Steps p.tables e below (T3.setTop (mkF m 44 #[.val (.int p1), .val (.int (p1 &&& (3 : Int32))), .val (.ref wA), .val (.int (1 : Int32))] [(.int (1 : Int32))])) _
    refine XS.iloadN X3.here hx rfl (hb hby at_44) rfl ?_
    show Steps p.tables e below (T3.setTop (mkF m 45 #[.val (.int p1), .val (.int (p1 &&& (3 : Int32))), .val (.ref wA), .val (.int (1 : Int32))] [(.int (1 : Int32)), (.int (1 : Int32))])) _
    refine XS.icmpNo X3.here hx rfl (hb hby at_45) rfl (teq rfl).2 ?_
    show Steps p.tables e below (T3.setTop (mkF m 48 #[.val (.int p1), .val (.int (p1 &&& (3 : Int32))), .val (.ref wA), .val (.int (1 : Int32))] [])) _
    refine XS.iconst X3.here hx rfl (hb hby at_48) ?_
    show Steps p.tables e below (T3.setTop (mkF m 49 #[.val (.int p1), .val (.int (p1 &&& (3 : Int32))), .val (.ref wA), .val (.int (1 : Int32))] [(.int (1 : Int32))])) _
    refine XS.goto X3.here hx rfl (pc0 := 49) (pc' := 53) rfl (hb hby at_49) (by decide) (by decide) ?_
    show Steps p.tables e below (T3.setTop (mkF m 53 #[.val (.int p1), .val (.int (p1 &&& (3 : Int32))), .val (.ref wA), .val (.int (1 : Int32))] [(.int (1 : Int32))])) _
    exact retN X3 hx (t := .boolean) Bd.returns (by simp) (hb hby at_53) hr
  · show Q0A Z p1 h0 n0 _ T3.heap _
    exact ⟨rfl, N3⟩
def Q0O (Z : State) (p1 : Int32) (h0 : Heap) (n0 : Nat) (v : Option Value) (h : Heap) (L : List Loc) : Prop := v = some (.int (1 : Int32)) ∧ Fr n0 L
set_option maxRecDepth 65536 in
set_option maxHeartbeats 40000000 in
theorem rm0O (l : Launch) (Z : State) (a0 : Array Value) (hw : ∀ d ∈ tables_1, d.before a0 Z = true) (ws : List Jvm.Cond) (p1 : Int32) (wV : Addr) (wE : Addr) (wA : Addr) (wO : Addr) (h0 : Heap) (n0 : Nat) (Z0 : n0 ≤ h0.size) (SV : Sta Z h0 "fourfold/model/UserType" "VIEWER" "Lfourfold/model/UserType;" (.ref wV)) (EV : Exa Z h0 wV "fourfold/model/UserType") (SE : Sta Z h0 "fourfold/model/UserType" "EDITOR" "Lfourfold/model/UserType;" (.ref wE)) (EE : Exa Z h0 wE "fourfold/model/UserType") (SA : Sta Z h0 "fourfold/model/UserType" "ADMINISTRATOR" "Lfourfold/model/UserType;" (.ref wA)) (EA : Exa Z h0 wA "fourfold/model/UserType") (SO : Sta Z h0 "fourfold/model/UserType" "OWNER" "Lfourfold/model/UserType;" (.ref wO)) (EO : Exa Z h0 wO "fourfold/model/UserType") (hVA : ¬ (wV = wA)) (hVO : ¬ (wV = wO)) (hEA : ¬ (wE = wA)) (hEO : ¬ (wE = wO)) (hOA : ¬ (wO = wA)) (hc10 : ¬ ((p1 &&& (3 : Int32)) = (0 : Int32))) (hc20 : ¬ ((p1 &&& (3 : Int32)) = (1 : Int32))) (hc30 : ¬ ((p1 &&& (3 : Int32)) = (2 : Int32))) :
    MetFree l x (head1 (Jvm.Cond.code x code maxLocals ret :: ws) room_1) (fun a U => a = #[(.int p1)] ∧ Z.Warmed39 U.vm ∧ U.heap = h0) (fun _ _ _ _ _ => True) (fun _ U o U' => ∃ v L, o = .returned v ∧ Q0O Z p1 h0 n0 v U'.heap L ∧ FrameEnd U o U' L room_1.cells room_1.slots) := by
  refine MetFree.of_bodySF (plainFor_of_name pn_0) hisR ?_
  intro p e s m args below meth c s₁ Bd hml0 hP hK
  obtain ⟨rfl, hZ, hh⟩ := hP
  have hx := Bd.exec
  have hby := Bd.bytes
  have hml : c.maxLocals = 4 := hml0
  have hown : s.vm.findClass "fourfold/model/UserTypeAdministersPinLaw" = some m.cls := findClass_of_methodNamed Bd.named
  have hnm := (name_of_methodNamed Bd.named Bd.method).1
  have X0 : Stand p l e room_1 s m #[(.int p1)] below meth c s₁ [] 0 0 := Stand.of_body Bd
  have e0 : s₁.heap = h0 := by rw [← hh, Bd.state]; rfl
  have N0 := Fr.nil n0
  have pre0 : ∀ t, Steps p.tables e below (s₁.setTop (mkF m 0 #[.val (.int p1), .unset, .unset, .unset] [])) t → Steps p.tables e below (s₁.setTop (entryFrame m #[(.int p1)] maxLocals)) t := fun t k => castTop (ef_0 m p1) k
  -- 3. LAWS
  -- pc 5: fourfold/model/UserTypeAdministersPinLaw.pick by its contract rm1
  obtain ⟨_, _, ⟨T2, L2, k2, n2⟩, -, X2, ⟨Lc2, hQ2, l2, y2, z2⟩, st2⟩ := Jvm.LawKit.callS X0 hx (y := (⟨"fourfold/model/UserTypeAdministersPinLaw", "pick", "(I)Lfourfold/model/UserType;"⟩ : MethodName)) hown (mvT hZ (hw _ (List.mem_of_getElem? (i := 0) rfl))) (mvT hZ (hw _ (List.mem_of_getElem? (i := 1) rfl))) (mvT hZ (hw _ (List.mem_of_getElem? (i := 2) rfl))) (mvT hZ (hw _ (List.mem_of_getElem? (i := 3) rfl))) (by decide) (backOf (W := 0) (rm1O l Z a0 hw [] (p1 &&& (3 : Int32)) wO h0 n0 Z0 SO hc10 hc20 hc30) hZ (hw _ (List.mem_of_getElem? (i := 3) rfl)) (hw _ (List.mem_of_getElem? (i := 2) rfl)) (by decide) (by decide)) (g := (mkF m 5 #[.val (.int p1), .val (.int (p1 &&& (3 : Int32))), .unset, .unset] [(.int (p1 &&& (3 : Int32)))])) rfl (by rw [hml]; rfl) (argsL := [(.int (p1 &&& (3 : Int32)))]) (rest := []) (lenOf pd_0_0 rfl) rfl (by show 2 * 0 + _ ≤ _; exact Nat.le_of_eq rfl) (hb hby at_5) (fun _ _ => ⟨rfl, e0, (by decide : 0 + 0 ≤ _), (by decide : 0 + 0 ≤ _)⟩)
  dsimp only [Pt.U, Pt.locs, Pt.cells, Pt.slots] at X2 l2 y2 z2 st2 hQ2
  subst l2 y2 z2
  obtain ⟨rfl, N2q, eq2⟩ := hQ2
  have Kc2 : Keep h0 T2.heap [] := own_same eq2
  have O2 : Ext h0 T2.heap := own_ext Kc2
  have Z2 : n0 ≤ T2.heap.size := Nat.le_trans Z0 Kc2.1      -- what it returned, that it wrote nothing old, and the rest of your Q1
  have N2 := Fr.app N0 N2q
  -- pc 41: fourfold/model/UserType.administers by the contract of the body that the receiver's class selects, rm2
  -- ✋ yours, out of the call's Q: E_wO : Exa Z h0 wO "fourfold/model/UserType"
  obtain ⟨cq3, kq3, q3a, q3b, q3c⟩ := isOf hZ rfl (EO.keep Kc2)
  obtain ⟨_, _, ⟨T3, L3, k3, n3⟩, -, X3, ⟨Lc3, hQ3, l3, y3, z3⟩, st3⟩ := X2.virtualBack hx (y := (⟨"fourfold/model/UserType", "administers", "()Z"⟩ : MethodName)) (z := (⟨"fourfold/model/UserType", "administers", "()Z"⟩ : MethodName)) hown (mvT hZ (hw _ (List.mem_of_getElem? (i := 7) rfl))) (mvT hZ (hw _ (List.mem_of_getElem? (i := 8) rfl))) (notFace_of_selects (args := #[]) (mvT hZ (hw _ (List.mem_of_getElem? (i := 10) rfl)))) (mvT hZ (hw _ (List.mem_of_getElem? (i := 10) rfl))) (mvT hZ (hw _ (List.mem_of_getElem? (i := 9) rfl))) (by decide) (backOf (W := 0) (rm2O l Z a0 hw [] wO wA wO T2.heap n0 Z2 (SA.ext O2) (SO.ext O2) hOA rfl) hZ (hw _ (List.mem_of_getElem? (i := 11) rfl)) (hw _ (List.mem_of_getElem? (i := 5) rfl)) (by decide) (by decide)) q3a q3c (g := (mkF m 41 #[.val (.int p1), .val (.int (p1 &&& (3 : Int32))), .val (.ref wO), .val (.int (1 : Int32))] [(.ref wO)])) rfl (by rw [hml]; rfl) (Steps.refl _) (argsL := []) (rest := []) (lenOf pd_0_1 rfl) rfl (by show 2 * 0 + _ ≤ _; exact Nat.le_of_eq rfl) (hb hby at_41) (fun _ _ => ⟨rfl, rfl, (by decide : 0 + 0 ≤ _), (by decide : 0 + 0 ≤ _)⟩)
  dsimp only [Pt.U, Pt.locs, Pt.cells, Pt.slots] at X3 l3 y3 z3 st3 hQ3
  subst l3 y3 z3
  obtain ⟨rfl, N3q, eq3⟩ := hQ3      -- what it returned, that it wrote nothing old, and the rest of your Q2
  have N3 := Fr.app N2 N3q
  obtain ⟨fs, hr, hrun, hended, hW, hsame⟩ := X3.leave (v := some (.int (1 : Int32))) (fun h => by rw [Bd.returns] at h; cases h)
  refine ⟨_, _, pre0 _ ?_, hrun, hended, _, _, rfl, ?_, ⟨_, rfl⟩, hW, hsame.mono (by decide) (by decide)⟩
  -- 4. STEPS
  · show Steps p.tables e below (s₁.setTop (mkF m 0 #[.val (.int p1), .unset, .unset, .unset] [])) _
    refine XS.iloadN X0.here hx rfl (hb hby at_0) rfl ?_
    show Steps p.tables e below (s₁.setTop (mkF m 1 #[.val (.int p1), .unset, .unset, .unset] [(.int p1)])) _
    refine XS.iconst X0.here hx rfl (hb hby at_1) ?_
    show Steps p.tables e below (s₁.setTop (mkF m 2 #[.val (.int p1), .unset, .unset, .unset] [(.int (3 : Int32)), (.int p1)])) _
    refine XS.iand X0.here hx rfl (hb hby at_2) rfl ?_
    show Steps p.tables e below (s₁.setTop (mkF m 3 #[.val (.int p1), .unset, .unset, .unset] [(.int (p1 &&& (3 : Int32)))])) _
    refine XS.istoreN X0.here hx rfl (hb hby at_3) rfl (l' := #[.val (.int p1), .val (.int (p1 &&& (3 : Int32))), .unset, .unset]) rfl ?_
    show Steps p.tables e below (s₁.setTop (mkF m 4 #[.val (.int p1), .val (.int (p1 &&& (3 : Int32))), .unset, .unset] [])) _
    refine XS.iloadN X0.here hx rfl (hb hby at_4) rfl ?_
    show Steps p.tables e below (s₁.setTop (mkF m 5 #[.val (.int p1), .val (.int (p1 &&& (3 : Int32))), .unset, .unset] [(.int (p1 &&& (3 : Int32)))])) _
    refine st2 _ ?_
    show Steps p.tables e below (T2.setTop (mkF m 8 #[.val (.int p1), .val (.int (p1 &&& (3 : Int32))), .unset, .unset] [(.ref wO)])) _
    refine XS.astoreN X2.here hx rfl (hb hby at_8) rfl rfl (l' := #[.val (.int p1), .val (.int (p1 &&& (3 : Int32))), .val (.ref wO), .unset]) rfl ?_
    show Steps p.tables e below (T2.setTop (mkF m 9 #[.val (.int p1), .val (.int (p1 &&& (3 : Int32))), .val (.ref wO), .unset] [])) _
    refine XS.iloadN X2.here hx rfl (hb hby at_9) rfl ?_
    show Steps p.tables e below (T2.setTop (mkF m 10 #[.val (.int p1), .val (.int (p1 &&& (3 : Int32))), .val (.ref wO), .unset] [(.int (p1 &&& (3 : Int32)))])) _
    refine XS.ifYes X2.here hx rfl (pc0 := 10) (pc' := 18) rfl (hb hby at_10) rfl ((if0 _ _).trans (feq hc10).2) (by decide) (by decide) ?_
    show Steps p.tables e below (T2.setTop (mkF m 18 #[.val (.int p1), .val (.int (p1 &&& (3 : Int32))), .val (.ref wO), .unset] [])) _
    refine XS.iloadN X2.here hx rfl (hb hby at_18) rfl ?_
    show Steps p.tables e below (T2.setTop (mkF m 19 #[.val (.int p1), .val (.int (p1 &&& (3 : Int32))), .val (.ref wO), .unset] [(.int (p1 &&& (3 : Int32)))])) _
    refine XS.iconst X2.here hx rfl (hb hby at_19) ?_
    show Steps p.tables e below (T2.setTop (mkF m 20 #[.val (.int p1), .val (.int (p1 &&& (3 : Int32))), .val (.ref wO), .unset] [(.int (1 : Int32)), (.int (p1 &&& (3 : Int32)))])) _
    refine XS.icmpYes X2.here hx rfl (pc0 := 20) (pc' := 28) rfl (hb hby at_20) rfl (feq hc20).2 (by decide) (by decide) ?_
    show Steps p.tables e below (T2.setTop (mkF m 28 #[.val (.int p1), .val (.int (p1 &&& (3 : Int32))), .val (.ref wO), .unset] [])) _
    refine XS.iloadN X2.here hx rfl (hb hby at_28) rfl ?_
    show Steps p.tables e below (T2.setTop (mkF m 29 #[.val (.int p1), .val (.int (p1 &&& (3 : Int32))), .val (.ref wO), .unset] [(.int (p1 &&& (3 : Int32)))])) _
    refine XS.iconst X2.here hx rfl (hb hby at_29) ?_
    show Steps p.tables e below (T2.setTop (mkF m 30 #[.val (.int p1), .val (.int (p1 &&& (3 : Int32))), .val (.ref wO), .unset] [(.int (2 : Int32)), (.int (p1 &&& (3 : Int32)))])) _
    refine XS.icmpYes X2.here hx rfl (pc0 := 30) (pc' := 38) rfl (hb hby at_30) rfl (feq hc30).2 (by decide) (by decide) ?_
    show Steps p.tables e below (T2.setTop (mkF m 38 #[.val (.int p1), .val (.int (p1 &&& (3 : Int32))), .val (.ref wO), .unset] [])) _
    refine XS.iconst X2.here hx rfl (hb hby at_38) ?_
    show Steps p.tables e below (T2.setTop (mkF m 39 #[.val (.int p1), .val (.int (p1 &&& (3 : Int32))), .val (.ref wO), .unset] [(.int (1 : Int32))])) _
    refine XS.istoreN X2.here hx rfl (hb hby at_39) rfl (l' := #[.val (.int p1), .val (.int (p1 &&& (3 : Int32))), .val (.ref wO), .val (.int (1 : Int32))]) rfl ?_
    show Steps p.tables e below (T2.setTop (mkF m 40 #[.val (.int p1), .val (.int (p1 &&& (3 : Int32))), .val (.ref wO), .val (.int (1 : Int32))] [])) _
    refine XS.aloadN X2.here hx rfl (hb hby at_40) rfl rfl ?_
    show Steps p.tables e below (T2.setTop (mkF m 41 #[.val (.int p1), .val (.int (p1 &&& (3 : Int32))), .val (.ref wO), .val (.int (1 : Int32))] [(.ref wO)])) _
    refine st3.trans ?_
    show Steps p.tables e below (T3.setTop (mkF m 44 #[.val (.int p1), .val (.int (p1 &&& (3 : Int32))), .val (.ref wO), .val (.int (1 : Int32))] [(.int (1 : Int32))])) _
    refine XS.iloadN X3.here hx rfl (hb hby at_44) rfl ?_
    show Steps p.tables e below (T3.setTop (mkF m 45 #[.val (.int p1), .val (.int (p1 &&& (3 : Int32))), .val (.ref wO), .val (.int (1 : Int32))] [(.int (1 : Int32)), (.int (1 : Int32))])) _
    refine XS.icmpNo X3.here hx rfl (hb hby at_45) rfl (teq rfl).2 ?_
    show Steps p.tables e below (T3.setTop (mkF m 48 #[.val (.int p1), .val (.int (p1 &&& (3 : Int32))), .val (.ref wO), .val (.int (1 : Int32))] [])) _
    refine XS.iconst X3.here hx rfl (hb hby at_48) ?_
    show Steps p.tables e below (T3.setTop (mkF m 49 #[.val (.int p1), .val (.int (p1 &&& (3 : Int32))), .val (.ref wO), .val (.int (1 : Int32))] [(.int (1 : Int32))])) _
    refine XS.goto X3.here hx rfl (pc0 := 49) (pc' := 53) rfl (hb hby at_49) (by decide) (by decide) ?_
    show Steps p.tables e below (T3.setTop (mkF m 53 #[.val (.int p1), .val (.int (p1 &&& (3 : Int32))), .val (.ref wO), .val (.int (1 : Int32))] [(.int (1 : Int32))])) _
    exact retN X3 hx (t := .boolean) Bd.returns (by simp) (hb hby at_53) hr
  · show Q0O Z p1 h0 n0 _ T3.heap _
    exact ⟨rfl, N3⟩
set_option maxRecDepth 65536 in
set_option maxHeartbeats 40000000 in
theorem rm0 (l : Launch) (Z : State) (a0 : Array Value) (hw : ∀ d ∈ tables_1, d.before a0 Z = true) (ws : List Jvm.Cond) (p1 : Int32) (wV : Addr) (wE : Addr) (wA : Addr) (wO : Addr) (h0 : Heap) (n0 : Nat) (Z0 : n0 ≤ h0.size) (SV : Sta Z h0 "fourfold/model/UserType" "VIEWER" "Lfourfold/model/UserType;" (.ref wV)) (EV : Exa Z h0 wV "fourfold/model/UserType") (SE : Sta Z h0 "fourfold/model/UserType" "EDITOR" "Lfourfold/model/UserType;" (.ref wE)) (EE : Exa Z h0 wE "fourfold/model/UserType") (SA : Sta Z h0 "fourfold/model/UserType" "ADMINISTRATOR" "Lfourfold/model/UserType;" (.ref wA)) (EA : Exa Z h0 wA "fourfold/model/UserType") (SO : Sta Z h0 "fourfold/model/UserType" "OWNER" "Lfourfold/model/UserType;" (.ref wO)) (EO : Exa Z h0 wO "fourfold/model/UserType") (hVA : ¬ (wV = wA)) (hVO : ¬ (wV = wO)) (hEA : ¬ (wE = wA)) (hEO : ¬ (wE = wO)) (hOA : ¬ (wO = wA)) :
    MetFree l x (head1 (Jvm.Cond.code x code maxLocals ret :: ws) room_1) (fun a U => a = #[(.int p1)] ∧ Z.Warmed39 U.vm ∧ U.heap = h0) (fun _ _ _ _ _ => True) (fun _ U o U' => ∃ v L, o = .returned v ∧ (v = some (.int (1 : Int32)) ∧ Fr n0 L) ∧ FrameEnd U o U' L room_1.cells room_1.slots) := by
  by_cases q0 : (p1 &&& (3 : Int32)) = (0 : Int32)
  · exact rm0V l Z a0 hw ws p1 wV wE wA wO h0 n0 Z0 SV EV SE EE SA EA SO EO hVA hVO hEA hEO hOA q0
  by_cases q1 : (p1 &&& (3 : Int32)) = (1 : Int32)
  · exact rm0E l Z a0 hw ws p1 wV wE wA wO h0 n0 Z0 SV EV SE EE SA EA SO EO hVA hVO hEA hEO hOA q0 q1
  by_cases q2 : (p1 &&& (3 : Int32)) = (2 : Int32)
  · exact rm0A l Z a0 hw ws p1 wV wE wA wO h0 n0 Z0 SV EV SE EE SA EA SO EO hVA hVO hEA hEO hOA q0 q1 q2
  · exact rm0O l Z a0 hw ws p1 wV wE wA wO h0 n0 Z0 SV EV SE EE SA EA SO EO hVA hVO hEA hEO hOA q0 q1 q2
set_option maxRecDepth 65536 in
set_option maxHeartbeats 40000000 in
theorem comes_1 {Post : Tables → Env → Array Value → State → Outcome → State → Prop} (hpost : ∀ tb e args s v u, (limb_1_1.after args s (.returned v) u = true ∧ limb_1_2.after args s (.returned v) u = true ∧ True) → FrameEnd s (.returned v) u (Jvm.fieldLocs frame_1_writes args s ++ Jvm.arrayLocs frame_1_arrays args s ++ Jvm.staticLocs frame_1_statics s) 0 0 → Post tb e args s (.returned v) u) :
    ArmFor flags0 classFile x code maxLocals ret World_1 tables_1 room_1 Calls_1 rest_1 Pre_1 Post := by
  intro l hfl _ _ p e ha hc hk s m args below hf hA hF happ hP
  obtain ⟨hcalls, hrest, hpre⟩ := hP
  obtain ⟨-, -, -, hnamed, -, -, -, hat⟩ := (Spec.applies_iff hf).mp happ
  obtain ⟨hg, hn⟩ := and_e (Cond.before_iff.mp (show (Jvm.Cond.and given_1 narrow_1).before args s = true from hpre))
  obtain ⟨g4, g5⟩ := and_e hg
  obtain ⟨w0, rfl⟩ : ∃ w0 : Value, args = #[w0] := by
    have hs : args.size = 1 := by simpa [Cond.value, given_1] using g4
    obtain ⟨L⟩ := args
    match L, hs with
    | [w0], _ => exact ⟨w0, rfl⟩
  have hw := fun d (hd : d ∈ tables_1) => atoms_spec (ws := Jvm.Cond.code x code maxLocals ret :: tables_1) hat d (List.mem_cons_of_mem _ hd)
  have hfit : Fit s := fun {y c} hc i hi => by
    obtain ⟨ha, rfl⟩ := Array.getElem?_eq_some_iff.mp hc
    have q := List.all_eq_true.mp ((Array.all_eq_true_iff_forall_mem.mp hF) _ (Array.getElem_mem ha)) i (List.mem_range.mpr hi)
    simpa [Array.getElem?_eq_getElem hi] using q
  obtain ⟨i0, ei0⟩ := is_v g5
  obtain rfl : w0 = (.int i0) := Option.some.inj ei0
  obtain ⟨k_EV, r0⟩ := and_e hn
  obtain ⟨k_EA, r1⟩ := and_e r0
  obtain ⟨k_oV, r2⟩ := and_e r1
  obtain ⟨k_oA, r3⟩ := and_e r2
  obtain ⟨k_EO, r4⟩ := and_e r3
  obtain ⟨k_oO, r5⟩ := and_e r4
  obtain ⟨k_EE, r6⟩ := and_e r5
  have k_oE := r6
  obtain ⟨wV, evV⟩ := exa_v k_EV
  have SV := Sta.start evV (Or.inr ⟨hw _ (List.mem_of_getElem? (i := 5) rfl), hw _ (List.mem_of_getElem? (i := 6) rfl)⟩)
  have EV := Exa.start evV k_EV
  have FV := own_fint evV k_oV
  obtain ⟨wE, evE⟩ := exa_v k_EE
  have SE := Sta.start evE (Or.inr ⟨hw _ (List.mem_of_getElem? (i := 5) rfl), hw _ (List.mem_of_getElem? (i := 19) rfl)⟩)
  have EE := Exa.start evE k_EE
  have FE := own_fint evE k_oE
  obtain ⟨wA, evA⟩ := exa_v k_EA
  have SA := Sta.start evA (Or.inr ⟨hw _ (List.mem_of_getElem? (i := 5) rfl), hw _ (List.mem_of_getElem? (i := 13) rfl)⟩)
  have EA := Exa.start evA k_EA
  have FA := own_fint evA k_oA
  obtain ⟨wO, evO⟩ := exa_v k_EO
  have SO := Sta.start evO (Or.inr ⟨hw _ (List.mem_of_getElem? (i := 5) rfl), hw _ (List.mem_of_getElem? (i := 15) rfl)⟩)
  have EO := Exa.start evO k_EO
  have FO := own_fint evO k_oO
  obtain ⟨n, o, h1, h2, h3, _, L, rfl, ⟨rfl, N⟩, hq⟩ := rm0 l s _ hw tables_1 i0 wV wE wA wO s.heap s.heap.size (Nat.le_refl _) SV EV SE EE SA EA SO EO (own_ne FV FA (by decide)) (own_ne FV FO (by decide)) (own_ne FE FA (by decide)) (own_ne FE FO (by decide)) (own_ne FO FA (by decide)) p e ha hc hk s m _ below hf ((Spec.applies_iff_loose hf).mp happ).1 ⟨rfl, State.Warmed39.refl s, rfl⟩ trivial
  refine ⟨n, _, h1, h2, h3, hpost _ _ _ _ _ _ ⟨Cond.after_iff.mpr rfl, Cond.after_iff.mpr (eq_i res_at (Term.int_eval (1)) rfl), trivial⟩ ⟨hq.1, hq.2.1, (hq.2.2.sift fun y hy => Or.inr (N y hy)).mono (by decide) (by decide)⟩⟩
theorem main_1_1 : Claimed_1_1 := comes_1 fun _ _ _ _ _ _ h hF => ⟨h.1, hF⟩
theorem main_1_2 : Claimed_1_2 := comes_1 fun _ _ _ _ _ _ h hF => ⟨h.2.1, hF⟩
end Jvm.Pilot.@@N@@
namespace Jvm.Pilot.@@N@@
open Jvm Jvm.ClassFile Sem Op Lib Jvm.Free Jvm.Stand Jvm.Pilot.@@N@@.Jvm.D
/-! MADE BY PROGRAM (witnessworld.py) out of the Statement's table words and the real class files: 11 classes; the members and pool entries that the words name. The judged class is class 1, her method 2. -/
namespace start1
open Jvm.ClassFile
def u (s : String) : CpInfo := .utf8 (stringToUtf16 s)
/-- a pool by its gaps: so many unusable entries, then the entry; so many at the end -/
def gap : Nat → List CpInfo → List CpInfo
  | 0, r => r
  | n + 1, r => .unusable :: gap n r
def poolList (es : List (Nat × CpInfo)) (last : Nat) : List CpInfo := es.foldr (fun e r => gap e.1 (e.2 :: r)) (gap last [])
def pool (es : List (Nat × CpInfo)) (last : Nat) : Array CpInfo := ⟨poolList es last⟩
def fileOf (pool : Array CpInfo) (this : Nat) (attrs : Array Attribute := #[]) (ms : Array MethodInfo := #[]) (fl : Nat := 33) (sup : Nat := 0) (ifs : Array Nat := #[]) (fds : Array FieldInfo := #[]) : ClassFile where
  minorVersion := 0
  majorVersion := 65
  constantPool := pool
  accessFlags := fl
  thisClass := this
  superClass := sup
  interfaces := ifs
  fields := fds
  methods := ms
  attributes := attrs
def plain (name : String) (sup : Option ClassId) : Class where
  name := name
  kind := .ordinary
  loader := none
  accessFlags := 33
  super := sup
  interfaces := #[]
  cf := none
  fields := #[]
  methods := #[]
  instanceTypes := #[]
  staticTypes := #[]
  resolved := #[]
  callSites := []
  init := .initialized
  statics := none
  mirror := none

def pool0 : Array CpInfo := pool [(5, u "<init>"), (0, u "()V"), (1, .class_ 10), (1, u "java/lang/Object")] 113

def k0m0 : Method := { name := "<init>", desc := "()V", sig := { parameters := [], returnType := none }, accessFlags := 1, code := none }
/-- java/lang/Object -/
def k0 : Class := { plain "java/lang/Object" none with
  accessFlags := 33
  interfaces := #[]
  cf := some (fileOf pool0 8 #[] #[{ accessFlags := 1, nameIndex := 5, descriptorIndex := 6, attributes := #[] }] 33 0 #[] #[])
  fields := #[]
  methods := #[k0m0]
  instanceTypes := #[]
  staticTypes := #[]
  resolved := Array.replicate 124 none
  statics := none }

def pool1 : Array CpInfo := pool [(2, .class_ 4), (1, u "java/lang/Object"), (0, u "<init>"), (0, u "()V"), (0, .fieldref 8 9), (0, .class_ 10), (0, .nameAndType 11 12), (0, u "fourfold/model/UserType"), (0, u "VIEWER"), (0, u "Lfourfold/model/UserType;"), (0, .fieldref 8 14), (0, .nameAndType 15 12), (0, u "EDITOR"), (0, .fieldref 8 17), (0, .nameAndType 18 12), (0, u "ADMINISTRATOR"), (0, .fieldref 8 20), (0, .nameAndType 21 12), (0, u "OWNER"), (0, .methodref 23 24), (0, .class_ 25), (0, .nameAndType 26 27), (0, u "fourfold/model/UserTypeAdministersPinLaw"), (0, u "pick"), (0, u "(I)Lfourfold/model/UserType;"), (0, .methodref 8 29), (0, .nameAndType 30 31), (0, u "administers"), (0, u "()Z"), (3, u "law"), (0, u "(I)Z")] 2

def k1m0 : Method := { name := "<init>", desc := "()V", sig := { parameters := [], returnType := none }, accessFlags := 2, code := none }
def k1c1 : Code := { maxStack := 2, maxLocals := 1, code := method_2_code, exceptionTable := #[], attributes := #[] }
def k1m1 : Method := { name := "pick", desc := "(I)Lfourfold/model/UserType;", sig := { parameters := [.int], returnType := some (.object "fourfold/model/UserType") }, accessFlags := 10, code := some k1c1 }
def k1c2 : Code := { maxStack := 2, maxLocals := 4, code := code, exceptionTable := #[], attributes := #[] }
def k1m2 : Method := { name := "law", desc := "(I)Z", sig := { parameters := [.int], returnType := some .boolean }, accessFlags := 9, code := some k1c2 }
/-- fourfold/model/UserTypeAdministersPinLaw -/
def k1 : Class := { plain "fourfold/model/UserTypeAdministersPinLaw" (some 0) with
  accessFlags := 49
  interfaces := #[]
  cf := some (fileOf pool1 23 #[] #[{ accessFlags := 2, nameIndex := 5, descriptorIndex := 6, attributes := #[] }, { accessFlags := 10, nameIndex := 26, descriptorIndex := 27, attributes := #[] }, { accessFlags := 9, nameIndex := 35, descriptorIndex := 36, attributes := #[] }] 49 2 #[] #[])
  fields := #[]
  methods := #[k1m0, k1m1, k1m2]
  instanceTypes := #[]
  staticTypes := #[]
  resolved := Array.replicate 39 none
  statics := none }

def pool2 : Array CpInfo := pool [(1, .class_ 2), (0, u "java/lang/constant/Constable"), (0, .class_ 4), (0, u "java/lang/Object")] 6

/-- java/lang/constant/Constable -/
def k2 : Class := { plain "java/lang/constant/Constable" (some 0) with
  accessFlags := 1537
  interfaces := #[]
  cf := some (fileOf pool2 1 #[] #[] 1537 3 #[] #[])
  fields := #[]
  methods := #[]
  instanceTypes := #[]
  staticTypes := #[]
  resolved := Array.replicate 11 none
  statics := none }

def pool3 : Array CpInfo := pool [(1, .class_ 2), (0, u "java/lang/Comparable"), (0, .class_ 4), (0, u "java/lang/Object")] 7

/-- java/lang/Comparable -/
def k3 : Class := { plain "java/lang/Comparable" (some 0) with
  accessFlags := 1537
  interfaces := #[]
  cf := some (fileOf pool3 1 #[] #[] 1537 3 #[] #[])
  fields := #[]
  methods := #[]
  instanceTypes := #[]
  staticTypes := #[]
  resolved := Array.replicate 12 none
  statics := none }

def pool4 : Array CpInfo := pool [(1, .class_ 2), (0, u "java/io/Serializable"), (0, .class_ 4), (0, u "java/lang/Object")] 2

/-- java/io/Serializable -/
def k4 : Class := { plain "java/io/Serializable" (some 0) with
  accessFlags := 1537
  interfaces := #[]
  cf := some (fileOf pool4 1 #[] #[] 1537 3 #[] #[])
  fields := #[]
  methods := #[]
  instanceTypes := #[]
  staticTypes := #[]
  resolved := Array.replicate 7 none
  statics := none }

def pool5 : Array CpInfo := pool [(2, .class_ 4), (1, u "java/lang/Enum"), (0, u "name"), (0, u "Ljava/lang/String;"), (2, u "ordinal"), (0, u "I"), (1, .class_ 14), (1, u "java/lang/Object"), (4, u "hash"), (86, .class_ 108), (1, u "java/lang/Enum$EnumDesc"), (2, .class_ 112), (0, u "java/lang/constant/Constable"), (0, .class_ 114), (0, u "java/lang/Comparable"), (0, .class_ 116), (0, u "java/io/Serializable")] 87

/-- java/lang/Enum -/
def k5 : Class := { plain "java/lang/Enum" (some 0) with
  accessFlags := 1057
  interfaces := #[2, 3, 4]
  cf := some (fileOf pool5 2 #[.nestMembers #[106]] #[] 1057 12 #[111, 113, 115] #[{ accessFlags := 18, nameIndex := 5, descriptorIndex := 6, attributes := #[] }, { accessFlags := 18, nameIndex := 9, descriptorIndex := 10, attributes := #[] }, { accessFlags := 2, nameIndex := 19, descriptorIndex := 10, attributes := #[] }])
  fields := #[{ name := "name", type := (.object "java/lang/String"), accessFlags := 18, slot := 0, constantValue := 0 }, { name := "ordinal", type := .int, accessFlags := 18, slot := 1, constantValue := 0 }, { name := "hash", type := .int, accessFlags := 2, slot := 2, constantValue := 0 }]
  methods := #[]
  instanceTypes := #[(.object "java/lang/String"), .int, .int]
  staticTypes := #[]
  resolved := Array.replicate 204 none
  statics := none }

def pool6 : Array CpInfo := pool [(2, .class_ 4), (1, u "fourfold/model/Identified"), (112, .class_ 118), (0, u "java/lang/Object")] 49

/-- fourfold/model/Identified -/
def k6 : Class := { plain "fourfold/model/Identified" (some 0) with
  accessFlags := 1537
  interfaces := #[]
  cf := some (fileOf pool6 2 #[] #[] 1537 117 #[] #[])
  fields := #[]
  methods := #[]
  instanceTypes := #[]
  staticTypes := #[]
  resolved := Array.replicate 168 none
  statics := none }

def pool7 : Array CpInfo := pool [(1, .class_ 2), (0, u "fourfold/model/UserType"), (2, u "VIEWER"), (0, u "Lfourfold/model/UserType;"), (2, u "EDITOR"), (0, .fieldref 1 11), (0, .nameAndType 12 6), (0, u "ADMINISTRATOR"), (0, .fieldref 1 14), (0, .nameAndType 15 6), (0, u "OWNER"), (2, u "$VALUES"), (0, u "[Lfourfold/model/UserType;"), (6, .class_ 28), (1, u "java/lang/Enum"), (8, u "id"), (0, u "Ljava/lang/String;"), (2, u "TYPES"), (0, u "Ljava/util/List;"), (3, .class_ 48), (1, u "fourfold/model/Identified"), (43, u "administers"), (0, u "()Z")] 6

def k7c0 : Code := { maxStack := 2, maxLocals := 1, code := prog_34_method_6_code, exceptionTable := #[], attributes := #[] }
def k7m0 : Method := { name := "administers", desc := "()Z", sig := { parameters := [], returnType := some .boolean }, accessFlags := 1, code := some k7c0 }
/-- fourfold/model/UserType -/
def k7 : Class := { plain "fourfold/model/UserType" (some 5) with
  accessFlags := 16433
  interfaces := #[6]
  cf := some (fileOf pool7 1 #[] #[{ accessFlags := 1, nameIndex := 92, descriptorIndex := 93, attributes := #[] }] 16433 26 #[46] #[{ accessFlags := 16409, nameIndex := 5, descriptorIndex := 6, attributes := #[] }, { accessFlags := 16409, nameIndex := 9, descriptorIndex := 6, attributes := #[] }, { accessFlags := 16409, nameIndex := 12, descriptorIndex := 6, attributes := #[] }, { accessFlags := 16409, nameIndex := 15, descriptorIndex := 6, attributes := #[] }, { accessFlags := 26, nameIndex := 41, descriptorIndex := 42, attributes := #[] }, { accessFlags := 18, nameIndex := 37, descriptorIndex := 38, attributes := #[] }, { accessFlags := 4122, nameIndex := 18, descriptorIndex := 19, attributes := #[] }])
  fields := #[{ name := "VIEWER", type := (.object "fourfold/model/UserType"), accessFlags := 16409, slot := 0, constantValue := 0 }, { name := "EDITOR", type := (.object "fourfold/model/UserType"), accessFlags := 16409, slot := 1, constantValue := 0 }, { name := "ADMINISTRATOR", type := (.object "fourfold/model/UserType"), accessFlags := 16409, slot := 2, constantValue := 0 }, { name := "OWNER", type := (.object "fourfold/model/UserType"), accessFlags := 16409, slot := 3, constantValue := 0 }, { name := "TYPES", type := (.object "java/util/List"), accessFlags := 26, slot := 4, constantValue := 0 }, { name := "id", type := (.object "java/lang/String"), accessFlags := 18, slot := 3, constantValue := 0 }, { name := "$VALUES", type := (.array (.object "fourfold/model/UserType")), accessFlags := 4122, slot := 5, constantValue := 0 }]
  methods := #[k7m0]
  instanceTypes := #[(.object "java/lang/String"), .int, .int, (.object "java/lang/String")]
  staticTypes := #[(.object "fourfold/model/UserType"), (.object "fourfold/model/UserType"), (.object "fourfold/model/UserType"), (.object "fourfold/model/UserType"), (.object "java/util/List"), (.array (.object "fourfold/model/UserType"))]
  resolved := Array.replicate 100 none
  statics := some 0 }

def pool8 : Array CpInfo := pool [(1, u "java/lang/Cloneable"), (0, .class_ 1), (0, u "java/lang/Object"), (0, .class_ 3)] 3

/-- java/lang/Cloneable -/
def k8 : Class := { plain "java/lang/Cloneable" (some 0) with
  accessFlags := 1537
  interfaces := #[]
  cf := some (fileOf pool8 2 #[] #[] 1537 4 #[] #[])
  fields := #[]
  methods := #[]
  instanceTypes := #[]
  staticTypes := #[]
  resolved := Array.replicate 8 none
  statics := none }

/-- the primitive byte -/
def k9 : Class := { plain "byte" none with kind := .primitive 'B', accessFlags := 0x411 }
/-- [B -/
def k10 : Class := { plain "[B" (some 0) with kind := .array 9 .byte, interfaces := #[8, 4], accessFlags := 1041 }

def heap : Heap := #[{ cls := 7, slots := #[.ref 1, .ref 2, .ref 3, .ref 4, .null, .null], vm := .statics 7 },
  { cls := 7, slots := #[.null, .int 0, .int 0, .null], vm := .none },
  { cls := 7, slots := #[.null, .int 1, .int 0, .null], vm := .none },
  { cls := 7, slots := #[.null, .int 2, .int 0, .null], vm := .none },
  { cls := 7, slots := #[.null, .int 3, .int 0, .null], vm := .none }]
def classes : Array Class := #[k0, k1, k2, k3, k4, k5, k6, k7, k8, k9, k10]
def interned : List (Array UInt16 × Addr) := []
def slotsUsed : Nat := 22
def theMethod : MethodId := ⟨1, 2⟩
def args0 : Array Value := #[.int 1]
def aboutOver (below : List Frame) : State where
  vm := { classes := classes, interned := interned.toArray }
  heap := heap
  slotsUsed := slotsUsed
  threads := #[{ frames := .invoking theMethod args0 :: below }]
def below0 : List Frame := [.native { method := ⟨0, 0⟩, args := #[] }]
def about1 : State := aboutOver below0
def p0 : Program := .bare "" "" ""
def e0 : Env := launch0.env 0 0 0
theorem w_frames : about1.frames = Frame.invoking theMethod args0 :: below0 := rfl
set_option maxRecDepth 65536 in
theorem w_args : argsFit about1.vm theMethod args0 = true := by decide +kernel
set_option maxRecDepth 65536 in
theorem w_heap : heapFits about1 = true := by decide +kernel
set_option maxRecDepth 65536 in
theorem w_runnable : about1.curStatus? = some .runnable := by decide +kernel
set_option maxRecDepth 65536 in
theorem w_alone : about1.alone = true := by decide +kernel
set_option maxRecDepth 65536 in
theorem w_named : about1.methodNamed? x = some theMethod := by decide +kernel
set_option maxRecDepth 65536 in
theorem w_hears : about1.hears theMethod below0 = true := by decide +kernel
set_option maxRecDepth 65536 in
theorem w_ripe : about1.ripe theMethod args0 below0 = true := by decide +kernel
theorem w_running : about1.status = .running := rfl
set_option maxRecDepth 65536 in
theorem w_room : about1.hasRoom e0.platform room_1 = true :=
  launch0.hasRoom_least _ room_1 (by decide +kernel) (by decide +kernel) (by decide +kernel) (by decide +kernel) (by decide +kernel) (by decide +kernel)
theorem allAtoms_all (ts : List Jvm.Cond) (a : Array Jvm.Value) (st : Jvm.State) : (allAtoms ts).before a st = ts.all (fun c => c.before a st) := by
  induction ts with
  | nil => rfl
  | cons c t ih =>
    show (Jvm.Cond.and c (allAtoms t)).before a st = _
    rw [Jvm.Cond.before_and, ih, List.all_cons]
def words1 : List Jvm.Cond := Jvm.Cond.code x code maxLocals ret :: tables_1
/-- a 'code' word, met by the world's own term for the bytes: nothing is compared byte by byte -/
theorem code_word {y : MethodName} {bytes : ByteArray} {mx : Nat} {rt : Option FieldType} {a : Array Value} {s : State} {m : MethodId} {meth : Method} {c : Code} (h1 : s.methodNamed? y = some m) (h2 : s.vm.method? m = some meth) (h3 : meth.code = some c) (h4 : c.code = bytes)
    (h5 : (c.maxLocals == mx && c.exceptionTable.isEmpty && decide (c.maxStack ≤ mostOperands) && decide (meth.sig.returnType = rt) && !meth.locks && decide (parseMethodDescriptor y.desc = some meth.sig)) = true) : (Jvm.Cond.code y bytes mx rt).before a s = true := by
  simp only [Bool.and_eq_true, beq_iff_eq, Bool.not_eq_true', decide_eq_true_eq] at h5
  obtain ⟨⟨⟨⟨⟨g1, g2⟩, g3⟩, g4⟩, g5⟩, g6⟩ := h5
  simp [Cond.before, Cond.holds, Cond.value, h1, h2, h3, h4, g1, g2, g3, g4, g5, g6]
def isCode : Jvm.Cond → Bool
  | .code _ _ _ _ => true
  | _ => false
theorem all_split {L : List Jvm.Cond} {P : Jvm.Cond → Bool} (h1 : L.all (fun c => isCode c || P c) = true) (h2 : ∀ c ∈ L.filter isCode, P c = true) : L.all P = true := by
  refine List.all_eq_true.mpr fun c hc => ?_
  have h := List.all_eq_true.mp h1 c hc
  rcases Bool.eq_false_or_eq_true (isCode c) with hi | hi
  · exact h2 c (List.mem_filter.mpr ⟨hc, hi⟩)
  · simpa [hi] using h
set_option maxRecDepth 65536 in
theorem w_c0 : (Jvm.Cond.code x code maxLocals ret).before args0 about1 = true := code_word (m := ⟨1, 2⟩) (meth := k1m2) (c := k1c2) (by decide +kernel) rfl rfl rfl (by decide +kernel)
set_option maxRecDepth 65536 in
theorem w_c1 : (Jvm.Cond.code ({ cls := "fourfold/model/UserTypeAdministersPinLaw", name := "pick", desc := "(I)Lfourfold/model/UserType;" } : Jvm.MethodName) method_2_code (1 : Nat) (Option.some (Jvm.ClassFile.FieldType.object "fourfold/model/UserType"))).before args0 about1 = true := code_word (m := ⟨1, 1⟩) (meth := k1m1) (c := k1c1) (by decide +kernel) rfl rfl rfl (by decide +kernel)
set_option maxRecDepth 65536 in
theorem w_c2 : (Jvm.Cond.code ({ cls := "fourfold/model/UserType", name := "administers", desc := "()Z" } : Jvm.MethodName) prog_34_method_6_code (1 : Nat) (Option.some Jvm.ClassFile.FieldType.boolean)).before args0 about1 = true := code_word (m := ⟨7, 0⟩) (meth := k7m0) (c := k7c0) (by decide +kernel) rfl rfl rfl (by decide +kernel)
def codes1 : List Jvm.Cond := [Jvm.Cond.code x code maxLocals ret, Jvm.Cond.code ({ cls := "fourfold/model/UserTypeAdministersPinLaw", name := "pick", desc := "(I)Lfourfold/model/UserType;" } : Jvm.MethodName) method_2_code (1 : Nat) (Option.some (Jvm.ClassFile.FieldType.object "fourfold/model/UserType")), Jvm.Cond.code ({ cls := "fourfold/model/UserType", name := "administers", desc := "()Z" } : Jvm.MethodName) prog_34_method_6_code (1 : Nat) (Option.some Jvm.ClassFile.FieldType.boolean)]
set_option maxRecDepth 65536 in
theorem codes_eq : words1.filter isCode = codes1 := rfl
theorem w_codes : ∀ c ∈ words1.filter isCode, c.before args0 about1 = true := by
  rw [codes_eq]
  intro c hc
  simp only [codes1, List.mem_cons, List.not_mem_nil, or_false] at hc
  rcases hc with rfl | rfl | rfl
  · exact w_c0
  · exact w_c1
  · exact w_c2
set_option maxRecDepth 65536 in
theorem w_t1 : words1.all (fun c => isCode c || c.before args0 about1) = true := by decide +kernel
theorem w_tables : (allAtoms (Jvm.Cond.code x code maxLocals ret :: tables_1)).before args0 about1 = true := by
  rw [allAtoms_all]
  show words1.all (fun c => c.before args0 about1) = true
  refine all_split ?_ w_codes
  rw [w_t1]
set_option maxRecDepth 65536 in
theorem w_case : (Jvm.Cond.and given_1 narrow_1).before args0 about1 = true := by decide +kernel
theorem w_applies : (headSpec (Jvm.Cond.code x code maxLocals ret :: tables_1) room_1).applies x e0.platform about1 = true :=
  (Spec.applies_iff w_frames).mpr ⟨w_running, w_runnable, w_alone, w_named, w_hears, w_ripe, w_room, w_tables⟩
theorem atStart : AtStart classFile x code maxLocals ret World_1 tables_1 room_1 Calls_1 rest_1 Pre_1 launch0 p0 e0 about1 theMethod args0 below0 :=
  ⟨lists_1, trivial, launch0.admits_env _ _ _, launch0.least_env, fairChoices_fair.cas, fairChoices_fair.clock, w_frames, w_args, w_heap, w_applies, trivial, trivial, w_case⟩
end start1
theorem witness_1 : WitnessClaimed_1 := ⟨start1.p0, start1.e0, start1.about1, start1.theMethod, start1.args0, start1.below0, start1.atStart⟩
end Jvm.Pilot.@@N@@
