import JvmDerived
import JvmDerived.Pilot.@@N@@Statement
import JvmDerived.Pilot.@@N@@Code
set_option linter.unusedVariables false
set_option linter.unusedSimpArgs false
namespace Jvm.RoadKit
open Sem ClassFile Op Lib Jvm.Stand Jvm.Free Jvm.LawKit
section New
variable {p : Program} {l : Launch} {e : Env} {R : Room} {s : State} {m : MethodId} {args : Array Value} {below : List Frame} {meth : Method} {c : Code} {T : State} {locs : List Loc} {cells slots : Nat}
theorem retI (X : Stand p l e R s m args below meth c T locs cells slots) (hx : p.tables.exec = Jvm.exec) {pc : Nat} {Ls : Array Slot} {z : Int32} {rest : List Value} (hret : meth.sig.returnType = some .int) (hd : decode c.code pc = .ok (.ireturn, 1)) {fs : List Frame}
    (hl : ∀ (f : JFrame) (acts : List Action), f.method = m → f.locked = none → f.entered = [] → (doReturn e (T.setTop f) acts (some (.int z))).1 = T.setFrames fs) : Steps p.tables e below (T.setTop (mkF m pc Ls (.int z :: rest))) (T.setFrames fs) := by
  have hm' : T.vm.method? m = some meth := X.method'
  have hn : narrow .int (.int z) = .int z := rfl
  show Steps p.tables e below (T.setTop { method := m, pc := pc, locals := Ls, stack := _ :: rest, locked := none }) _
  jvm_step X.here [X.here.top, hx, hd, hm', hret, hn]
  first | (intro acts; rw [hl _ acts rfl rfl rfl]) | rw [hl _ _ rfl rfl rfl]
  exact Steps.refl _
end New
end Jvm.RoadKit
namespace Jvm.Pilot.@@N@@
open Jvm Jvm.ClassFile Sem Op Lib Jvm.Free Jvm.Stand Jvm.LawKit Jvm.RoadKit Bundle Jvm.Pilot.@@N@@.Jvm.D
theorem own_same {h0 h : Heap} {ws : List Addr} (q : h = h0) : Keep h0 h ws := q ▸ Keep.refl _ _
theorem own_ext {h0 h : Heap} (K : Keep h0 h []) : Ext h0 h := ⟨K.1, fun a c q => K.2.1 a c q (by simp)⟩
theorem own_eqi {args : Array Value} {s : State} {t : Term} {k : Int32} (h : (Jvm.Cond.eq t (Term.int k)).value args s none s [] = some true) : t.eval args s none [] s = some (.int k) := by
  obtain ⟨x, y, hx, hy, k1, k2⟩ := cmp_v (Or.inl h)
  cases (Term.int_eval k).symm.trans hy
  obtain ⟨z, rfl⟩ := k2
  simp [Jvm.Cond.value, hx, Term.int_eval] at h
  rw [hx, h]
theorem own_fint {args : Array Value} {s : State} {t : Term} {a : Addr} {C n d : String} {k : Int32} (ht : t.eval args s none [] s = some (.ref a)) (h : (Jvm.Cond.eq (Term.field t C n d) (Term.int k)).value args s none s [] = some true) : Fld s s.heap a C n d (.int k) := by
  have q := own_eqi h
  rw [fld_at ht] at q
  exact Fld.start q
theorem own_ne {Z : State} {h : Heap} {a b : Addr} {C n d : String} {v w : Value} (F : Fld Z h a C n d v) (G : Fld Z h b C n d w) (hn : v ≠ w) : ¬ (a = b) := fun e => by
  subst e
  obtain ⟨c, cf, k, i, f, h1, h2, -, -, -, -, h7⟩ := F
  obtain ⟨c', cf', k', i', f', g1, g2, -, -, -, -, g7⟩ := G
  cases h1.symm.trans g1
  cases h2.symm.trans g2
  exact hn (Option.some.inj (h7.symm.trans g7))

theorem own_tr {h0 h h' : Heap} {ws : List Addr} (K : Keep h0 h ws) (E : Ext h h') : Keep h0 h' ws := K.ext E
theorem own_eqK {h0 h h' : Heap} {ws : List Addr} (K : Keep h0 h ws) (q : h' = h) : Keep h0 h' ws := q ▸ K

theorem own_and255 (x : Int32) : ¬ (x &&& 255) < 0 ∧ ¬ (255 : Int32) < (x &&& 255) := by
  have q := c_and x 255 (by decide)
  have z : (0 : Int32).toInt = 0 := by decide
  have w : (255 : Int32).toInt = 255 := by decide
  rw [Int32.lt_iff_toInt_lt, Int32.lt_iff_toInt_lt, z, w]
  rw [w] at q
  omega
theorem d2_0 : decode jdk_37_method_2_code 0 = .ok (.aload_n 0, 1) := by decide +kernel
theorem d2_1 : decode jdk_37_method_2_code 1 = .ok (.getfield 7, 3) := by decide +kernel
theorem d2_4 : decode jdk_37_method_2_code 4 = .ok (.ireturn, 1) := by decide +kernel
theorem pn_2 : plainName "java/lang/Enum" = true := by first | (simp [plainName, overriddenIn]; done) | decide +kernel
theorem ef_2 (m : MethodId) (x0 : Addr) : entryFrame m #[(.ref x0)] 1 = mkF m 0 #[.val (.ref x0)] [] := by first | (simp [entryFrame, mkF, argsToLocals, Value.category]; done) | rfl
def Q2 (Z : State) (a1 : Addr) (w2 : Int32) (h0 : Heap) (n0 : Nat) (v : Option Value) (h : Heap) (L : List Loc) : Prop := v = some (.int w2) ∧ Fr n0 L ∧ h = h0
set_option maxRecDepth 65536 in
set_option maxHeartbeats 40000000 in
theorem rm2 (l : Launch) (Z : State) (a0 : Array Value) (hw : ∀ d ∈ tables_1, d.before a0 Z = true) (ws : List Jvm.Cond) (a1 : Addr) (w2 : Int32) (h0 : Heap) (n0 : Nat) (Z0 : n0 ≤ h0.size) (F_ordinal_a1 : Fld Z h0 a1 "java/lang/Enum" "ordinal" "I" (.int w2)) :
    MetFree l (⟨"java/lang/Enum", "ordinal", "()I"⟩ : MethodName) (head1 (Jvm.Cond.code (⟨"java/lang/Enum", "ordinal", "()I"⟩ : MethodName) jdk_37_method_2_code 1 (some .int) :: ws) ({ frames := 0, cells := 0, slots := 0, locals := 0 } : Room)) (fun a U => a = #[(.ref a1)] ∧ Z.Warmed39 U.vm ∧ U.heap = h0) (fun _ _ _ _ _ => True) (fun _ U o U' => ∃ v L, o = .returned v ∧ Q2 Z a1 w2 h0 n0 v U'.heap L ∧ FrameEnd U o U' L ({ frames := 0, cells := 0, slots := 0, locals := 0 } : Room).cells ({ frames := 0, cells := 0, slots := 0, locals := 0 } : Room).slots) := by
  refine MetFree.of_bodySF (plainFor_of_name pn_2) hisR ?_
  intro p e s m args below meth c s₁ Bd hml0 hP hK
  obtain ⟨rfl, hZ, hh⟩ := hP
  have hx := Bd.exec
  have hby := Bd.bytes
  have hml : c.maxLocals = 1 := hml0
  have hown : s.vm.findClass "java/lang/Enum" = some m.cls := findClass_of_methodNamed Bd.named
  have hnm := (name_of_methodNamed Bd.named Bd.method).1
  have X0 : Stand p l e ({ frames := 0, cells := 0, slots := 0, locals := 0 } : Room) s m #[(.ref a1)] below meth c s₁ [] 0 0 := Stand.of_body Bd
  have e0 : s₁.heap = h0 := by rw [← hh, Bd.state]; rfl
  have N0 := Fr.nil n0
  have pre0 : ∀ t, Steps p.tables e below (s₁.setTop (mkF m 0 #[.val (.ref a1)] [])) t → Steps p.tables e below (s₁.setTop (entryFrame m #[(.ref a1)] 1)) t := fun t k => castTop (ef_2 m a1) k
  -- 3. LAWS
  obtain ⟨T3, X3, e3, st3⟩ := getF X0 hx hZ hown (host := "") (Or.inl (hw _ (List.mem_of_getElem? (i := 17) rfl))) Via.refl e0 F_ordinal_a1 (g := (mkF m 1 #[.val (.ref a1)] [(.ref a1)])) rfl rfl (hb hby d2_1)
  obtain ⟨fs, hr, hrun, hended, hW, hsame⟩ := X3.leave (v := some (.int w2)) (fun h => by rw [Bd.returns] at h; cases h)
  refine ⟨_, _, pre0 _ ?_, hrun, hended, _, _, rfl, ?_, ⟨_, rfl⟩, hW, hsame.mono (by decide) (by decide)⟩
  -- 4. STEPS
  · show Steps p.tables e below (s₁.setTop (mkF m 0 #[.val (.ref a1)] [])) _
    refine XS.aloadN X0.here hx rfl (hb hby d2_0) rfl rfl ?_
    show Steps p.tables e below (s₁.setTop (mkF m 1 #[.val (.ref a1)] [(.ref a1)])) _
    refine st3 _ ?_
    show Steps p.tables e below (T3.setTop (mkF m 4 #[.val (.ref a1)] [(.int w2)])) _
    exact retI X3 hx Bd.returns (hb hby d2_4) hr      -- retI stands in the head ('lawwalk <made dir>' prints it)
  · show Q2 Z a1 w2 h0 n0 _ T3.heap _
    rw [e3]
    exact ⟨rfl, N0, rfl⟩
theorem d1_8 : decode prog_5_method_2_code 8 = .ok (.tableswitch 32 1 4 #[42, 46, 46, 50], 32) := by decide +kernel
theorem d1_50 : decode prog_5_method_2_code 50 = .ok (.iconst 0, 1) := by decide +kernel
theorem d1_51 : decode prog_5_method_2_code 51 = .ok (.goto 8, 3) := by decide +kernel
theorem d1_54 : decode prog_5_method_2_code 54 = .ok (.iconst 3, 1) := by decide +kernel
theorem d1_55 : decode prog_5_method_2_code 55 = .ok (.goto 4, 3) := by decide +kernel
theorem d1_58 : decode prog_5_method_2_code 58 = .ok (.iconst 4, 1) := by decide +kernel
theorem d1_59 : decode prog_5_method_2_code 59 = .ok (.ireturn, 1) := by decide +kernel
theorem d1_0 : decode prog_5_method_2_code 0 = .ok (.getstatic 7, 3) := by decide +kernel
theorem d1_3 : decode prog_5_method_2_code 3 = .ok (.aload_n 0, 1) := by decide +kernel
theorem d1_4 : decode prog_5_method_2_code 4 = .ok (.invokevirtual 13, 3) := by decide +kernel
theorem d1_7 : decode prog_5_method_2_code 7 = .ok (.iaload, 1) := by decide +kernel
theorem pn_1 : plainName "com/example/cicada/cicada/cli/ExitCode" = true := by first | (simp [plainName, overriddenIn]; done) | decide +kernel
theorem pd_1_1 : parseMethodDescriptor "()I" = some ⟨[], some .int⟩ := by decide +kernel
theorem ef_1 (m : MethodId) (x0 : Addr) : entryFrame m #[(.ref x0)] 1 = mkF m 0 #[.val (.ref x0)] [] := by first | (simp [entryFrame, mkF, argsToLocals, Value.category]; done) | rfl
def Q1k1 (Z : State) (a1 : Addr) (w2 : Addr) (cl_w2 : Cell) (h0 : Heap) (n0 : Nat) (v : Option Value) (h : Heap) (L : List Loc) : Prop := v = some (.int (0 : Int32)) ∧ Fr n0 L ∧ h = h0
set_option maxRecDepth 65536 in
set_option maxHeartbeats 40000000 in
theorem rm1k1 (l : Launch) (Z : State) (a0 : Array Value) (hw : ∀ d ∈ tables_1, d.before a0 Z = true) (ws : List Jvm.Cond) (a1 : Addr) (w2 : Addr) (cl_w2 : Cell) (h0 : Heap) (n0 : Nat) (Z0 : n0 ≤ h0.size) (S__SwitchMap_com_example_cicada_cicada_Verdict : Sta Z h0 "com/example/cicada/cicada/cli/ExitCode$1" "$SwitchMap$com$example$cicada$cicada$Verdict" "[I" (.ref w2)) (E_a1 : Exa Z h0 a1 "com/example/cicada/cicada/Verdict") (Ar_w2 : Arr Z h0 w2 cl_w2 .int) (F_o : Fld Z h0 a1 "java/lang/Enum" "ordinal" "I" (.int (0 : Int32))) (hin7 : ¬ ((0 : Int32) < 0 ∨ cl_w2.slots.size ≤ ((0 : Int32)).toNatClampNeg)) (hat7 : cl_w2.slots[((0 : Int32)).toNatClampNeg]? = some (.int (1 : Int32))) :
    MetFree l (⟨"com/example/cicada/cicada/cli/ExitCode", "of", "(Lcom/example/cicada/cicada/Verdict;)I"⟩ : MethodName) (head1 (Jvm.Cond.code (⟨"com/example/cicada/cicada/cli/ExitCode", "of", "(Lcom/example/cicada/cicada/Verdict;)I"⟩ : MethodName) prog_5_method_2_code 1 (some .int) :: ws) ({ frames := 1, cells := 0, slots := 0, locals := 13 } : Room)) (fun a U => a = #[(.ref a1)] ∧ Z.Warmed39 U.vm ∧ U.heap = h0) (fun _ _ _ _ _ => True) (fun _ U o U' => ∃ v L, o = .returned v ∧ Q1k1 Z a1 w2 cl_w2 h0 n0 v U'.heap L ∧ FrameEnd U o U' L ({ frames := 1, cells := 0, slots := 0, locals := 13 } : Room).cells ({ frames := 1, cells := 0, slots := 0, locals := 13 } : Room).slots) := by
  refine MetFree.of_bodySF (plainFor_of_name pn_1) hisR ?_
  intro p e s m args below meth c s₁ Bd hml0 hP hK
  obtain ⟨rfl, hZ, hh⟩ := hP
  have hx := Bd.exec
  have hby := Bd.bytes
  have hml : c.maxLocals = 1 := hml0
  have hown : s.vm.findClass "com/example/cicada/cicada/cli/ExitCode" = some m.cls := findClass_of_methodNamed Bd.named
  have hnm := (name_of_methodNamed Bd.named Bd.method).1
  have X0 : Stand p l e ({ frames := 1, cells := 0, slots := 0, locals := 13 } : Room) s m #[(.ref a1)] below meth c s₁ [] 0 0 := Stand.of_body Bd
  have e0 : s₁.heap = h0 := by rw [← hh, Bd.state]; rfl
  have N0 := Fr.nil n0
  have pre0 : ∀ t, Steps p.tables e below (s₁.setTop (mkF m 0 #[.val (.ref a1)] [])) t → Steps p.tables e below (s₁.setTop (entryFrame m #[(.ref a1)] 1)) t := fun t k => castTop (ef_1 m a1) k
  obtain ⟨T3, X3, e3, st3⟩ := getS2 X0 hx hZ hown (host := "") (Or.inl (hw _ (List.mem_of_getElem? (i := 7) rfl))) Via.refl e0 S__SwitchMap_com_example_cicada_cicada_Verdict (g := (mkF m 0 #[.val (.ref a1)] [])) rfl (hb hby d1_0)
  obtain ⟨cq4, kq4, q4a, q4b, q4c⟩ := isOf hZ e3 E_a1
  obtain ⟨_, _, ⟨T4, L4, k4, n4⟩, -, X4, ⟨Lc4, hQ4, l4, y4, z4⟩, st4⟩ := X3.virtualBackUp hx (owner := "java/lang/Enum") (x := (⟨"com/example/cicada/cicada/Verdict", "ordinal", "()I"⟩ : MethodName)) (y := (⟨"java/lang/Enum", "ordinal", "()I"⟩ : MethodName)) hown (mvT hZ (hw _ (List.mem_of_getElem? (i := 10) rfl))) (mvT hZ (hw _ (List.mem_of_getElem? (i := 11) rfl))) (mvT hZ (hw _ (List.mem_of_getElem? (i := 12) rfl))) (by decide) (mvT hZ (hw _ (List.mem_of_getElem? (i := 14) rfl))) (mvT hZ (hw _ (List.mem_of_getElem? (i := 13) rfl))) (backOf (W := 1) (rm2 l Z a0 hw [] a1 (0 : Int32) h0 n0 Z0 F_o) hZ (hw _ (List.mem_of_getElem? (i := 16) rfl)) (hw _ (List.mem_of_getElem? (i := 15) rfl)) (by decide) (by decide)) q4a q4c (g := (mkF m 4 #[.val (.ref a1)] [(.ref a1), (.ref w2)])) rfl (by rw [hml]; rfl) (Steps.refl _) (argsL := []) (rest := [(.ref w2)]) (lenOf pd_1_1 rfl) rfl (by show 2 * 0 + _ ≤ _; exact Nat.le_of_eq rfl) (hb hby d1_4) (fun _ _ => ⟨rfl, e3, (by decide : 0 + 0 ≤ _), (by decide : 0 + 0 ≤ _)⟩)
  dsimp only [Pt.U, Pt.locs, Pt.cells, Pt.slots] at X4 l4 y4 z4 st4 hQ4
  subst l4 y4 z4
  obtain ⟨rfl, N4q, eq4⟩ := hQ4
  have Ar4 : Arr Z T4.heap w2 cl_w2 .int := Ar_w2.ext (own_ext (own_same eq4))      -- what it returned, that it wrote nothing old, and the rest of your Q2
  have N4 := Fr.app N0 N4q
  obtain ⟨fs, hr, hrun, hended, hW, hsame⟩ := X4.leave (v := some (.int (0 : Int32))) (fun h => by rw [Bd.returns] at h; cases h)
  refine ⟨_, _, pre0 _ ?_, hrun, hended, _, _, rfl, ?_, ⟨_, rfl⟩, hW, hsame.mono (by decide) (by decide)⟩
  · show Steps p.tables e below (s₁.setTop (mkF m 0 #[.val (.ref a1)] [])) _
    refine st3 _ ?_
    show Steps p.tables e below (T3.setTop (mkF m 3 #[.val (.ref a1)] [(.ref w2)])) _
    refine XS.aloadN X3.here hx rfl (hb hby d1_3) rfl rfl ?_
    show Steps p.tables e below (T3.setTop (mkF m 4 #[.val (.ref a1)] [(.ref a1), (.ref w2)])) _
    refine st4.trans ?_
    show Steps p.tables e below (T4.setTop (mkF m 7 #[.val (.ref a1)] [(.int (0 : Int32)), (.ref w2)])) _
    refine X4.iaload hx (j := (0 : Int32)) (v := (.int (1 : Int32))) Ar4.1 (State.isArrayOf_alike hZ.alike Ar4.2.1) Ar4.2.2 hin7 hat7 (g := (mkF m 7 #[.val (.ref a1)] [(.int (0 : Int32)), (.ref w2)])) rfl rfl (hb hby d1_7) _ ?_
    show Steps p.tables e below (T4.setTop (mkF m 8 #[.val (.ref a1)] [(.int (1 : Int32))])) _
    refine X4.tableswitchIn hx (g := (mkF m 8 #[.val (.ref a1)] [(.int (1 : Int32))])) rfl (k := (1 : Int32)) (rest := []) rfl (hb hby d1_8) (by decide) (off := 42) rfl (by show (0 : Int) ≤ ((8 : Nat) : Int) + 42; decide) _ ?_
    show Steps p.tables e below (T4.setTop (mkF m 50 #[.val (.ref a1)] [])) _
    refine XS.iconst X4.here hx rfl (hb hby d1_50) ?_
    show Steps p.tables e below (T4.setTop (mkF m 51 #[.val (.ref a1)] [(.int (0 : Int32))])) _
    refine XS.goto X4.here hx rfl (pc0 := 51) (pc' := 59) rfl (hb hby d1_51) (by decide) (by decide) ?_
    show Steps p.tables e below (T4.setTop (mkF m 59 #[.val (.ref a1)] [(.int (0 : Int32))])) _
    exact retI X4 hx Bd.returns (hb hby d1_59) hr
  · show Q1k1 Z a1 w2 cl_w2 h0 n0 _ T4.heap _
    exact ⟨rfl, N4, eq4⟩
def Q1k2 (Z : State) (a1 : Addr) (w2 : Addr) (cl_w2 : Cell) (h0 : Heap) (n0 : Nat) (v : Option Value) (h : Heap) (L : List Loc) : Prop := v = some (.int (3 : Int32)) ∧ Fr n0 L ∧ h = h0
set_option maxRecDepth 65536 in
set_option maxHeartbeats 40000000 in
theorem rm1k2 (l : Launch) (Z : State) (a0 : Array Value) (hw : ∀ d ∈ tables_1, d.before a0 Z = true) (ws : List Jvm.Cond) (a1 : Addr) (w2 : Addr) (cl_w2 : Cell) (h0 : Heap) (n0 : Nat) (Z0 : n0 ≤ h0.size) (S__SwitchMap_com_example_cicada_cicada_Verdict : Sta Z h0 "com/example/cicada/cicada/cli/ExitCode$1" "$SwitchMap$com$example$cicada$cicada$Verdict" "[I" (.ref w2)) (E_a1 : Exa Z h0 a1 "com/example/cicada/cicada/Verdict") (Ar_w2 : Arr Z h0 w2 cl_w2 .int) (F_o : Fld Z h0 a1 "java/lang/Enum" "ordinal" "I" (.int (1 : Int32))) (hin7 : ¬ ((1 : Int32) < 0 ∨ cl_w2.slots.size ≤ ((1 : Int32)).toNatClampNeg)) (hat7 : cl_w2.slots[((1 : Int32)).toNatClampNeg]? = some (.int (2 : Int32))) :
    MetFree l (⟨"com/example/cicada/cicada/cli/ExitCode", "of", "(Lcom/example/cicada/cicada/Verdict;)I"⟩ : MethodName) (head1 (Jvm.Cond.code (⟨"com/example/cicada/cicada/cli/ExitCode", "of", "(Lcom/example/cicada/cicada/Verdict;)I"⟩ : MethodName) prog_5_method_2_code 1 (some .int) :: ws) ({ frames := 1, cells := 0, slots := 0, locals := 13 } : Room)) (fun a U => a = #[(.ref a1)] ∧ Z.Warmed39 U.vm ∧ U.heap = h0) (fun _ _ _ _ _ => True) (fun _ U o U' => ∃ v L, o = .returned v ∧ Q1k2 Z a1 w2 cl_w2 h0 n0 v U'.heap L ∧ FrameEnd U o U' L ({ frames := 1, cells := 0, slots := 0, locals := 13 } : Room).cells ({ frames := 1, cells := 0, slots := 0, locals := 13 } : Room).slots) := by
  refine MetFree.of_bodySF (plainFor_of_name pn_1) hisR ?_
  intro p e s m args below meth c s₁ Bd hml0 hP hK
  obtain ⟨rfl, hZ, hh⟩ := hP
  have hx := Bd.exec
  have hby := Bd.bytes
  have hml : c.maxLocals = 1 := hml0
  have hown : s.vm.findClass "com/example/cicada/cicada/cli/ExitCode" = some m.cls := findClass_of_methodNamed Bd.named
  have hnm := (name_of_methodNamed Bd.named Bd.method).1
  have X0 : Stand p l e ({ frames := 1, cells := 0, slots := 0, locals := 13 } : Room) s m #[(.ref a1)] below meth c s₁ [] 0 0 := Stand.of_body Bd
  have e0 : s₁.heap = h0 := by rw [← hh, Bd.state]; rfl
  have N0 := Fr.nil n0
  have pre0 : ∀ t, Steps p.tables e below (s₁.setTop (mkF m 0 #[.val (.ref a1)] [])) t → Steps p.tables e below (s₁.setTop (entryFrame m #[(.ref a1)] 1)) t := fun t k => castTop (ef_1 m a1) k
  obtain ⟨T3, X3, e3, st3⟩ := getS2 X0 hx hZ hown (host := "") (Or.inl (hw _ (List.mem_of_getElem? (i := 7) rfl))) Via.refl e0 S__SwitchMap_com_example_cicada_cicada_Verdict (g := (mkF m 0 #[.val (.ref a1)] [])) rfl (hb hby d1_0)
  obtain ⟨cq4, kq4, q4a, q4b, q4c⟩ := isOf hZ e3 E_a1
  obtain ⟨_, _, ⟨T4, L4, k4, n4⟩, -, X4, ⟨Lc4, hQ4, l4, y4, z4⟩, st4⟩ := X3.virtualBackUp hx (owner := "java/lang/Enum") (x := (⟨"com/example/cicada/cicada/Verdict", "ordinal", "()I"⟩ : MethodName)) (y := (⟨"java/lang/Enum", "ordinal", "()I"⟩ : MethodName)) hown (mvT hZ (hw _ (List.mem_of_getElem? (i := 10) rfl))) (mvT hZ (hw _ (List.mem_of_getElem? (i := 11) rfl))) (mvT hZ (hw _ (List.mem_of_getElem? (i := 12) rfl))) (by decide) (mvT hZ (hw _ (List.mem_of_getElem? (i := 14) rfl))) (mvT hZ (hw _ (List.mem_of_getElem? (i := 13) rfl))) (backOf (W := 1) (rm2 l Z a0 hw [] a1 (1 : Int32) h0 n0 Z0 F_o) hZ (hw _ (List.mem_of_getElem? (i := 16) rfl)) (hw _ (List.mem_of_getElem? (i := 15) rfl)) (by decide) (by decide)) q4a q4c (g := (mkF m 4 #[.val (.ref a1)] [(.ref a1), (.ref w2)])) rfl (by rw [hml]; rfl) (Steps.refl _) (argsL := []) (rest := [(.ref w2)]) (lenOf pd_1_1 rfl) rfl (by show 2 * 0 + _ ≤ _; exact Nat.le_of_eq rfl) (hb hby d1_4) (fun _ _ => ⟨rfl, e3, (by decide : 0 + 0 ≤ _), (by decide : 0 + 0 ≤ _)⟩)
  dsimp only [Pt.U, Pt.locs, Pt.cells, Pt.slots] at X4 l4 y4 z4 st4 hQ4
  subst l4 y4 z4
  obtain ⟨rfl, N4q, eq4⟩ := hQ4
  have Ar4 : Arr Z T4.heap w2 cl_w2 .int := Ar_w2.ext (own_ext (own_same eq4))      -- what it returned, that it wrote nothing old, and the rest of your Q2
  have N4 := Fr.app N0 N4q
  obtain ⟨fs, hr, hrun, hended, hW, hsame⟩ := X4.leave (v := some (.int (3 : Int32))) (fun h => by rw [Bd.returns] at h; cases h)
  refine ⟨_, _, pre0 _ ?_, hrun, hended, _, _, rfl, ?_, ⟨_, rfl⟩, hW, hsame.mono (by decide) (by decide)⟩
  · show Steps p.tables e below (s₁.setTop (mkF m 0 #[.val (.ref a1)] [])) _
    refine st3 _ ?_
    show Steps p.tables e below (T3.setTop (mkF m 3 #[.val (.ref a1)] [(.ref w2)])) _
    refine XS.aloadN X3.here hx rfl (hb hby d1_3) rfl rfl ?_
    show Steps p.tables e below (T3.setTop (mkF m 4 #[.val (.ref a1)] [(.ref a1), (.ref w2)])) _
    refine st4.trans ?_
    show Steps p.tables e below (T4.setTop (mkF m 7 #[.val (.ref a1)] [(.int (1 : Int32)), (.ref w2)])) _
    refine X4.iaload hx (j := (1 : Int32)) (v := (.int (2 : Int32))) Ar4.1 (State.isArrayOf_alike hZ.alike Ar4.2.1) Ar4.2.2 hin7 hat7 (g := (mkF m 7 #[.val (.ref a1)] [(.int (1 : Int32)), (.ref w2)])) rfl rfl (hb hby d1_7) _ ?_
    show Steps p.tables e below (T4.setTop (mkF m 8 #[.val (.ref a1)] [(.int (2 : Int32))])) _
    refine X4.tableswitchIn hx (g := (mkF m 8 #[.val (.ref a1)] [(.int (2 : Int32))])) rfl (k := (2 : Int32)) (rest := []) rfl (hb hby d1_8) (by decide) (off := 46) rfl (by show (0 : Int) ≤ ((8 : Nat) : Int) + 46; decide) _ ?_
    show Steps p.tables e below (T4.setTop (mkF m 54 #[.val (.ref a1)] [])) _
    refine XS.iconst X4.here hx rfl (hb hby d1_54) ?_
    show Steps p.tables e below (T4.setTop (mkF m 55 #[.val (.ref a1)] [(.int (3 : Int32))])) _
    refine XS.goto X4.here hx rfl (pc0 := 55) (pc' := 59) rfl (hb hby d1_55) (by decide) (by decide) ?_
    show Steps p.tables e below (T4.setTop (mkF m 59 #[.val (.ref a1)] [(.int (3 : Int32))])) _
    exact retI X4 hx Bd.returns (hb hby d1_59) hr
  · show Q1k2 Z a1 w2 cl_w2 h0 n0 _ T4.heap _
    exact ⟨rfl, N4, eq4⟩
def Q1k3 (Z : State) (a1 : Addr) (w2 : Addr) (cl_w2 : Cell) (h0 : Heap) (n0 : Nat) (v : Option Value) (h : Heap) (L : List Loc) : Prop := v = some (.int (3 : Int32)) ∧ Fr n0 L ∧ h = h0
set_option maxRecDepth 65536 in
set_option maxHeartbeats 40000000 in
theorem rm1k3 (l : Launch) (Z : State) (a0 : Array Value) (hw : ∀ d ∈ tables_1, d.before a0 Z = true) (ws : List Jvm.Cond) (a1 : Addr) (w2 : Addr) (cl_w2 : Cell) (h0 : Heap) (n0 : Nat) (Z0 : n0 ≤ h0.size) (S__SwitchMap_com_example_cicada_cicada_Verdict : Sta Z h0 "com/example/cicada/cicada/cli/ExitCode$1" "$SwitchMap$com$example$cicada$cicada$Verdict" "[I" (.ref w2)) (E_a1 : Exa Z h0 a1 "com/example/cicada/cicada/Verdict") (Ar_w2 : Arr Z h0 w2 cl_w2 .int) (F_o : Fld Z h0 a1 "java/lang/Enum" "ordinal" "I" (.int (2 : Int32))) (hin7 : ¬ ((2 : Int32) < 0 ∨ cl_w2.slots.size ≤ ((2 : Int32)).toNatClampNeg)) (hat7 : cl_w2.slots[((2 : Int32)).toNatClampNeg]? = some (.int (3 : Int32))) :
    MetFree l (⟨"com/example/cicada/cicada/cli/ExitCode", "of", "(Lcom/example/cicada/cicada/Verdict;)I"⟩ : MethodName) (head1 (Jvm.Cond.code (⟨"com/example/cicada/cicada/cli/ExitCode", "of", "(Lcom/example/cicada/cicada/Verdict;)I"⟩ : MethodName) prog_5_method_2_code 1 (some .int) :: ws) ({ frames := 1, cells := 0, slots := 0, locals := 13 } : Room)) (fun a U => a = #[(.ref a1)] ∧ Z.Warmed39 U.vm ∧ U.heap = h0) (fun _ _ _ _ _ => True) (fun _ U o U' => ∃ v L, o = .returned v ∧ Q1k3 Z a1 w2 cl_w2 h0 n0 v U'.heap L ∧ FrameEnd U o U' L ({ frames := 1, cells := 0, slots := 0, locals := 13 } : Room).cells ({ frames := 1, cells := 0, slots := 0, locals := 13 } : Room).slots) := by
  refine MetFree.of_bodySF (plainFor_of_name pn_1) hisR ?_
  intro p e s m args below meth c s₁ Bd hml0 hP hK
  obtain ⟨rfl, hZ, hh⟩ := hP
  have hx := Bd.exec
  have hby := Bd.bytes
  have hml : c.maxLocals = 1 := hml0
  have hown : s.vm.findClass "com/example/cicada/cicada/cli/ExitCode" = some m.cls := findClass_of_methodNamed Bd.named
  have hnm := (name_of_methodNamed Bd.named Bd.method).1
  have X0 : Stand p l e ({ frames := 1, cells := 0, slots := 0, locals := 13 } : Room) s m #[(.ref a1)] below meth c s₁ [] 0 0 := Stand.of_body Bd
  have e0 : s₁.heap = h0 := by rw [← hh, Bd.state]; rfl
  have N0 := Fr.nil n0
  have pre0 : ∀ t, Steps p.tables e below (s₁.setTop (mkF m 0 #[.val (.ref a1)] [])) t → Steps p.tables e below (s₁.setTop (entryFrame m #[(.ref a1)] 1)) t := fun t k => castTop (ef_1 m a1) k
  obtain ⟨T3, X3, e3, st3⟩ := getS2 X0 hx hZ hown (host := "") (Or.inl (hw _ (List.mem_of_getElem? (i := 7) rfl))) Via.refl e0 S__SwitchMap_com_example_cicada_cicada_Verdict (g := (mkF m 0 #[.val (.ref a1)] [])) rfl (hb hby d1_0)
  obtain ⟨cq4, kq4, q4a, q4b, q4c⟩ := isOf hZ e3 E_a1
  obtain ⟨_, _, ⟨T4, L4, k4, n4⟩, -, X4, ⟨Lc4, hQ4, l4, y4, z4⟩, st4⟩ := X3.virtualBackUp hx (owner := "java/lang/Enum") (x := (⟨"com/example/cicada/cicada/Verdict", "ordinal", "()I"⟩ : MethodName)) (y := (⟨"java/lang/Enum", "ordinal", "()I"⟩ : MethodName)) hown (mvT hZ (hw _ (List.mem_of_getElem? (i := 10) rfl))) (mvT hZ (hw _ (List.mem_of_getElem? (i := 11) rfl))) (mvT hZ (hw _ (List.mem_of_getElem? (i := 12) rfl))) (by decide) (mvT hZ (hw _ (List.mem_of_getElem? (i := 14) rfl))) (mvT hZ (hw _ (List.mem_of_getElem? (i := 13) rfl))) (backOf (W := 1) (rm2 l Z a0 hw [] a1 (2 : Int32) h0 n0 Z0 F_o) hZ (hw _ (List.mem_of_getElem? (i := 16) rfl)) (hw _ (List.mem_of_getElem? (i := 15) rfl)) (by decide) (by decide)) q4a q4c (g := (mkF m 4 #[.val (.ref a1)] [(.ref a1), (.ref w2)])) rfl (by rw [hml]; rfl) (Steps.refl _) (argsL := []) (rest := [(.ref w2)]) (lenOf pd_1_1 rfl) rfl (by show 2 * 0 + _ ≤ _; exact Nat.le_of_eq rfl) (hb hby d1_4) (fun _ _ => ⟨rfl, e3, (by decide : 0 + 0 ≤ _), (by decide : 0 + 0 ≤ _)⟩)
  dsimp only [Pt.U, Pt.locs, Pt.cells, Pt.slots] at X4 l4 y4 z4 st4 hQ4
  subst l4 y4 z4
  obtain ⟨rfl, N4q, eq4⟩ := hQ4
  have Ar4 : Arr Z T4.heap w2 cl_w2 .int := Ar_w2.ext (own_ext (own_same eq4))      -- what it returned, that it wrote nothing old, and the rest of your Q2
  have N4 := Fr.app N0 N4q
  obtain ⟨fs, hr, hrun, hended, hW, hsame⟩ := X4.leave (v := some (.int (3 : Int32))) (fun h => by rw [Bd.returns] at h; cases h)
  refine ⟨_, _, pre0 _ ?_, hrun, hended, _, _, rfl, ?_, ⟨_, rfl⟩, hW, hsame.mono (by decide) (by decide)⟩
  · show Steps p.tables e below (s₁.setTop (mkF m 0 #[.val (.ref a1)] [])) _
    refine st3 _ ?_
    show Steps p.tables e below (T3.setTop (mkF m 3 #[.val (.ref a1)] [(.ref w2)])) _
    refine XS.aloadN X3.here hx rfl (hb hby d1_3) rfl rfl ?_
    show Steps p.tables e below (T3.setTop (mkF m 4 #[.val (.ref a1)] [(.ref a1), (.ref w2)])) _
    refine st4.trans ?_
    show Steps p.tables e below (T4.setTop (mkF m 7 #[.val (.ref a1)] [(.int (2 : Int32)), (.ref w2)])) _
    refine X4.iaload hx (j := (2 : Int32)) (v := (.int (3 : Int32))) Ar4.1 (State.isArrayOf_alike hZ.alike Ar4.2.1) Ar4.2.2 hin7 hat7 (g := (mkF m 7 #[.val (.ref a1)] [(.int (2 : Int32)), (.ref w2)])) rfl rfl (hb hby d1_7) _ ?_
    show Steps p.tables e below (T4.setTop (mkF m 8 #[.val (.ref a1)] [(.int (3 : Int32))])) _
    refine X4.tableswitchIn hx (g := (mkF m 8 #[.val (.ref a1)] [(.int (3 : Int32))])) rfl (k := (3 : Int32)) (rest := []) rfl (hb hby d1_8) (by decide) (off := 46) rfl (by show (0 : Int) ≤ ((8 : Nat) : Int) + 46; decide) _ ?_
    show Steps p.tables e below (T4.setTop (mkF m 54 #[.val (.ref a1)] [])) _
    refine XS.iconst X4.here hx rfl (hb hby d1_54) ?_
    show Steps p.tables e below (T4.setTop (mkF m 55 #[.val (.ref a1)] [(.int (3 : Int32))])) _
    refine XS.goto X4.here hx rfl (pc0 := 55) (pc' := 59) rfl (hb hby d1_55) (by decide) (by decide) ?_
    show Steps p.tables e below (T4.setTop (mkF m 59 #[.val (.ref a1)] [(.int (3 : Int32))])) _
    exact retI X4 hx Bd.returns (hb hby d1_59) hr
  · show Q1k3 Z a1 w2 cl_w2 h0 n0 _ T4.heap _
    exact ⟨rfl, N4, eq4⟩
def Q1k4 (Z : State) (a1 : Addr) (w2 : Addr) (cl_w2 : Cell) (h0 : Heap) (n0 : Nat) (v : Option Value) (h : Heap) (L : List Loc) : Prop := v = some (.int (4 : Int32)) ∧ Fr n0 L ∧ h = h0
set_option maxRecDepth 65536 in
set_option maxHeartbeats 40000000 in
theorem rm1k4 (l : Launch) (Z : State) (a0 : Array Value) (hw : ∀ d ∈ tables_1, d.before a0 Z = true) (ws : List Jvm.Cond) (a1 : Addr) (w2 : Addr) (cl_w2 : Cell) (h0 : Heap) (n0 : Nat) (Z0 : n0 ≤ h0.size) (S__SwitchMap_com_example_cicada_cicada_Verdict : Sta Z h0 "com/example/cicada/cicada/cli/ExitCode$1" "$SwitchMap$com$example$cicada$cicada$Verdict" "[I" (.ref w2)) (E_a1 : Exa Z h0 a1 "com/example/cicada/cicada/Verdict") (Ar_w2 : Arr Z h0 w2 cl_w2 .int) (F_o : Fld Z h0 a1 "java/lang/Enum" "ordinal" "I" (.int (3 : Int32))) (hin7 : ¬ ((3 : Int32) < 0 ∨ cl_w2.slots.size ≤ ((3 : Int32)).toNatClampNeg)) (hat7 : cl_w2.slots[((3 : Int32)).toNatClampNeg]? = some (.int (4 : Int32))) :
    MetFree l (⟨"com/example/cicada/cicada/cli/ExitCode", "of", "(Lcom/example/cicada/cicada/Verdict;)I"⟩ : MethodName) (head1 (Jvm.Cond.code (⟨"com/example/cicada/cicada/cli/ExitCode", "of", "(Lcom/example/cicada/cicada/Verdict;)I"⟩ : MethodName) prog_5_method_2_code 1 (some .int) :: ws) ({ frames := 1, cells := 0, slots := 0, locals := 13 } : Room)) (fun a U => a = #[(.ref a1)] ∧ Z.Warmed39 U.vm ∧ U.heap = h0) (fun _ _ _ _ _ => True) (fun _ U o U' => ∃ v L, o = .returned v ∧ Q1k4 Z a1 w2 cl_w2 h0 n0 v U'.heap L ∧ FrameEnd U o U' L ({ frames := 1, cells := 0, slots := 0, locals := 13 } : Room).cells ({ frames := 1, cells := 0, slots := 0, locals := 13 } : Room).slots) := by
  refine MetFree.of_bodySF (plainFor_of_name pn_1) hisR ?_
  intro p e s m args below meth c s₁ Bd hml0 hP hK
  obtain ⟨rfl, hZ, hh⟩ := hP
  have hx := Bd.exec
  have hby := Bd.bytes
  have hml : c.maxLocals = 1 := hml0
  have hown : s.vm.findClass "com/example/cicada/cicada/cli/ExitCode" = some m.cls := findClass_of_methodNamed Bd.named
  have hnm := (name_of_methodNamed Bd.named Bd.method).1
  have X0 : Stand p l e ({ frames := 1, cells := 0, slots := 0, locals := 13 } : Room) s m #[(.ref a1)] below meth c s₁ [] 0 0 := Stand.of_body Bd
  have e0 : s₁.heap = h0 := by rw [← hh, Bd.state]; rfl
  have N0 := Fr.nil n0
  have pre0 : ∀ t, Steps p.tables e below (s₁.setTop (mkF m 0 #[.val (.ref a1)] [])) t → Steps p.tables e below (s₁.setTop (entryFrame m #[(.ref a1)] 1)) t := fun t k => castTop (ef_1 m a1) k
  obtain ⟨T3, X3, e3, st3⟩ := getS2 X0 hx hZ hown (host := "") (Or.inl (hw _ (List.mem_of_getElem? (i := 7) rfl))) Via.refl e0 S__SwitchMap_com_example_cicada_cicada_Verdict (g := (mkF m 0 #[.val (.ref a1)] [])) rfl (hb hby d1_0)
  obtain ⟨cq4, kq4, q4a, q4b, q4c⟩ := isOf hZ e3 E_a1
  obtain ⟨_, _, ⟨T4, L4, k4, n4⟩, -, X4, ⟨Lc4, hQ4, l4, y4, z4⟩, st4⟩ := X3.virtualBackUp hx (owner := "java/lang/Enum") (x := (⟨"com/example/cicada/cicada/Verdict", "ordinal", "()I"⟩ : MethodName)) (y := (⟨"java/lang/Enum", "ordinal", "()I"⟩ : MethodName)) hown (mvT hZ (hw _ (List.mem_of_getElem? (i := 10) rfl))) (mvT hZ (hw _ (List.mem_of_getElem? (i := 11) rfl))) (mvT hZ (hw _ (List.mem_of_getElem? (i := 12) rfl))) (by decide) (mvT hZ (hw _ (List.mem_of_getElem? (i := 14) rfl))) (mvT hZ (hw _ (List.mem_of_getElem? (i := 13) rfl))) (backOf (W := 1) (rm2 l Z a0 hw [] a1 (3 : Int32) h0 n0 Z0 F_o) hZ (hw _ (List.mem_of_getElem? (i := 16) rfl)) (hw _ (List.mem_of_getElem? (i := 15) rfl)) (by decide) (by decide)) q4a q4c (g := (mkF m 4 #[.val (.ref a1)] [(.ref a1), (.ref w2)])) rfl (by rw [hml]; rfl) (Steps.refl _) (argsL := []) (rest := [(.ref w2)]) (lenOf pd_1_1 rfl) rfl (by show 2 * 0 + _ ≤ _; exact Nat.le_of_eq rfl) (hb hby d1_4) (fun _ _ => ⟨rfl, e3, (by decide : 0 + 0 ≤ _), (by decide : 0 + 0 ≤ _)⟩)
  dsimp only [Pt.U, Pt.locs, Pt.cells, Pt.slots] at X4 l4 y4 z4 st4 hQ4
  subst l4 y4 z4
  obtain ⟨rfl, N4q, eq4⟩ := hQ4
  have Ar4 : Arr Z T4.heap w2 cl_w2 .int := Ar_w2.ext (own_ext (own_same eq4))      -- what it returned, that it wrote nothing old, and the rest of your Q2
  have N4 := Fr.app N0 N4q
  obtain ⟨fs, hr, hrun, hended, hW, hsame⟩ := X4.leave (v := some (.int (4 : Int32))) (fun h => by rw [Bd.returns] at h; cases h)
  refine ⟨_, _, pre0 _ ?_, hrun, hended, _, _, rfl, ?_, ⟨_, rfl⟩, hW, hsame.mono (by decide) (by decide)⟩
  · show Steps p.tables e below (s₁.setTop (mkF m 0 #[.val (.ref a1)] [])) _
    refine st3 _ ?_
    show Steps p.tables e below (T3.setTop (mkF m 3 #[.val (.ref a1)] [(.ref w2)])) _
    refine XS.aloadN X3.here hx rfl (hb hby d1_3) rfl rfl ?_
    show Steps p.tables e below (T3.setTop (mkF m 4 #[.val (.ref a1)] [(.ref a1), (.ref w2)])) _
    refine st4.trans ?_
    show Steps p.tables e below (T4.setTop (mkF m 7 #[.val (.ref a1)] [(.int (3 : Int32)), (.ref w2)])) _
    refine X4.iaload hx (j := (3 : Int32)) (v := (.int (4 : Int32))) Ar4.1 (State.isArrayOf_alike hZ.alike Ar4.2.1) Ar4.2.2 hin7 hat7 (g := (mkF m 7 #[.val (.ref a1)] [(.int (3 : Int32)), (.ref w2)])) rfl rfl (hb hby d1_7) _ ?_
    show Steps p.tables e below (T4.setTop (mkF m 8 #[.val (.ref a1)] [(.int (4 : Int32))])) _
    refine X4.tableswitchIn hx (g := (mkF m 8 #[.val (.ref a1)] [(.int (4 : Int32))])) rfl (k := (4 : Int32)) (rest := []) rfl (hb hby d1_8) (by decide) (off := 50) rfl (by show (0 : Int) ≤ ((8 : Nat) : Int) + 50; decide) _ ?_
    show Steps p.tables e below (T4.setTop (mkF m 58 #[.val (.ref a1)] [])) _
    refine XS.iconst X4.here hx rfl (hb hby d1_58) ?_
    show Steps p.tables e below (T4.setTop (mkF m 59 #[.val (.ref a1)] [(.int (4 : Int32))])) _
    exact retI X4 hx Bd.returns (hb hby d1_59) hr
  · show Q1k4 Z a1 w2 cl_w2 h0 n0 _ T4.heap _
    exact ⟨rfl, N4, eq4⟩
theorem pn_0 : plainName "com/example/cicada/cicada/cli/ExitCodeOfPinLaw" = true := by first | (simp [plainName, overriddenIn]; done) | decide +kernel
theorem pd_0_0 : parseMethodDescriptor "(Lcom/example/cicada/cicada/Verdict;)I" = some ⟨[(.object "com/example/cicada/cicada/Verdict")], some .int⟩ := by decide +kernel
theorem ef_0 (m : MethodId) (x0 : Int32) : entryFrame m #[(.int x0)] maxLocals = mkF m 0 #[.val (.int x0), .unset, .unset, .unset, .unset] [] := by first | (simp [entryFrame, mkF, argsToLocals, Value.category, maxLocals]; done) | rfl
def Q0r0 (n0 : Nat) (v : Option Value) (h : Heap) (L : List Loc) : Prop := v = some (.int (1 : Int32)) ∧ Fr n0 L
set_option maxRecDepth 65536 in
set_option maxHeartbeats 40000000 in
theorem rm0r0 (l : Launch) (Z : State) (a0 : Array Value) (hw : ∀ d ∈ tables_1, d.before a0 Z = true) (ws : List Jvm.Cond) (p1 : Int32) (v0 : Addr) (v1 : Addr) (v2 : Addr) (v3 : Addr) (wS : Addr) (cl : Cell) (h0 : Heap) (n0 : Nat) (Z0 : n0 ≤ h0.size) (S0 : Sta Z h0 "com/example/cicada/cicada/Verdict" "ADMITTED" "Lcom/example/cicada/cicada/Verdict;" (.ref v0)) (E0 : Exa Z h0 v0 "com/example/cicada/cicada/Verdict") (F0 : Fld Z h0 v0 "java/lang/Enum" "ordinal" "I" (.int (0 : Int32))) (hi0 : ¬ ((0 : Int32) < 0 ∨ cl.slots.size ≤ ((0 : Int32)).toNatClampNeg)) (ht0 : cl.slots[((0 : Int32)).toNatClampNeg]? = some (.int (1 : Int32))) (S1 : Sta Z h0 "com/example/cicada/cicada/Verdict" "REFUSED_QUOTA" "Lcom/example/cicada/cicada/Verdict;" (.ref v1)) (E1 : Exa Z h0 v1 "com/example/cicada/cicada/Verdict") (F1 : Fld Z h0 v1 "java/lang/Enum" "ordinal" "I" (.int (1 : Int32))) (hi1 : ¬ ((1 : Int32) < 0 ∨ cl.slots.size ≤ ((1 : Int32)).toNatClampNeg)) (ht1 : cl.slots[((1 : Int32)).toNatClampNeg]? = some (.int (2 : Int32))) (S2 : Sta Z h0 "com/example/cicada/cicada/Verdict" "REFUSED_ALREADY_SIGNED" "Lcom/example/cicada/cicada/Verdict;" (.ref v2)) (E2 : Exa Z h0 v2 "com/example/cicada/cicada/Verdict") (F2 : Fld Z h0 v2 "java/lang/Enum" "ordinal" "I" (.int (2 : Int32))) (hi2 : ¬ ((2 : Int32) < 0 ∨ cl.slots.size ≤ ((2 : Int32)).toNatClampNeg)) (ht2 : cl.slots[((2 : Int32)).toNatClampNeg]? = some (.int (3 : Int32))) (S3 : Sta Z h0 "com/example/cicada/cicada/Verdict" "REFUSED_WINDOW" "Lcom/example/cicada/cicada/Verdict;" (.ref v3)) (E3 : Exa Z h0 v3 "com/example/cicada/cicada/Verdict") (F3 : Fld Z h0 v3 "java/lang/Enum" "ordinal" "I" (.int (3 : Int32))) (hi3 : ¬ ((3 : Int32) < 0 ∨ cl.slots.size ≤ ((3 : Int32)).toNatClampNeg)) (ht3 : cl.slots[((3 : Int32)).toNatClampNeg]? = some (.int (4 : Int32))) (SS : Sta Z h0 "com/example/cicada/cicada/cli/ExitCode$1" "$SwitchMap$com$example$cicada$cicada$Verdict" "[I" (.ref wS)) (AS : Arr Z h0 wS cl .int) (hc5 : (p1 &&& (3 : Int32)) = (0 : Int32)) (hc44 : (p1 &&& (3 : Int32)) = (0 : Int32)) :
    MetFree l x (head1 (Jvm.Cond.code x code maxLocals ret :: ws) room_1) (fun a U => a = #[(.int p1)] ∧ Z.Warmed39 U.vm ∧ U.heap = h0) (fun _ _ _ _ _ => True) (fun _ U o U' => ∃ v L, o = .returned v ∧ Q0r0 n0 v U'.heap L ∧ FrameEnd U o U' L room_1.cells room_1.slots) := by
  refine MetFree.of_bodySF (plainFor_of_name pn_0) hisR ?_
  intro p e s m args below meth c s₁ Bd hml0 hP hK
  obtain ⟨rfl, hZ, hh⟩ := hP
  have hx := Bd.exec
  have hby := Bd.bytes
  have hml : c.maxLocals = 5 := hml0
  have hown : s.vm.findClass "com/example/cicada/cicada/cli/ExitCodeOfPinLaw" = some m.cls := findClass_of_methodNamed Bd.named
  have hnm := (name_of_methodNamed Bd.named Bd.method).1
  have X0 : Stand p l e room_1 s m #[(.int p1)] below meth c s₁ [] 0 0 := Stand.of_body Bd
  have e0 : s₁.heap = h0 := by rw [← hh, Bd.state]; rfl
  have N0 := Fr.nil n0
  have pre0 : ∀ t, Steps p.tables e below (s₁.setTop (mkF m 0 #[.val (.int p1), .unset, .unset, .unset, .unset] [])) t → Steps p.tables e below (s₁.setTop (entryFrame m #[(.int p1)] maxLocals)) t := fun t k => castTop (ef_0 m p1) k
  -- 3. LAWS
  obtain ⟨T3, X3, e3, st3⟩ := getS2 X0 hx hZ hown (host := "") (Or.inl (hw _ (List.mem_of_getElem? (i := 0) rfl))) Via.refl e0 S0 (g := (mkF m 8 #[.val (.int p1), .val (.int (p1 &&& (3 : Int32))), .unset, .unset, .unset] [])) rfl (hb hby at_8)
  -- pc 65: com/example/cicada/cicada/cli/ExitCode.of by its contract rm1
  obtain ⟨_, _, ⟨T4, L4, k4, n4⟩, -, X4, ⟨Lc4, hQ4, l4, y4, z4⟩, st4⟩ := Jvm.LawKit.callS X3 hx (y := (⟨"com/example/cicada/cicada/cli/ExitCode", "of", "(Lcom/example/cicada/cicada/Verdict;)I"⟩ : MethodName)) hown (mvT hZ (hw _ (List.mem_of_getElem? (i := 3) rfl))) (mvT hZ (hw _ (List.mem_of_getElem? (i := 4) rfl))) (mvT hZ (hw _ (List.mem_of_getElem? (i := 5) rfl))) (mvT hZ (hw _ (List.mem_of_getElem? (i := 6) rfl))) (by decide) (backOf (W := 0) (rm1k1 l Z a0 hw [] v0 wS cl h0 n0 Z0 SS E0 AS F0 hi0 ht0) hZ (hw _ (List.mem_of_getElem? (i := 6) rfl)) (hw _ (List.mem_of_getElem? (i := 5) rfl)) (by decide) (by decide)) (g := (mkF m 65 #[.val (.int p1), .val (.int (p1 &&& (3 : Int32))), .val (.ref v0), .val (.int (0 : Int32)), .unset] [(.ref v0)])) rfl (by rw [hml]; rfl) (argsL := [(.ref v0)]) (rest := []) (lenOf pd_0_0 rfl) rfl (by show 2 * 0 + _ ≤ _; exact Nat.le_of_eq rfl) (hb hby at_65) (fun _ _ => ⟨rfl, e3, (by decide : 0 + 0 ≤ _), (by decide : 0 + 0 ≤ _)⟩)
  dsimp only [Pt.U, Pt.locs, Pt.cells, Pt.slots] at X4 l4 y4 z4 st4 hQ4
  subst l4 y4 z4
  obtain ⟨rfl, N4q, eq4⟩ := hQ4      -- what it returned, that it wrote nothing old, and the rest of your Q1
  have N4 := Fr.app N0 N4q
  obtain ⟨fs, hr, hrun, hended, hW, hsame⟩ := X4.leave (v := some (.int (1 : Int32))) (fun h => by rw [Bd.returns] at h; cases h)
  refine ⟨_, _, pre0 _ ?_, hrun, hended, _, _, rfl, ?_, ⟨_, rfl⟩, hW, hsame.mono (by decide) (by decide)⟩
  -- 4. STEPS
  · show Steps p.tables e below (s₁.setTop (mkF m 0 #[.val (.int p1), .unset, .unset, .unset, .unset] [])) _
    refine XS.iloadN X0.here hx rfl (hb hby at_0) rfl ?_
    show Steps p.tables e below (s₁.setTop (mkF m 1 #[.val (.int p1), .unset, .unset, .unset, .unset] [(.int p1)])) _
    refine XS.iconst X0.here hx rfl (hb hby at_1) ?_
    show Steps p.tables e below (s₁.setTop (mkF m 2 #[.val (.int p1), .unset, .unset, .unset, .unset] [(.int (3 : Int32)), (.int p1)])) _
    refine XS.iand X0.here hx rfl (hb hby at_2) rfl ?_
    show Steps p.tables e below (s₁.setTop (mkF m 3 #[.val (.int p1), .unset, .unset, .unset, .unset] [(.int (p1 &&& (3 : Int32)))])) _
    refine XS.istoreN X0.here hx rfl (hb hby at_3) rfl (l' := #[.val (.int p1), .val (.int (p1 &&& (3 : Int32))), .unset, .unset, .unset]) rfl ?_
    show Steps p.tables e below (s₁.setTop (mkF m 4 #[.val (.int p1), .val (.int (p1 &&& (3 : Int32))), .unset, .unset, .unset] [])) _
    refine XS.iloadN X0.here hx rfl (hb hby at_4) rfl ?_
    show Steps p.tables e below (s₁.setTop (mkF m 5 #[.val (.int p1), .val (.int (p1 &&& (3 : Int32))), .unset, .unset, .unset] [(.int (p1 &&& (3 : Int32)))])) _
    refine XS.ifNo X0.here hx rfl (hb hby at_5) rfl ((if0 _ _).trans (teq hc5).2) ?_
    show Steps p.tables e below (s₁.setTop (mkF m 8 #[.val (.int p1), .val (.int (p1 &&& (3 : Int32))), .unset, .unset, .unset] [])) _
    refine st3 _ ?_
    show Steps p.tables e below (T3.setTop (mkF m 11 #[.val (.int p1), .val (.int (p1 &&& (3 : Int32))), .unset, .unset, .unset] [(.ref v0)])) _
    refine XS.astoreN X3.here hx rfl (hb hby at_11) rfl rfl (l' := #[.val (.int p1), .val (.int (p1 &&& (3 : Int32))), .val (.ref v0), .unset, .unset]) rfl ?_
    show Steps p.tables e below (T3.setTop (mkF m 12 #[.val (.int p1), .val (.int (p1 &&& (3 : Int32))), .val (.ref v0), .unset, .unset] [])) _
    refine XS.goto X3.here hx rfl (pc0 := 12) (pc' := 43) rfl (hb hby at_12) (by decide) (by decide) ?_
    show Steps p.tables e below (T3.setTop (mkF m 43 #[.val (.int p1), .val (.int (p1 &&& (3 : Int32))), .val (.ref v0), .unset, .unset] [])) _
    refine XS.iloadN X3.here hx rfl (hb hby at_43) rfl ?_
    show Steps p.tables e below (T3.setTop (mkF m 44 #[.val (.int p1), .val (.int (p1 &&& (3 : Int32))), .val (.ref v0), .unset, .unset] [(.int (p1 &&& (3 : Int32)))])) _
    refine XS.ifNo X3.here hx rfl (hb hby at_44) rfl ((if0 _ _).trans (teq hc44).2) ?_
    show Steps p.tables e below (T3.setTop (mkF m 47 #[.val (.int p1), .val (.int (p1 &&& (3 : Int32))), .val (.ref v0), .unset, .unset] [])) _
    refine XS.iconst X3.here hx rfl (hb hby at_47) ?_
    show Steps p.tables e below (T3.setTop (mkF m 48 #[.val (.int p1), .val (.int (p1 &&& (3 : Int32))), .val (.ref v0), .unset, .unset] [(.int (0 : Int32))])) _
    refine XS.istoreN X3.here hx rfl (hb hby at_48) rfl (l' := #[.val (.int p1), .val (.int (p1 &&& (3 : Int32))), .val (.ref v0), .val (.int (0 : Int32)), .unset]) rfl ?_
    show Steps p.tables e below (T3.setTop (mkF m 49 #[.val (.int p1), .val (.int (p1 &&& (3 : Int32))), .val (.ref v0), .val (.int (0 : Int32)), .unset] [])) _
    refine XS.goto X3.here hx rfl (pc0 := 49) (pc' := 64) rfl (hb hby at_49) (by decide) (by decide) ?_
    show Steps p.tables e below (T3.setTop (mkF m 64 #[.val (.int p1), .val (.int (p1 &&& (3 : Int32))), .val (.ref v0), .val (.int (0 : Int32)), .unset] [])) _
    refine XS.aloadN X3.here hx rfl (hb hby at_64) rfl rfl ?_
    show Steps p.tables e below (T3.setTop (mkF m 65 #[.val (.int p1), .val (.int (p1 &&& (3 : Int32))), .val (.ref v0), .val (.int (0 : Int32)), .unset] [(.ref v0)])) _
    refine st4 _ ?_
    show Steps p.tables e below (T4.setTop (mkF m 68 #[.val (.int p1), .val (.int (p1 &&& (3 : Int32))), .val (.ref v0), .val (.int (0 : Int32)), .unset] [(.int (0 : Int32))])) _
    refine XS.istore X4.here hx rfl (hb hby at_68) rfl (l' := #[.val (.int p1), .val (.int (p1 &&& (3 : Int32))), .val (.ref v0), .val (.int (0 : Int32)), .val (.int (0 : Int32))]) rfl ?_
    show Steps p.tables e below (T4.setTop (mkF m 70 #[.val (.int p1), .val (.int (p1 &&& (3 : Int32))), .val (.ref v0), .val (.int (0 : Int32)), .val (.int (0 : Int32))] [])) _
    refine XS.iload X4.here hx rfl (hb hby at_70) rfl ?_
    show Steps p.tables e below (T4.setTop (mkF m 72 #[.val (.int p1), .val (.int (p1 &&& (3 : Int32))), .val (.ref v0), .val (.int (0 : Int32)), .val (.int (0 : Int32))] [(.int (0 : Int32))])) _
    refine XS.iloadN X4.here hx rfl (hb hby at_72) rfl ?_
    show Steps p.tables e below (T4.setTop (mkF m 73 #[.val (.int p1), .val (.int (p1 &&& (3 : Int32))), .val (.ref v0), .val (.int (0 : Int32)), .val (.int (0 : Int32))] [(.int (0 : Int32)), (.int (0 : Int32))])) _
    refine XS.icmpNo X4.here hx rfl (hb hby at_73) rfl (teq rfl).2 ?_
    show Steps p.tables e below (T4.setTop (mkF m 76 #[.val (.int p1), .val (.int (p1 &&& (3 : Int32))), .val (.ref v0), .val (.int (0 : Int32)), .val (.int (0 : Int32))] [])) _
    refine XS.iconst X4.here hx rfl (hb hby at_76) ?_
    show Steps p.tables e below (T4.setTop (mkF m 77 #[.val (.int p1), .val (.int (p1 &&& (3 : Int32))), .val (.ref v0), .val (.int (0 : Int32)), .val (.int (0 : Int32))] [(.int (1 : Int32))])) _
    refine XS.goto X4.here hx rfl (pc0 := 77) (pc' := 81) rfl (hb hby at_77) (by decide) (by decide) ?_
    show Steps p.tables e below (T4.setTop (mkF m 81 #[.val (.int p1), .val (.int (p1 &&& (3 : Int32))), .val (.ref v0), .val (.int (0 : Int32)), .val (.int (0 : Int32))] [(.int (1 : Int32))])) _
    exact retN X4 hx (t := .boolean) Bd.returns (by simp) (hb hby at_81) hr
  · show Q0r0 n0 _ T4.heap _
    exact ⟨rfl, N4⟩
def Q0r1 (n0 : Nat) (v : Option Value) (h : Heap) (L : List Loc) : Prop := v = some (.int (1 : Int32)) ∧ Fr n0 L
set_option maxRecDepth 65536 in
set_option maxHeartbeats 40000000 in
theorem rm0r1 (l : Launch) (Z : State) (a0 : Array Value) (hw : ∀ d ∈ tables_1, d.before a0 Z = true) (ws : List Jvm.Cond) (p1 : Int32) (v0 : Addr) (v1 : Addr) (v2 : Addr) (v3 : Addr) (wS : Addr) (cl : Cell) (h0 : Heap) (n0 : Nat) (Z0 : n0 ≤ h0.size) (S0 : Sta Z h0 "com/example/cicada/cicada/Verdict" "ADMITTED" "Lcom/example/cicada/cicada/Verdict;" (.ref v0)) (E0 : Exa Z h0 v0 "com/example/cicada/cicada/Verdict") (F0 : Fld Z h0 v0 "java/lang/Enum" "ordinal" "I" (.int (0 : Int32))) (hi0 : ¬ ((0 : Int32) < 0 ∨ cl.slots.size ≤ ((0 : Int32)).toNatClampNeg)) (ht0 : cl.slots[((0 : Int32)).toNatClampNeg]? = some (.int (1 : Int32))) (S1 : Sta Z h0 "com/example/cicada/cicada/Verdict" "REFUSED_QUOTA" "Lcom/example/cicada/cicada/Verdict;" (.ref v1)) (E1 : Exa Z h0 v1 "com/example/cicada/cicada/Verdict") (F1 : Fld Z h0 v1 "java/lang/Enum" "ordinal" "I" (.int (1 : Int32))) (hi1 : ¬ ((1 : Int32) < 0 ∨ cl.slots.size ≤ ((1 : Int32)).toNatClampNeg)) (ht1 : cl.slots[((1 : Int32)).toNatClampNeg]? = some (.int (2 : Int32))) (S2 : Sta Z h0 "com/example/cicada/cicada/Verdict" "REFUSED_ALREADY_SIGNED" "Lcom/example/cicada/cicada/Verdict;" (.ref v2)) (E2 : Exa Z h0 v2 "com/example/cicada/cicada/Verdict") (F2 : Fld Z h0 v2 "java/lang/Enum" "ordinal" "I" (.int (2 : Int32))) (hi2 : ¬ ((2 : Int32) < 0 ∨ cl.slots.size ≤ ((2 : Int32)).toNatClampNeg)) (ht2 : cl.slots[((2 : Int32)).toNatClampNeg]? = some (.int (3 : Int32))) (S3 : Sta Z h0 "com/example/cicada/cicada/Verdict" "REFUSED_WINDOW" "Lcom/example/cicada/cicada/Verdict;" (.ref v3)) (E3 : Exa Z h0 v3 "com/example/cicada/cicada/Verdict") (F3 : Fld Z h0 v3 "java/lang/Enum" "ordinal" "I" (.int (3 : Int32))) (hi3 : ¬ ((3 : Int32) < 0 ∨ cl.slots.size ≤ ((3 : Int32)).toNatClampNeg)) (ht3 : cl.slots[((3 : Int32)).toNatClampNeg]? = some (.int (4 : Int32))) (SS : Sta Z h0 "com/example/cicada/cicada/cli/ExitCode$1" "$SwitchMap$com$example$cicada$cicada$Verdict" "[I" (.ref wS)) (AS : Arr Z h0 wS cl .int) (hc5 : ¬ ((p1 &&& (3 : Int32)) = (0 : Int32))) (hc17 : (p1 &&& (3 : Int32)) = (1 : Int32)) (hc44 : ¬ ((p1 &&& (3 : Int32)) = (0 : Int32))) (hc54 : ¬ ((p1 &&& (3 : Int32)) = (3 : Int32))) :
    MetFree l x (head1 (Jvm.Cond.code x code maxLocals ret :: ws) room_1) (fun a U => a = #[(.int p1)] ∧ Z.Warmed39 U.vm ∧ U.heap = h0) (fun _ _ _ _ _ => True) (fun _ U o U' => ∃ v L, o = .returned v ∧ Q0r1 n0 v U'.heap L ∧ FrameEnd U o U' L room_1.cells room_1.slots) := by
  refine MetFree.of_bodySF (plainFor_of_name pn_0) hisR ?_
  intro p e s m args below meth c s₁ Bd hml0 hP hK
  obtain ⟨rfl, hZ, hh⟩ := hP
  have hx := Bd.exec
  have hby := Bd.bytes
  have hml : c.maxLocals = 5 := hml0
  have hown : s.vm.findClass "com/example/cicada/cicada/cli/ExitCodeOfPinLaw" = some m.cls := findClass_of_methodNamed Bd.named
  have hnm := (name_of_methodNamed Bd.named Bd.method).1
  have X0 : Stand p l e room_1 s m #[(.int p1)] below meth c s₁ [] 0 0 := Stand.of_body Bd
  have e0 : s₁.heap = h0 := by rw [← hh, Bd.state]; rfl
  have N0 := Fr.nil n0
  have pre0 : ∀ t, Steps p.tables e below (s₁.setTop (mkF m 0 #[.val (.int p1), .unset, .unset, .unset, .unset] [])) t → Steps p.tables e below (s₁.setTop (entryFrame m #[(.int p1)] maxLocals)) t := fun t k => castTop (ef_0 m p1) k
  -- 3. LAWS
  obtain ⟨T3, X3, e3, st3⟩ := getS2 X0 hx hZ hown (host := "") (Or.inl (hw _ (List.mem_of_getElem? (i := 23) rfl))) Via.refl e0 S1 (g := (mkF m 20 #[.val (.int p1), .val (.int (p1 &&& (3 : Int32))), .unset, .unset, .unset] [])) rfl (hb hby at_20)
  -- pc 65: com/example/cicada/cicada/cli/ExitCode.of by its contract rm1
  obtain ⟨_, _, ⟨T4, L4, k4, n4⟩, -, X4, ⟨Lc4, hQ4, l4, y4, z4⟩, st4⟩ := Jvm.LawKit.callS X3 hx (y := (⟨"com/example/cicada/cicada/cli/ExitCode", "of", "(Lcom/example/cicada/cicada/Verdict;)I"⟩ : MethodName)) hown (mvT hZ (hw _ (List.mem_of_getElem? (i := 3) rfl))) (mvT hZ (hw _ (List.mem_of_getElem? (i := 4) rfl))) (mvT hZ (hw _ (List.mem_of_getElem? (i := 5) rfl))) (mvT hZ (hw _ (List.mem_of_getElem? (i := 6) rfl))) (by decide) (backOf (W := 0) (rm1k2 l Z a0 hw [] v1 wS cl h0 n0 Z0 SS E1 AS F1 hi1 ht1) hZ (hw _ (List.mem_of_getElem? (i := 6) rfl)) (hw _ (List.mem_of_getElem? (i := 5) rfl)) (by decide) (by decide)) (g := (mkF m 65 #[.val (.int p1), .val (.int (p1 &&& (3 : Int32))), .val (.ref v1), .val (.int (3 : Int32)), .unset] [(.ref v1)])) rfl (by rw [hml]; rfl) (argsL := [(.ref v1)]) (rest := []) (lenOf pd_0_0 rfl) rfl (by show 2 * 0 + _ ≤ _; exact Nat.le_of_eq rfl) (hb hby at_65) (fun _ _ => ⟨rfl, e3, (by decide : 0 + 0 ≤ _), (by decide : 0 + 0 ≤ _)⟩)
  dsimp only [Pt.U, Pt.locs, Pt.cells, Pt.slots] at X4 l4 y4 z4 st4 hQ4
  subst l4 y4 z4
  obtain ⟨rfl, N4q, eq4⟩ := hQ4      -- what it returned, that it wrote nothing old, and the rest of your Q1
  have N4 := Fr.app N0 N4q
  obtain ⟨fs, hr, hrun, hended, hW, hsame⟩ := X4.leave (v := some (.int (1 : Int32))) (fun h => by rw [Bd.returns] at h; cases h)
  refine ⟨_, _, pre0 _ ?_, hrun, hended, _, _, rfl, ?_, ⟨_, rfl⟩, hW, hsame.mono (by decide) (by decide)⟩
  -- 4. STEPS
  · show Steps p.tables e below (s₁.setTop (mkF m 0 #[.val (.int p1), .unset, .unset, .unset, .unset] [])) _
    refine XS.iloadN X0.here hx rfl (hb hby at_0) rfl ?_
    show Steps p.tables e below (s₁.setTop (mkF m 1 #[.val (.int p1), .unset, .unset, .unset, .unset] [(.int p1)])) _
    refine XS.iconst X0.here hx rfl (hb hby at_1) ?_
    show Steps p.tables e below (s₁.setTop (mkF m 2 #[.val (.int p1), .unset, .unset, .unset, .unset] [(.int (3 : Int32)), (.int p1)])) _
    refine XS.iand X0.here hx rfl (hb hby at_2) rfl ?_
    show Steps p.tables e below (s₁.setTop (mkF m 3 #[.val (.int p1), .unset, .unset, .unset, .unset] [(.int (p1 &&& (3 : Int32)))])) _
    refine XS.istoreN X0.here hx rfl (hb hby at_3) rfl (l' := #[.val (.int p1), .val (.int (p1 &&& (3 : Int32))), .unset, .unset, .unset]) rfl ?_
    show Steps p.tables e below (s₁.setTop (mkF m 4 #[.val (.int p1), .val (.int (p1 &&& (3 : Int32))), .unset, .unset, .unset] [])) _
    refine XS.iloadN X0.here hx rfl (hb hby at_4) rfl ?_
    show Steps p.tables e below (s₁.setTop (mkF m 5 #[.val (.int p1), .val (.int (p1 &&& (3 : Int32))), .unset, .unset, .unset] [(.int (p1 &&& (3 : Int32)))])) _
    refine XS.ifYes X0.here hx rfl (pc0 := 5) (pc' := 15) rfl (hb hby at_5) rfl ((if0 _ _).trans (feq hc5).2) (by decide) (by decide) ?_
    show Steps p.tables e below (s₁.setTop (mkF m 15 #[.val (.int p1), .val (.int (p1 &&& (3 : Int32))), .unset, .unset, .unset] [])) _
    refine XS.iloadN X0.here hx rfl (hb hby at_15) rfl ?_
    show Steps p.tables e below (s₁.setTop (mkF m 16 #[.val (.int p1), .val (.int (p1 &&& (3 : Int32))), .unset, .unset, .unset] [(.int (p1 &&& (3 : Int32)))])) _
    refine XS.iconst X0.here hx rfl (hb hby at_16) ?_
    show Steps p.tables e below (s₁.setTop (mkF m 17 #[.val (.int p1), .val (.int (p1 &&& (3 : Int32))), .unset, .unset, .unset] [(.int (1 : Int32)), (.int (p1 &&& (3 : Int32)))])) _
    refine XS.icmpNo X0.here hx rfl (hb hby at_17) rfl (teq hc17).2 ?_
    show Steps p.tables e below (s₁.setTop (mkF m 20 #[.val (.int p1), .val (.int (p1 &&& (3 : Int32))), .unset, .unset, .unset] [])) _
    refine st3 _ ?_
    show Steps p.tables e below (T3.setTop (mkF m 23 #[.val (.int p1), .val (.int (p1 &&& (3 : Int32))), .unset, .unset, .unset] [(.ref v1)])) _
    refine XS.astoreN X3.here hx rfl (hb hby at_23) rfl rfl (l' := #[.val (.int p1), .val (.int (p1 &&& (3 : Int32))), .val (.ref v1), .unset, .unset]) rfl ?_
    show Steps p.tables e below (T3.setTop (mkF m 24 #[.val (.int p1), .val (.int (p1 &&& (3 : Int32))), .val (.ref v1), .unset, .unset] [])) _
    refine XS.goto X3.here hx rfl (pc0 := 24) (pc' := 43) rfl (hb hby at_24) (by decide) (by decide) ?_
    show Steps p.tables e below (T3.setTop (mkF m 43 #[.val (.int p1), .val (.int (p1 &&& (3 : Int32))), .val (.ref v1), .unset, .unset] [])) _
    refine XS.iloadN X3.here hx rfl (hb hby at_43) rfl ?_
    show Steps p.tables e below (T3.setTop (mkF m 44 #[.val (.int p1), .val (.int (p1 &&& (3 : Int32))), .val (.ref v1), .unset, .unset] [(.int (p1 &&& (3 : Int32)))])) _
    refine XS.ifYes X3.here hx rfl (pc0 := 44) (pc' := 52) rfl (hb hby at_44) rfl ((if0 _ _).trans (feq hc44).2) (by decide) (by decide) ?_
    show Steps p.tables e below (T3.setTop (mkF m 52 #[.val (.int p1), .val (.int (p1 &&& (3 : Int32))), .val (.ref v1), .unset, .unset] [])) _
    refine XS.iloadN X3.here hx rfl (hb hby at_52) rfl ?_
    show Steps p.tables e below (T3.setTop (mkF m 53 #[.val (.int p1), .val (.int (p1 &&& (3 : Int32))), .val (.ref v1), .unset, .unset] [(.int (p1 &&& (3 : Int32)))])) _
    refine XS.iconst X3.here hx rfl (hb hby at_53) ?_
    show Steps p.tables e below (T3.setTop (mkF m 54 #[.val (.int p1), .val (.int (p1 &&& (3 : Int32))), .val (.ref v1), .unset, .unset] [(.int (3 : Int32)), (.int (p1 &&& (3 : Int32)))])) _
    refine XS.icmpYes X3.here hx rfl (pc0 := 54) (pc' := 62) rfl (hb hby at_54) rfl (feq hc54).2 (by decide) (by decide) ?_
    show Steps p.tables e below (T3.setTop (mkF m 62 #[.val (.int p1), .val (.int (p1 &&& (3 : Int32))), .val (.ref v1), .unset, .unset] [])) _
    refine XS.iconst X3.here hx rfl (hb hby at_62) ?_
    show Steps p.tables e below (T3.setTop (mkF m 63 #[.val (.int p1), .val (.int (p1 &&& (3 : Int32))), .val (.ref v1), .unset, .unset] [(.int (3 : Int32))])) _
    refine XS.istoreN X3.here hx rfl (hb hby at_63) rfl (l' := #[.val (.int p1), .val (.int (p1 &&& (3 : Int32))), .val (.ref v1), .val (.int (3 : Int32)), .unset]) rfl ?_
    show Steps p.tables e below (T3.setTop (mkF m 64 #[.val (.int p1), .val (.int (p1 &&& (3 : Int32))), .val (.ref v1), .val (.int (3 : Int32)), .unset] [])) _
    refine XS.aloadN X3.here hx rfl (hb hby at_64) rfl rfl ?_
    show Steps p.tables e below (T3.setTop (mkF m 65 #[.val (.int p1), .val (.int (p1 &&& (3 : Int32))), .val (.ref v1), .val (.int (3 : Int32)), .unset] [(.ref v1)])) _
    refine st4 _ ?_
    show Steps p.tables e below (T4.setTop (mkF m 68 #[.val (.int p1), .val (.int (p1 &&& (3 : Int32))), .val (.ref v1), .val (.int (3 : Int32)), .unset] [(.int (3 : Int32))])) _
    refine XS.istore X4.here hx rfl (hb hby at_68) rfl (l' := #[.val (.int p1), .val (.int (p1 &&& (3 : Int32))), .val (.ref v1), .val (.int (3 : Int32)), .val (.int (3 : Int32))]) rfl ?_
    show Steps p.tables e below (T4.setTop (mkF m 70 #[.val (.int p1), .val (.int (p1 &&& (3 : Int32))), .val (.ref v1), .val (.int (3 : Int32)), .val (.int (3 : Int32))] [])) _
    refine XS.iload X4.here hx rfl (hb hby at_70) rfl ?_
    show Steps p.tables e below (T4.setTop (mkF m 72 #[.val (.int p1), .val (.int (p1 &&& (3 : Int32))), .val (.ref v1), .val (.int (3 : Int32)), .val (.int (3 : Int32))] [(.int (3 : Int32))])) _
    refine XS.iloadN X4.here hx rfl (hb hby at_72) rfl ?_
    show Steps p.tables e below (T4.setTop (mkF m 73 #[.val (.int p1), .val (.int (p1 &&& (3 : Int32))), .val (.ref v1), .val (.int (3 : Int32)), .val (.int (3 : Int32))] [(.int (3 : Int32)), (.int (3 : Int32))])) _
    refine XS.icmpNo X4.here hx rfl (hb hby at_73) rfl (teq rfl).2 ?_
    show Steps p.tables e below (T4.setTop (mkF m 76 #[.val (.int p1), .val (.int (p1 &&& (3 : Int32))), .val (.ref v1), .val (.int (3 : Int32)), .val (.int (3 : Int32))] [])) _
    refine XS.iconst X4.here hx rfl (hb hby at_76) ?_
    show Steps p.tables e below (T4.setTop (mkF m 77 #[.val (.int p1), .val (.int (p1 &&& (3 : Int32))), .val (.ref v1), .val (.int (3 : Int32)), .val (.int (3 : Int32))] [(.int (1 : Int32))])) _
    refine XS.goto X4.here hx rfl (pc0 := 77) (pc' := 81) rfl (hb hby at_77) (by decide) (by decide) ?_
    show Steps p.tables e below (T4.setTop (mkF m 81 #[.val (.int p1), .val (.int (p1 &&& (3 : Int32))), .val (.ref v1), .val (.int (3 : Int32)), .val (.int (3 : Int32))] [(.int (1 : Int32))])) _
    exact retN X4 hx (t := .boolean) Bd.returns (by simp) (hb hby at_81) hr
  · show Q0r1 n0 _ T4.heap _
    exact ⟨rfl, N4⟩
def Q0r2 (n0 : Nat) (v : Option Value) (h : Heap) (L : List Loc) : Prop := v = some (.int (1 : Int32)) ∧ Fr n0 L
set_option maxRecDepth 65536 in
set_option maxHeartbeats 40000000 in
theorem rm0r2 (l : Launch) (Z : State) (a0 : Array Value) (hw : ∀ d ∈ tables_1, d.before a0 Z = true) (ws : List Jvm.Cond) (p1 : Int32) (v0 : Addr) (v1 : Addr) (v2 : Addr) (v3 : Addr) (wS : Addr) (cl : Cell) (h0 : Heap) (n0 : Nat) (Z0 : n0 ≤ h0.size) (S0 : Sta Z h0 "com/example/cicada/cicada/Verdict" "ADMITTED" "Lcom/example/cicada/cicada/Verdict;" (.ref v0)) (E0 : Exa Z h0 v0 "com/example/cicada/cicada/Verdict") (F0 : Fld Z h0 v0 "java/lang/Enum" "ordinal" "I" (.int (0 : Int32))) (hi0 : ¬ ((0 : Int32) < 0 ∨ cl.slots.size ≤ ((0 : Int32)).toNatClampNeg)) (ht0 : cl.slots[((0 : Int32)).toNatClampNeg]? = some (.int (1 : Int32))) (S1 : Sta Z h0 "com/example/cicada/cicada/Verdict" "REFUSED_QUOTA" "Lcom/example/cicada/cicada/Verdict;" (.ref v1)) (E1 : Exa Z h0 v1 "com/example/cicada/cicada/Verdict") (F1 : Fld Z h0 v1 "java/lang/Enum" "ordinal" "I" (.int (1 : Int32))) (hi1 : ¬ ((1 : Int32) < 0 ∨ cl.slots.size ≤ ((1 : Int32)).toNatClampNeg)) (ht1 : cl.slots[((1 : Int32)).toNatClampNeg]? = some (.int (2 : Int32))) (S2 : Sta Z h0 "com/example/cicada/cicada/Verdict" "REFUSED_ALREADY_SIGNED" "Lcom/example/cicada/cicada/Verdict;" (.ref v2)) (E2 : Exa Z h0 v2 "com/example/cicada/cicada/Verdict") (F2 : Fld Z h0 v2 "java/lang/Enum" "ordinal" "I" (.int (2 : Int32))) (hi2 : ¬ ((2 : Int32) < 0 ∨ cl.slots.size ≤ ((2 : Int32)).toNatClampNeg)) (ht2 : cl.slots[((2 : Int32)).toNatClampNeg]? = some (.int (3 : Int32))) (S3 : Sta Z h0 "com/example/cicada/cicada/Verdict" "REFUSED_WINDOW" "Lcom/example/cicada/cicada/Verdict;" (.ref v3)) (E3 : Exa Z h0 v3 "com/example/cicada/cicada/Verdict") (F3 : Fld Z h0 v3 "java/lang/Enum" "ordinal" "I" (.int (3 : Int32))) (hi3 : ¬ ((3 : Int32) < 0 ∨ cl.slots.size ≤ ((3 : Int32)).toNatClampNeg)) (ht3 : cl.slots[((3 : Int32)).toNatClampNeg]? = some (.int (4 : Int32))) (SS : Sta Z h0 "com/example/cicada/cicada/cli/ExitCode$1" "$SwitchMap$com$example$cicada$cicada$Verdict" "[I" (.ref wS)) (AS : Arr Z h0 wS cl .int) (hc5 : ¬ ((p1 &&& (3 : Int32)) = (0 : Int32))) (hc17 : ¬ ((p1 &&& (3 : Int32)) = (1 : Int32))) (hc29 : (p1 &&& (3 : Int32)) = (2 : Int32)) (hc44 : ¬ ((p1 &&& (3 : Int32)) = (0 : Int32))) (hc54 : ¬ ((p1 &&& (3 : Int32)) = (3 : Int32))) :
    MetFree l x (head1 (Jvm.Cond.code x code maxLocals ret :: ws) room_1) (fun a U => a = #[(.int p1)] ∧ Z.Warmed39 U.vm ∧ U.heap = h0) (fun _ _ _ _ _ => True) (fun _ U o U' => ∃ v L, o = .returned v ∧ Q0r2 n0 v U'.heap L ∧ FrameEnd U o U' L room_1.cells room_1.slots) := by
  refine MetFree.of_bodySF (plainFor_of_name pn_0) hisR ?_
  intro p e s m args below meth c s₁ Bd hml0 hP hK
  obtain ⟨rfl, hZ, hh⟩ := hP
  have hx := Bd.exec
  have hby := Bd.bytes
  have hml : c.maxLocals = 5 := hml0
  have hown : s.vm.findClass "com/example/cicada/cicada/cli/ExitCodeOfPinLaw" = some m.cls := findClass_of_methodNamed Bd.named
  have hnm := (name_of_methodNamed Bd.named Bd.method).1
  have X0 : Stand p l e room_1 s m #[(.int p1)] below meth c s₁ [] 0 0 := Stand.of_body Bd
  have e0 : s₁.heap = h0 := by rw [← hh, Bd.state]; rfl
  have N0 := Fr.nil n0
  have pre0 : ∀ t, Steps p.tables e below (s₁.setTop (mkF m 0 #[.val (.int p1), .unset, .unset, .unset, .unset] [])) t → Steps p.tables e below (s₁.setTop (entryFrame m #[(.int p1)] maxLocals)) t := fun t k => castTop (ef_0 m p1) k
  -- 3. LAWS
  obtain ⟨T3, X3, e3, st3⟩ := getS2 X0 hx hZ hown (host := "") (Or.inl (hw _ (List.mem_of_getElem? (i := 21) rfl))) Via.refl e0 S2 (g := (mkF m 32 #[.val (.int p1), .val (.int (p1 &&& (3 : Int32))), .unset, .unset, .unset] [])) rfl (hb hby at_32)
  -- pc 65: com/example/cicada/cicada/cli/ExitCode.of by its contract rm1
  obtain ⟨_, _, ⟨T4, L4, k4, n4⟩, -, X4, ⟨Lc4, hQ4, l4, y4, z4⟩, st4⟩ := Jvm.LawKit.callS X3 hx (y := (⟨"com/example/cicada/cicada/cli/ExitCode", "of", "(Lcom/example/cicada/cicada/Verdict;)I"⟩ : MethodName)) hown (mvT hZ (hw _ (List.mem_of_getElem? (i := 3) rfl))) (mvT hZ (hw _ (List.mem_of_getElem? (i := 4) rfl))) (mvT hZ (hw _ (List.mem_of_getElem? (i := 5) rfl))) (mvT hZ (hw _ (List.mem_of_getElem? (i := 6) rfl))) (by decide) (backOf (W := 0) (rm1k3 l Z a0 hw [] v2 wS cl h0 n0 Z0 SS E2 AS F2 hi2 ht2) hZ (hw _ (List.mem_of_getElem? (i := 6) rfl)) (hw _ (List.mem_of_getElem? (i := 5) rfl)) (by decide) (by decide)) (g := (mkF m 65 #[.val (.int p1), .val (.int (p1 &&& (3 : Int32))), .val (.ref v2), .val (.int (3 : Int32)), .unset] [(.ref v2)])) rfl (by rw [hml]; rfl) (argsL := [(.ref v2)]) (rest := []) (lenOf pd_0_0 rfl) rfl (by show 2 * 0 + _ ≤ _; exact Nat.le_of_eq rfl) (hb hby at_65) (fun _ _ => ⟨rfl, e3, (by decide : 0 + 0 ≤ _), (by decide : 0 + 0 ≤ _)⟩)
  dsimp only [Pt.U, Pt.locs, Pt.cells, Pt.slots] at X4 l4 y4 z4 st4 hQ4
  subst l4 y4 z4
  obtain ⟨rfl, N4q, eq4⟩ := hQ4      -- what it returned, that it wrote nothing old, and the rest of your Q1
  have N4 := Fr.app N0 N4q
  obtain ⟨fs, hr, hrun, hended, hW, hsame⟩ := X4.leave (v := some (.int (1 : Int32))) (fun h => by rw [Bd.returns] at h; cases h)
  refine ⟨_, _, pre0 _ ?_, hrun, hended, _, _, rfl, ?_, ⟨_, rfl⟩, hW, hsame.mono (by decide) (by decide)⟩
  -- 4. STEPS
  · show Steps p.tables e below (s₁.setTop (mkF m 0 #[.val (.int p1), .unset, .unset, .unset, .unset] [])) _
    refine XS.iloadN X0.here hx rfl (hb hby at_0) rfl ?_
    show Steps p.tables e below (s₁.setTop (mkF m 1 #[.val (.int p1), .unset, .unset, .unset, .unset] [(.int p1)])) _
    refine XS.iconst X0.here hx rfl (hb hby at_1) ?_
    show Steps p.tables e below (s₁.setTop (mkF m 2 #[.val (.int p1), .unset, .unset, .unset, .unset] [(.int (3 : Int32)), (.int p1)])) _
    refine XS.iand X0.here hx rfl (hb hby at_2) rfl ?_
    show Steps p.tables e below (s₁.setTop (mkF m 3 #[.val (.int p1), .unset, .unset, .unset, .unset] [(.int (p1 &&& (3 : Int32)))])) _
    refine XS.istoreN X0.here hx rfl (hb hby at_3) rfl (l' := #[.val (.int p1), .val (.int (p1 &&& (3 : Int32))), .unset, .unset, .unset]) rfl ?_
    show Steps p.tables e below (s₁.setTop (mkF m 4 #[.val (.int p1), .val (.int (p1 &&& (3 : Int32))), .unset, .unset, .unset] [])) _
    refine XS.iloadN X0.here hx rfl (hb hby at_4) rfl ?_
    show Steps p.tables e below (s₁.setTop (mkF m 5 #[.val (.int p1), .val (.int (p1 &&& (3 : Int32))), .unset, .unset, .unset] [(.int (p1 &&& (3 : Int32)))])) _
    refine XS.ifYes X0.here hx rfl (pc0 := 5) (pc' := 15) rfl (hb hby at_5) rfl ((if0 _ _).trans (feq hc5).2) (by decide) (by decide) ?_
    show Steps p.tables e below (s₁.setTop (mkF m 15 #[.val (.int p1), .val (.int (p1 &&& (3 : Int32))), .unset, .unset, .unset] [])) _
    refine XS.iloadN X0.here hx rfl (hb hby at_15) rfl ?_
    show Steps p.tables e below (s₁.setTop (mkF m 16 #[.val (.int p1), .val (.int (p1 &&& (3 : Int32))), .unset, .unset, .unset] [(.int (p1 &&& (3 : Int32)))])) _
    refine XS.iconst X0.here hx rfl (hb hby at_16) ?_
    show Steps p.tables e below (s₁.setTop (mkF m 17 #[.val (.int p1), .val (.int (p1 &&& (3 : Int32))), .unset, .unset, .unset] [(.int (1 : Int32)), (.int (p1 &&& (3 : Int32)))])) _
    refine XS.icmpYes X0.here hx rfl (pc0 := 17) (pc' := 27) rfl (hb hby at_17) rfl (feq hc17).2 (by decide) (by decide) ?_
    show Steps p.tables e below (s₁.setTop (mkF m 27 #[.val (.int p1), .val (.int (p1 &&& (3 : Int32))), .unset, .unset, .unset] [])) _
    refine XS.iloadN X0.here hx rfl (hb hby at_27) rfl ?_
    show Steps p.tables e below (s₁.setTop (mkF m 28 #[.val (.int p1), .val (.int (p1 &&& (3 : Int32))), .unset, .unset, .unset] [(.int (p1 &&& (3 : Int32)))])) _
    refine XS.iconst X0.here hx rfl (hb hby at_28) ?_
    show Steps p.tables e below (s₁.setTop (mkF m 29 #[.val (.int p1), .val (.int (p1 &&& (3 : Int32))), .unset, .unset, .unset] [(.int (2 : Int32)), (.int (p1 &&& (3 : Int32)))])) _
    refine XS.icmpNo X0.here hx rfl (hb hby at_29) rfl (teq hc29).2 ?_
    show Steps p.tables e below (s₁.setTop (mkF m 32 #[.val (.int p1), .val (.int (p1 &&& (3 : Int32))), .unset, .unset, .unset] [])) _
    refine st3 _ ?_
    show Steps p.tables e below (T3.setTop (mkF m 35 #[.val (.int p1), .val (.int (p1 &&& (3 : Int32))), .unset, .unset, .unset] [(.ref v2)])) _
    refine XS.astoreN X3.here hx rfl (hb hby at_35) rfl rfl (l' := #[.val (.int p1), .val (.int (p1 &&& (3 : Int32))), .val (.ref v2), .unset, .unset]) rfl ?_
    show Steps p.tables e below (T3.setTop (mkF m 36 #[.val (.int p1), .val (.int (p1 &&& (3 : Int32))), .val (.ref v2), .unset, .unset] [])) _
    refine XS.goto X3.here hx rfl (pc0 := 36) (pc' := 43) rfl (hb hby at_36) (by decide) (by decide) ?_
    show Steps p.tables e below (T3.setTop (mkF m 43 #[.val (.int p1), .val (.int (p1 &&& (3 : Int32))), .val (.ref v2), .unset, .unset] [])) _
    refine XS.iloadN X3.here hx rfl (hb hby at_43) rfl ?_
    show Steps p.tables e below (T3.setTop (mkF m 44 #[.val (.int p1), .val (.int (p1 &&& (3 : Int32))), .val (.ref v2), .unset, .unset] [(.int (p1 &&& (3 : Int32)))])) _
    refine XS.ifYes X3.here hx rfl (pc0 := 44) (pc' := 52) rfl (hb hby at_44) rfl ((if0 _ _).trans (feq hc44).2) (by decide) (by decide) ?_
    show Steps p.tables e below (T3.setTop (mkF m 52 #[.val (.int p1), .val (.int (p1 &&& (3 : Int32))), .val (.ref v2), .unset, .unset] [])) _
    refine XS.iloadN X3.here hx rfl (hb hby at_52) rfl ?_
    show Steps p.tables e below (T3.setTop (mkF m 53 #[.val (.int p1), .val (.int (p1 &&& (3 : Int32))), .val (.ref v2), .unset, .unset] [(.int (p1 &&& (3 : Int32)))])) _
    refine XS.iconst X3.here hx rfl (hb hby at_53) ?_
    show Steps p.tables e below (T3.setTop (mkF m 54 #[.val (.int p1), .val (.int (p1 &&& (3 : Int32))), .val (.ref v2), .unset, .unset] [(.int (3 : Int32)), (.int (p1 &&& (3 : Int32)))])) _
    refine XS.icmpYes X3.here hx rfl (pc0 := 54) (pc' := 62) rfl (hb hby at_54) rfl (feq hc54).2 (by decide) (by decide) ?_
    show Steps p.tables e below (T3.setTop (mkF m 62 #[.val (.int p1), .val (.int (p1 &&& (3 : Int32))), .val (.ref v2), .unset, .unset] [])) _
    refine XS.iconst X3.here hx rfl (hb hby at_62) ?_
    show Steps p.tables e below (T3.setTop (mkF m 63 #[.val (.int p1), .val (.int (p1 &&& (3 : Int32))), .val (.ref v2), .unset, .unset] [(.int (3 : Int32))])) _
    refine XS.istoreN X3.here hx rfl (hb hby at_63) rfl (l' := #[.val (.int p1), .val (.int (p1 &&& (3 : Int32))), .val (.ref v2), .val (.int (3 : Int32)), .unset]) rfl ?_
    show Steps p.tables e below (T3.setTop (mkF m 64 #[.val (.int p1), .val (.int (p1 &&& (3 : Int32))), .val (.ref v2), .val (.int (3 : Int32)), .unset] [])) _
    refine XS.aloadN X3.here hx rfl (hb hby at_64) rfl rfl ?_
    show Steps p.tables e below (T3.setTop (mkF m 65 #[.val (.int p1), .val (.int (p1 &&& (3 : Int32))), .val (.ref v2), .val (.int (3 : Int32)), .unset] [(.ref v2)])) _
    refine st4 _ ?_
    show Steps p.tables e below (T4.setTop (mkF m 68 #[.val (.int p1), .val (.int (p1 &&& (3 : Int32))), .val (.ref v2), .val (.int (3 : Int32)), .unset] [(.int (3 : Int32))])) _
    refine XS.istore X4.here hx rfl (hb hby at_68) rfl (l' := #[.val (.int p1), .val (.int (p1 &&& (3 : Int32))), .val (.ref v2), .val (.int (3 : Int32)), .val (.int (3 : Int32))]) rfl ?_
    show Steps p.tables e below (T4.setTop (mkF m 70 #[.val (.int p1), .val (.int (p1 &&& (3 : Int32))), .val (.ref v2), .val (.int (3 : Int32)), .val (.int (3 : Int32))] [])) _
    refine XS.iload X4.here hx rfl (hb hby at_70) rfl ?_
    show Steps p.tables e below (T4.setTop (mkF m 72 #[.val (.int p1), .val (.int (p1 &&& (3 : Int32))), .val (.ref v2), .val (.int (3 : Int32)), .val (.int (3 : Int32))] [(.int (3 : Int32))])) _
    refine XS.iloadN X4.here hx rfl (hb hby at_72) rfl ?_
    show Steps p.tables e below (T4.setTop (mkF m 73 #[.val (.int p1), .val (.int (p1 &&& (3 : Int32))), .val (.ref v2), .val (.int (3 : Int32)), .val (.int (3 : Int32))] [(.int (3 : Int32)), (.int (3 : Int32))])) _
    refine XS.icmpNo X4.here hx rfl (hb hby at_73) rfl (teq rfl).2 ?_
    show Steps p.tables e below (T4.setTop (mkF m 76 #[.val (.int p1), .val (.int (p1 &&& (3 : Int32))), .val (.ref v2), .val (.int (3 : Int32)), .val (.int (3 : Int32))] [])) _
    refine XS.iconst X4.here hx rfl (hb hby at_76) ?_
    show Steps p.tables e below (T4.setTop (mkF m 77 #[.val (.int p1), .val (.int (p1 &&& (3 : Int32))), .val (.ref v2), .val (.int (3 : Int32)), .val (.int (3 : Int32))] [(.int (1 : Int32))])) _
    refine XS.goto X4.here hx rfl (pc0 := 77) (pc' := 81) rfl (hb hby at_77) (by decide) (by decide) ?_
    show Steps p.tables e below (T4.setTop (mkF m 81 #[.val (.int p1), .val (.int (p1 &&& (3 : Int32))), .val (.ref v2), .val (.int (3 : Int32)), .val (.int (3 : Int32))] [(.int (1 : Int32))])) _
    exact retN X4 hx (t := .boolean) Bd.returns (by simp) (hb hby at_81) hr
  · show Q0r2 n0 _ T4.heap _
    exact ⟨rfl, N4⟩
def Q0r3 (n0 : Nat) (v : Option Value) (h : Heap) (L : List Loc) : Prop := v = some (.int (1 : Int32)) ∧ Fr n0 L
set_option maxRecDepth 65536 in
set_option maxHeartbeats 40000000 in
theorem rm0r3 (l : Launch) (Z : State) (a0 : Array Value) (hw : ∀ d ∈ tables_1, d.before a0 Z = true) (ws : List Jvm.Cond) (p1 : Int32) (v0 : Addr) (v1 : Addr) (v2 : Addr) (v3 : Addr) (wS : Addr) (cl : Cell) (h0 : Heap) (n0 : Nat) (Z0 : n0 ≤ h0.size) (S0 : Sta Z h0 "com/example/cicada/cicada/Verdict" "ADMITTED" "Lcom/example/cicada/cicada/Verdict;" (.ref v0)) (E0 : Exa Z h0 v0 "com/example/cicada/cicada/Verdict") (F0 : Fld Z h0 v0 "java/lang/Enum" "ordinal" "I" (.int (0 : Int32))) (hi0 : ¬ ((0 : Int32) < 0 ∨ cl.slots.size ≤ ((0 : Int32)).toNatClampNeg)) (ht0 : cl.slots[((0 : Int32)).toNatClampNeg]? = some (.int (1 : Int32))) (S1 : Sta Z h0 "com/example/cicada/cicada/Verdict" "REFUSED_QUOTA" "Lcom/example/cicada/cicada/Verdict;" (.ref v1)) (E1 : Exa Z h0 v1 "com/example/cicada/cicada/Verdict") (F1 : Fld Z h0 v1 "java/lang/Enum" "ordinal" "I" (.int (1 : Int32))) (hi1 : ¬ ((1 : Int32) < 0 ∨ cl.slots.size ≤ ((1 : Int32)).toNatClampNeg)) (ht1 : cl.slots[((1 : Int32)).toNatClampNeg]? = some (.int (2 : Int32))) (S2 : Sta Z h0 "com/example/cicada/cicada/Verdict" "REFUSED_ALREADY_SIGNED" "Lcom/example/cicada/cicada/Verdict;" (.ref v2)) (E2 : Exa Z h0 v2 "com/example/cicada/cicada/Verdict") (F2 : Fld Z h0 v2 "java/lang/Enum" "ordinal" "I" (.int (2 : Int32))) (hi2 : ¬ ((2 : Int32) < 0 ∨ cl.slots.size ≤ ((2 : Int32)).toNatClampNeg)) (ht2 : cl.slots[((2 : Int32)).toNatClampNeg]? = some (.int (3 : Int32))) (S3 : Sta Z h0 "com/example/cicada/cicada/Verdict" "REFUSED_WINDOW" "Lcom/example/cicada/cicada/Verdict;" (.ref v3)) (E3 : Exa Z h0 v3 "com/example/cicada/cicada/Verdict") (F3 : Fld Z h0 v3 "java/lang/Enum" "ordinal" "I" (.int (3 : Int32))) (hi3 : ¬ ((3 : Int32) < 0 ∨ cl.slots.size ≤ ((3 : Int32)).toNatClampNeg)) (ht3 : cl.slots[((3 : Int32)).toNatClampNeg]? = some (.int (4 : Int32))) (SS : Sta Z h0 "com/example/cicada/cicada/cli/ExitCode$1" "$SwitchMap$com$example$cicada$cicada$Verdict" "[I" (.ref wS)) (AS : Arr Z h0 wS cl .int) (hc5 : ¬ ((p1 &&& (3 : Int32)) = (0 : Int32))) (hc17 : ¬ ((p1 &&& (3 : Int32)) = (1 : Int32))) (hc29 : ¬ ((p1 &&& (3 : Int32)) = (2 : Int32))) (hc44 : ¬ ((p1 &&& (3 : Int32)) = (0 : Int32))) (hc54 : (p1 &&& (3 : Int32)) = (3 : Int32)) :
    MetFree l x (head1 (Jvm.Cond.code x code maxLocals ret :: ws) room_1) (fun a U => a = #[(.int p1)] ∧ Z.Warmed39 U.vm ∧ U.heap = h0) (fun _ _ _ _ _ => True) (fun _ U o U' => ∃ v L, o = .returned v ∧ Q0r3 n0 v U'.heap L ∧ FrameEnd U o U' L room_1.cells room_1.slots) := by
  refine MetFree.of_bodySF (plainFor_of_name pn_0) hisR ?_
  intro p e s m args below meth c s₁ Bd hml0 hP hK
  obtain ⟨rfl, hZ, hh⟩ := hP
  have hx := Bd.exec
  have hby := Bd.bytes
  have hml : c.maxLocals = 5 := hml0
  have hown : s.vm.findClass "com/example/cicada/cicada/cli/ExitCodeOfPinLaw" = some m.cls := findClass_of_methodNamed Bd.named
  have hnm := (name_of_methodNamed Bd.named Bd.method).1
  have X0 : Stand p l e room_1 s m #[(.int p1)] below meth c s₁ [] 0 0 := Stand.of_body Bd
  have e0 : s₁.heap = h0 := by rw [← hh, Bd.state]; rfl
  have N0 := Fr.nil n0
  have pre0 : ∀ t, Steps p.tables e below (s₁.setTop (mkF m 0 #[.val (.int p1), .unset, .unset, .unset, .unset] [])) t → Steps p.tables e below (s₁.setTop (entryFrame m #[(.int p1)] maxLocals)) t := fun t k => castTop (ef_0 m p1) k
  -- 3. LAWS
  obtain ⟨T3, X3, e3, st3⟩ := getS2 X0 hx hZ hown (host := "") (Or.inl (hw _ (List.mem_of_getElem? (i := 19) rfl))) Via.refl e0 S3 (g := (mkF m 39 #[.val (.int p1), .val (.int (p1 &&& (3 : Int32))), .unset, .unset, .unset] [])) rfl (hb hby at_39)
  -- pc 65: com/example/cicada/cicada/cli/ExitCode.of by its contract rm1
  obtain ⟨_, _, ⟨T4, L4, k4, n4⟩, -, X4, ⟨Lc4, hQ4, l4, y4, z4⟩, st4⟩ := Jvm.LawKit.callS X3 hx (y := (⟨"com/example/cicada/cicada/cli/ExitCode", "of", "(Lcom/example/cicada/cicada/Verdict;)I"⟩ : MethodName)) hown (mvT hZ (hw _ (List.mem_of_getElem? (i := 3) rfl))) (mvT hZ (hw _ (List.mem_of_getElem? (i := 4) rfl))) (mvT hZ (hw _ (List.mem_of_getElem? (i := 5) rfl))) (mvT hZ (hw _ (List.mem_of_getElem? (i := 6) rfl))) (by decide) (backOf (W := 0) (rm1k4 l Z a0 hw [] v3 wS cl h0 n0 Z0 SS E3 AS F3 hi3 ht3) hZ (hw _ (List.mem_of_getElem? (i := 6) rfl)) (hw _ (List.mem_of_getElem? (i := 5) rfl)) (by decide) (by decide)) (g := (mkF m 65 #[.val (.int p1), .val (.int (p1 &&& (3 : Int32))), .val (.ref v3), .val (.int (4 : Int32)), .unset] [(.ref v3)])) rfl (by rw [hml]; rfl) (argsL := [(.ref v3)]) (rest := []) (lenOf pd_0_0 rfl) rfl (by show 2 * 0 + _ ≤ _; exact Nat.le_of_eq rfl) (hb hby at_65) (fun _ _ => ⟨rfl, e3, (by decide : 0 + 0 ≤ _), (by decide : 0 + 0 ≤ _)⟩)
  dsimp only [Pt.U, Pt.locs, Pt.cells, Pt.slots] at X4 l4 y4 z4 st4 hQ4
  subst l4 y4 z4
  obtain ⟨rfl, N4q, eq4⟩ := hQ4      -- what it returned, that it wrote nothing old, and the rest of your Q1
  have N4 := Fr.app N0 N4q
  obtain ⟨fs, hr, hrun, hended, hW, hsame⟩ := X4.leave (v := some (.int (1 : Int32))) (fun h => by rw [Bd.returns] at h; cases h)
  refine ⟨_, _, pre0 _ ?_, hrun, hended, _, _, rfl, ?_, ⟨_, rfl⟩, hW, hsame.mono (by decide) (by decide)⟩
  -- 4. STEPS
  · show Steps p.tables e below (s₁.setTop (mkF m 0 #[.val (.int p1), .unset, .unset, .unset, .unset] [])) _
    refine XS.iloadN X0.here hx rfl (hb hby at_0) rfl ?_
    show Steps p.tables e below (s₁.setTop (mkF m 1 #[.val (.int p1), .unset, .unset, .unset, .unset] [(.int p1)])) _
    refine XS.iconst X0.here hx rfl (hb hby at_1) ?_
    show Steps p.tables e below (s₁.setTop (mkF m 2 #[.val (.int p1), .unset, .unset, .unset, .unset] [(.int (3 : Int32)), (.int p1)])) _
    refine XS.iand X0.here hx rfl (hb hby at_2) rfl ?_
    show Steps p.tables e below (s₁.setTop (mkF m 3 #[.val (.int p1), .unset, .unset, .unset, .unset] [(.int (p1 &&& (3 : Int32)))])) _
    refine XS.istoreN X0.here hx rfl (hb hby at_3) rfl (l' := #[.val (.int p1), .val (.int (p1 &&& (3 : Int32))), .unset, .unset, .unset]) rfl ?_
    show Steps p.tables e below (s₁.setTop (mkF m 4 #[.val (.int p1), .val (.int (p1 &&& (3 : Int32))), .unset, .unset, .unset] [])) _
    refine XS.iloadN X0.here hx rfl (hb hby at_4) rfl ?_
    show Steps p.tables e below (s₁.setTop (mkF m 5 #[.val (.int p1), .val (.int (p1 &&& (3 : Int32))), .unset, .unset, .unset] [(.int (p1 &&& (3 : Int32)))])) _
    refine XS.ifYes X0.here hx rfl (pc0 := 5) (pc' := 15) rfl (hb hby at_5) rfl ((if0 _ _).trans (feq hc5).2) (by decide) (by decide) ?_
    show Steps p.tables e below (s₁.setTop (mkF m 15 #[.val (.int p1), .val (.int (p1 &&& (3 : Int32))), .unset, .unset, .unset] [])) _
    refine XS.iloadN X0.here hx rfl (hb hby at_15) rfl ?_
    show Steps p.tables e below (s₁.setTop (mkF m 16 #[.val (.int p1), .val (.int (p1 &&& (3 : Int32))), .unset, .unset, .unset] [(.int (p1 &&& (3 : Int32)))])) _
    refine XS.iconst X0.here hx rfl (hb hby at_16) ?_
    show Steps p.tables e below (s₁.setTop (mkF m 17 #[.val (.int p1), .val (.int (p1 &&& (3 : Int32))), .unset, .unset, .unset] [(.int (1 : Int32)), (.int (p1 &&& (3 : Int32)))])) _
    refine XS.icmpYes X0.here hx rfl (pc0 := 17) (pc' := 27) rfl (hb hby at_17) rfl (feq hc17).2 (by decide) (by decide) ?_
    show Steps p.tables e below (s₁.setTop (mkF m 27 #[.val (.int p1), .val (.int (p1 &&& (3 : Int32))), .unset, .unset, .unset] [])) _
    refine XS.iloadN X0.here hx rfl (hb hby at_27) rfl ?_
    show Steps p.tables e below (s₁.setTop (mkF m 28 #[.val (.int p1), .val (.int (p1 &&& (3 : Int32))), .unset, .unset, .unset] [(.int (p1 &&& (3 : Int32)))])) _
    refine XS.iconst X0.here hx rfl (hb hby at_28) ?_
    show Steps p.tables e below (s₁.setTop (mkF m 29 #[.val (.int p1), .val (.int (p1 &&& (3 : Int32))), .unset, .unset, .unset] [(.int (2 : Int32)), (.int (p1 &&& (3 : Int32)))])) _
    refine XS.icmpYes X0.here hx rfl (pc0 := 29) (pc' := 39) rfl (hb hby at_29) rfl (feq hc29).2 (by decide) (by decide) ?_
    show Steps p.tables e below (s₁.setTop (mkF m 39 #[.val (.int p1), .val (.int (p1 &&& (3 : Int32))), .unset, .unset, .unset] [])) _
    refine st3 _ ?_
    show Steps p.tables e below (T3.setTop (mkF m 42 #[.val (.int p1), .val (.int (p1 &&& (3 : Int32))), .unset, .unset, .unset] [(.ref v3)])) _
    refine XS.astoreN X3.here hx rfl (hb hby at_42) rfl rfl (l' := #[.val (.int p1), .val (.int (p1 &&& (3 : Int32))), .val (.ref v3), .unset, .unset]) rfl ?_
    show Steps p.tables e below (T3.setTop (mkF m 43 #[.val (.int p1), .val (.int (p1 &&& (3 : Int32))), .val (.ref v3), .unset, .unset] [])) _
    refine XS.iloadN X3.here hx rfl (hb hby at_43) rfl ?_
    show Steps p.tables e below (T3.setTop (mkF m 44 #[.val (.int p1), .val (.int (p1 &&& (3 : Int32))), .val (.ref v3), .unset, .unset] [(.int (p1 &&& (3 : Int32)))])) _
    refine XS.ifYes X3.here hx rfl (pc0 := 44) (pc' := 52) rfl (hb hby at_44) rfl ((if0 _ _).trans (feq hc44).2) (by decide) (by decide) ?_
    show Steps p.tables e below (T3.setTop (mkF m 52 #[.val (.int p1), .val (.int (p1 &&& (3 : Int32))), .val (.ref v3), .unset, .unset] [])) _
    refine XS.iloadN X3.here hx rfl (hb hby at_52) rfl ?_
    show Steps p.tables e below (T3.setTop (mkF m 53 #[.val (.int p1), .val (.int (p1 &&& (3 : Int32))), .val (.ref v3), .unset, .unset] [(.int (p1 &&& (3 : Int32)))])) _
    refine XS.iconst X3.here hx rfl (hb hby at_53) ?_
    show Steps p.tables e below (T3.setTop (mkF m 54 #[.val (.int p1), .val (.int (p1 &&& (3 : Int32))), .val (.ref v3), .unset, .unset] [(.int (3 : Int32)), (.int (p1 &&& (3 : Int32)))])) _
    refine XS.icmpNo X3.here hx rfl (hb hby at_54) rfl (teq hc54).2 ?_
    show Steps p.tables e below (T3.setTop (mkF m 57 #[.val (.int p1), .val (.int (p1 &&& (3 : Int32))), .val (.ref v3), .unset, .unset] [])) _
    refine XS.iconst X3.here hx rfl (hb hby at_57) ?_
    show Steps p.tables e below (T3.setTop (mkF m 58 #[.val (.int p1), .val (.int (p1 &&& (3 : Int32))), .val (.ref v3), .unset, .unset] [(.int (4 : Int32))])) _
    refine XS.istoreN X3.here hx rfl (hb hby at_58) rfl (l' := #[.val (.int p1), .val (.int (p1 &&& (3 : Int32))), .val (.ref v3), .val (.int (4 : Int32)), .unset]) rfl ?_
    show Steps p.tables e below (T3.setTop (mkF m 59 #[.val (.int p1), .val (.int (p1 &&& (3 : Int32))), .val (.ref v3), .val (.int (4 : Int32)), .unset] [])) _
    refine XS.goto X3.here hx rfl (pc0 := 59) (pc' := 64) rfl (hb hby at_59) (by decide) (by decide) ?_
    show Steps p.tables e below (T3.setTop (mkF m 64 #[.val (.int p1), .val (.int (p1 &&& (3 : Int32))), .val (.ref v3), .val (.int (4 : Int32)), .unset] [])) _
    refine XS.aloadN X3.here hx rfl (hb hby at_64) rfl rfl ?_
    show Steps p.tables e below (T3.setTop (mkF m 65 #[.val (.int p1), .val (.int (p1 &&& (3 : Int32))), .val (.ref v3), .val (.int (4 : Int32)), .unset] [(.ref v3)])) _
    refine st4 _ ?_
    show Steps p.tables e below (T4.setTop (mkF m 68 #[.val (.int p1), .val (.int (p1 &&& (3 : Int32))), .val (.ref v3), .val (.int (4 : Int32)), .unset] [(.int (4 : Int32))])) _
    refine XS.istore X4.here hx rfl (hb hby at_68) rfl (l' := #[.val (.int p1), .val (.int (p1 &&& (3 : Int32))), .val (.ref v3), .val (.int (4 : Int32)), .val (.int (4 : Int32))]) rfl ?_
    show Steps p.tables e below (T4.setTop (mkF m 70 #[.val (.int p1), .val (.int (p1 &&& (3 : Int32))), .val (.ref v3), .val (.int (4 : Int32)), .val (.int (4 : Int32))] [])) _
    refine XS.iload X4.here hx rfl (hb hby at_70) rfl ?_
    show Steps p.tables e below (T4.setTop (mkF m 72 #[.val (.int p1), .val (.int (p1 &&& (3 : Int32))), .val (.ref v3), .val (.int (4 : Int32)), .val (.int (4 : Int32))] [(.int (4 : Int32))])) _
    refine XS.iloadN X4.here hx rfl (hb hby at_72) rfl ?_
    show Steps p.tables e below (T4.setTop (mkF m 73 #[.val (.int p1), .val (.int (p1 &&& (3 : Int32))), .val (.ref v3), .val (.int (4 : Int32)), .val (.int (4 : Int32))] [(.int (4 : Int32)), (.int (4 : Int32))])) _
    refine XS.icmpNo X4.here hx rfl (hb hby at_73) rfl (teq rfl).2 ?_
    show Steps p.tables e below (T4.setTop (mkF m 76 #[.val (.int p1), .val (.int (p1 &&& (3 : Int32))), .val (.ref v3), .val (.int (4 : Int32)), .val (.int (4 : Int32))] [])) _
    refine XS.iconst X4.here hx rfl (hb hby at_76) ?_
    show Steps p.tables e below (T4.setTop (mkF m 77 #[.val (.int p1), .val (.int (p1 &&& (3 : Int32))), .val (.ref v3), .val (.int (4 : Int32)), .val (.int (4 : Int32))] [(.int (1 : Int32))])) _
    refine XS.goto X4.here hx rfl (pc0 := 77) (pc' := 81) rfl (hb hby at_77) (by decide) (by decide) ?_
    show Steps p.tables e below (T4.setTop (mkF m 81 #[.val (.int p1), .val (.int (p1 &&& (3 : Int32))), .val (.ref v3), .val (.int (4 : Int32)), .val (.int (4 : Int32))] [(.int (1 : Int32))])) _
    exact retN X4 hx (t := .boolean) Bd.returns (by simp) (hb hby at_81) hr
  · show Q0r3 n0 _ T4.heap _
    exact ⟨rfl, N4⟩
set_option maxRecDepth 65536 in
set_option maxHeartbeats 40000000 in
theorem rm0 (l : Launch) (Z : State) (a0 : Array Value) (hw : ∀ d ∈ tables_1, d.before a0 Z = true) (ws : List Jvm.Cond) (p1 : Int32) (v0 : Addr) (v1 : Addr) (v2 : Addr) (v3 : Addr) (wS : Addr) (cl : Cell) (h0 : Heap) (n0 : Nat) (Z0 : n0 ≤ h0.size) (S0 : Sta Z h0 "com/example/cicada/cicada/Verdict" "ADMITTED" "Lcom/example/cicada/cicada/Verdict;" (.ref v0)) (E0 : Exa Z h0 v0 "com/example/cicada/cicada/Verdict") (F0 : Fld Z h0 v0 "java/lang/Enum" "ordinal" "I" (.int (0 : Int32))) (hi0 : ¬ ((0 : Int32) < 0 ∨ cl.slots.size ≤ ((0 : Int32)).toNatClampNeg)) (ht0 : cl.slots[((0 : Int32)).toNatClampNeg]? = some (.int (1 : Int32))) (S1 : Sta Z h0 "com/example/cicada/cicada/Verdict" "REFUSED_QUOTA" "Lcom/example/cicada/cicada/Verdict;" (.ref v1)) (E1 : Exa Z h0 v1 "com/example/cicada/cicada/Verdict") (F1 : Fld Z h0 v1 "java/lang/Enum" "ordinal" "I" (.int (1 : Int32))) (hi1 : ¬ ((1 : Int32) < 0 ∨ cl.slots.size ≤ ((1 : Int32)).toNatClampNeg)) (ht1 : cl.slots[((1 : Int32)).toNatClampNeg]? = some (.int (2 : Int32))) (S2 : Sta Z h0 "com/example/cicada/cicada/Verdict" "REFUSED_ALREADY_SIGNED" "Lcom/example/cicada/cicada/Verdict;" (.ref v2)) (E2 : Exa Z h0 v2 "com/example/cicada/cicada/Verdict") (F2 : Fld Z h0 v2 "java/lang/Enum" "ordinal" "I" (.int (2 : Int32))) (hi2 : ¬ ((2 : Int32) < 0 ∨ cl.slots.size ≤ ((2 : Int32)).toNatClampNeg)) (ht2 : cl.slots[((2 : Int32)).toNatClampNeg]? = some (.int (3 : Int32))) (S3 : Sta Z h0 "com/example/cicada/cicada/Verdict" "REFUSED_WINDOW" "Lcom/example/cicada/cicada/Verdict;" (.ref v3)) (E3 : Exa Z h0 v3 "com/example/cicada/cicada/Verdict") (F3 : Fld Z h0 v3 "java/lang/Enum" "ordinal" "I" (.int (3 : Int32))) (hi3 : ¬ ((3 : Int32) < 0 ∨ cl.slots.size ≤ ((3 : Int32)).toNatClampNeg)) (ht3 : cl.slots[((3 : Int32)).toNatClampNeg]? = some (.int (4 : Int32))) (SS : Sta Z h0 "com/example/cicada/cicada/cli/ExitCode$1" "$SwitchMap$com$example$cicada$cicada$Verdict" "[I" (.ref wS)) (AS : Arr Z h0 wS cl .int) :
    MetFree l x (head1 (Jvm.Cond.code x code maxLocals ret :: ws) room_1) (fun a U => a = #[(.int p1)] ∧ Z.Warmed39 U.vm ∧ U.heap = h0) (fun _ _ _ _ _ => True) (fun _ U o U' => ∃ v L, o = .returned v ∧ (v = some (.int (1 : Int32)) ∧ Fr n0 L) ∧ FrameEnd U o U' L room_1.cells room_1.slots) := by
  have q := c_and p1 (3 : Int32) (by decide)
  have t3 : (3 : Int32).toInt = 3 := by decide
  rw [t3] at q
  have ne : ∀ i : Int32, ¬ ((p1 &&& (3 : Int32)) = i) → (p1 &&& (3 : Int32)).toInt ≠ i.toInt := fun i h k => h (Int32.toInt_inj.mp k)
  by_cases q0 : (p1 &&& (3 : Int32)) = (0 : Int32)
  · exact rm0r0 l Z a0 hw ws p1 v0 v1 v2 v3 wS cl h0 n0 Z0 S0 E0 F0 hi0 ht0 S1 E1 F1 hi1 ht1 S2 E2 F2 hi2 ht2 S3 E3 F3 hi3 ht3 SS AS q0 q0
  by_cases q1 : (p1 &&& (3 : Int32)) = (1 : Int32)
  · exact rm0r1 l Z a0 hw ws p1 v0 v1 v2 v3 wS cl h0 n0 Z0 S0 E0 F0 hi0 ht0 S1 E1 F1 hi1 ht1 S2 E2 F2 hi2 ht2 S3 E3 F3 hi3 ht3 SS AS q0 q1 q0 (by rw [q1]; decide)
  by_cases q2 : (p1 &&& (3 : Int32)) = (2 : Int32)
  · exact rm0r2 l Z a0 hw ws p1 v0 v1 v2 v3 wS cl h0 n0 Z0 S0 E0 F0 hi0 ht0 S1 E1 F1 hi1 ht1 S2 E2 F2 hi2 ht2 S3 E3 F3 hi3 ht3 SS AS q0 q1 q2 q0 (by rw [q2]; decide)
  · have q3 : (p1 &&& (3 : Int32)) = (3 : Int32) := by
      have a := ne 0 q0
      have b := ne 1 q1
      have c := ne 2 q2
      have z0 : (0 : Int32).toInt = 0 := by decide
      have z1 : (1 : Int32).toInt = 1 := by decide
      have z2 : (2 : Int32).toInt = 2 := by decide
      refine Int32.toInt_inj.mp ?_
      rw [t3]
      omega
    exact rm0r3 l Z a0 hw ws p1 v0 v1 v2 v3 wS cl h0 n0 Z0 S0 E0 F0 hi0 ht0 S1 E1 F1 hi1 ht1 S2 E2 F2 hi2 ht2 S3 E3 F3 hi3 ht3 SS AS q0 q1 q2 q0 q3
set_option maxRecDepth 65536 in
set_option maxHeartbeats 40000000 in
theorem comes_1 {Post : Tables → Env → Array Value → State → Outcome → State → Prop} (hpost : ∀ tb e args s v u, (limb_1_1.after args s (.returned v) u = true ∧ limb_1_2.after args s (.returned v) u = true ∧ True) → FrameEnd s (.returned v) u (Jvm.fieldLocs frame_1_writes args s ++ Jvm.arrayLocs frame_1_arrays args s ++ Jvm.staticLocs frame_1_statics s) 0 0 → Post tb e args s (.returned v) u) :
    ArmFor flags0 classFile x code maxLocals ret World_1 tables_1 room_1 Calls_1 rest_1 Pre_1 Post := by
  intro l hfl _ _ p e ha hc hk s m args below hf hA hF happ hP
  obtain ⟨hcalls, hrest, hpre⟩ := hP
  obtain ⟨-, -, -, hnamed, -, -, -, hat⟩ := (Spec.applies_iff hf).mp happ
  obtain ⟨hg, hn⟩ := and_e (Cond.before_iff.mp (show (Jvm.Cond.and given_1 narrow_1).before args s = true from hpre))
  obtain ⟨g5, g6⟩ := and_e hg
  obtain ⟨w0, rfl⟩ : ∃ w0 : Value, args = #[w0] := by
    have hs : args.size = 1 := by simpa [Cond.value, given_1] using g5
    obtain ⟨L⟩ := args
    match L, hs with
    | [w0], _ => exact ⟨w0, rfl⟩
  have hw := fun d (hd : d ∈ tables_1) => atoms_spec (ws := Jvm.Cond.code x code maxLocals ret :: tables_1) hat d (List.mem_cons_of_mem _ hd)
  have hfit : Fit s := fun {y c} hc i hi => by
    obtain ⟨ha, rfl⟩ := Array.getElem?_eq_some_iff.mp hc
    have q := List.all_eq_true.mp ((Array.all_eq_true_iff_forall_mem.mp hF) _ (Array.getElem_mem ha)) i (List.mem_range.mpr hi)
    simpa [Array.getElem?_eq_getElem hi] using q
  obtain ⟨i0, ei0⟩ := is_v g6
  obtain rfl : w0 = (.int i0) := Option.some.inj ei0
  obtain ⟨k_E0, r0⟩ := and_e hn
  obtain ⟨k_arr, r1⟩ := and_e r0
  obtain ⟨k_len, r2⟩ := and_e r1
  obtain ⟨k_F0, r3⟩ := and_e r2
  obtain ⟨k_e0, r4⟩ := and_e r3
  obtain ⟨k_E3, r5⟩ := and_e r4
  obtain ⟨k_F3, r6⟩ := and_e r5
  obtain ⟨k_e3, r7⟩ := and_e r6
  obtain ⟨k_E2, r8⟩ := and_e r7
  obtain ⟨k_F2, r9⟩ := and_e r8
  obtain ⟨k_e2, r10⟩ := and_e r9
  obtain ⟨k_E1, r11⟩ := and_e r10
  obtain ⟨k_F1, r12⟩ := and_e r11
  have k_e1 := r12
  obtain ⟨x0, ev0⟩ := exa_v k_E0
  have S0 := Sta.start ev0 (Or.inr ⟨hw _ (List.mem_of_getElem? (i := 1) rfl), hw _ (List.mem_of_getElem? (i := 2) rfl)⟩)
  have E0 := Exa.start ev0 k_E0
  have F0 := own_fint ev0 k_F0
  obtain ⟨x1, ev1⟩ := exa_v k_E1
  have S1 := Sta.start ev1 (Or.inr ⟨hw _ (List.mem_of_getElem? (i := 1) rfl), hw _ (List.mem_of_getElem? (i := 24) rfl)⟩)
  have E1 := Exa.start ev1 k_E1
  have F1 := own_fint ev1 k_F1
  obtain ⟨x2, ev2⟩ := exa_v k_E2
  have S2 := Sta.start ev2 (Or.inr ⟨hw _ (List.mem_of_getElem? (i := 1) rfl), hw _ (List.mem_of_getElem? (i := 22) rfl)⟩)
  have E2 := Exa.start ev2 k_E2
  have F2 := own_fint ev2 k_F2
  obtain ⟨x3, ev3⟩ := exa_v k_E3
  have S3 := Sta.start ev3 (Or.inr ⟨hw _ (List.mem_of_getElem? (i := 1) rfl), hw _ (List.mem_of_getElem? (i := 20) rfl)⟩)
  have E3 := Exa.start ev3 k_E3
  have F3 := own_fint ev3 k_F3
  obtain ⟨xS, evS⟩ := arr_v k_arr
  have SS := Sta.start evS (Or.inr ⟨hw _ (List.mem_of_getElem? (i := 8) rfl), hw _ (List.mem_of_getElem? (i := 9) rfl)⟩)
  obtain ⟨cl, AS⟩ := Arr.start evS k_arr
  have G0 := elem_in (own_eqi k_e0) evS (Term.int_eval 0) AS.1
  have G1 := elem_in (own_eqi k_e1) evS (Term.int_eval 1) AS.1
  have G2 := elem_in (own_eqi k_e2) evS (Term.int_eval 2) AS.1
  have G3 := elem_in (own_eqi k_e3) evS (Term.int_eval 3) AS.1
  obtain ⟨n, o, h1, h2, h3, _, L, rfl, ⟨rfl, N⟩, hq⟩ := rm0 l s _ hw tables_1 i0 x0 x1 x2 x3 xS cl s.heap s.heap.size (Nat.le_refl _) S0 E0 F0 G0.1 G0.2 S1 E1 F1 G1.1 G1.2 S2 E2 F2 G2.1 G2.2 S3 E3 F3 G3.1 G3.2 SS AS p e ha hc hk s m _ below hf ((Spec.applies_iff_loose hf).mp happ).1 ⟨rfl, State.Warmed39.refl s, rfl⟩ trivial
  refine ⟨n, _, h1, h2, h3, hpost _ _ _ _ _ _ ⟨Cond.after_iff.mpr rfl, Cond.after_iff.mpr (eq_i res_at (Term.int_eval (1)) rfl), trivial⟩ ⟨hq.1, hq.2.1, (hq.2.2.sift fun y hy => Or.inr (N y hy)).mono (by decide) (by decide)⟩⟩
theorem main_1_1 : Claimed_1_1 := comes_1 fun _ _ _ _ _ _ h hF => ⟨h.1, hF⟩
theorem main_1_2 : Claimed_1_2 := comes_1 fun _ _ _ _ _ _ h hF => ⟨h.2.1, hF⟩
end Jvm.Pilot.@@N@@
namespace Jvm.Pilot.@@N@@
open Jvm Jvm.ClassFile Sem Op Lib Jvm.Free Jvm.Stand Jvm.Pilot.@@N@@.Jvm.D
/-! MADE BY PROGRAM (witnessworld.py) out of the Statement's table words and the real class files: 14 classes; the members and pool entries that the words name. The judged class is class 1, her method 1. -/
namespace start1
open Jvm.ClassFile
def u (s : String) : CpInfo := .utf8 (stringToUtf16 s)
/-- a pool by its gaps: so many unusable entries, then the entry; so many at the end -/
def gap : Nat → List CpInfo → List CpInfo
  | 0, r => r
  | n + 1, r => .unusable :: gap n r
def poolList (es : List (Nat × CpInfo)) (last : Nat) : List CpInfo := es.foldr (fun e r => gap e.1 (e.2 :: r)) (gap last [])
def pool (es : List (Nat × CpInfo)) (last : Nat) : Array CpInfo := ⟨poolList es last⟩
def fileOf (pool : Array CpInfo) (this : Nat) (attrs : Array Attribute := #[]) (ms : Array MethodInfo := #[]) (fl : Nat := 33) (sup : Nat := 0) (ifs : Array Nat := #[]) (fds : Array FieldInfo := #[]) : ClassFile where
  minorVersion := 0
  majorVersion := 65
  constantPool := pool
  accessFlags := fl
  thisClass := this
  superClass := sup
  interfaces := ifs
  fields := fds
  methods := ms
  attributes := attrs
def plain (name : String) (sup : Option ClassId) : Class where
  name := name
  kind := .ordinary
  loader := none
  accessFlags := 33
  super := sup
  interfaces := #[]
  cf := none
  fields := #[]
  methods := #[]
  instanceTypes := #[]
  staticTypes := #[]
  resolved := #[]
  callSites := []
  init := .initialized
  statics := none
  mirror := none

def pool0 : Array CpInfo := pool [(5, u "<init>"), (0, u "()V"), (1, .class_ 10), (1, u "java/lang/Object")] 113

def k0m0 : Method := { name := "<init>", desc := "()V", sig := { parameters := [], returnType := none }, accessFlags := 1, code := none }
/-- java/lang/Object -/
def k0 : Class := { plain "java/lang/Object" none with
  accessFlags := 33
  interfaces := #[]
  cf := some (fileOf pool0 8 #[] #[{ accessFlags := 1, nameIndex := 5, descriptorIndex := 6, attributes := #[] }] 33 0 #[] #[])
  fields := #[]
  methods := #[k0m0]
  instanceTypes := #[]
  staticTypes := #[]
  resolved := Array.replicate 124 none
  statics := none }

def pool1 : Array CpInfo := pool [(2, .class_ 4), (1, u "java/lang/Object"), (0, u "<init>"), (0, u "()V"), (0, .fieldref 8 9), (0, .class_ 10), (0, .nameAndType 11 12), (0, u "com/example/cicada/cicada/Verdict"), (0, u "ADMITTED"), (0, u "Lcom/example/cicada/cicada/Verdict;"), (0, .fieldref 8 14), (0, .nameAndType 15 12), (0, u "REFUSED_QUOTA"), (0, .fieldref 8 17), (0, .nameAndType 18 12), (0, u "REFUSED_ALREADY_SIGNED"), (0, .fieldref 8 20), (0, .nameAndType 21 12), (0, u "REFUSED_WINDOW"), (0, .methodref 23 24), (0, .class_ 25), (0, .nameAndType 26 27), (0, u "com/example/cicada/cicada/cli/ExitCode"), (0, u "of"), (0, u "(Lcom/example/cicada/cicada/Verdict;)I"), (0, .class_ 29), (0, u "com/example/cicada/cicada/cli/ExitCodeOfPinLaw"), (2, u "law"), (0, u "(I)Z")] 3

def k1m0 : Method := { name := "<init>", desc := "()V", sig := { parameters := [], returnType := none }, accessFlags := 2, code := none }
def k1c1 : Code := { maxStack := 2, maxLocals := 5, code := code, exceptionTable := #[], attributes := #[] }
def k1m1 : Method := { name := "law", desc := "(I)Z", sig := { parameters := [.int], returnType := some .boolean }, accessFlags := 9, code := some k1c1 }
/-- com/example/cicada/cicada/cli/ExitCodeOfPinLaw -/
def k1 : Class := { plain "com/example/cicada/cicada/cli/ExitCodeOfPinLaw" (some 0) with
  accessFlags := 49
  interfaces := #[]
  cf := some (fileOf pool1 28 #[] #[{ accessFlags := 2, nameIndex := 5, descriptorIndex := 6, attributes := #[] }, { accessFlags := 9, nameIndex := 32, descriptorIndex := 33, attributes := #[] }] 49 2 #[] #[])
  fields := #[]
  methods := #[k1m0, k1m1]
  instanceTypes := #[]
  staticTypes := #[]
  resolved := Array.replicate 37 none
  statics := none }

def pool2 : Array CpInfo := pool [(1, .class_ 2), (0, u "java/lang/constant/Constable"), (0, .class_ 4), (0, u "java/lang/Object")] 6

/-- java/lang/constant/Constable -/
def k2 : Class := { plain "java/lang/constant/Constable" (some 0) with
  accessFlags := 1537
  interfaces := #[]
  cf := some (fileOf pool2 1 #[] #[] 1537 3 #[] #[])
  fields := #[]
  methods := #[]
  instanceTypes := #[]
  staticTypes := #[]
  resolved := Array.replicate 11 none
  statics := none }

def pool3 : Array CpInfo := pool [(1, .class_ 2), (0, u "java/lang/Comparable"), (0, .class_ 4), (0, u "java/lang/Object")] 7

/-- java/lang/Comparable -/
def k3 : Class := { plain "java/lang/Comparable" (some 0) with
  accessFlags := 1537
  interfaces := #[]
  cf := some (fileOf pool3 1 #[] #[] 1537 3 #[] #[])
  fields := #[]
  methods := #[]
  instanceTypes := #[]
  staticTypes := #[]
  resolved := Array.replicate 12 none
  statics := none }

def pool4 : Array CpInfo := pool [(1, .class_ 2), (0, u "java/io/Serializable"), (0, .class_ 4), (0, u "java/lang/Object")] 2

/-- java/io/Serializable -/
def k4 : Class := { plain "java/io/Serializable" (some 0) with
  accessFlags := 1537
  interfaces := #[]
  cf := some (fileOf pool4 1 #[] #[] 1537 3 #[] #[])
  fields := #[]
  methods := #[]
  instanceTypes := #[]
  staticTypes := #[]
  resolved := Array.replicate 7 none
  statics := none }

def pool5 : Array CpInfo := pool [(2, .class_ 4), (1, u "java/lang/Enum"), (0, u "name"), (0, u "Ljava/lang/String;"), (0, .fieldref 2 8), (0, .nameAndType 9 10), (0, u "ordinal"), (0, u "I"), (1, .class_ 14), (1, u "java/lang/Object"), (4, u "hash"), (86, .class_ 108), (1, u "java/lang/Enum$EnumDesc"), (2, .class_ 112), (0, u "java/lang/constant/Constable"), (0, .class_ 114), (0, u "java/lang/Comparable"), (0, .class_ 116), (0, u "java/io/Serializable"), (9, u "()I")] 77

def k5c0 : Code := { maxStack := 1, maxLocals := 1, code := jdk_37_method_2_code, exceptionTable := #[], attributes := #[] }
def k5m0 : Method := { name := "ordinal", desc := "()I", sig := { parameters := [], returnType := some .int }, accessFlags := 17, code := some k5c0 }
/-- java/lang/Enum -/
def k5 : Class := { plain "java/lang/Enum" (some 0) with
  accessFlags := 1057
  interfaces := #[2, 3, 4]
  cf := some (fileOf pool5 2 #[.nestMembers #[106]] #[{ accessFlags := 17, nameIndex := 9, descriptorIndex := 126, attributes := #[] }] 1057 12 #[111, 113, 115] #[{ accessFlags := 18, nameIndex := 5, descriptorIndex := 6, attributes := #[] }, { accessFlags := 18, nameIndex := 9, descriptorIndex := 10, attributes := #[] }, { accessFlags := 2, nameIndex := 19, descriptorIndex := 10, attributes := #[] }])
  fields := #[{ name := "name", type := (.object "java/lang/String"), accessFlags := 18, slot := 0, constantValue := 0 }, { name := "ordinal", type := .int, accessFlags := 18, slot := 1, constantValue := 0 }, { name := "hash", type := .int, accessFlags := 2, slot := 2, constantValue := 0 }]
  methods := #[k5m0]
  instanceTypes := #[(.object "java/lang/String"), .int, .int]
  staticTypes := #[]
  resolved := Array.replicate 204 none
  statics := none }

def pool6 : Array CpInfo := pool [(1, .class_ 2), (0, u "com/example/cicada/cicada/Verdict"), (2, u "ADMITTED"), (0, u "Lcom/example/cicada/cicada/Verdict;"), (2, u "REFUSED_QUOTA"), (2, u "REFUSED_ALREADY_SIGNED"), (2, u "REFUSED_WINDOW"), (2, u "$VALUES"), (0, u "[Lcom/example/cicada/cicada/Verdict;"), (6, .class_ 28), (1, u "java/lang/Enum"), (8, u "text"), (0, u "Ljava/lang/String;")] 32

/-- com/example/cicada/cicada/Verdict -/
def k6 : Class := { plain "com/example/cicada/cicada/Verdict" (some 5) with
  accessFlags := 16433
  interfaces := #[]
  cf := some (fileOf pool6 1 #[] #[] 16433 26 #[] #[{ accessFlags := 16409, nameIndex := 5, descriptorIndex := 6, attributes := #[] }, { accessFlags := 16409, nameIndex := 9, descriptorIndex := 6, attributes := #[] }, { accessFlags := 16409, nameIndex := 12, descriptorIndex := 6, attributes := #[] }, { accessFlags := 16409, nameIndex := 15, descriptorIndex := 6, attributes := #[] }, { accessFlags := 18, nameIndex := 37, descriptorIndex := 38, attributes := #[] }, { accessFlags := 4122, nameIndex := 18, descriptorIndex := 19, attributes := #[] }])
  fields := #[{ name := "ADMITTED", type := (.object "com/example/cicada/cicada/Verdict"), accessFlags := 16409, slot := 0, constantValue := 0 }, { name := "REFUSED_QUOTA", type := (.object "com/example/cicada/cicada/Verdict"), accessFlags := 16409, slot := 1, constantValue := 0 }, { name := "REFUSED_ALREADY_SIGNED", type := (.object "com/example/cicada/cicada/Verdict"), accessFlags := 16409, slot := 2, constantValue := 0 }, { name := "REFUSED_WINDOW", type := (.object "com/example/cicada/cicada/Verdict"), accessFlags := 16409, slot := 3, constantValue := 0 }, { name := "text", type := (.object "java/lang/String"), accessFlags := 18, slot := 3, constantValue := 0 }, { name := "$VALUES", type := (.array (.object "com/example/cicada/cicada/Verdict")), accessFlags := 4122, slot := 4, constantValue := 0 }]
  methods := #[]
  instanceTypes := #[(.object "java/lang/String"), .int, .int, (.object "java/lang/String")]
  staticTypes := #[(.object "com/example/cicada/cicada/Verdict"), (.object "com/example/cicada/cicada/Verdict"), (.object "com/example/cicada/cicada/Verdict"), (.object "com/example/cicada/cicada/Verdict"), (.array (.object "com/example/cicada/cicada/Verdict"))]
  resolved := Array.replicate 71 none
  statics := some 0 }

def pool7 : Array CpInfo := pool [(2, .class_ 4), (1, u "java/lang/Object"), (0, u "<init>"), (0, u "()V"), (0, .fieldref 8 9), (0, .class_ 10), (0, .nameAndType 11 12), (0, u "com/example/cicada/cicada/cli/ExitCode$1"), (0, u "$SwitchMap$com$example$cicada$cicada$Verdict"), (0, u "[I"), (0, .methodref 14 15), (0, .class_ 16), (0, .nameAndType 17 18), (0, u "com/example/cicada/cicada/Verdict"), (0, u "ordinal"), (0, u "()I"), (5, .class_ 25), (0, u "com/example/cicada/cicada/cli/ExitCode"), (0, u "SUCCESS"), (0, u "I"), (2, u "INVALID"), (1, u "USAGE"), (1, u "REFUSED_QUOTA"), (1, u "REFUSED_WINDOW"), (3, u "of"), (0, u "(Lcom/example/cicada/cicada/Verdict;)I")] 5

def k7m0 : Method := { name := "<init>", desc := "()V", sig := { parameters := [], returnType := none }, accessFlags := 2, code := none }
def k7c1 : Code := { maxStack := 4, maxLocals := 1, code := prog_5_method_2_code, exceptionTable := #[], attributes := #[] }
def k7m1 : Method := { name := "of", desc := "(Lcom/example/cicada/cicada/Verdict;)I", sig := { parameters := [(.object "com/example/cicada/cicada/Verdict")], returnType := some .int }, accessFlags := 8, code := some k7c1 }
/-- com/example/cicada/cicada/cli/ExitCode -/
def k7 : Class := { plain "com/example/cicada/cicada/cli/ExitCode" (some 0) with
  accessFlags := 48
  interfaces := #[]
  cf := some (fileOf pool7 24 #[.nestMembers #[8]] #[{ accessFlags := 2, nameIndex := 5, descriptorIndex := 6, attributes := #[] }, { accessFlags := 8, nameIndex := 40, descriptorIndex := 41, attributes := #[] }] 48 2 #[] #[{ accessFlags := 24, nameIndex := 26, descriptorIndex := 27, attributes := #[] }, { accessFlags := 24, nameIndex := 30, descriptorIndex := 27, attributes := #[] }, { accessFlags := 24, nameIndex := 32, descriptorIndex := 27, attributes := #[] }, { accessFlags := 24, nameIndex := 34, descriptorIndex := 27, attributes := #[] }, { accessFlags := 24, nameIndex := 36, descriptorIndex := 27, attributes := #[] }])
  fields := #[{ name := "SUCCESS", type := .int, accessFlags := 24, slot := 0, constantValue := 0 }, { name := "INVALID", type := .int, accessFlags := 24, slot := 1, constantValue := 0 }, { name := "USAGE", type := .int, accessFlags := 24, slot := 2, constantValue := 0 }, { name := "REFUSED_QUOTA", type := .int, accessFlags := 24, slot := 3, constantValue := 0 }, { name := "REFUSED_WINDOW", type := .int, accessFlags := 24, slot := 4, constantValue := 0 }]
  methods := #[k7m0, k7m1]
  instanceTypes := #[]
  staticTypes := #[.int, .int, .int, .int, .int]
  resolved := Array.replicate 47 none
  statics := none }

def pool8 : Array CpInfo := pool [(8, .class_ 10), (1, u "com/example/cicada/cicada/cli/ExitCode$1"), (0, u "$SwitchMap$com$example$cicada$cicada$Verdict"), (0, u "[I"), (19, .class_ 33), (0, u "java/lang/Object"), (8, .class_ 43), (0, u "com/example/cicada/cicada/cli/ExitCode")] 2

/-- com/example/cicada/cicada/cli/ExitCode$1 -/
def k8 : Class := { plain "com/example/cicada/cicada/cli/ExitCode$1" (some 0) with
  accessFlags := 4128
  interfaces := #[]
  cf := some (fileOf pool8 8 #[.nestHost 42] #[] 4128 32 #[] #[{ accessFlags := 4120, nameIndex := 11, descriptorIndex := 12, attributes := #[] }])
  fields := #[{ name := "$SwitchMap$com$example$cicada$cicada$Verdict", type := (.array .int), accessFlags := 4120, slot := 0, constantValue := 0 }]
  methods := #[]
  instanceTypes := #[]
  staticTypes := #[(.array .int)]
  resolved := Array.replicate 46 none
  statics := some 1 }

def pool9 : Array CpInfo := pool [(1, u "java/lang/Cloneable"), (0, .class_ 1), (0, u "java/lang/Object"), (0, .class_ 3)] 3

/-- java/lang/Cloneable -/
def k9 : Class := { plain "java/lang/Cloneable" (some 0) with
  accessFlags := 1537
  interfaces := #[]
  cf := some (fileOf pool9 2 #[] #[] 1537 4 #[] #[])
  fields := #[]
  methods := #[]
  instanceTypes := #[]
  staticTypes := #[]
  resolved := Array.replicate 8 none
  statics := none }

/-- the primitive byte -/
def k10 : Class := { plain "byte" none with kind := .primitive 'B', accessFlags := 0x411 }
/-- [B -/
def k11 : Class := { plain "[B" (some 0) with kind := .array 10 .byte, interfaces := #[9, 4], accessFlags := 1041 }

/-- the primitive int -/
def k12 : Class := { plain "int" none with kind := .primitive 'I', accessFlags := 0x411 }
/-- [I -/
def k13 : Class := { plain "[I" (some 0) with kind := .array 12 .int, interfaces := #[9, 4], accessFlags := 1041 }

def heap : Heap := #[{ cls := 6, slots := #[.ref 2, .ref 3, .ref 4, .ref 5, .null], vm := .statics 6 },
  { cls := 8, slots := #[.ref 6], vm := .statics 8 },
  { cls := 6, slots := #[.null, .int 0, .int 0, .null], vm := .none },
  { cls := 6, slots := #[.null, .int 1, .int 0, .null], vm := .none },
  { cls := 6, slots := #[.null, .int 2, .int 0, .null], vm := .none },
  { cls := 6, slots := #[.null, .int 3, .int 0, .null], vm := .none },
  { cls := 13, slots := #[.int 1, .int 2, .int 3, .int 4], vm := .none }]
def classes : Array Class := #[k0, k1, k2, k3, k4, k5, k6, k7, k8, k9, k10, k11, k12, k13]
def interned : List (Array UInt16 × Addr) := []
def slotsUsed : Nat := 26
def theMethod : MethodId := ⟨1, 1⟩
def args0 : Array Value := #[.int 1]
def aboutOver (below : List Frame) : State where
  vm := { classes := classes, interned := interned.toArray }
  heap := heap
  slotsUsed := slotsUsed
  threads := #[{ frames := .invoking theMethod args0 :: below }]
def below0 : List Frame := [.native { method := ⟨0, 0⟩, args := #[] }]
def about1 : State := aboutOver below0
def p0 : Program := .bare "" "" ""
def e0 : Env := launch0.env 0 0 0
theorem w_frames : about1.frames = Frame.invoking theMethod args0 :: below0 := rfl
set_option maxRecDepth 65536 in
theorem w_args : argsFit about1.vm theMethod args0 = true := by decide +kernel
set_option maxRecDepth 65536 in
theorem w_heap : heapFits about1 = true := by decide +kernel
set_option maxRecDepth 65536 in
theorem w_runnable : about1.curStatus? = some .runnable := by decide +kernel
set_option maxRecDepth 65536 in
theorem w_alone : about1.alone = true := by decide +kernel
set_option maxRecDepth 65536 in
theorem w_named : about1.methodNamed? x = some theMethod := by decide +kernel
set_option maxRecDepth 65536 in
theorem w_hears : about1.hears theMethod below0 = true := by decide +kernel
set_option maxRecDepth 65536 in
theorem w_ripe : about1.ripe theMethod args0 below0 = true := by decide +kernel
theorem w_running : about1.status = .running := rfl
set_option maxRecDepth 65536 in
theorem w_room : about1.hasRoom e0.platform room_1 = true :=
  launch0.hasRoom_least _ room_1 (by decide +kernel) (by decide +kernel) (by decide +kernel) (by decide +kernel) (by decide +kernel) (by decide +kernel)
theorem allAtoms_all (ts : List Jvm.Cond) (a : Array Jvm.Value) (st : Jvm.State) : (allAtoms ts).before a st = ts.all (fun c => c.before a st) := by
  induction ts with
  | nil => rfl
  | cons c t ih =>
    show (Jvm.Cond.and c (allAtoms t)).before a st = _
    rw [Jvm.Cond.before_and, ih, List.all_cons]
def words1 : List Jvm.Cond := Jvm.Cond.code x code maxLocals ret :: tables_1
/-- a 'code' word, met by the world's own term for the bytes: nothing is compared byte by byte -/
theorem code_word {y : MethodName} {bytes : ByteArray} {mx : Nat} {rt : Option FieldType} {a : Array Value} {s : State} {m : MethodId} {meth : Method} {c : Code} (h1 : s.methodNamed? y = some m) (h2 : s.vm.method? m = some meth) (h3 : meth.code = some c) (h4 : c.code = bytes)
    (h5 : (c.maxLocals == mx && c.exceptionTable.isEmpty && decide (c.maxStack ≤ mostOperands) && decide (meth.sig.returnType = rt) && !meth.locks && decide (parseMethodDescriptor y.desc = some meth.sig)) = true) : (Jvm.Cond.code y bytes mx rt).before a s = true := by
  simp only [Bool.and_eq_true, beq_iff_eq, Bool.not_eq_true', decide_eq_true_eq] at h5
  obtain ⟨⟨⟨⟨⟨g1, g2⟩, g3⟩, g4⟩, g5⟩, g6⟩ := h5
  simp [Cond.before, Cond.holds, Cond.value, h1, h2, h3, h4, g1, g2, g3, g4, g5, g6]
def isCode : Jvm.Cond → Bool
  | .code _ _ _ _ => true
  | _ => false
theorem all_split {L : List Jvm.Cond} {P : Jvm.Cond → Bool} (h1 : L.all (fun c => isCode c || P c) = true) (h2 : ∀ c ∈ L.filter isCode, P c = true) : L.all P = true := by
  refine List.all_eq_true.mpr fun c hc => ?_
  have h := List.all_eq_true.mp h1 c hc
  rcases Bool.eq_false_or_eq_true (isCode c) with hi | hi
  · exact h2 c (List.mem_filter.mpr ⟨hc, hi⟩)
  · simpa [hi] using h
set_option maxRecDepth 65536 in
theorem w_c0 : (Jvm.Cond.code x code maxLocals ret).before args0 about1 = true := code_word (m := ⟨1, 1⟩) (meth := k1m1) (c := k1c1) (by decide +kernel) rfl rfl rfl (by decide +kernel)
set_option maxRecDepth 65536 in
theorem w_c1 : (Jvm.Cond.code ({ cls := "com/example/cicada/cicada/cli/ExitCode", name := "of", desc := "(Lcom/example/cicada/cicada/Verdict;)I" } : Jvm.MethodName) prog_5_method_2_code (1 : Nat) (Option.some Jvm.ClassFile.FieldType.int)).before args0 about1 = true := code_word (m := ⟨7, 1⟩) (meth := k7m1) (c := k7c1) (by decide +kernel) rfl rfl rfl (by decide +kernel)
set_option maxRecDepth 65536 in
theorem w_c2 : (Jvm.Cond.code ({ cls := "java/lang/Enum", name := "ordinal", desc := "()I" } : Jvm.MethodName) jdk_37_method_2_code (1 : Nat) (Option.some Jvm.ClassFile.FieldType.int)).before args0 about1 = true := code_word (m := ⟨5, 0⟩) (meth := k5m0) (c := k5c0) (by decide +kernel) rfl rfl rfl (by decide +kernel)
def codes1 : List Jvm.Cond := [Jvm.Cond.code x code maxLocals ret, Jvm.Cond.code ({ cls := "com/example/cicada/cicada/cli/ExitCode", name := "of", desc := "(Lcom/example/cicada/cicada/Verdict;)I" } : Jvm.MethodName) prog_5_method_2_code (1 : Nat) (Option.some Jvm.ClassFile.FieldType.int), Jvm.Cond.code ({ cls := "java/lang/Enum", name := "ordinal", desc := "()I" } : Jvm.MethodName) jdk_37_method_2_code (1 : Nat) (Option.some Jvm.ClassFile.FieldType.int)]
set_option maxRecDepth 65536 in
theorem codes_eq : words1.filter isCode = codes1 := rfl
theorem w_codes : ∀ c ∈ words1.filter isCode, c.before args0 about1 = true := by
  rw [codes_eq]
  intro c hc
  simp only [codes1, List.mem_cons, List.not_mem_nil, or_false] at hc
  rcases hc with rfl | rfl | rfl
  · exact w_c0
  · exact w_c1
  · exact w_c2
set_option maxRecDepth 65536 in
theorem w_t1 : (words1.take 24).all (fun c => isCode c || c.before args0 about1) = true := by decide +kernel
set_option maxRecDepth 65536 in
theorem w_t2 : (words1.drop 24).all (fun c => isCode c || c.before args0 about1) = true := by decide +kernel
theorem w_tables : (allAtoms (Jvm.Cond.code x code maxLocals ret :: tables_1)).before args0 about1 = true := by
  rw [allAtoms_all]
  show words1.all (fun c => c.before args0 about1) = true
  refine all_split ?_ w_codes
  rw [← List.take_append_drop 24 words1, List.all_append, w_t1, w_t2]
  rfl
set_option maxRecDepth 65536 in
theorem w_case : (Jvm.Cond.and given_1 narrow_1).before args0 about1 = true := by decide +kernel
theorem w_applies : (headSpec (Jvm.Cond.code x code maxLocals ret :: tables_1) room_1).applies x e0.platform about1 = true :=
  (Spec.applies_iff w_frames).mpr ⟨w_running, w_runnable, w_alone, w_named, w_hears, w_ripe, w_room, w_tables⟩
theorem atStart : AtStart classFile x code maxLocals ret World_1 tables_1 room_1 Calls_1 rest_1 Pre_1 launch0 p0 e0 about1 theMethod args0 below0 :=
  ⟨lists_1, trivial, launch0.admits_env _ _ _, launch0.least_env, fairChoices_fair.cas, fairChoices_fair.clock, w_frames, w_args, w_heap, w_applies, trivial, trivial, w_case⟩
end start1
theorem witness_1 : WitnessClaimed_1 := ⟨start1.p0, start1.e0, start1.about1, start1.theMethod, start1.args0, start1.below0, start1.atStart⟩
end Jvm.Pilot.@@N@@
