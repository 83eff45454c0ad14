import JvmDerived
import JvmDerived.Pilot.@@N@@Statement
import JvmDerived.Pilot.@@N@@Code
set_option linter.unusedVariables false
set_option linter.unusedSimpArgs false
namespace Jvm.RoadKit
open Sem ClassFile Op Lib Jvm.Stand Jvm.Free Jvm.LawKit
section New
variable {p : Program} {l : Launch} {e : Env} {R : Room} {s : State} {m : MethodId} {args : Array Value} {below : List Frame} {meth : Method} {c : Code} {T : State} {locs : List Loc} {cells slots : Nat}
theorem retI (X : Stand p l e R s m args below meth c T locs cells slots) (hx : p.tables.exec = Jvm.exec) {pc : Nat} {Ls : Array Slot} {z : Int32} {rest : List Value} (hret : meth.sig.returnType = some .int) (hd : decode c.code pc = .ok (.ireturn, 1)) {fs : List Frame}
    (hl : ∀ (f : JFrame) (acts : List Action), f.method = m → f.locked = none → f.entered = [] → (doReturn e (T.setTop f) acts (some (.int z))).1 = T.setFrames fs) : Steps p.tables e below (T.setTop (mkF m pc Ls (.int z :: rest))) (T.setFrames fs) := by
  have hm' : T.vm.method? m = some meth := X.method'
  have hn : narrow .int (.int z) = .int z := rfl
  show Steps p.tables e below (T.setTop { method := m, pc := pc, locals := Ls, stack := _ :: rest, locked := none }) _
  jvm_step X.here [X.here.top, hx, hd, hm', hret, hn]
  first | (intro acts; rw [hl _ acts rfl rfl rfl]) | rw [hl _ _ rfl rfl rfl]
  exact Steps.refl _
end New
end Jvm.RoadKit
namespace Jvm.Pilot.@@N@@
open Jvm Jvm.ClassFile Sem Op Lib Jvm.Free Jvm.Stand Jvm.LawKit Jvm.RoadKit Bundle Jvm.Pilot.@@N@@.Jvm.D
theorem own_same {h0 h : Heap} {ws : List Addr} (q : h = h0) : Keep h0 h ws := q ▸ Keep.refl _ _
theorem own_ext {h0 h : Heap} (K : Keep h0 h []) : Ext h0 h := ⟨K.1, fun a c q => K.2.1 a c q (by simp)⟩
theorem own_eqi {args : Array Value} {s : State} {t : Term} {k : Int32} (h : (Jvm.Cond.eq t (Term.int k)).value args s none s [] = some true) : t.eval args s none [] s = some (.int k) := by
  obtain ⟨x, y, hx, hy, k1, k2⟩ := cmp_v (Or.inl h)
  cases (Term.int_eval k).symm.trans hy
  obtain ⟨z, rfl⟩ := k2
  simp [Jvm.Cond.value, hx, Term.int_eval] at h
  rw [hx, h]
theorem own_fint {args : Array Value} {s : State} {t : Term} {a : Addr} {C n d : String} {k : Int32} (ht : t.eval args s none [] s = some (.ref a)) (h : (Jvm.Cond.eq (Term.field t C n d) (Term.int k)).value args s none s [] = some true) : Fld s s.heap a C n d (.int k) := by
  have q := own_eqi h
  rw [fld_at ht] at q
  exact Fld.start q
theorem own_ne {Z : State} {h : Heap} {a b : Addr} {C n d : String} {v w : Value} (F : Fld Z h a C n d v) (G : Fld Z h b C n d w) (hn : v ≠ w) : ¬ (a = b) := fun e => by
  subst e
  obtain ⟨c, cf, k, i, f, h1, h2, -, -, -, -, h7⟩ := F
  obtain ⟨c', cf', k', i', f', g1, g2, -, -, -, -, g7⟩ := G
  cases h1.symm.trans g1
  cases h2.symm.trans g2
  exact hn (Option.some.inj (h7.symm.trans g7))

theorem own_tr {h0 h h' : Heap} {ws : List Addr} (K : Keep h0 h ws) (E : Ext h h') : Keep h0 h' ws := K.ext E
theorem own_eqK {h0 h h' : Heap} {ws : List Addr} (K : Keep h0 h ws) (q : h' = h) : Keep h0 h' ws := q ▸ K

theorem own_and255 (x : Int32) : ¬ (x &&& 255) < 0 ∧ ¬ (255 : Int32) < (x &&& 255) := by
  have q := c_and x 255 (by decide)
  have z : (0 : Int32).toInt = 0 := by decide
  have w : (255 : Int32).toInt = 255 := by decide
  rw [Int32.lt_iff_toInt_lt, Int32.lt_iff_toInt_lt, z, w]
  rw [w] at q
  omega
theorem d34_0 : decode jdk_52_method_6_code 0 = .ok (.aload_n 0, 1) := by decide +kernel
theorem d34_1 : decode jdk_52_method_6_code 1 = .ok (.arraylength, 1) := by decide +kernel
theorem d34_2 : decode jdk_52_method_6_code 2 = .ok (.iconst 1, 1) := by decide +kernel
theorem d34_3 : decode jdk_52_method_6_code 3 = .ok (.ishr, 1) := by decide +kernel
theorem d34_4 : decode jdk_52_method_6_code 4 = .ok (.ireturn, 1) := by decide +kernel
theorem pn_34 : plainName "java/lang/StringUTF16" = true := by first | (simp [plainName, overriddenIn]; done) | decide +kernel
theorem ef_34 (m : MethodId) (x0 : Addr) : entryFrame m #[(.ref x0)] 1 = mkF m 0 #[.val (.ref x0)] [] := by first | (simp [entryFrame, mkF, argsToLocals, Value.category]; done) | rfl
def Q34 (Z : State) (a1 : Addr) (cl_a1 : Cell) (z_a1 : Int32) (h0 : Heap) (n0 : Nat) (v : Option Value) (h : Heap) (L : List Loc) : Prop := v = some (.int (z_a1 >>> ((1 : Int32) &&& 31))) ∧ Fr n0 L ∧ h = h0
set_option maxRecDepth 65536 in
set_option maxHeartbeats 40000000 in
theorem rm34 (l : Launch) (Z : State) (a0 : Array Value) (hw : ∀ d ∈ tables_1, d.before a0 Z = true) (ws : List Jvm.Cond) (a1 : Addr) (cl_a1 : Cell) (z_a1 : Int32) (h0 : Heap) (n0 : Nat) (Z0 : n0 ≤ h0.size) (Ar_a1 : Arr Z h0 a1 cl_a1 .byte) (S_a1 : cl_a1.slots.size = z_a1.toNatClampNeg) (N_a1 : ¬ z_a1 < 0) :
    MetFree l (⟨"java/lang/StringUTF16", "length", "([B)I"⟩ : MethodName) (head1 (Jvm.Cond.code (⟨"java/lang/StringUTF16", "length", "([B)I"⟩ : MethodName) jdk_52_method_6_code 1 (some .int) :: ws) ({ frames := 0, cells := 0, slots := 0, locals := 0 } : Room)) (fun a U => a = #[(.ref a1)] ∧ Z.Warmed39 U.vm ∧ U.heap = h0) (fun _ _ _ _ _ => True) (fun _ U o U' => ∃ v L, o = .returned v ∧ Q34 Z a1 cl_a1 z_a1 h0 n0 v U'.heap L ∧ FrameEnd U o U' L ({ frames := 0, cells := 0, slots := 0, locals := 0 } : Room).cells ({ frames := 0, cells := 0, slots := 0, locals := 0 } : Room).slots) := by
  refine MetFree.of_bodySF (plainFor_of_name pn_34) hisR ?_
  intro p e s m args below meth c s₁ Bd hml0 hP hK
  obtain ⟨rfl, hZ, hh⟩ := hP
  have hx := Bd.exec
  have hby := Bd.bytes
  have hml : c.maxLocals = 1 := hml0
  have hown : s.vm.findClass "java/lang/StringUTF16" = some m.cls := findClass_of_methodNamed Bd.named
  have hnm := (name_of_methodNamed Bd.named Bd.method).1
  have X0 : Stand p l e ({ frames := 0, cells := 0, slots := 0, locals := 0 } : Room) s m #[(.ref a1)] below meth c s₁ [] 0 0 := Stand.of_body Bd
  have e0 : s₁.heap = h0 := by rw [← hh, Bd.state]; rfl
  have N0 := Fr.nil n0
  have pre0 : ∀ t, Steps p.tables e below (s₁.setTop (mkF m 0 #[.val (.ref a1)] [])) t → Steps p.tables e below (s₁.setTop (entryFrame m #[(.ref a1)] 1)) t := fun t k => castTop (ef_34 m a1) k
  -- 3. LAWS

  obtain ⟨fs, hr, hrun, hended, hW, hsame⟩ := X0.leave (v := some (.int (z_a1 >>> ((1 : Int32) &&& 31)))) (fun h => by rw [Bd.returns] at h; cases h)
  refine ⟨_, _, pre0 _ ?_, hrun, hended, _, _, rfl, ?_, ⟨_, rfl⟩, hW, hsame.mono (by decide) (by decide)⟩
  -- 4. STEPS
  · show Steps p.tables e below (s₁.setTop (mkF m 0 #[.val (.ref a1)] [])) _
    refine XS.aloadN X0.here hx rfl (hb hby d34_0) rfl rfl ?_
    show Steps p.tables e below (s₁.setTop (mkF m 1 #[.val (.ref a1)] [(.ref a1)])) _
    refine X0.arraylength hx (by rw [e0]; exact Ar_a1.1) (State.isArrayOf_alike hZ.alike Ar_a1.2.1) (g := (mkF m 1 #[.val (.ref a1)] [(.ref a1)])) rfl rfl (hb hby d34_1) _ ?_
    rw [len_of S_a1 N_a1]
    refine XS.iconst X0.here hx rfl (hb hby d34_2) ?_
    refine XS.ishr X0.here hx rfl (hb hby d34_3) rfl ?_
    show Steps p.tables e below (s₁.setTop (mkF m 4 #[.val (.ref a1)] [(.int (z_a1 >>> ((1 : Int32) &&& 31)))])) _
    exact retI X0 hx Bd.returns (hb hby d34_4) hr      -- retI stands in the head ('lawwalk <made dir>' prints it)
  · show Q34 Z a1 cl_a1 z_a1 h0 n0 _ s₁.heap _
    rw [e0]
    exact ⟨rfl, N0, rfl⟩
theorem d26_0 : decode jdk_41_method_11_code 0 = .ok (.iload_n 0, 1) := by decide +kernel
theorem d26_1 : decode jdk_41_method_11_code 1 = .ok (.ifCond .lt 8, 3) := by decide +kernel
theorem d26_4 : decode jdk_41_method_11_code 4 = .ok (.iload_n 0, 1) := by decide +kernel
theorem d26_5 : decode jdk_41_method_11_code 5 = .ok (.iload_n 1, 1) := by decide +kernel
theorem d26_6 : decode jdk_41_method_11_code 6 = .ok (.if_icmp .lt 10, 3) := by decide +kernel
theorem d26_16 : decode jdk_41_method_11_code 16 = .ok (.iload_n 0, 1) := by decide +kernel
theorem d26_17 : decode jdk_41_method_11_code 17 = .ok (.ireturn, 1) := by decide +kernel
theorem pn_26 : plainName "jdk/internal/util/Preconditions" = true := by first | (simp [plainName, overriddenIn]; done) | decide +kernel
theorem ef_26 (m : MethodId) (x0 : Int32) (x1 : Int32) (x2 : RefV) : entryFrame m #[(.int x0), (.int x1), x2.v] 3 = mkF m 0 #[.val (.int x0), .val (.int x1), .val x2.v] [] := by
  obtain ⟨v, ok⟩ := x2
  cases v <;> first | (simp [entryFrame, mkF, argsToLocals, Value.category]; done) | rfl | cases ok
def Q26 (Z : State) (p1 : Int32) (p2 : Int32) (a3 : RefV) (h0 : Heap) (n0 : Nat) (v : Option Value) (h : Heap) (L : List Loc) : Prop := v = some (.int p1) ∧ Fr n0 L ∧ h = h0
set_option maxRecDepth 65536 in
set_option maxHeartbeats 40000000 in
theorem rm26 (l : Launch) (Z : State) (a0 : Array Value) (hw : ∀ d ∈ tables_1, d.before a0 Z = true) (ws : List Jvm.Cond) (p1 : Int32) (p2 : Int32) (a3 : RefV) (h0 : Heap) (n0 : Nat) (Z0 : n0 ≤ h0.size) (hc1 : ¬ (p1 < (0 : Int32))) (hc6 : p1 < p2) :
    MetFree l (⟨"jdk/internal/util/Preconditions", "checkIndex", "(IILjava/util/function/BiFunction;)I"⟩ : MethodName) (head1 (Jvm.Cond.code (⟨"jdk/internal/util/Preconditions", "checkIndex", "(IILjava/util/function/BiFunction;)I"⟩ : MethodName) jdk_41_method_11_code 3 (some .int) :: ws) ({ frames := 0, cells := 0, slots := 0, locals := 0 } : Room)) (fun a U => a = #[(.int p1), (.int p2), a3.v] ∧ Z.Warmed39 U.vm ∧ U.heap = h0) (fun _ _ _ _ _ => True) (fun _ U o U' => ∃ v L, o = .returned v ∧ Q26 Z p1 p2 a3 h0 n0 v U'.heap L ∧ FrameEnd U o U' L ({ frames := 0, cells := 0, slots := 0, locals := 0 } : Room).cells ({ frames := 0, cells := 0, slots := 0, locals := 0 } : Room).slots) := by
  refine MetFree.of_bodySF (plainFor_of_name pn_26) hisR ?_
  intro p e s m args below meth c s₁ Bd hml0 hP hK
  obtain ⟨rfl, hZ, hh⟩ := hP
  have hx := Bd.exec
  have hby := Bd.bytes
  have hml : c.maxLocals = 3 := hml0
  have hown : s.vm.findClass "jdk/internal/util/Preconditions" = some m.cls := findClass_of_methodNamed Bd.named
  have hnm := (name_of_methodNamed Bd.named Bd.method).1
  have X0 : Stand p l e ({ frames := 0, cells := 0, slots := 0, locals := 0 } : Room) s m #[(.int p1), (.int p2), a3.v] below meth c s₁ [] 0 0 := Stand.of_body Bd
  have e0 : s₁.heap = h0 := by rw [← hh, Bd.state]; rfl
  have N0 := Fr.nil n0
  have pre0 : ∀ t, Steps p.tables e below (s₁.setTop (mkF m 0 #[.val (.int p1), .val (.int p2), .val a3.v] [])) t → Steps p.tables e below (s₁.setTop (entryFrame m #[(.int p1), (.int p2), a3.v] 3)) t := fun t k => castTop (ef_26 m p1 p2 a3) k
  -- 3. LAWS

  obtain ⟨fs, hr, hrun, hended, hW, hsame⟩ := X0.leave (v := some (.int p1)) (fun h => by rw [Bd.returns] at h; cases h)
  refine ⟨_, _, pre0 _ ?_, hrun, hended, _, _, rfl, ?_, ⟨_, rfl⟩, hW, hsame.mono (by decide) (by decide)⟩
  -- 4. STEPS
  · show Steps p.tables e below (s₁.setTop (mkF m 0 #[.val (.int p1), .val (.int p2), .val a3.v] [])) _
    refine XS.iloadN X0.here hx rfl (hb hby d26_0) rfl ?_
    refine XS.ifNo X0.here hx rfl (hb hby d26_1) rfl ((if0 _ _).trans (flt hc1).1) ?_
    refine XS.iloadN X0.here hx rfl (hb hby d26_4) rfl ?_
    refine XS.iloadN X0.here hx rfl (hb hby d26_5) rfl ?_
    refine XS.icmpYes X0.here hx rfl (pc0 := 6) (pc' := 16) rfl (hb hby d26_6) rfl (tlt hc6).1 (by decide) (by decide) ?_
    refine XS.iloadN X0.here hx rfl (hb hby d26_16) rfl ?_
    show Steps p.tables e below (s₁.setTop (mkF m 17 #[.val (.int p1), .val (.int p2), .val a3.v] [(.int p1)])) _
    exact retI X0 hx Bd.returns (hb hby d26_17) hr      -- retI stands in the head ('lawwalk <made dir>' prints it)
  · show Q26 Z p1 p2 a3 h0 n0 _ s₁.heap _
    rw [e0]
    exact ⟨rfl, N0, rfl⟩
theorem d25_0 : decode jdk_42_method_155_code 0 = .ok (.iload_n 0, 1) := by decide +kernel
theorem d25_1 : decode jdk_42_method_155_code 1 = .ok (.iload_n 1, 1) := by decide +kernel
theorem d25_2 : decode jdk_42_method_155_code 2 = .ok (.getstatic 1053, 3) := by decide +kernel
theorem d25_5 : decode jdk_42_method_155_code 5 = .ok (.invokestatic 1059, 3) := by decide +kernel
theorem d25_8 : decode jdk_42_method_155_code 8 = .ok (.pop, 1) := by decide +kernel
theorem d25_9 : decode jdk_42_method_155_code 9 = .ok (.return_, 1) := by decide +kernel
theorem pn_25 : plainName "java/lang/String" = true := by first | (simp [plainName, overriddenIn]; done) | decide +kernel
theorem pd_25_23 : parseMethodDescriptor "(IILjava/util/function/BiFunction;)I" = some ⟨[.int, .int, (.object "java/util/function/BiFunction")], some .int⟩ := by decide +kernel
theorem ef_25 (m : MethodId) (x0 : Int32) (x1 : Int32) : entryFrame m #[(.int x0), (.int x1)] 2 = mkF m 0 #[.val (.int x0), .val (.int x1)] [] := by first | (simp [entryFrame, mkF, argsToLocals, Value.category]; done) | rfl
def Q25 (Z : State) (p1 : Int32) (p2 : Int32) (w3 : RefV) (h0 : Heap) (n0 : Nat) (v : Option Value) (h : Heap) (L : List Loc) : Prop := v = none ∧ Fr n0 L ∧ h = h0
set_option maxRecDepth 65536 in
set_option maxHeartbeats 40000000 in
theorem rm25 (l : Launch) (Z : State) (a0 : Array Value) (hw : ∀ d ∈ tables_1, d.before a0 Z = true) (ws : List Jvm.Cond) (p1 : Int32) (p2 : Int32) (w3 : RefV) (h0 : Heap) (n0 : Nat) (Z0 : n0 ≤ h0.size) (S_Preconditions_SIOOBE_FORMATTER : Sta Z h0 "jdk/internal/util/Preconditions" "SIOOBE_FORMATTER" "Ljava/util/function/BiFunction;" w3.v) (hc1 : ¬ (p1 < (0 : Int32))) (hc6 : p1 < p2) :
    MetFree l (⟨"java/lang/String", "checkIndex", "(II)V"⟩ : MethodName) (head1 (Jvm.Cond.code (⟨"java/lang/String", "checkIndex", "(II)V"⟩ : MethodName) jdk_42_method_155_code 2 none :: ws) ({ frames := 1, cells := 0, slots := 0, locals := 14 } : Room)) (fun a U => a = #[(.int p1), (.int p2)] ∧ Z.Warmed39 U.vm ∧ U.heap = h0) (fun _ _ _ _ _ => True) (fun _ U o U' => ∃ v L, o = .returned v ∧ Q25 Z p1 p2 w3 h0 n0 v U'.heap L ∧ FrameEnd U o U' L ({ frames := 1, cells := 0, slots := 0, locals := 14 } : Room).cells ({ frames := 1, cells := 0, slots := 0, locals := 14 } : Room).slots) := by
  refine MetFree.of_bodySF (plainFor_of_name pn_25) hisR ?_
  intro p e s m args below meth c s₁ Bd hml0 hP hK
  obtain ⟨rfl, hZ, hh⟩ := hP
  have hx := Bd.exec
  have hby := Bd.bytes
  have hml : c.maxLocals = 2 := hml0
  have hown : s.vm.findClass "java/lang/String" = some m.cls := findClass_of_methodNamed Bd.named
  have hnm := (name_of_methodNamed Bd.named Bd.method).1
  have X0 : Stand p l e ({ frames := 1, cells := 0, slots := 0, locals := 14 } : Room) s m #[(.int p1), (.int p2)] below meth c s₁ [] 0 0 := Stand.of_body Bd
  have e0 : s₁.heap = h0 := by rw [← hh, Bd.state]; rfl
  have N0 := Fr.nil n0
  have pre0 : ∀ t, Steps p.tables e below (s₁.setTop (mkF m 0 #[.val (.int p1), .val (.int p2)] [])) t → Steps p.tables e below (s₁.setTop (entryFrame m #[(.int p1), (.int p2)] 2)) t := fun t k => castTop (ef_25 m p1 p2) k
  -- 3. LAWS
  obtain ⟨T4, X4, e4, st4⟩ := getS2 X0 hx hZ hown (host := "") (Or.inl (hw _ (List.mem_of_getElem? (i := 51) rfl))) Via.refl e0 S_Preconditions_SIOOBE_FORMATTER (g := (mkF m 2 #[.val (.int p1), .val (.int p2)] [(.int p2), (.int p1)])) rfl (hb hby d25_2)
  -- pc 5: jdk/internal/util/Preconditions.checkIndex by its contract rm26
  obtain ⟨_, _, ⟨T5, L5, k5, n5⟩, -, X5, ⟨Lc5, hQ5, l5, y5, z5⟩, st5⟩ := Jvm.LawKit.callS X4 hx (y := (⟨"jdk/internal/util/Preconditions", "checkIndex", "(IILjava/util/function/BiFunction;)I"⟩ : MethodName)) hown (mvT hZ (hw _ (List.mem_of_getElem? (i := 113) rfl))) (mvT hZ (hw _ (List.mem_of_getElem? (i := 114) rfl))) (mvT hZ (hw _ (List.mem_of_getElem? (i := 52) rfl))) (mvT hZ (hw _ (List.mem_of_getElem? (i := 115) rfl))) (by decide) (backOf (W := 0) (rm26 l Z a0 hw [] p1 p2 w3 h0 n0 Z0 hc1 hc6) hZ (hw _ (List.mem_of_getElem? (i := 115) rfl)) (hw _ (List.mem_of_getElem? (i := 52) rfl)) (by decide) (by decide)) (g := (mkF m 5 #[.val (.int p1), .val (.int p2)] [w3.v, (.int p2), (.int p1)])) rfl (by rw [hml]; rfl) (argsL := [(.int p1), (.int p2), w3.v]) (rest := []) (lenOf pd_25_23 rfl) rfl (by show 2 * 0 + _ ≤ _; exact Nat.le_of_eq rfl) (hb hby d25_5) (fun _ _ => ⟨rfl, e4, (by decide : 0 + 0 ≤ _), (by decide : 0 + 0 ≤ _)⟩)
  dsimp only [Pt.U, Pt.locs, Pt.cells, Pt.slots] at X5 l5 y5 z5 st5 hQ5
  subst l5 y5 z5
  obtain ⟨rfl, N5q, eq5⟩ := hQ5
  have N5 := Fr.app N0 N5q
  obtain ⟨fs, hr, hrun, hended, hW, hsame⟩ := X5.leave (v := none) (fun _ => rfl)
  refine ⟨_, _, pre0 _ ?_, hrun, hended, _, _, rfl, ?_, ⟨_, rfl⟩, hW, hsame.mono (by decide) (by decide)⟩
  -- 4. STEPS
  · show Steps p.tables e below (s₁.setTop (mkF m 0 #[.val (.int p1), .val (.int p2)] [])) _
    refine XS.iloadN X0.here hx rfl (hb hby d25_0) rfl ?_
    refine XS.iloadN X0.here hx rfl (hb hby d25_1) rfl ?_
    refine st4 _ ?_
    refine st5 _ ?_
    refine XS.pop X5.here hx rfl (hb hby d25_8) rfl rfl ?_
    show Steps p.tables e below (T5.setTop (mkF m 9 #[.val (.int p1), .val (.int p2)] [])) _
    exact X5.returnOut hx Bd.returns (hb hby d25_9) hr
  · show Q25 Z p1 p2 w3 h0 n0 _ T5.heap _
    exact ⟨rfl, N5, eq5⟩
theorem d36_0 : decode jdk_52_method_91_code 0 = .ok (.iload_n 0, 1) := by decide +kernel
theorem d36_1 : decode jdk_52_method_91_code 1 = .ok (.aload_n 1, 1) := by decide +kernel
theorem d36_2 : decode jdk_52_method_91_code 2 = .ok (.invokestatic 48, 3) := by decide +kernel
theorem d36_5 : decode jdk_52_method_91_code 5 = .ok (.invokestatic 414, 3) := by decide +kernel
theorem d36_8 : decode jdk_52_method_91_code 8 = .ok (.return_, 1) := by decide +kernel
theorem pn_36 : plainName "java/lang/StringUTF16" = true := by first | (simp [plainName, overriddenIn]; done) | decide +kernel
theorem pd_36_28 : parseMethodDescriptor "([B)I" = some ⟨[(.array .byte)], some .int⟩ := by decide +kernel
theorem pd_36_22 : parseMethodDescriptor "(II)V" = some ⟨[.int, .int], none⟩ := by decide +kernel
theorem ef_36 (m : MethodId) (x0 : Int32) (x1 : Addr) : entryFrame m #[(.int x0), (.ref x1)] 2 = mkF m 0 #[.val (.int x0), .val (.ref x1)] [] := by first | (simp [entryFrame, mkF, argsToLocals, Value.category]; done) | rfl
def Q36 (Z : State) (p1 : Int32) (a2 : Addr) (h0 : Heap) (n0 : Nat) (v : Option Value) (h : Heap) (L : List Loc) : Prop := v = none ∧ Fr n0 L ∧ h = h0
set_option maxRecDepth 65536 in
set_option maxHeartbeats 40000000 in
theorem rm36 (l : Launch) (Z : State) (a0 : Array Value) (hw : ∀ d ∈ tables_1, d.before a0 Z = true) (ws : List Jvm.Cond) (p1 : Int32) (a2 : Addr) (cl : Cell) (z_a : Int32) (w : RefV) (h0 : Heap) (n0 : Nat) (Z0 : n0 ≤ h0.size) (Ar : Arr Z h0 a2 cl .byte) (Sz : cl.slots.size = z_a.toNatClampNeg) (Nz : ¬ z_a < 0) (SIO : Sta Z h0 "jdk/internal/util/Preconditions" "SIOOBE_FORMATTER" "Ljava/util/function/BiFunction;" w.v) (hc1 : ¬ (p1 < (0 : Int32))) (hc6 : p1 < (z_a >>> ((1 : Int32) &&& 31))) :
    MetFree l (⟨"java/lang/StringUTF16", "checkIndex", "(I[B)V"⟩ : MethodName) (head1 (Jvm.Cond.code (⟨"java/lang/StringUTF16", "checkIndex", "(I[B)V"⟩ : MethodName) jdk_52_method_91_code 2 none :: ws) ({ frames := 2, cells := 0, slots := 0, locals := 27 } : Room)) (fun a U => a = #[(.int p1), (.ref a2)] ∧ Z.Warmed39 U.vm ∧ U.heap = h0) (fun _ _ _ _ _ => True) (fun _ U o U' => ∃ v L, o = .returned v ∧ Q36 Z p1 a2 h0 n0 v U'.heap L ∧ FrameEnd U o U' L ({ frames := 2, cells := 0, slots := 0, locals := 27 } : Room).cells ({ frames := 2, cells := 0, slots := 0, locals := 27 } : Room).slots) := by
  refine MetFree.of_bodySF (plainFor_of_name pn_36) hisR ?_
  intro p e s m args below meth c s₁ Bd hml0 hP hK
  obtain ⟨rfl, hZ, hh⟩ := hP
  have hx := Bd.exec
  have hby := Bd.bytes
  have hml : c.maxLocals = 2 := hml0
  have hown : s.vm.findClass "java/lang/StringUTF16" = some m.cls := findClass_of_methodNamed Bd.named
  have hnm := (name_of_methodNamed Bd.named Bd.method).1
  have X0 : Stand p l e ({ frames := 2, cells := 0, slots := 0, locals := 27 } : Room) s m #[(.int p1), (.ref a2)] below meth c s₁ [] 0 0 := Stand.of_body Bd
  have e0 : s₁.heap = h0 := by rw [← hh, Bd.state]; rfl
  have N0 := Fr.nil n0
  have pre0 : ∀ t, Steps p.tables e below (s₁.setTop (mkF m 0 #[.val (.int p1), .val (.ref a2)] [])) t → Steps p.tables e below (s₁.setTop (entryFrame m #[(.int p1), (.ref a2)] 2)) t := fun t k => castTop (ef_36 m p1 a2) k
  -- 3. LAWS
  -- pc 2: java/lang/StringUTF16.length by its contract rm34
  obtain ⟨_, _, ⟨T3, L3, k3, n3⟩, -, X3, ⟨Lc3, hQ3, l3, y3, z3⟩, st3⟩ := Jvm.LawKit.callS X0 hx (y := (⟨"java/lang/StringUTF16", "length", "([B)I"⟩ : MethodName)) hown (mvT hZ (hw _ (List.mem_of_getElem? (i := 141) rfl))) (mvT hZ (hw _ (List.mem_of_getElem? (i := 142) rfl))) (mvT hZ (hw _ (List.mem_of_getElem? (i := 94) rfl))) (mvT hZ (hw _ (List.mem_of_getElem? (i := 143) rfl))) (by decide) (backOf (W := 1) (rm34 l Z a0 hw [] a2 cl z_a h0 n0 Z0 Ar Sz Nz) hZ (hw _ (List.mem_of_getElem? (i := 143) rfl)) (hw _ (List.mem_of_getElem? (i := 94) rfl)) (by decide) (by decide)) (g := (mkF m 2 #[.val (.int p1), .val (.ref a2)] [(.ref a2), (.int p1)])) rfl (by rw [hml]; rfl) (argsL := [(.ref a2)]) (rest := [(.int p1)]) (lenOf pd_36_28 rfl) rfl (by show 2 * 0 + _ ≤ _; exact Nat.le_of_eq rfl) (hb hby d36_2) (fun _ _ => ⟨rfl, e0, (by decide : 0 + 0 ≤ _), (by decide : 0 + 0 ≤ _)⟩)
  dsimp only [Pt.U, Pt.locs, Pt.cells, Pt.slots] at X3 l3 y3 z3 st3 hQ3
  subst l3 y3 z3
  obtain ⟨rfl, N3q, eq3⟩ := hQ3
  have N3 := Fr.app N0 N3q
  -- pc 5: java/lang/String.checkIndex by its contract rm25
  obtain ⟨_, _, ⟨T4, L4, k4, n4⟩, -, X4, ⟨Lc4, hQ4, l4, y4, z4⟩, st4⟩ := Jvm.LawKit.callS X3 hx (y := (⟨"java/lang/String", "checkIndex", "(II)V"⟩ : MethodName)) hown (mvT hZ (hw _ (List.mem_of_getElem? (i := 151) rfl))) (mvT hZ (hw _ (List.mem_of_getElem? (i := 111) rfl))) (mvT hZ (hw _ (List.mem_of_getElem? (i := 8) rfl))) (mvT hZ (hw _ (List.mem_of_getElem? (i := 112) rfl))) (by decide) (backOf (W := 0) (rm25 l Z a0 hw [] p1 (z_a >>> ((1 : Int32) &&& 31)) w T3.heap n0 (eq3 ▸ Z0) (eq3 ▸ SIO) hc1 hc6) hZ (hw _ (List.mem_of_getElem? (i := 112) rfl)) (hw _ (List.mem_of_getElem? (i := 8) rfl)) (by decide) (by decide)) (g := (mkF m 5 #[.val (.int p1), .val (.ref a2)] [(.int (z_a >>> ((1 : Int32) &&& 31))), (.int p1)])) rfl (by rw [hml]; rfl) (argsL := [(.int p1), (.int (z_a >>> ((1 : Int32) &&& 31)))]) (rest := []) (lenOf pd_36_22 rfl) rfl (by show 2 * 0 + _ ≤ _; exact Nat.le_of_eq rfl) (hb hby d36_5) (fun _ _ => ⟨rfl, rfl, (by decide : 0 + 0 ≤ _), (by decide : 0 + 0 ≤ _)⟩)
  dsimp only [Pt.U, Pt.locs, Pt.cells, Pt.slots] at X4 l4 y4 z4 st4 hQ4
  subst l4 y4 z4
  obtain ⟨rfl, N4q, eq4⟩ := hQ4
  have N4 := Fr.app N3 N4q
  obtain ⟨fs, hr, hrun, hended, hW, hsame⟩ := X4.leave (v := none) (fun _ => rfl)
  refine ⟨_, _, pre0 _ ?_, hrun, hended, _, _, rfl, ?_, ⟨_, rfl⟩, hW, hsame.mono (by decide) (by decide)⟩
  -- 4. STEPS
  · show Steps p.tables e below (s₁.setTop (mkF m 0 #[.val (.int p1), .val (.ref a2)] [])) _
    refine XS.iloadN X0.here hx rfl (hb hby d36_0) rfl ?_
    refine XS.aloadN X0.here hx rfl (hb hby d36_1) rfl rfl ?_
    refine st3 _ ?_
    refine st4 _ ?_
    show Steps p.tables e below (T4.setTop (mkF m 8 #[.val (.int p1), .val (.ref a2)] [])) _
    exact X4.returnOut hx Bd.returns (hb hby d36_8) hr
  · show Q36 Z p1 a2 h0 n0 _ T4.heap _
    exact ⟨rfl, N4, eq4.trans eq3⟩
theorem d10_0 : decode jdk_41_method_12_code 0 = .ok (.iload_n 0, 1) := by decide +kernel
theorem d10_1 : decode jdk_41_method_12_code 1 = .ok (.ifCond .lt 13, 3) := by decide +kernel
theorem d10_4 : decode jdk_41_method_12_code 4 = .ok (.iload_n 0, 1) := by decide +kernel
theorem d10_5 : decode jdk_41_method_12_code 5 = .ok (.iload_n 1, 1) := by decide +kernel
theorem d10_6 : decode jdk_41_method_12_code 6 = .ok (.if_icmp .gt 8, 3) := by decide +kernel
theorem d10_9 : decode jdk_41_method_12_code 9 = .ok (.iload_n 1, 1) := by decide +kernel
theorem d10_10 : decode jdk_41_method_12_code 10 = .ok (.iload_n 2, 1) := by decide +kernel
theorem d10_11 : decode jdk_41_method_12_code 11 = .ok (.if_icmp .le 11, 3) := by decide +kernel
theorem d10_22 : decode jdk_41_method_12_code 22 = .ok (.iload_n 0, 1) := by decide +kernel
theorem d10_23 : decode jdk_41_method_12_code 23 = .ok (.ireturn, 1) := by decide +kernel
theorem pn_10 : plainName "jdk/internal/util/Preconditions" = true := by first | (simp [plainName, overriddenIn]; done) | decide +kernel
theorem ef_10 (m : MethodId) (x0 : Int32) (x1 : Int32) (x2 : Int32) (x3 : RefV) : entryFrame m #[(.int x0), (.int x1), (.int x2), x3.v] 4 = mkF m 0 #[.val (.int x0), .val (.int x1), .val (.int x2), .val x3.v] [] := by
  obtain ⟨v, ok⟩ := x3
  cases v <;> first | (simp [entryFrame, mkF, argsToLocals, Value.category]; done) | rfl | cases ok
def Q10 (Z : State) (p1 : Int32) (p2 : Int32) (p3 : Int32) (a4 : RefV) (h0 : Heap) (n0 : Nat) (v : Option Value) (h : Heap) (L : List Loc) : Prop := v = some (.int p1) ∧ Fr n0 L ∧ h = h0
set_option maxRecDepth 65536 in
set_option maxHeartbeats 40000000 in
theorem rm10 (l : Launch) (Z : State) (a0 : Array Value) (hw : ∀ d ∈ tables_1, d.before a0 Z = true) (ws : List Jvm.Cond) (p1 : Int32) (p2 : Int32) (p3 : Int32) (a4 : RefV) (h0 : Heap) (n0 : Nat) (Z0 : n0 ≤ h0.size) (hc1 : ¬ (p1 < (0 : Int32))) (hc6 : ¬ (p2 < p1)) (hc11 : ¬ (p3 < p2)) :
    MetFree l (⟨"jdk/internal/util/Preconditions", "checkFromToIndex", "(IIILjava/util/function/BiFunction;)I"⟩ : MethodName) (head1 (Jvm.Cond.code (⟨"jdk/internal/util/Preconditions", "checkFromToIndex", "(IIILjava/util/function/BiFunction;)I"⟩ : MethodName) jdk_41_method_12_code 4 (some .int) :: ws) ({ frames := 0, cells := 0, slots := 0, locals := 0 } : Room)) (fun a U => a = #[(.int p1), (.int p2), (.int p3), a4.v] ∧ Z.Warmed39 U.vm ∧ U.heap = h0) (fun _ _ _ _ _ => True) (fun _ U o U' => ∃ v L, o = .returned v ∧ Q10 Z p1 p2 p3 a4 h0 n0 v U'.heap L ∧ FrameEnd U o U' L ({ frames := 0, cells := 0, slots := 0, locals := 0 } : Room).cells ({ frames := 0, cells := 0, slots := 0, locals := 0 } : Room).slots) := by
  refine MetFree.of_bodySF (plainFor_of_name pn_10) hisR ?_
  intro p e s m args below meth c s₁ Bd hml0 hP hK
  obtain ⟨rfl, hZ, hh⟩ := hP
  have hx := Bd.exec
  have hby := Bd.bytes
  have hml : c.maxLocals = 4 := hml0
  have hown : s.vm.findClass "jdk/internal/util/Preconditions" = some m.cls := findClass_of_methodNamed Bd.named
  have hnm := (name_of_methodNamed Bd.named Bd.method).1
  have X0 : Stand p l e ({ frames := 0, cells := 0, slots := 0, locals := 0 } : Room) s m #[(.int p1), (.int p2), (.int p3), a4.v] below meth c s₁ [] 0 0 := Stand.of_body Bd
  have e0 : s₁.heap = h0 := by rw [← hh, Bd.state]; rfl
  have N0 := Fr.nil n0
  have pre0 : ∀ t, Steps p.tables e below (s₁.setTop (mkF m 0 #[.val (.int p1), .val (.int p2), .val (.int p3), .val a4.v] [])) t → Steps p.tables e below (s₁.setTop (entryFrame m #[(.int p1), (.int p2), (.int p3), a4.v] 4)) t := fun t k => castTop (ef_10 m p1 p2 p3 a4) k
  -- 3. LAWS

  obtain ⟨fs, hr, hrun, hended, hW, hsame⟩ := X0.leave (v := some (.int p1)) (fun h => by rw [Bd.returns] at h; cases h)
  refine ⟨_, _, pre0 _ ?_, hrun, hended, _, _, rfl, ?_, ⟨_, rfl⟩, hW, hsame.mono (by decide) (by decide)⟩
  -- 4. STEPS
  · show Steps p.tables e below (s₁.setTop (mkF m 0 #[.val (.int p1), .val (.int p2), .val (.int p3), .val a4.v] [])) _
    refine XS.iloadN X0.here hx rfl (hb hby d10_0) rfl ?_
    refine XS.ifNo X0.here hx rfl (hb hby d10_1) rfl ((if0 _ _).trans (flt hc1).1) ?_
    refine XS.iloadN X0.here hx rfl (hb hby d10_4) rfl ?_
    refine XS.iloadN X0.here hx rfl (hb hby d10_5) rfl ?_
    refine XS.icmpNo X0.here hx rfl (hb hby d10_6) rfl (flt hc6).2.2.1 ?_
    refine XS.iloadN X0.here hx rfl (hb hby d10_9) rfl ?_
    refine XS.iloadN X0.here hx rfl (hb hby d10_10) rfl ?_
    show Steps p.tables e below (s₁.setTop (mkF m 11 #[.val (.int p1), .val (.int p2), .val (.int p3), .val a4.v] [(.int p3), (.int p2)])) _
    refine XS.icmpYes X0.here hx rfl (pc0 := 11) (pc' := 22) rfl (hb hby d10_11) rfl (flt hc11).2.2.2 (by decide) (by decide) ?_
    refine XS.iloadN X0.here hx rfl (hb hby d10_22) rfl ?_
    show Steps p.tables e below (s₁.setTop (mkF m 23 #[.val (.int p1), .val (.int p2), .val (.int p3), .val a4.v] [(.int p1)])) _
    exact retI X0 hx Bd.returns (hb hby d10_23) hr      -- retI stands in the head ('lawwalk <made dir>' prints it)
  · show Q10 Z p1 p2 p3 a4 h0 n0 _ s₁.heap _
    rw [e0]
    exact ⟨rfl, N0, rfl⟩
theorem d9_0 : decode jdk_42_method_158_code 0 = .ok (.iload_n 0, 1) := by decide +kernel
theorem d9_1 : decode jdk_42_method_158_code 1 = .ok (.iload_n 1, 1) := by decide +kernel
theorem d9_2 : decode jdk_42_method_158_code 2 = .ok (.iload_n 2, 1) := by decide +kernel
theorem d9_3 : decode jdk_42_method_158_code 3 = .ok (.getstatic 1053, 3) := by decide +kernel
theorem d9_6 : decode jdk_42_method_158_code 6 = .ok (.invokestatic 1062, 3) := by decide +kernel
theorem d9_9 : decode jdk_42_method_158_code 9 = .ok (.pop, 1) := by decide +kernel
theorem d9_10 : decode jdk_42_method_158_code 10 = .ok (.return_, 1) := by decide +kernel
theorem pn_9 : plainName "java/lang/String" = true := by first | (simp [plainName, overriddenIn]; done) | decide +kernel
theorem pd_9_9 : parseMethodDescriptor "(IIILjava/util/function/BiFunction;)I" = some ⟨[.int, .int, .int, (.object "java/util/function/BiFunction")], some .int⟩ := by decide +kernel
theorem ef_9 (m : MethodId) (x0 : Int32) (x1 : Int32) (x2 : Int32) : entryFrame m #[(.int x0), (.int x1), (.int x2)] 3 = mkF m 0 #[.val (.int x0), .val (.int x1), .val (.int x2)] [] := by first | (simp [entryFrame, mkF, argsToLocals, Value.category]; done) | rfl
def Q9 (Z : State) (p1 : Int32) (p2 : Int32) (p3 : Int32) (w4 : RefV) (h0 : Heap) (n0 : Nat) (v : Option Value) (h : Heap) (L : List Loc) : Prop := v = none ∧ Fr n0 L ∧ h = h0
set_option maxRecDepth 65536 in
set_option maxHeartbeats 40000000 in
theorem rm9 (l : Launch) (Z : State) (a0 : Array Value) (hw : ∀ d ∈ tables_1, d.before a0 Z = true) (ws : List Jvm.Cond) (p1 : Int32) (p2 : Int32) (p3 : Int32) (w4 : RefV) (h0 : Heap) (n0 : Nat) (Z0 : n0 ≤ h0.size) (S_Preconditions_SIOOBE_FORMATTER : Sta Z h0 "jdk/internal/util/Preconditions" "SIOOBE_FORMATTER" "Ljava/util/function/BiFunction;" w4.v) (hc1 : ¬ (p1 < (0 : Int32))) (hc6 : ¬ (p2 < p1)) (hc11 : ¬ (p3 < p2)) :
    MetFree l (⟨"java/lang/String", "checkBoundsBeginEnd", "(III)V"⟩ : MethodName) (head1 (Jvm.Cond.code (⟨"java/lang/String", "checkBoundsBeginEnd", "(III)V"⟩ : MethodName) jdk_42_method_158_code 3 none :: ws) ({ frames := 1, cells := 0, slots := 0, locals := 15 } : Room)) (fun a U => a = #[(.int p1), (.int p2), (.int p3)] ∧ Z.Warmed39 U.vm ∧ U.heap = h0) (fun _ _ _ _ _ => True) (fun _ U o U' => ∃ v L, o = .returned v ∧ Q9 Z p1 p2 p3 w4 h0 n0 v U'.heap L ∧ FrameEnd U o U' L ({ frames := 1, cells := 0, slots := 0, locals := 15 } : Room).cells ({ frames := 1, cells := 0, slots := 0, locals := 15 } : Room).slots) := by
  refine MetFree.of_bodySF (plainFor_of_name pn_9) hisR ?_
  intro p e s m args below meth c s₁ Bd hml0 hP hK
  obtain ⟨rfl, hZ, hh⟩ := hP
  have hx := Bd.exec
  have hby := Bd.bytes
  have hml : c.maxLocals = 3 := hml0
  have hown : s.vm.findClass "java/lang/String" = some m.cls := findClass_of_methodNamed Bd.named
  have hnm := (name_of_methodNamed Bd.named Bd.method).1
  have X0 : Stand p l e ({ frames := 1, cells := 0, slots := 0, locals := 15 } : Room) s m #[(.int p1), (.int p2), (.int p3)] below meth c s₁ [] 0 0 := Stand.of_body Bd
  have e0 : s₁.heap = h0 := by rw [← hh, Bd.state]; rfl
  have N0 := Fr.nil n0
  have pre0 : ∀ t, Steps p.tables e below (s₁.setTop (mkF m 0 #[.val (.int p1), .val (.int p2), .val (.int p3)] [])) t → Steps p.tables e below (s₁.setTop (entryFrame m #[(.int p1), (.int p2), (.int p3)] 3)) t := fun t k => castTop (ef_9 m p1 p2 p3) k
  -- 3. LAWS
  obtain ⟨T5, X5, e5, st5⟩ := getS2 X0 hx hZ hown (host := "") (Or.inl (hw _ (List.mem_of_getElem? (i := 51) rfl))) Via.refl e0 S_Preconditions_SIOOBE_FORMATTER (g := (mkF m 3 #[.val (.int p1), .val (.int p2), .val (.int p3)] [(.int p3), (.int p2), (.int p1)])) rfl (hb hby d9_3)
  -- pc 6: jdk/internal/util/Preconditions.checkFromToIndex by its contract rm10
  obtain ⟨_, _, ⟨T6, L6, k6, n6⟩, -, X6, ⟨Lc6, hQ6, l6, y6, z6⟩, st6⟩ := Jvm.LawKit.callS X5 hx (y := (⟨"jdk/internal/util/Preconditions", "checkFromToIndex", "(IIILjava/util/function/BiFunction;)I"⟩ : MethodName)) hown (mvT hZ (hw _ (List.mem_of_getElem? (i := 53) rfl))) (mvT hZ (hw _ (List.mem_of_getElem? (i := 54) rfl))) (mvT hZ (hw _ (List.mem_of_getElem? (i := 52) rfl))) (mvT hZ (hw _ (List.mem_of_getElem? (i := 55) rfl))) (by decide) (backOf (W := 0) (rm10 l Z a0 hw [] p1 p2 p3 w4 h0 n0 Z0 hc1 hc6 hc11) hZ (hw _ (List.mem_of_getElem? (i := 55) rfl)) (hw _ (List.mem_of_getElem? (i := 52) rfl)) (by decide) (by decide)) (g := (mkF m 6 #[.val (.int p1), .val (.int p2), .val (.int p3)] [w4.v, (.int p3), (.int p2), (.int p1)])) rfl (by rw [hml]; rfl) (argsL := [(.int p1), (.int p2), (.int p3), w4.v]) (rest := []) (lenOf pd_9_9 rfl) rfl (by show 2 * 0 + _ ≤ _; exact Nat.le_of_eq rfl) (hb hby d9_6) (fun _ _ => ⟨rfl, e5, (by decide : 0 + 0 ≤ _), (by decide : 0 + 0 ≤ _)⟩)
  dsimp only [Pt.U, Pt.locs, Pt.cells, Pt.slots] at X6 l6 y6 z6 st6 hQ6
  subst l6 y6 z6
  obtain ⟨rfl, N6q, eq6⟩ := hQ6
  have N6 := Fr.app N0 N6q
  obtain ⟨fs, hr, hrun, hended, hW, hsame⟩ := X6.leave (v := none) (fun _ => rfl)
  refine ⟨_, _, pre0 _ ?_, hrun, hended, _, _, rfl, ?_, ⟨_, rfl⟩, hW, hsame.mono (by decide) (by decide)⟩
  -- 4. STEPS
  · show Steps p.tables e below (s₁.setTop (mkF m 0 #[.val (.int p1), .val (.int p2), .val (.int p3)] [])) _
    refine XS.iloadN X0.here hx rfl (hb hby d9_0) rfl ?_
    refine XS.iloadN X0.here hx rfl (hb hby d9_1) rfl ?_
    refine XS.iloadN X0.here hx rfl (hb hby d9_2) rfl ?_
    refine st5 _ ?_
    refine st6 _ ?_
    refine XS.pop X6.here hx rfl (hb hby d9_9) rfl rfl ?_
    show Steps p.tables e below (T6.setTop (mkF m 10 #[.val (.int p1), .val (.int p2), .val (.int p3)] [])) _
    exact X6.returnOut hx Bd.returns (hb hby d9_10) hr
  · show Q9 Z p1 p2 p3 w4 h0 n0 _ T6.heap _
    exact ⟨rfl, N6, eq6⟩
theorem d12_0 : decode jdk_41_method_13_code 0 = .ok (.iload_n 2, 1) := by decide +kernel
theorem d12_1 : decode jdk_41_method_13_code 1 = .ok (.iload_n 0, 1) := by decide +kernel
theorem d12_2 : decode jdk_41_method_13_code 2 = .ok (.ior, 1) := by decide +kernel
theorem d12_3 : decode jdk_41_method_13_code 3 = .ok (.iload_n 1, 1) := by decide +kernel
theorem d12_4 : decode jdk_41_method_13_code 4 = .ok (.ior, 1) := by decide +kernel
theorem d12_5 : decode jdk_41_method_13_code 5 = .ok (.ifCond .lt 10, 3) := by decide +kernel
theorem d12_8 : decode jdk_41_method_13_code 8 = .ok (.iload_n 1, 1) := by decide +kernel
theorem d12_9 : decode jdk_41_method_13_code 9 = .ok (.iload_n 2, 1) := by decide +kernel
theorem d12_10 : decode jdk_41_method_13_code 10 = .ok (.iload_n 0, 1) := by decide +kernel
theorem d12_11 : decode jdk_41_method_13_code 11 = .ok (.isub, 1) := by decide +kernel
theorem d12_12 : decode jdk_41_method_13_code 12 = .ok (.if_icmp .le 11, 3) := by decide +kernel
theorem d12_23 : decode jdk_41_method_13_code 23 = .ok (.iload_n 0, 1) := by decide +kernel
theorem d12_24 : decode jdk_41_method_13_code 24 = .ok (.ireturn, 1) := by decide +kernel
theorem pn_12 : plainName "jdk/internal/util/Preconditions" = true := by first | (simp [plainName, overriddenIn]; done) | decide +kernel
theorem ef_12 (m : MethodId) (x0 : Int32) (x1 : Int32) (x2 : Int32) (x3 : RefV) : entryFrame m #[(.int x0), (.int x1), (.int x2), x3.v] 4 = mkF m 0 #[.val (.int x0), .val (.int x1), .val (.int x2), .val x3.v] [] := by
  obtain ⟨v, ok⟩ := x3
  cases v <;> first | (simp [entryFrame, mkF, argsToLocals, Value.category]; done) | rfl | cases ok
def Q12 (Z : State) (p1 : Int32) (p2 : Int32) (p3 : Int32) (a4 : RefV) (h0 : Heap) (n0 : Nat) (v : Option Value) (h : Heap) (L : List Loc) : Prop := v = some (.int p1) ∧ Fr n0 L ∧ h = h0
set_option maxRecDepth 65536 in
set_option maxHeartbeats 40000000 in
theorem rm12 (l : Launch) (Z : State) (a0 : Array Value) (hw : ∀ d ∈ tables_1, d.before a0 Z = true) (ws : List Jvm.Cond) (p1 : Int32) (p2 : Int32) (p3 : Int32) (a4 : RefV) (h0 : Heap) (n0 : Nat) (Z0 : n0 ≤ h0.size) (hc5 : ¬ (((p3 ||| p1) ||| p2) < (0 : Int32))) (hc12 : ¬ ((p3 - p1) < p2)) :
    MetFree l (⟨"jdk/internal/util/Preconditions", "checkFromIndexSize", "(IIILjava/util/function/BiFunction;)I"⟩ : MethodName) (head1 (Jvm.Cond.code (⟨"jdk/internal/util/Preconditions", "checkFromIndexSize", "(IIILjava/util/function/BiFunction;)I"⟩ : MethodName) jdk_41_method_13_code 4 (some .int) :: ws) ({ frames := 0, cells := 0, slots := 0, locals := 0 } : Room)) (fun a U => a = #[(.int p1), (.int p2), (.int p3), a4.v] ∧ Z.Warmed39 U.vm ∧ U.heap = h0) (fun _ _ _ _ _ => True) (fun _ U o U' => ∃ v L, o = .returned v ∧ Q12 Z p1 p2 p3 a4 h0 n0 v U'.heap L ∧ FrameEnd U o U' L ({ frames := 0, cells := 0, slots := 0, locals := 0 } : Room).cells ({ frames := 0, cells := 0, slots := 0, locals := 0 } : Room).slots) := by
  refine MetFree.of_bodySF (plainFor_of_name pn_12) hisR ?_
  intro p e s m args below meth c s₁ Bd hml0 hP hK
  obtain ⟨rfl, hZ, hh⟩ := hP
  have hx := Bd.exec
  have hby := Bd.bytes
  have hml : c.maxLocals = 4 := hml0
  have hown : s.vm.findClass "jdk/internal/util/Preconditions" = some m.cls := findClass_of_methodNamed Bd.named
  have hnm := (name_of_methodNamed Bd.named Bd.method).1
  have X0 : Stand p l e ({ frames := 0, cells := 0, slots := 0, locals := 0 } : Room) s m #[(.int p1), (.int p2), (.int p3), a4.v] below meth c s₁ [] 0 0 := Stand.of_body Bd
  have e0 : s₁.heap = h0 := by rw [← hh, Bd.state]; rfl
  have N0 := Fr.nil n0
  have pre0 : ∀ t, Steps p.tables e below (s₁.setTop (mkF m 0 #[.val (.int p1), .val (.int p2), .val (.int p3), .val a4.v] [])) t → Steps p.tables e below (s₁.setTop (entryFrame m #[(.int p1), (.int p2), (.int p3), a4.v] 4)) t := fun t k => castTop (ef_12 m p1 p2 p3 a4) k
  -- 3. LAWS

  obtain ⟨fs, hr, hrun, hended, hW, hsame⟩ := X0.leave (v := some (.int p1)) (fun h => by rw [Bd.returns] at h; cases h)
  refine ⟨_, _, pre0 _ ?_, hrun, hended, _, _, rfl, ?_, ⟨_, rfl⟩, hW, hsame.mono (by decide) (by decide)⟩
  -- 4. STEPS
  · show Steps p.tables e below (s₁.setTop (mkF m 0 #[.val (.int p1), .val (.int p2), .val (.int p3), .val a4.v] [])) _
    refine XS.iloadN X0.here hx rfl (hb hby d12_0) rfl ?_
    refine XS.iloadN X0.here hx rfl (hb hby d12_1) rfl ?_
    refine XS.ior X0.here hx rfl (hb hby d12_2) rfl ?_
    refine XS.iloadN X0.here hx rfl (hb hby d12_3) rfl ?_
    refine XS.ior X0.here hx rfl (hb hby d12_4) rfl ?_
    refine XS.ifNo X0.here hx rfl (hb hby d12_5) rfl ((if0 _ _).trans (flt hc5).1) ?_
    refine XS.iloadN X0.here hx rfl (hb hby d12_8) rfl ?_
    show Steps p.tables e below (s₁.setTop (mkF m 9 #[.val (.int p1), .val (.int p2), .val (.int p3), .val a4.v] [(.int p2)])) _
    refine XS.iloadN X0.here hx rfl (hb hby d12_9) rfl ?_
    refine XS.iloadN X0.here hx rfl (hb hby d12_10) rfl ?_
    refine XS.isub X0.here hx rfl (hb hby d12_11) rfl ?_
    refine XS.icmpYes X0.here hx rfl (pc0 := 12) (pc' := 23) rfl (hb hby d12_12) rfl (flt hc12).2.2.2 (by decide) (by decide) ?_
    refine XS.iloadN X0.here hx rfl (hb hby d12_23) rfl ?_
    show Steps p.tables e below (s₁.setTop (mkF m 24 #[.val (.int p1), .val (.int p2), .val (.int p3), .val a4.v] [(.int p1)])) _
    exact retI X0 hx Bd.returns (hb hby d12_24) hr      -- retI stands in the head ('lawwalk <made dir>' prints it)
  · show Q12 Z p1 p2 p3 a4 h0 n0 _ s₁.heap _
    rw [e0]
    exact ⟨rfl, N0, rfl⟩
theorem d11_0 : decode jdk_42_method_157_code 0 = .ok (.iload_n 0, 1) := by decide +kernel
theorem d11_1 : decode jdk_42_method_157_code 1 = .ok (.iload_n 1, 1) := by decide +kernel
theorem d11_2 : decode jdk_42_method_157_code 2 = .ok (.iload_n 2, 1) := by decide +kernel
theorem d11_3 : decode jdk_42_method_157_code 3 = .ok (.getstatic 1053, 3) := by decide +kernel
theorem d11_6 : decode jdk_42_method_157_code 6 = .ok (.invokestatic 1065, 3) := by decide +kernel
theorem d11_9 : decode jdk_42_method_157_code 9 = .ok (.ireturn, 1) := by decide +kernel
theorem pn_11 : plainName "java/lang/String" = true := by first | (simp [plainName, overriddenIn]; done) | decide +kernel
theorem pd_11_9 : parseMethodDescriptor "(IIILjava/util/function/BiFunction;)I" = some ⟨[.int, .int, .int, (.object "java/util/function/BiFunction")], some .int⟩ := by decide +kernel
theorem ef_11 (m : MethodId) (x0 : Int32) (x1 : Int32) (x2 : Int32) : entryFrame m #[(.int x0), (.int x1), (.int x2)] 3 = mkF m 0 #[.val (.int x0), .val (.int x1), .val (.int x2)] [] := by first | (simp [entryFrame, mkF, argsToLocals, Value.category]; done) | rfl
def Q11 (Z : State) (p1 : Int32) (p2 : Int32) (p3 : Int32) (w4 : RefV) (h0 : Heap) (n0 : Nat) (v : Option Value) (h : Heap) (L : List Loc) : Prop := v = some (.int p1) ∧ Fr n0 L ∧ h = h0
set_option maxRecDepth 65536 in
set_option maxHeartbeats 40000000 in
theorem rm11 (l : Launch) (Z : State) (a0 : Array Value) (hw : ∀ d ∈ tables_1, d.before a0 Z = true) (ws : List Jvm.Cond) (p1 : Int32) (p2 : Int32) (p3 : Int32) (w4 : RefV) (h0 : Heap) (n0 : Nat) (Z0 : n0 ≤ h0.size) (S_Preconditions_SIOOBE_FORMATTER : Sta Z h0 "jdk/internal/util/Preconditions" "SIOOBE_FORMATTER" "Ljava/util/function/BiFunction;" w4.v) (hc5 : ¬ (((p3 ||| p1) ||| p2) < (0 : Int32))) (hc12 : ¬ ((p3 - p1) < p2)) :
    MetFree l (⟨"java/lang/String", "checkBoundsOffCount", "(III)I"⟩ : MethodName) (head1 (Jvm.Cond.code (⟨"java/lang/String", "checkBoundsOffCount", "(III)I"⟩ : MethodName) jdk_42_method_157_code 3 (some .int) :: ws) ({ frames := 1, cells := 0, slots := 0, locals := 15 } : Room)) (fun a U => a = #[(.int p1), (.int p2), (.int p3)] ∧ Z.Warmed39 U.vm ∧ U.heap = h0) (fun _ _ _ _ _ => True) (fun _ U o U' => ∃ v L, o = .returned v ∧ Q11 Z p1 p2 p3 w4 h0 n0 v U'.heap L ∧ FrameEnd U o U' L ({ frames := 1, cells := 0, slots := 0, locals := 15 } : Room).cells ({ frames := 1, cells := 0, slots := 0, locals := 15 } : Room).slots) := by
  refine MetFree.of_bodySF (plainFor_of_name pn_11) hisR ?_
  intro p e s m args below meth c s₁ Bd hml0 hP hK
  obtain ⟨rfl, hZ, hh⟩ := hP
  have hx := Bd.exec
  have hby := Bd.bytes
  have hml : c.maxLocals = 3 := hml0
  have hown : s.vm.findClass "java/lang/String" = some m.cls := findClass_of_methodNamed Bd.named
  have hnm := (name_of_methodNamed Bd.named Bd.method).1
  have X0 : Stand p l e ({ frames := 1, cells := 0, slots := 0, locals := 15 } : Room) s m #[(.int p1), (.int p2), (.int p3)] below meth c s₁ [] 0 0 := Stand.of_body Bd
  have e0 : s₁.heap = h0 := by rw [← hh, Bd.state]; rfl
  have N0 := Fr.nil n0
  have pre0 : ∀ t, Steps p.tables e below (s₁.setTop (mkF m 0 #[.val (.int p1), .val (.int p2), .val (.int p3)] [])) t → Steps p.tables e below (s₁.setTop (entryFrame m #[(.int p1), (.int p2), (.int p3)] 3)) t := fun t k => castTop (ef_11 m p1 p2 p3) k
  -- 3. LAWS
  obtain ⟨T5, X5, e5, st5⟩ := getS2 X0 hx hZ hown (host := "") (Or.inl (hw _ (List.mem_of_getElem? (i := 51) rfl))) Via.refl e0 S_Preconditions_SIOOBE_FORMATTER (g := (mkF m 3 #[.val (.int p1), .val (.int p2), .val (.int p3)] [(.int p3), (.int p2), (.int p1)])) rfl (hb hby d11_3)
  -- pc 6: jdk/internal/util/Preconditions.checkFromIndexSize by its contract rm12
  obtain ⟨_, _, ⟨T6, L6, k6, n6⟩, -, X6, ⟨Lc6, hQ6, l6, y6, z6⟩, st6⟩ := Jvm.LawKit.callS X5 hx (y := (⟨"jdk/internal/util/Preconditions", "checkFromIndexSize", "(IIILjava/util/function/BiFunction;)I"⟩ : MethodName)) hown (mvT hZ (hw _ (List.mem_of_getElem? (i := 59) rfl))) (mvT hZ (hw _ (List.mem_of_getElem? (i := 60) rfl))) (mvT hZ (hw _ (List.mem_of_getElem? (i := 52) rfl))) (mvT hZ (hw _ (List.mem_of_getElem? (i := 61) rfl))) (by decide) (backOf (W := 0) (rm12 l Z a0 hw [] p1 p2 p3 w4 h0 n0 Z0 hc5 hc12) hZ (hw _ (List.mem_of_getElem? (i := 61) rfl)) (hw _ (List.mem_of_getElem? (i := 52) rfl)) (by decide) (by decide)) (g := (mkF m 6 #[.val (.int p1), .val (.int p2), .val (.int p3)] [w4.v, (.int p3), (.int p2), (.int p1)])) rfl (by rw [hml]; rfl) (argsL := [(.int p1), (.int p2), (.int p3), w4.v]) (rest := []) (lenOf pd_11_9 rfl) rfl (by show 2 * 0 + _ ≤ _; exact Nat.le_of_eq rfl) (hb hby d11_6) (fun _ _ => ⟨rfl, e5, (by decide : 0 + 0 ≤ _), (by decide : 0 + 0 ≤ _)⟩)
  dsimp only [Pt.U, Pt.locs, Pt.cells, Pt.slots] at X6 l6 y6 z6 st6 hQ6
  subst l6 y6 z6
  obtain ⟨rfl, N6q, eq6⟩ := hQ6
  have N6 := Fr.app N0 N6q
  obtain ⟨fs, hr, hrun, hended, hW, hsame⟩ := X6.leave (v := some (.int p1)) (fun h => by rw [Bd.returns] at h; cases h)
  refine ⟨_, _, pre0 _ ?_, hrun, hended, _, _, rfl, ?_, ⟨_, rfl⟩, hW, hsame.mono (by decide) (by decide)⟩
  -- 4. STEPS
  · show Steps p.tables e below (s₁.setTop (mkF m 0 #[.val (.int p1), .val (.int p2), .val (.int p3)] [])) _
    refine XS.iloadN X0.here hx rfl (hb hby d11_0) rfl ?_
    refine XS.iloadN X0.here hx rfl (hb hby d11_1) rfl ?_
    refine XS.iloadN X0.here hx rfl (hb hby d11_2) rfl ?_
    refine st5 _ ?_
    refine st6 _ ?_
    show Steps p.tables e below (T6.setTop (mkF m 9 #[.val (.int p1), .val (.int p2), .val (.int p3)] [(.int p1)])) _
    exact retI X6 hx Bd.returns (hb hby d11_9) hr      -- retI stands in the head ('lawwalk <made dir>' prints it)
  · show Q11 Z p1 p2 p3 w4 h0 n0 _ T6.heap _
    exact ⟨rfl, N6, eq6⟩
theorem d33_0 : decode jdk_52_method_94_code 0 = .ok (.iload_n 0, 1) := by decide +kernel
theorem d33_1 : decode jdk_52_method_94_code 1 = .ok (.iload_n 1, 1) := by decide +kernel
theorem d33_2 : decode jdk_52_method_94_code 2 = .ok (.aload_n 2, 1) := by decide +kernel
theorem d33_3 : decode jdk_52_method_94_code 3 = .ok (.invokestatic 48, 3) := by decide +kernel
theorem d33_6 : decode jdk_52_method_94_code 6 = .ok (.invokestatic 419, 3) := by decide +kernel
theorem d33_9 : decode jdk_52_method_94_code 9 = .ok (.pop, 1) := by decide +kernel
theorem d33_10 : decode jdk_52_method_94_code 10 = .ok (.return_, 1) := by decide +kernel
theorem pn_33 : plainName "java/lang/StringUTF16" = true := by first | (simp [plainName, overriddenIn]; done) | decide +kernel
theorem pd_33_28 : parseMethodDescriptor "([B)I" = some ⟨[(.array .byte)], some .int⟩ := by decide +kernel
theorem pd_33_10 : parseMethodDescriptor "(III)I" = some ⟨[.int, .int, .int], some .int⟩ := by decide +kernel
theorem ef_33 (m : MethodId) (x0 : Int32) (x1 : Int32) (x2 : Addr) : entryFrame m #[(.int x0), (.int x1), (.ref x2)] 3 = mkF m 0 #[.val (.int x0), .val (.int x1), .val (.ref x2)] [] := by first | (simp [entryFrame, mkF, argsToLocals, Value.category]; done) | rfl
def Q33 (Z : State) (p1 : Int32) (p2 : Int32) (a3 : Addr) (h0 : Heap) (n0 : Nat) (v : Option Value) (h : Heap) (L : List Loc) : Prop := v = none ∧ Fr n0 L ∧ h = h0
set_option maxRecDepth 65536 in
set_option maxHeartbeats 40000000 in
theorem rm33 (l : Launch) (Z : State) (a0 : Array Value) (hw : ∀ d ∈ tables_1, d.before a0 Z = true) (ws : List Jvm.Cond) (p1 : Int32) (p2 : Int32) (a3 : Addr) (cl : Cell) (z_a : Int32) (w : RefV) (h0 : Heap) (n0 : Nat) (Z0 : n0 ≤ h0.size) (Ar : Arr Z h0 a3 cl .byte) (Sz : cl.slots.size = z_a.toNatClampNeg) (Nz : ¬ z_a < 0) (SIO : Sta Z h0 "jdk/internal/util/Preconditions" "SIOOBE_FORMATTER" "Ljava/util/function/BiFunction;" w.v) (hc5 : ¬ ((((z_a >>> ((1 : Int32) &&& 31)) ||| p1) ||| p2) < (0 : Int32))) (hc12 : ¬ (((z_a >>> ((1 : Int32) &&& 31)) - p1) < p2)) :
    MetFree l (⟨"java/lang/StringUTF16", "checkBoundsOffCount", "(II[B)V"⟩ : MethodName) (head1 (Jvm.Cond.code (⟨"java/lang/StringUTF16", "checkBoundsOffCount", "(II[B)V"⟩ : MethodName) jdk_52_method_94_code 3 none :: ws) ({ frames := 2, cells := 0, slots := 0, locals := 29 } : Room)) (fun a U => a = #[(.int p1), (.int p2), (.ref a3)] ∧ Z.Warmed39 U.vm ∧ U.heap = h0) (fun _ _ _ _ _ => True) (fun _ U o U' => ∃ v L, o = .returned v ∧ Q33 Z p1 p2 a3 h0 n0 v U'.heap L ∧ FrameEnd U o U' L ({ frames := 2, cells := 0, slots := 0, locals := 29 } : Room).cells ({ frames := 2, cells := 0, slots := 0, locals := 29 } : Room).slots) := by
  refine MetFree.of_bodySF (plainFor_of_name pn_33) hisR ?_
  intro p e s m args below meth c s₁ Bd hml0 hP hK
  obtain ⟨rfl, hZ, hh⟩ := hP
  have hx := Bd.exec
  have hby := Bd.bytes
  have hml : c.maxLocals = 3 := hml0
  have hown : s.vm.findClass "java/lang/StringUTF16" = some m.cls := findClass_of_methodNamed Bd.named
  have hnm := (name_of_methodNamed Bd.named Bd.method).1
  have X0 : Stand p l e ({ frames := 2, cells := 0, slots := 0, locals := 29 } : Room) s m #[(.int p1), (.int p2), (.ref a3)] below meth c s₁ [] 0 0 := Stand.of_body Bd
  have e0 : s₁.heap = h0 := by rw [← hh, Bd.state]; rfl
  have N0 := Fr.nil n0
  have pre0 : ∀ t, Steps p.tables e below (s₁.setTop (mkF m 0 #[.val (.int p1), .val (.int p2), .val (.ref a3)] [])) t → Steps p.tables e below (s₁.setTop (entryFrame m #[(.int p1), (.int p2), (.ref a3)] 3)) t := fun t k => castTop (ef_33 m p1 p2 a3) k
  -- 3. LAWS
  -- pc 3: java/lang/StringUTF16.length by its contract rm34
  obtain ⟨_, _, ⟨T4, L4, k4, n4⟩, -, X4, ⟨Lc4, hQ4, l4, y4, z4⟩, st4⟩ := Jvm.LawKit.callS X0 hx (y := (⟨"java/lang/StringUTF16", "length", "([B)I"⟩ : MethodName)) hown (mvT hZ (hw _ (List.mem_of_getElem? (i := 141) rfl))) (mvT hZ (hw _ (List.mem_of_getElem? (i := 142) rfl))) (mvT hZ (hw _ (List.mem_of_getElem? (i := 94) rfl))) (mvT hZ (hw _ (List.mem_of_getElem? (i := 143) rfl))) (by decide) (backOf (W := 2) (rm34 l Z a0 hw [] a3 cl z_a h0 n0 Z0 Ar Sz Nz) hZ (hw _ (List.mem_of_getElem? (i := 143) rfl)) (hw _ (List.mem_of_getElem? (i := 94) rfl)) (by decide) (by decide)) (g := (mkF m 3 #[.val (.int p1), .val (.int p2), .val (.ref a3)] [(.ref a3), (.int p2), (.int p1)])) rfl (by rw [hml]; rfl) (argsL := [(.ref a3)]) (rest := [(.int p2), (.int p1)]) (lenOf pd_33_28 rfl) rfl (by show 2 * 0 + _ ≤ _; exact Nat.le_of_eq rfl) (hb hby d33_3) (fun _ _ => ⟨rfl, e0, (by decide : 0 + 0 ≤ _), (by decide : 0 + 0 ≤ _)⟩)
  dsimp only [Pt.U, Pt.locs, Pt.cells, Pt.slots] at X4 l4 y4 z4 st4 hQ4
  subst l4 y4 z4
  obtain ⟨rfl, N4q, eq4⟩ := hQ4
  have N4 := Fr.app N0 N4q
  -- pc 6: java/lang/String.checkBoundsOffCount by its contract rm11
  obtain ⟨_, _, ⟨T5, L5, k5, n5⟩, -, X5, ⟨Lc5, hQ5, l5, y5, z5⟩, st5⟩ := Jvm.LawKit.callS X4 hx (y := (⟨"java/lang/String", "checkBoundsOffCount", "(III)I"⟩ : MethodName)) hown (mvT hZ (hw _ (List.mem_of_getElem? (i := 144) rfl))) (mvT hZ (hw _ (List.mem_of_getElem? (i := 57) rfl))) (mvT hZ (hw _ (List.mem_of_getElem? (i := 8) rfl))) (mvT hZ (hw _ (List.mem_of_getElem? (i := 58) rfl))) (by decide) (backOf (W := 0) (rm11 l Z a0 hw [] p1 p2 (z_a >>> ((1 : Int32) &&& 31)) w T4.heap n0 (eq4 ▸ Z0) (eq4 ▸ SIO) hc5 hc12) hZ (hw _ (List.mem_of_getElem? (i := 58) rfl)) (hw _ (List.mem_of_getElem? (i := 8) rfl)) (by decide) (by decide)) (g := (mkF m 6 #[.val (.int p1), .val (.int p2), .val (.ref a3)] [(.int (z_a >>> ((1 : Int32) &&& 31))), (.int p2), (.int p1)])) rfl (by rw [hml]; rfl) (argsL := [(.int p1), (.int p2), (.int (z_a >>> ((1 : Int32) &&& 31)))]) (rest := []) (lenOf pd_33_10 rfl) rfl (by show 2 * 0 + _ ≤ _; exact Nat.le_of_eq rfl) (hb hby d33_6) (fun _ _ => ⟨rfl, rfl, (by decide : 0 + 0 ≤ _), (by decide : 0 + 0 ≤ _)⟩)
  dsimp only [Pt.U, Pt.locs, Pt.cells, Pt.slots] at X5 l5 y5 z5 st5 hQ5
  subst l5 y5 z5
  obtain ⟨rfl, N5q, eq5⟩ := hQ5
  have N5 := Fr.app N4 N5q
  obtain ⟨fs, hr, hrun, hended, hW, hsame⟩ := X5.leave (v := none) (fun _ => rfl)
  refine ⟨_, _, pre0 _ ?_, hrun, hended, _, _, rfl, ?_, ⟨_, rfl⟩, hW, hsame.mono (by decide) (by decide)⟩
  -- 4. STEPS
  · show Steps p.tables e below (s₁.setTop (mkF m 0 #[.val (.int p1), .val (.int p2), .val (.ref a3)] [])) _
    refine XS.iloadN X0.here hx rfl (hb hby d33_0) rfl ?_
    refine XS.iloadN X0.here hx rfl (hb hby d33_1) rfl ?_
    refine XS.aloadN X0.here hx rfl (hb hby d33_2) rfl rfl ?_
    refine st4 _ ?_
    refine st5 _ ?_
    refine XS.pop X5.here hx rfl (hb hby d33_9) rfl rfl ?_
    show Steps p.tables e below (T5.setTop (mkF m 10 #[.val (.int p1), .val (.int p2), .val (.ref a3)] [])) _
    exact X5.returnOut hx Bd.returns (hb hby d33_10) hr
  · show Q33 Z p1 p2 a3 h0 n0 _ T5.heap _
    exact ⟨rfl, N5, eq5.trans eq4⟩
theorem d29_0 : decode jdk_52_method_3_code 0 = .ok (.iload_n 0, 1) := by decide +kernel
theorem d29_1 : decode jdk_52_method_3_code 1 = .ok (.ifCond .ge 11, 3) := by decide +kernel
theorem d29_12 : decode jdk_52_method_3_code 12 = .ok (.iload_n 0, 1) := by decide +kernel
theorem d29_13 : decode jdk_52_method_3_code 13 = .ok (.ldc 20, 2) := by decide +kernel
theorem d29_15 : decode jdk_52_method_3_code 15 = .ok (.if_icmp .lt 40, 3) := by decide +kernel
theorem d29_55 : decode jdk_52_method_3_code 55 = .ok (.iload_n 0, 1) := by decide +kernel
theorem d29_56 : decode jdk_52_method_3_code 56 = .ok (.iconst 1, 1) := by decide +kernel
theorem d29_57 : decode jdk_52_method_3_code 57 = .ok (.ishl, 1) := by decide +kernel
theorem d29_58 : decode jdk_52_method_3_code 58 = .ok (.ireturn, 1) := by decide +kernel
theorem pn_29 : plainName "java/lang/StringUTF16" = true := by first | (simp [plainName, overriddenIn]; done) | decide +kernel
theorem ef_29 (m : MethodId) (x0 : Int32) : entryFrame m #[(.int x0)] 1 = mkF m 0 #[.val (.int x0)] [] := by first | (simp [entryFrame, mkF, argsToLocals, Value.category]; done) | rfl
def Q29 (Z : State) (p1 : Int32) (h0 : Heap) (n0 : Nat) (v : Option Value) (h : Heap) (L : List Loc) : Prop := v = some (.int (p1 <<< ((1 : Int32) &&& 31))) ∧ Fr n0 L ∧ h = h0
set_option maxRecDepth 65536 in
set_option maxHeartbeats 40000000 in
theorem rm29 (l : Launch) (Z : State) (a0 : Array Value) (hw : ∀ d ∈ tables_1, d.before a0 Z = true) (ws : List Jvm.Cond) (p1 : Int32) (h0 : Heap) (n0 : Nat) (Z0 : n0 ≤ h0.size) (hc1 : ¬ (p1 < (0 : Int32))) (hc15 : p1 < (1073741823 : Int32)) :
    MetFree l (⟨"java/lang/StringUTF16", "newBytesLength", "(I)I"⟩ : MethodName) (head1 (Jvm.Cond.code (⟨"java/lang/StringUTF16", "newBytesLength", "(I)I"⟩ : MethodName) jdk_52_method_3_code 1 (some .int) :: ws) ({ frames := 0, cells := 0, slots := 0, locals := 0 } : Room)) (fun a U => a = #[(.int p1)] ∧ Z.Warmed39 U.vm ∧ U.heap = h0) (fun _ _ _ _ _ => True) (fun _ U o U' => ∃ v L, o = .returned v ∧ Q29 Z p1 h0 n0 v U'.heap L ∧ FrameEnd U o U' L ({ frames := 0, cells := 0, slots := 0, locals := 0 } : Room).cells ({ frames := 0, cells := 0, slots := 0, locals := 0 } : Room).slots) := by
  refine MetFree.of_bodySF (plainFor_of_name pn_29) hisR ?_
  intro p e s m args below meth c s₁ Bd hml0 hP hK
  obtain ⟨rfl, hZ, hh⟩ := hP
  have hx := Bd.exec
  have hby := Bd.bytes
  have hml : c.maxLocals = 1 := hml0
  have hown : s.vm.findClass "java/lang/StringUTF16" = some m.cls := findClass_of_methodNamed Bd.named
  have hnm := (name_of_methodNamed Bd.named Bd.method).1
  have X0 : Stand p l e ({ frames := 0, cells := 0, slots := 0, locals := 0 } : Room) s m #[(.int p1)] below meth c s₁ [] 0 0 := Stand.of_body Bd
  have e0 : s₁.heap = h0 := by rw [← hh, Bd.state]; rfl
  have N0 := Fr.nil n0
  have pre0 : ∀ t, Steps p.tables e below (s₁.setTop (mkF m 0 #[.val (.int p1)] [])) t → Steps p.tables e below (s₁.setTop (entryFrame m #[(.int p1)] 1)) t := fun t k => castTop (ef_29 m p1) k
  -- 3. LAWS

  obtain ⟨fs, hr, hrun, hended, hW, hsame⟩ := X0.leave (v := some (.int (p1 <<< ((1 : Int32) &&& 31)))) (fun h => by rw [Bd.returns] at h; cases h)
  refine ⟨_, _, pre0 _ ?_, hrun, hended, _, _, rfl, ?_, ⟨_, rfl⟩, hW, hsame.mono (by decide) (by decide)⟩
  -- 4. STEPS
  · show Steps p.tables e below (s₁.setTop (mkF m 0 #[.val (.int p1)] [])) _
    refine XS.iloadN X0.here hx rfl (hb hby d29_0) rfl ?_
    refine XS.ifYes X0.here hx rfl (pc0 := 1) (pc' := 12) rfl (hb hby d29_1) rfl ((if0 _ _).trans (flt hc1).2.1) (by decide) (by decide) ?_
    refine XS.iloadN X0.here hx rfl (hb hby d29_12) rfl ?_
    show Steps p.tables e below (s₁.setTop (mkF m 13 #[.val (.int p1)] [(.int p1)])) _
    refine X0.ldcInt hx hown (mvT hZ (hw _ (List.mem_of_getElem? (i := 125) rfl))) (g := (mkF m 13 #[.val (.int p1)] [(.int p1)])) rfl (hb hby d29_13) _ ?_
    refine XS.icmpYes X0.here hx rfl (pc0 := 15) (pc' := 55) rfl (hb hby d29_15) rfl (tlt hc15).1 (by decide) (by decide) ?_
    refine XS.iloadN X0.here hx rfl (hb hby d29_55) rfl ?_
    refine XS.iconst X0.here hx rfl (hb hby d29_56) ?_
    refine XS.ishl X0.here hx rfl (hb hby d29_57) rfl ?_
    show Steps p.tables e below (s₁.setTop (mkF m 58 #[.val (.int p1)] [(.int (p1 <<< ((1 : Int32) &&& 31)))])) _
    exact retI X0 hx Bd.returns (hb hby d29_58) hr      -- retI stands in the head ('lawwalk <made dir>' prints it)
  · show Q29 Z p1 h0 n0 _ s₁.heap _
    rw [e0]
    exact ⟨rfl, N0, rfl⟩
theorem d38_0 : decode jdk_43_method_3_code 0 = .ok (.iload_n 0, 1) := by decide +kernel
theorem d38_1 : decode jdk_43_method_3_code 1 = .ok (.sipush 255, 3) := by decide +kernel
theorem d38_4 : decode jdk_43_method_3_code 4 = .ok (.if_icmp .gt 7, 3) := by decide +kernel
theorem d38_7 : decode jdk_43_method_3_code 7 = .ok (.iconst 1, 1) := by decide +kernel
theorem d38_8 : decode jdk_43_method_3_code 8 = .ok (.goto 4, 3) := by decide +kernel
theorem d38_12 : decode jdk_43_method_3_code 12 = .ok (.ireturn, 1) := by decide +kernel
theorem pn_38 : plainName "java/lang/StringLatin1" = true := by first | (simp [plainName, overriddenIn]; done) | decide +kernel
theorem ef_38 (m : MethodId) (x0 : Int32) : entryFrame m #[(.int x0)] 1 = mkF m 0 #[.val (.int x0)] [] := by first | (simp [entryFrame, mkF, argsToLocals, Value.category]; done) | rfl
def Q38n (Z : State) (p1 : Int32) (h0 : Heap) (n0 : Nat) (v : Option Value) (h : Heap) (L : List Loc) : Prop := v = some (.int (1 : Int32)) ∧ Fr n0 L ∧ h = h0
set_option maxRecDepth 65536 in
set_option maxHeartbeats 40000000 in
theorem rm38n (l : Launch) (Z : State) (a0 : Array Value) (hw : ∀ d ∈ tables_1, d.before a0 Z = true) (ws : List Jvm.Cond) (p1 : Int32) (h0 : Heap) (n0 : Nat) (Z0 : n0 ≤ h0.size) (hc4 : ¬ ((255 : Int32) < p1)) :
    MetFree l (⟨"java/lang/StringLatin1", "canEncode", "(C)Z"⟩ : MethodName) (head1 (Jvm.Cond.code (⟨"java/lang/StringLatin1", "canEncode", "(C)Z"⟩ : MethodName) jdk_43_method_3_code 1 (some .boolean) :: ws) ({ frames := 0, cells := 0, slots := 0, locals := 0 } : Room)) (fun a U => a = #[(.int p1)] ∧ Z.Warmed39 U.vm ∧ U.heap = h0) (fun _ _ _ _ _ => True) (fun _ U o U' => ∃ v L, o = .returned v ∧ Q38n Z p1 h0 n0 v U'.heap L ∧ FrameEnd U o U' L ({ frames := 0, cells := 0, slots := 0, locals := 0 } : Room).cells ({ frames := 0, cells := 0, slots := 0, locals := 0 } : Room).slots) := by
  refine MetFree.of_bodySF (plainFor_of_name pn_38) hisR ?_
  intro p e s m args below meth c s₁ Bd hml0 hP hK
  obtain ⟨rfl, hZ, hh⟩ := hP
  have hx := Bd.exec
  have hby := Bd.bytes
  have hml : c.maxLocals = 1 := hml0
  have hown : s.vm.findClass "java/lang/StringLatin1" = some m.cls := findClass_of_methodNamed Bd.named
  have hnm := (name_of_methodNamed Bd.named Bd.method).1
  have X0 : Stand p l e ({ frames := 0, cells := 0, slots := 0, locals := 0 } : Room) s m #[(.int p1)] below meth c s₁ [] 0 0 := Stand.of_body Bd
  have e0 : s₁.heap = h0 := by rw [← hh, Bd.state]; rfl
  have N0 := Fr.nil n0
  have pre0 : ∀ t, Steps p.tables e below (s₁.setTop (mkF m 0 #[.val (.int p1)] [])) t → Steps p.tables e below (s₁.setTop (entryFrame m #[(.int p1)] 1)) t := fun t k => castTop (ef_38 m p1) k
  -- 3. LAWS

  obtain ⟨fs, hr, hrun, hended, hW, hsame⟩ := X0.leave (v := some (.int (1 : Int32))) (fun h => by rw [Bd.returns] at h; cases h)
  refine ⟨_, _, pre0 _ ?_, hrun, hended, _, _, rfl, ?_, ⟨_, rfl⟩, hW, hsame.mono (by decide) (by decide)⟩
  -- 4. STEPS
  · show Steps p.tables e below (s₁.setTop (mkF m 0 #[.val (.int p1)] [])) _
    refine XS.iloadN X0.here hx rfl (hb hby d38_0) rfl ?_
    refine XS.sipush X0.here hx rfl (hb hby d38_1) ?_
    refine XS.icmpNo X0.here hx rfl (hb hby d38_4) rfl (flt hc4).2.2.1 ?_
    refine XS.iconst X0.here hx rfl (hb hby d38_7) ?_
    refine XS.goto X0.here hx rfl (pc0 := 8) (pc' := 12) rfl (hb hby d38_8) (by decide) (by decide) ?_
    show Steps p.tables e below (s₁.setTop (mkF m 12 #[.val (.int p1)] [(.int (1 : Int32))])) _
    exact retN X0 hx (t := .boolean) Bd.returns (by simp) (hb hby d38_12) hr
  · show Q38n Z p1 h0 n0 _ s₁.heap _
    rw [e0]
    exact ⟨rfl, N0, rfl⟩
theorem d38_11 : decode jdk_43_method_3_code 11 = .ok (.iconst 0, 1) := by decide +kernel
def Q38y (Z : State) (p1 : Int32) (h0 : Heap) (n0 : Nat) (v : Option Value) (h : Heap) (L : List Loc) : Prop := v = some (.int (0 : Int32)) ∧ Fr n0 L ∧ h = h0
set_option maxRecDepth 65536 in
set_option maxHeartbeats 40000000 in
theorem rm38y (l : Launch) (Z : State) (a0 : Array Value) (hw : ∀ d ∈ tables_1, d.before a0 Z = true) (ws : List Jvm.Cond) (p1 : Int32) (h0 : Heap) (n0 : Nat) (Z0 : n0 ≤ h0.size) (hc4 : (255 : Int32) < p1) :
    MetFree l (⟨"java/lang/StringLatin1", "canEncode", "(C)Z"⟩ : MethodName) (head1 (Jvm.Cond.code (⟨"java/lang/StringLatin1", "canEncode", "(C)Z"⟩ : MethodName) jdk_43_method_3_code 1 (some .boolean) :: ws) ({ frames := 0, cells := 0, slots := 0, locals := 0 } : Room)) (fun a U => a = #[(.int p1)] ∧ Z.Warmed39 U.vm ∧ U.heap = h0) (fun _ _ _ _ _ => True) (fun _ U o U' => ∃ v L, o = .returned v ∧ Q38y Z p1 h0 n0 v U'.heap L ∧ FrameEnd U o U' L ({ frames := 0, cells := 0, slots := 0, locals := 0 } : Room).cells ({ frames := 0, cells := 0, slots := 0, locals := 0 } : Room).slots) := by
  refine MetFree.of_bodySF (plainFor_of_name pn_38) hisR ?_
  intro p e s m args below meth c s₁ Bd hml0 hP hK
  obtain ⟨rfl, hZ, hh⟩ := hP
  have hx := Bd.exec
  have hby := Bd.bytes
  have hml : c.maxLocals = 1 := hml0
  have hown : s.vm.findClass "java/lang/StringLatin1" = some m.cls := findClass_of_methodNamed Bd.named
  have hnm := (name_of_methodNamed Bd.named Bd.method).1
  have X0 : Stand p l e ({ frames := 0, cells := 0, slots := 0, locals := 0 } : Room) s m #[(.int p1)] below meth c s₁ [] 0 0 := Stand.of_body Bd
  have e0 : s₁.heap = h0 := by rw [← hh, Bd.state]; rfl
  have N0 := Fr.nil n0
  have pre0 : ∀ t, Steps p.tables e below (s₁.setTop (mkF m 0 #[.val (.int p1)] [])) t → Steps p.tables e below (s₁.setTop (entryFrame m #[(.int p1)] 1)) t := fun t k => castTop (ef_38 m p1) k
  -- 3. LAWS

  obtain ⟨fs, hr, hrun, hended, hW, hsame⟩ := X0.leave (v := some (.int (0 : Int32))) (fun h => by rw [Bd.returns] at h; cases h)
  refine ⟨_, _, pre0 _ ?_, hrun, hended, _, _, rfl, ?_, ⟨_, rfl⟩, hW, hsame.mono (by decide) (by decide)⟩
  -- 4. STEPS
  · show Steps p.tables e below (s₁.setTop (mkF m 0 #[.val (.int p1)] [])) _
    refine XS.iloadN X0.here hx rfl (hb hby d38_0) rfl ?_
    refine XS.sipush X0.here hx rfl (hb hby d38_1) ?_
    refine XS.icmpYes X0.here hx rfl (pc0 := 4) (pc' := 11) rfl (hb hby d38_4) rfl (tlt hc4).2.2.1 (by decide) (by decide) ?_
    refine XS.iconst X0.here hx rfl (hb hby d38_11) ?_
    show Steps p.tables e below (s₁.setTop (mkF m 12 #[.val (.int p1)] [(.int (0 : Int32))])) _
    exact retN X0 hx (t := .boolean) Bd.returns (by simp) (hb hby d38_12) hr
  · show Q38y Z p1 h0 n0 _ s₁.heap _
    rw [e0]
    exact ⟨rfl, N0, rfl⟩
theorem own_t255 : ∀ i < 32, Nat.testBit 255 i = decide (i < 8) := by decide
def b8 (n : Nat) : Int32 := (Int32.ofNat n).toInt8.toInt32
theorem own_b8 : ∀ a < 256, (b8 a &&& (255 : Int32)) = Int32.ofNat a := by decide +kernel
theorem own_b8n : ∀ a < 256, nar .byte (b8 a) = b8 a := by decide +kernel
theorem own_i8 (n : Nat) : b8 n = b8 (n % 256) := by
  have q : (Int32.ofNat n).toInt8 = (Int32.ofNat (n % 256)).toInt8 := by
    apply Int8.toBitVec_inj.1
    show (BitVec.ofNat 32 n).signExtend 8 = (BitVec.ofNat 32 (n % 256)).signExtend 8
    apply BitVec.eq_of_getLsbD_eq
    intro i hi
    rw [BitVec.getLsbD_signExtend, BitVec.getLsbD_signExtend, BitVec.getLsbD_ofNat, BitVec.getLsbD_ofNat, show (256 : Nat) = 2 ^ 8 from rfl, Nat.testBit_mod_two_pow]
    have : i < 32 := by omega
    simp [hi, this]
  unfold b8; rw [q]
theorem own_sh0 (n : Nat) : Int32.ofNat n >>> ((0 : Int32) &&& 31) = Int32.ofNat n := by
  apply Int32.toBitVec_inj.1
  show (BitVec.ofNat 32 n).sshiftRight 0 = BitVec.ofNat 32 n
  simp
theorem own_sh8 (n : Nat) (h : n < 65536) : Int32.ofNat n >>> ((8 : Int32) &&& 31) = Int32.ofNat (n / 256) := by
  apply Int32.toBitVec_inj.1
  show (BitVec.ofNat 32 n).sshiftRight 8 = BitVec.ofNat 32 (n / 256)
  apply BitVec.eq_of_getLsbD_eq
  intro i hi
  have hm : (BitVec.ofNat 32 n).msb = false := by
    rw [BitVec.msb_eq_getLsbD_last, BitVec.getLsbD_ofNat]
    rw [Nat.testBit_lt_two_pow (Nat.lt_of_lt_of_le h (by decide))]; simp
  have hb : ∀ j, 16 ≤ j → n.testBit j = false := fun j hj => Nat.testBit_lt_two_pow (Nat.lt_of_lt_of_le h (Nat.pow_le_pow_right (n := 2) (by decide) hj))
  rw [BitVec.getLsbD_sshiftRight, hm, BitVec.getLsbD_ofNat, BitVec.getLsbD_ofNat, show (256 : Nat) = 2 ^ 8 from rfl, Nat.testBit_div_two_pow]
  by_cases k : 8 + i < 32
  · have k' : i + 8 < 32 := by omega
    have k2 : ¬ 32 ≤ i := by omega
    simp [hi, k', k2, Nat.add_comm]
  · simp [hi, k, hb (i + 8) (by omega)]
theorem own_put0 (n : Nat) : nar .byte ((Int32.ofNat n >>> ((0 : Int32) &&& 31)).toInt8.toInt32) = b8 (n % 256) := by
  rw [own_sh0]; show nar .byte (b8 n) = _
  rw [own_i8 n]; exact own_b8n _ (Nat.mod_lt _ (by decide))
theorem own_put1 (n : Nat) (h : n < 65536) : nar .byte ((Int32.ofNat n >>> ((8 : Int32) &&& 31)).toInt8.toInt32) = b8 (n / 256) := by
  rw [own_sh8 n h]; exact own_b8n _ (Nat.div_lt_of_lt_mul h)
theorem own_get2 (lo hi : Nat) (h1 : lo < 256) (h2 : hi < 256) : (((b8 lo &&& (255 : Int32)) <<< ((0 : Int32) &&& 31)) ||| ((b8 hi &&& (255 : Int32)) <<< ((8 : Int32) &&& 31))).toUInt32.toUInt16.toUInt32.toInt32 = Int32.ofNat (256 * hi + lo) := by
  rw [own_b8 _ h1, own_b8 _ h2]
  apply Int32.toBitVec_inj.1
  show (((BitVec.ofNat 32 lo <<< 0) ||| (BitVec.ofNat 32 hi <<< 8)).setWidth 16).setWidth 32 = BitVec.ofNat 32 (256 * hi + lo)
  apply BitVec.eq_of_getLsbD_eq
  intro i hi'
  have hl : ∀ j, 8 ≤ j → lo.testBit j = false := fun j hj => Nat.testBit_lt_two_pow (Nat.lt_of_lt_of_le h1 (Nat.pow_le_pow_right (n := 2) (by decide) hj))
  have hh : ∀ j, 8 ≤ j → hi.testBit j = false := fun j hj => Nat.testBit_lt_two_pow (Nat.lt_of_lt_of_le h2 (Nat.pow_le_pow_right (n := 2) (by decide) hj))
  simp only [BitVec.getLsbD_setWidth, BitVec.getLsbD_or, BitVec.getLsbD_shiftLeft, BitVec.getLsbD_ofNat]
  rw [show (256 : Nat) = 2 ^ 8 from rfl, Nat.testBit_two_pow_mul_add _ (show lo < 2 ^ 8 from h1), show i - 0 = i from rfl]
  by_cases k8 : i < 8
  · have : i < 16 := by omega
    simp [hi', this, k8]
  · by_cases k16 : i < 16
    · have : i - 8 < 32 := by omega
      simp [hi', k16, k8, this, hl i (by omega)]
    · simp [hi', k16, k8, hh (i - 8) (by omega)]
theorem own_get1 : ∀ a < 256, (b8 a &&& (255 : Int32)).toUInt32.toUInt16.toUInt32.toInt32 = Int32.ofNat a := by decide +kernel
theorem own_shl : ∀ a < 64, Int32.ofNat a <<< ((1 : Int32) &&& 31) = Int32.ofNat (2 * a) := by decide +kernel
theorem own_shr : ∀ a < 64, Int32.ofNat a >>> ((1 : Int32) &&& 31) = Int32.ofNat (a / 2) := by decide +kernel
theorem own_n : ∀ a < 256, (Int32.ofNat a).toNatClampNeg = a ∧ ¬ (Int32.ofNat a < 0) := by decide +kernel
theorem own_suc (a : Nat) : Int32.ofNat a + 1 = Int32.ofNat (a + 1) := by
  rw [Int32.ofNat_add]; rfl
theorem own_nc (n : Nat) (h : n < 65536) : nar .char (Int32.ofNat n) = Int32.ofNat n := by
  apply Int32.toBitVec_inj.1
  show ((BitVec.ofNat 32 n).setWidth 16).setWidth 32 = BitVec.ofNat 32 n
  apply BitVec.eq_of_toNat_eq
  simp
  omega
theorem own_ch (x : Int32) : x.toUInt32.toUInt16.toUInt32.toInt32 = Int32.ofNat (x.toUInt32.toUInt16.toNat) := by
  apply Int32.toBitVec_inj.1
  show (x.toBitVec.setWidth 16).setWidth 32 = BitVec.ofNat 32 _
  apply BitVec.eq_of_toNat_eq
  rw [BitVec.toNat_ofNat, BitVec.toNat_setWidth]; rfl
theorem own_narc (x : Int32) : nar .char (x.toUInt32.toUInt16.toUInt32.toInt32) = x.toUInt32.toUInt16.toUInt32.toInt32 := by
  rw [own_ch]; exact own_nc _ (UInt16.toNat_lt _)
theorem own_lt {i n : Nat} (h : i < n) (hn : n < 256) : Int32.ofNat i < Int32.ofNat n := by
  rw [Int32.lt_iff_toInt_lt, Int32.toInt_ofNat_of_lt (by omega), Int32.toInt_ofNat_of_lt (by omega)]; omega
theorem own_dm (c : Nat) : 256 * (c / 256) + c % 256 = c := Nat.div_add_mod c 256
def Av (Z : State) (h : Heap) (a : Addr) (ty : FieldType) (f : Nat → Int32) (ns : List Nat) : Prop := ∃ cl : Cell, Arr Z h a cl ty ∧ cl.slots.toList = ns.map (fun n => Value.int (f n))
theorem own_avs {cl : Cell} {f : Nat → Int32} {ns : List Nat} (q : cl.slots.toList = ns.map (fun n => Value.int (f n))) : cl.slots.size = ns.length := by
  rw [← Array.length_toList, q, List.length_map]
theorem own_avg {cl : Cell} {f : Nat → Int32} {ns : List Nat} (q : cl.slots.toList = ns.map (fun n => Value.int (f n))) {i n : Nat} (hi : ns[i]? = some n) : cl.slots[i]? = some (.int (f n)) := by
  rw [← Array.getElem?_toList, q, List.getElem?_map, hi]; rfl
theorem own_avz {cl : Cell} {f : Nat → Int32} {ns : List Nat} (q : cl.slots.toList = ns.map (fun n => Value.int (f n))) (hl : ns.length < 256) : cl.slots.size = (Int32.ofNat ns.length).toNatClampNeg ∧ ¬ (Int32.ofNat ns.length < 0) :=
  ⟨(own_avs q).trans (own_n _ hl).1.symm, (own_n _ hl).2⟩
theorem own_avi {cl : Cell} {f : Nat → Int32} {ns : List Nat} (q : cl.slots.toList = ns.map (fun n => Value.int (f n))) {i : Nat} (hi : i < ns.length) (hl : ns.length < 256) : ¬ (Int32.ofNat i < 0 ∨ cl.slots.size ≤ (Int32.ofNat i).toNatClampNeg) := by
  have k := own_n i (by omega)
  rw [own_avs q, k.1]
  rintro (z | z)
  · exact k.2 z
  · omega
theorem own_avn {cl : Cell} {f : Nat → Int32} {ns : List Nat} (q : cl.slots.toList = ns.map (fun n => Value.int (f n))) {i n : Nat} (hi : ns[i]? = some n) (hl : ns.length < 256) : cl.slots[(Int32.ofNat i).toNatClampNeg]? = some (.int (f n)) := by
  have k : i < ns.length := (List.getElem?_eq_some_iff.mp hi).1
  rw [(own_n i (by omega)).1]; exact own_avg q hi
theorem own_avset {Z : State} {h h' : Heap} {a : Addr} {ty : FieldType} {f : Nat → Int32} {ns : List Nat} {cl : Cell} (A : Arr Z h a cl ty) (q : cl.slots.toList = ns.map (fun n => Value.int (f n))) {i n : Nat} {v : Value} (W : Wr h h' a i v) (hv : v = .int (f n)) : ∃ cl' : Cell, Arr Z h' a cl' ty ∧ cl'.slots.toList = (ns.set i n).map (fun n => Value.int (f n)) := by
  refine ⟨_, A.same W, ?_⟩
  show (cl.slots.setIfInBounds i v).toList = _
  rw [Array.toList_setIfInBounds, q, hv, List.map_set]
theorem Av.ext {Z : State} {h h' : Heap} {a : Addr} {ty : FieldType} {f : Nat → Int32} {ns : List Nat} (E : Ext h h') (A : Av Z h a ty f ns) : Av Z h' a ty f ns := by obtain ⟨cl, A, q⟩ := A; exact ⟨cl, A.ext E, q⟩
theorem Av.other {Z : State} {h h' : Heap} {a b : Addr} {ty : FieldType} {f : Nat → Int32} {ns : List Nat} {sl : Nat} {v : Value} (W : Wr h h' b sl v) (hn : a ≠ b) (A : Av Z h a ty f ns) : Av Z h' a ty f ns := by obtain ⟨cl, A, q⟩ := A; exact ⟨cl, A.other W hn, q⟩
theorem Av.keep {Z : State} {h h' : Heap} {a : Addr} {ws : List Addr} {ty : FieldType} {f : Nat → Int32} {ns : List Nat} (A : Av Z h a ty f ns) (K : Keep h h' ws) (hn : a ∉ ws) : Av Z h' a ty f ns := by obtain ⟨cl, A, q⟩ := A; exact ⟨cl, ⟨K.2.1 a cl A.1 hn, A.2⟩, q⟩
theorem Av.lt {Z : State} {h : Heap} {a : Addr} {ty : FieldType} {f : Nat → Int32} {ns : List Nat} (A : Av Z h a ty f ns) : a < h.size := by obtain ⟨cl, A, q⟩ := A; exact A.lt
def QI (r : Int32) (h0 : Heap) (n0 : Nat) (v : Option Value) (h : Heap) (L : List Loc) : Prop := v = some (.int r) ∧ Fr n0 L ∧ h = h0
def QV (h0 : Heap) (n0 : Nat) (v : Option Value) (h : Heap) (L : List Loc) : Prop := v = none ∧ Fr n0 L ∧ h = h0
def Wd (Z : State) (h : Heap) : Prop := (∃ w : RefV, Sta Z h "jdk/internal/util/Preconditions" "SIOOBE_FORMATTER" "Ljava/util/function/BiFunction;" w.v) ∧ (∃ k : Int32, ¬ (k = 0) ∧ Sta Z h "java/lang/String" "COMPACT_STRINGS" "Z" (.int k)) ∧ Sta Z h "java/lang/StringUTF16" "$assertionsDisabled" "Z" (.int 1) ∧ Sta Z h "java/lang/StringUTF16" "HI_BYTE_SHIFT" "I" (.int 0) ∧ Sta Z h "java/lang/StringUTF16" "LO_BYTE_SHIFT" "I" (.int 8)
theorem own_stk {Z : State} {h h' : Heap} {ws : List Addr} {C n d : String} {v : Value} (K : Keep h h' ws) (hs : ∀ x ∈ ws, ∀ cell : Cell, h[x]? = some cell → cell.vm.isStatics = false) (S : Sta Z h C n d v) : Sta Z h' C n d v := by
  obtain ⟨cf, i, k, f, st, cell, h1, h2, h3, h4, h5, h6, h7⟩ := S
  exact ⟨cf, i, k, f, st, cell, h1, h2, h3, h4, K.2.1 _ _ h5 (fun hm => by have := hs _ hm _ h5; rw [h6] at this; cases this), h6, h7⟩
theorem Wd.keep {Z : State} {h h' : Heap} {ws : List Addr} (F : Wd Z h) (K : Keep h h' ws) (hs : ∀ x ∈ ws, ∀ cell : Cell, h[x]? = some cell → cell.vm.isStatics = false) : Wd Z h' := by
  obtain ⟨⟨w, a⟩, ⟨k, hk, b⟩, c, d, e⟩ := F
  exact ⟨⟨w, own_stk K hs a⟩, ⟨k, hk, own_stk K hs b⟩, own_stk K hs c, own_stk K hs d, own_stk K hs e⟩
theorem Wd.ext {Z : State} {h h' : Heap} (E : Ext h h') (F : Wd Z h) : Wd Z h' := by
  obtain ⟨⟨w, a⟩, ⟨k, hk, b⟩, c, d, e⟩ := F
  exact ⟨⟨w, a.ext E⟩, ⟨k, hk, b.ext E⟩, c.ext E, d.ext E, e.ext E⟩
theorem Wd.wr {Z : State} {h h' : Heap} {a : Addr} {sl : Nat} {v : Value} (W : Wr h h' a sl v) (F : Wd Z h) : Wd Z h' := by
  obtain ⟨⟨w, a⟩, ⟨k, hk, b⟩, c, d, e⟩ := F
  exact ⟨⟨w, a.wr W⟩, ⟨k, hk, b.wr W⟩, c.wr W, d.wr W, e.wr W⟩
theorem d31_0 : decode jdk_52_method_5_code 0 = .ok (.getstatic 44, 3) := by decide +kernel
theorem d31_3 : decode jdk_52_method_5_code 3 = .ok (.ifCond .ne 25, 3) := by decide +kernel
theorem d31_28 : decode jdk_52_method_5_code 28 = .ok (.iload_n 1, 1) := by decide +kernel
theorem d31_29 : decode jdk_52_method_5_code 29 = .ok (.iconst 1, 1) := by decide +kernel
theorem d31_30 : decode jdk_52_method_5_code 30 = .ok (.ishl, 1) := by decide +kernel
theorem d31_31 : decode jdk_52_method_5_code 31 = .ok (.istore_n 1, 1) := by decide +kernel
theorem d31_32 : decode jdk_52_method_5_code 32 = .ok (.aload_n 0, 1) := by decide +kernel
theorem d31_33 : decode jdk_52_method_5_code 33 = .ok (.iload_n 1, 1) := by decide +kernel
theorem d31_34 : decode jdk_52_method_5_code 34 = .ok (.iinc 1 1, 3) := by decide +kernel
theorem d31_37 : decode jdk_52_method_5_code 37 = .ok (.baload, 1) := by decide +kernel
theorem d31_38 : decode jdk_52_method_5_code 38 = .ok (.sipush 255, 3) := by decide +kernel
theorem d31_41 : decode jdk_52_method_5_code 41 = .ok (.iand, 1) := by decide +kernel
theorem d31_42 : decode jdk_52_method_5_code 42 = .ok (.getstatic 59, 3) := by decide +kernel
theorem d31_45 : decode jdk_52_method_5_code 45 = .ok (.ishl, 1) := by decide +kernel
theorem d31_46 : decode jdk_52_method_5_code 46 = .ok (.aload_n 0, 1) := by decide +kernel
theorem d31_47 : decode jdk_52_method_5_code 47 = .ok (.iload_n 1, 1) := by decide +kernel
theorem d31_48 : decode jdk_52_method_5_code 48 = .ok (.baload, 1) := by decide +kernel
theorem d31_49 : decode jdk_52_method_5_code 49 = .ok (.sipush 255, 3) := by decide +kernel
theorem d31_52 : decode jdk_52_method_5_code 52 = .ok (.iand, 1) := by decide +kernel
theorem d31_53 : decode jdk_52_method_5_code 53 = .ok (.getstatic 63, 3) := by decide +kernel
theorem d31_56 : decode jdk_52_method_5_code 56 = .ok (.ishl, 1) := by decide +kernel
theorem d31_57 : decode jdk_52_method_5_code 57 = .ok (.ior, 1) := by decide +kernel
theorem d31_58 : decode jdk_52_method_5_code 58 = .ok (.i2c, 1) := by decide +kernel
theorem d31_59 : decode jdk_52_method_5_code 59 = .ok (.ireturn, 1) := by decide +kernel
theorem pn_31 : plainName "java/lang/StringUTF16" = true := by first | (simp [plainName, overriddenIn]; done) | decide +kernel
theorem ef_31 (m : MethodId) (x0 : Addr) (x1 : Int32) : entryFrame m #[(.ref x0), (.int x1)] 2 = mkF m 0 #[.val (.ref x0), .val (.int x1)] [] := by first | (simp [entryFrame, mkF, argsToLocals, Value.category]; done) | rfl
set_option maxRecDepth 65536 in
set_option maxHeartbeats 40000000 in
theorem rm31 (l : Launch) (Z : State) (a0 : Array Value) (hw : ∀ d ∈ tables_1, d.before a0 Z = true) (ws : List Jvm.Cond) (a1 : Addr) (p2 : Int32) (w3 : Int32) (w5 : Int32) (cl_a1 : Cell) (w6 : Int32) (w8 : Int32) (w9 : Int32) (h0 : Heap) (n0 : Nat) (Z0 : n0 ≤ h0.size) (S_StringUTF16__assertionsDisabled : Sta Z h0 "java/lang/StringUTF16" "$assertionsDisabled" "Z" (.int w3)) (Ar_a1 : Arr Z h0 a1 cl_a1 .byte) (hin37 : ¬ ((p2 <<< ((1 : Int32) &&& 31)) < 0 ∨ cl_a1.slots.size ≤ ((p2 <<< ((1 : Int32) &&& 31))).toNatClampNeg)) (hat37 : cl_a1.slots[((p2 <<< ((1 : Int32) &&& 31))).toNatClampNeg]? = some (.int w5)) (S_StringUTF16_HI_BYTE_SHIFT : Sta Z h0 "java/lang/StringUTF16" "HI_BYTE_SHIFT" "I" (.int w6)) (hin48 : ¬ (((p2 <<< ((1 : Int32) &&& 31)) + (1 : Int32)) < 0 ∨ cl_a1.slots.size ≤ (((p2 <<< ((1 : Int32) &&& 31)) + (1 : Int32))).toNatClampNeg)) (hat48 : cl_a1.slots[(((p2 <<< ((1 : Int32) &&& 31)) + (1 : Int32))).toNatClampNeg]? = some (.int w8)) (S_StringUTF16_LO_BYTE_SHIFT : Sta Z h0 "java/lang/StringUTF16" "LO_BYTE_SHIFT" "I" (.int w9)) (hc3 : ¬ (w3 = (0 : Int32))) (r : Int32) (hv : ((((w5 &&& (255 : Int32)) <<< (w6 &&& 31)) ||| ((w8 &&& (255 : Int32)) <<< (w9 &&& 31))).toUInt32.toUInt16.toUInt32.toInt32) = r) :
    MetFree l (⟨"java/lang/StringUTF16", "getChar", "([BI)C"⟩ : MethodName) (head1 (Jvm.Cond.code (⟨"java/lang/StringUTF16", "getChar", "([BI)C"⟩ : MethodName) jdk_52_method_5_code 2 (some .char) :: ws) ({ frames := 0, cells := 0, slots := 0, locals := 0 } : Room)) (fun a U => a = #[(.ref a1), (.int p2)] ∧ Z.Warmed39 U.vm ∧ U.heap = h0) (fun _ _ _ _ _ => True) (fun _ U o U' => ∃ v L, o = .returned v ∧ QI r h0 n0 v U'.heap L ∧ FrameEnd U o U' L ({ frames := 0, cells := 0, slots := 0, locals := 0 } : Room).cells ({ frames := 0, cells := 0, slots := 0, locals := 0 } : Room).slots) := by
  refine MetFree.of_bodySF (plainFor_of_name pn_31) hisR ?_
  intro p e s m args below meth c s₁ Bd hml0 hP hK
  obtain ⟨rfl, hZ, hh⟩ := hP
  have hx := Bd.exec
  have hby := Bd.bytes
  have hml : c.maxLocals = 2 := hml0
  have hown : s.vm.findClass "java/lang/StringUTF16" = some m.cls := findClass_of_methodNamed Bd.named
  have hnm := (name_of_methodNamed Bd.named Bd.method).1
  have X0 : Stand p l e ({ frames := 0, cells := 0, slots := 0, locals := 0 } : Room) s m #[(.ref a1), (.int p2)] below meth c s₁ [] 0 0 := Stand.of_body Bd
  have e0 : s₁.heap = h0 := by rw [← hh, Bd.state]; rfl
  have N0 := Fr.nil n0
  have pre0 : ∀ t, Steps p.tables e below (s₁.setTop (mkF m 0 #[.val (.ref a1), .val (.int p2)] [])) t → Steps p.tables e below (s₁.setTop (entryFrame m #[(.ref a1), (.int p2)] 2)) t := fun t k => castTop (ef_31 m a1 p2) k
  -- 3. LAWS
  obtain ⟨T4, X4, e4, st4⟩ := getS2 X0 hx hZ hown (host := "") (Or.inl (hw _ (List.mem_of_getElem? (i := 129) rfl))) Via.refl e0 S_StringUTF16__assertionsDisabled (g := (mkF m 0 #[.val (.ref a1), .val (.int p2)] [])) rfl (hb hby d31_0)
  obtain ⟨T7, X7, e7, st7⟩ := getS2 X4 hx hZ hown (host := "") (Or.inl (hw _ (List.mem_of_getElem? (i := 130) rfl))) Via.refl e4 S_StringUTF16_HI_BYTE_SHIFT (g := (mkF m 42 #[.val (.ref a1), .val (.int ((p2 <<< ((1 : Int32) &&& 31)) + (1 : Int32)))] [(.int (w5 &&& (255 : Int32)))])) rfl (hb hby d31_42)
  obtain ⟨T10, X10, e10, st10⟩ := getS2 X7 hx hZ hown (host := "") (Or.inl (hw _ (List.mem_of_getElem? (i := 131) rfl))) Via.refl e7 S_StringUTF16_LO_BYTE_SHIFT (g := (mkF m 53 #[.val (.ref a1), .val (.int ((p2 <<< ((1 : Int32) &&& 31)) + (1 : Int32)))] [(.int (w8 &&& (255 : Int32))), (.int ((w5 &&& (255 : Int32)) <<< (w6 &&& 31)))])) rfl (hb hby d31_53)
  obtain ⟨fs, hr, hrun, hended, hW, hsame⟩ := X10.leave (v := some (.int ((((w5 &&& (255 : Int32)) <<< (w6 &&& 31)) ||| ((w8 &&& (255 : Int32)) <<< (w9 &&& 31))).toUInt32.toUInt16.toUInt32.toInt32))) (fun h => by rw [Bd.returns] at h; cases h)
  refine ⟨_, _, pre0 _ ?_, hrun, hended, _, _, rfl, ?_, ⟨_, rfl⟩, hW, hsame.mono (by decide) (by decide)⟩
  -- 4. STEPS
  · show Steps p.tables e below (s₁.setTop (mkF m 0 #[.val (.ref a1), .val (.int p2)] [])) _
    refine st4 _ ?_
    refine XS.ifYes X4.here hx rfl (pc0 := 3) (pc' := 28) rfl (hb hby d31_3) rfl ((if0 _ _).trans (feq hc3).2) (by decide) (by decide) ?_
    refine XS.iloadN X4.here hx rfl (hb hby d31_28) rfl ?_
    refine XS.iconst X4.here hx rfl (hb hby d31_29) ?_
    refine XS.ishl X4.here hx rfl (hb hby d31_30) rfl ?_
    refine XS.istoreN X4.here hx rfl (hb hby d31_31) rfl (l' := #[.val (.ref a1), .val (.int (p2 <<< ((1 : Int32) &&& 31)))]) rfl ?_
    refine XS.aloadN X4.here hx rfl (hb hby d31_32) rfl rfl ?_
    show Steps p.tables e below (T4.setTop (mkF m 33 #[.val (.ref a1), .val (.int (p2 <<< ((1 : Int32) &&& 31)))] [(.ref a1)])) _
    refine XS.iloadN X4.here hx rfl (hb hby d31_33) rfl ?_
    refine XS.iinc X4.here hx rfl (hb hby d31_34) rfl (l' := #[.val (.ref a1), .val (.int ((p2 <<< ((1 : Int32) &&& 31)) + (1 : Int32)))]) rfl ?_
    show Steps p.tables e below (T4.setTop (mkF m 37 #[.val (.ref a1), .val (.int ((p2 <<< ((1 : Int32) &&& 31)) + (1 : Int32)))] [(.int (p2 <<< ((1 : Int32) &&& 31))), (.ref a1)])) _
    refine X4.baloadBytes hx (j := (p2 <<< ((1 : Int32) &&& 31))) (v := (.int w5)) (by rw [e4]; exact Ar_a1.1) (State.isArrayOf_alike hZ.alike Ar_a1.2.1) Ar_a1.2.2 hin37 hat37 (g := (mkF m 37 #[.val (.ref a1), .val (.int ((p2 <<< ((1 : Int32) &&& 31)) + (1 : Int32)))] [(.int (p2 <<< ((1 : Int32) &&& 31))), (.ref a1)])) rfl rfl (hb hby d31_37) _ ?_
    refine XS.sipush X4.here hx rfl (hb hby d31_38) ?_
    refine XS.iand X4.here hx rfl (hb hby d31_41) rfl ?_
    refine st7 _ ?_
    refine XS.ishl X7.here hx rfl (hb hby d31_45) rfl ?_
    refine XS.aloadN X7.here hx rfl (hb hby d31_46) rfl rfl ?_
    refine XS.iloadN X7.here hx rfl (hb hby d31_47) rfl ?_
    show Steps p.tables e below (T7.setTop (mkF m 48 #[.val (.ref a1), .val (.int ((p2 <<< ((1 : Int32) &&& 31)) + (1 : Int32)))] [(.int ((p2 <<< ((1 : Int32) &&& 31)) + (1 : Int32))), (.ref a1), (.int ((w5 &&& (255 : Int32)) <<< (w6 &&& 31)))])) _
    refine X7.baloadBytes hx (j := ((p2 <<< ((1 : Int32) &&& 31)) + (1 : Int32))) (v := (.int w8)) (by rw [e7]; exact Ar_a1.1) (State.isArrayOf_alike hZ.alike Ar_a1.2.1) Ar_a1.2.2 hin48 hat48 (g := (mkF m 48 #[.val (.ref a1), .val (.int ((p2 <<< ((1 : Int32) &&& 31)) + (1 : Int32)))] [(.int ((p2 <<< ((1 : Int32) &&& 31)) + (1 : Int32))), (.ref a1), (.int ((w5 &&& (255 : Int32)) <<< (w6 &&& 31)))])) rfl rfl (hb hby d31_48) _ ?_
    refine XS.sipush X7.here hx rfl (hb hby d31_49) ?_
    refine XS.iand X7.here hx rfl (hb hby d31_52) rfl ?_
    refine st10 _ ?_
    refine XS.ishl X10.here hx rfl (hb hby d31_56) rfl ?_
    refine XS.ior X10.here hx rfl (hb hby d31_57) rfl ?_
    refine XS.i2c X10.here hx rfl (hb hby d31_58) rfl ?_
    show Steps p.tables e below (T10.setTop (mkF m 59 #[.val (.ref a1), .val (.int ((p2 <<< ((1 : Int32) &&& 31)) + (1 : Int32)))] [(.int ((((w5 &&& (255 : Int32)) <<< (w6 &&& 31)) ||| ((w8 &&& (255 : Int32)) <<< (w9 &&& 31))).toUInt32.toUInt16.toUInt32.toInt32))])) _
    exact retN X10 hx (t := .char) Bd.returns (by simp) (hb hby d31_59) (by rw [own_narc]; exact hr)
  · show QI r h0 n0 _ T10.heap _
    rw [e10]
    exact ⟨by rw [hv], N0, rfl⟩
theorem gc (l : Launch) (Z : State) (a0 : Array Value) (hw : ∀ d ∈ tables_1, d.before a0 Z = true) (ws : List Jvm.Cond) (a1 : Addr) (ns : List Nat) (i lo hi : Nat) (h0 : Heap) (n0 : Nat) (Z0 : n0 ≤ h0.size) (D : Wd Z h0) (A : Av Z h0 a1 .byte b8 ns) (hl : ns.length < 128) (q1 : ns[2 * i]? = some lo) (q2 : ns[2 * i + 1]? = some hi) (l1 : lo < 256) (l2 : hi < 256) :
    MetFree l (⟨"java/lang/StringUTF16", "getChar", "([BI)C"⟩ : MethodName) (head1 (Jvm.Cond.code (⟨"java/lang/StringUTF16", "getChar", "([BI)C"⟩ : MethodName) jdk_52_method_5_code 2 (some .char) :: ws) ({ frames := 0, cells := 0, slots := 0, locals := 0 } : Room)) (fun a U => a = #[(.ref a1), (.int (Int32.ofNat i))] ∧ Z.Warmed39 U.vm ∧ U.heap = h0) (fun _ _ _ _ _ => True) (fun _ U o U' => ∃ v L, o = .returned v ∧ QI (Int32.ofNat (256 * hi + lo)) h0 n0 v U'.heap L ∧ FrameEnd U o U' L ({ frames := 0, cells := 0, slots := 0, locals := 0 } : Room).cells ({ frames := 0, cells := 0, slots := 0, locals := 0 } : Room).slots) := by
  obtain ⟨-, -, d3, d4, d5⟩ := D
  obtain ⟨cl, A, q⟩ := A
  have k1 : 2 * i < ns.length := (List.getElem?_eq_some_iff.mp q1).1
  have k2 : 2 * i + 1 < ns.length := (List.getElem?_eq_some_iff.mp q2).1
  have es := own_shl i (by omega)
  exact rm31 l Z a0 hw ws a1 (Int32.ofNat i) 1 (b8 lo) cl 0 (b8 hi) 8 h0 n0 Z0 d3 A (by rw [es]; exact own_avi q k1 (by omega)) (by rw [es]; exact own_avn q q1 (by omega)) d4 (by rw [es, own_suc]; exact own_avi q k2 (by omega)) (by rw [es, own_suc]; exact own_avn q q2 (by omega)) d5 (by decide) _ (own_get2 lo hi l1 l2)
def QW (Z : State) (a : Addr) (ty : FieldType) (f : Nat → Int32) (ns : List Nat) (h0 : Heap) (n0 : Nat) (v : Option Value) (h : Heap) (L : List Loc) : Prop := v = none ∧ Fr n0 L ∧ Keep h0 h [a] ∧ Av Z h a ty f ns
theorem d30_0 : decode jdk_52_method_4_code 0 = .ok (.getstatic 44, 3) := by decide +kernel
theorem d30_3 : decode jdk_52_method_4_code 3 = .ok (.ifCond .ne 25, 3) := by decide +kernel
theorem d30_28 : decode jdk_52_method_4_code 28 = .ok (.iload_n 1, 1) := by decide +kernel
theorem d30_29 : decode jdk_52_method_4_code 29 = .ok (.iconst 1, 1) := by decide +kernel
theorem d30_30 : decode jdk_52_method_4_code 30 = .ok (.ishl, 1) := by decide +kernel
theorem d30_31 : decode jdk_52_method_4_code 31 = .ok (.istore_n 1, 1) := by decide +kernel
theorem d30_32 : decode jdk_52_method_4_code 32 = .ok (.aload_n 0, 1) := by decide +kernel
theorem d30_33 : decode jdk_52_method_4_code 33 = .ok (.iload_n 1, 1) := by decide +kernel
theorem d30_34 : decode jdk_52_method_4_code 34 = .ok (.iinc 1 1, 3) := by decide +kernel
theorem d30_37 : decode jdk_52_method_4_code 37 = .ok (.iload_n 2, 1) := by decide +kernel
theorem d30_38 : decode jdk_52_method_4_code 38 = .ok (.getstatic 59, 3) := by decide +kernel
theorem d30_41 : decode jdk_52_method_4_code 41 = .ok (.ishr, 1) := by decide +kernel
theorem d30_42 : decode jdk_52_method_4_code 42 = .ok (.i2b, 1) := by decide +kernel
theorem d30_43 : decode jdk_52_method_4_code 43 = .ok (.bastore, 1) := by decide +kernel
theorem d30_44 : decode jdk_52_method_4_code 44 = .ok (.aload_n 0, 1) := by decide +kernel
theorem d30_45 : decode jdk_52_method_4_code 45 = .ok (.iload_n 1, 1) := by decide +kernel
theorem d30_46 : decode jdk_52_method_4_code 46 = .ok (.iload_n 2, 1) := by decide +kernel
theorem d30_47 : decode jdk_52_method_4_code 47 = .ok (.getstatic 63, 3) := by decide +kernel
theorem d30_50 : decode jdk_52_method_4_code 50 = .ok (.ishr, 1) := by decide +kernel
theorem d30_51 : decode jdk_52_method_4_code 51 = .ok (.i2b, 1) := by decide +kernel
theorem d30_52 : decode jdk_52_method_4_code 52 = .ok (.bastore, 1) := by decide +kernel
theorem d30_53 : decode jdk_52_method_4_code 53 = .ok (.return_, 1) := by decide +kernel
theorem pn_30 : plainName "java/lang/StringUTF16" = true := by first | (simp [plainName, overriddenIn]; done) | decide +kernel
theorem ef_30 (m : MethodId) (x0 : Addr) (x1 : Int32) (x2 : Int32) : entryFrame m #[(.ref x0), (.int x1), (.int x2)] 3 = mkF m 0 #[.val (.ref x0), .val (.int x1), .val (.int x2)] [] := by first | (simp [entryFrame, mkF, argsToLocals, Value.category]; done) | rfl
set_option maxRecDepth 65536 in
set_option maxHeartbeats 40000000 in
theorem rm30 (l : Launch) (Z : State) (a0 : Array Value) (hw : ∀ d ∈ tables_1, d.before a0 Z = true) (ws : List Jvm.Cond) (a1 : Addr) (i : Nat) (ch : Nat) (cl_a1 : Cell) (ns : List Nat) (h0 : Heap) (n0 : Nat) (Z0 : n0 ≤ h0.size) (S_StringUTF16__assertionsDisabled : Sta Z h0 "java/lang/StringUTF16" "$assertionsDisabled" "Z" (.int 1)) (S_StringUTF16_HI_BYTE_SHIFT : Sta Z h0 "java/lang/StringUTF16" "HI_BYTE_SHIFT" "I" (.int (0 : Int32))) (Ar_a1 : Arr Z h0 a1 cl_a1 .byte) (g_a1 : n0 ≤ a1) (S_StringUTF16_LO_BYTE_SHIFT : Sta Z h0 "java/lang/StringUTF16" "LO_BYTE_SHIFT" "I" (.int (8 : Int32))) (q : cl_a1.slots.toList = ns.map (fun n => Value.int (b8 n))) (hl : ns.length < 128) (hi2 : 2 * i + 1 < ns.length) (hch : ch < 65536) (hc3 : ¬ ((1 : Int32) = (0 : Int32))) :
    MetFree l (⟨"java/lang/StringUTF16", "putChar", "([BII)V"⟩ : MethodName) (head1 (Jvm.Cond.code (⟨"java/lang/StringUTF16", "putChar", "([BII)V"⟩ : MethodName) jdk_52_method_4_code 3 none :: ws) ({ frames := 0, cells := 0, slots := 0, locals := 0 } : Room)) (fun a U => a = #[(.ref a1), (.int (Int32.ofNat i)), (.int (Int32.ofNat ch))] ∧ Z.Warmed39 U.vm ∧ U.heap = h0) (fun _ _ _ _ _ => True) (fun _ U o U' => ∃ v L, o = .returned v ∧ QW Z a1 .byte b8 ((ns.set (2 * i) (ch % 256)).set (2 * i + 1) (ch / 256)) h0 n0 v U'.heap L ∧ FrameEnd U o U' L ({ frames := 0, cells := 0, slots := 0, locals := 0 } : Room).cells ({ frames := 0, cells := 0, slots := 0, locals := 0 } : Room).slots) := by
  refine MetFree.of_bodySF (plainFor_of_name pn_30) hisR ?_
  intro p e s m args below meth c s₁ Bd hml0 hP hK
  obtain ⟨rfl, hZ, hh⟩ := hP
  have hx := Bd.exec
  have hby := Bd.bytes
  have hml : c.maxLocals = 3 := hml0
  have hown : s.vm.findClass "java/lang/StringUTF16" = some m.cls := findClass_of_methodNamed Bd.named
  have hnm := (name_of_methodNamed Bd.named Bd.method).1
  have X0 : Stand p l e ({ frames := 0, cells := 0, slots := 0, locals := 0 } : Room) s m #[(.ref a1), (.int (Int32.ofNat i)), (.int (Int32.ofNat ch))] below meth c s₁ [] 0 0 := Stand.of_body Bd
  have e0 : s₁.heap = h0 := by rw [← hh, Bd.state]; rfl
  have N0 := Fr.nil n0
  have pre0 : ∀ t, Steps p.tables e below (s₁.setTop (mkF m 0 #[.val (.ref a1), .val (.int (Int32.ofNat i)), .val (.int (Int32.ofNat ch))] [])) t → Steps p.tables e below (s₁.setTop (entryFrame m #[(.ref a1), (.int (Int32.ofNat i)), (.int (Int32.ofNat ch))] 3)) t := fun t k => castTop (ef_30 m a1 (Int32.ofNat i) (Int32.ofNat ch)) k
  -- 3. LAWS
  obtain ⟨T5, X5, e5, st5⟩ := getS2 X0 hx hZ hown (host := "") (Or.inl (hw _ (List.mem_of_getElem? (i := 129) rfl))) Via.refl e0 S_StringUTF16__assertionsDisabled (g := (mkF m 0 #[.val (.ref a1), .val (.int (Int32.ofNat i)), .val (.int (Int32.ofNat ch))] [])) rfl (hb hby d30_0)
  obtain ⟨T7, X7, e7, st7⟩ := getS2 X5 hx hZ hown (host := "") (Or.inl (hw _ (List.mem_of_getElem? (i := 130) rfl))) Via.refl e5 S_StringUTF16_HI_BYTE_SHIFT (g := (mkF m 38 #[.val (.ref a1), .val (.int (((Int32.ofNat i) <<< ((1 : Int32) &&& 31)) + (1 : Int32))), .val (.int (Int32.ofNat ch))] [(.int (Int32.ofNat ch)), (.int ((Int32.ofNat i) <<< ((1 : Int32) &&& 31))), (.ref a1)])) rfl (hb hby d30_38)
  obtain ⟨T8, h8, X8, e8, W8, st8⟩ := stB X7 hx hZ e7 Ar_a1 (j := ((Int32.ofNat i) <<< ((1 : Int32) &&& 31))) (by rw [own_shl i (by omega)]; exact own_avi q (by omega) (by omega)) (g := (mkF m 43 #[.val (.ref a1), .val (.int (((Int32.ofNat i) <<< ((1 : Int32) &&& 31)) + (1 : Int32))), .val (.int (Int32.ofNat ch))] [(.int (((Int32.ofNat ch) >>> ((0 : Int32) &&& 31)).toInt8.toInt32)), (.int ((Int32.ofNat i) <<< ((1 : Int32) &&& 31))), (.ref a1)])) rfl rfl (hb hby d30_43)
  have N8 := Fr.snoc X8 N0 g_a1
  have W8' := W8
  rw [own_shl i (by omega), (own_n (2 * i) (by omega)).1] at W8'
  obtain ⟨cl8, Ar8, q8⟩ := own_avset Ar_a1 q W8' (n := ch % 256) (congrArg Value.int (own_put0 ch))
  -- Ar_a1.same W8 : the array with (.int (((Int32.ofNat ch) >>> ((0 : Int32) &&& 31)).toInt8.toInt32)) at the place ((Int32.ofNat i) <<< ((1 : Int32) &&& 31))
  have K8 : Keep h0 h8 [a1] := (Keep.refl h0 [a1]).wr W8 (Or.inl (List.mem_of_getElem? (i := 0) rfl))
  -- ✋ yours: S_StringUTF16_LO_BYTE_SHIFT must speak of h8 here (carried as the other facts are)
  obtain ⟨T10, X10, e10, st10⟩ := getS2 X8 hx hZ hown (host := "") (Or.inl (hw _ (List.mem_of_getElem? (i := 131) rfl))) Via.refl e8 (S_StringUTF16_LO_BYTE_SHIFT.wr W8) (g := (mkF m 47 #[.val (.ref a1), .val (.int (((Int32.ofNat i) <<< ((1 : Int32) &&& 31)) + (1 : Int32))), .val (.int (Int32.ofNat ch))] [(.int (Int32.ofNat ch)), (.int (((Int32.ofNat i) <<< ((1 : Int32) &&& 31)) + (1 : Int32))), (.ref a1)])) rfl (hb hby d30_47)
  -- ✋ yours: Ar_a1 must speak of h8 here
  obtain ⟨T11, h11, X11, e11, W11, st11⟩ := stB X10 hx hZ e10 Ar8 (j := (((Int32.ofNat i) <<< ((1 : Int32) &&& 31)) + (1 : Int32))) (by rw [own_shl i (by omega), own_suc]; exact own_avi q8 (by simp; omega) (by simp; omega)) (g := (mkF m 52 #[.val (.ref a1), .val (.int (((Int32.ofNat i) <<< ((1 : Int32) &&& 31)) + (1 : Int32))), .val (.int (Int32.ofNat ch))] [(.int (((Int32.ofNat ch) >>> ((8 : Int32) &&& 31)).toInt8.toInt32)), (.int (((Int32.ofNat i) <<< ((1 : Int32) &&& 31)) + (1 : Int32))), (.ref a1)])) rfl rfl (hb hby d30_52)
  have N11 := Fr.snoc X11 N8 g_a1
  have W11' := W11
  rw [own_shl i (by omega), own_suc, (own_n (2 * i + 1) (by omega)).1] at W11'
  have A11 := own_avset Ar8 q8 W11' (n := ch / 256) (congrArg Value.int (own_put1 ch hch))
  -- Ar_a1.same W11 : the array with (.int (((Int32.ofNat ch) >>> ((8 : Int32) &&& 31)).toInt8.toInt32)) at the place (((Int32.ofNat i) <<< ((1 : Int32) &&& 31)) + (1 : Int32))
  have K11 : Keep h0 h11 [a1] := K8.wr W11 (Or.inl (List.mem_of_getElem? (i := 0) rfl))
  obtain ⟨fs, hr, hrun, hended, hW, hsame⟩ := X11.leave (v := none) (fun _ => rfl)
  refine ⟨_, _, pre0 _ ?_, hrun, hended, _, _, rfl, ?_, ⟨_, rfl⟩, hW, hsame.mono (by decide) (by decide)⟩
  -- 4. STEPS
  · show Steps p.tables e below (s₁.setTop (mkF m 0 #[.val (.ref a1), .val (.int (Int32.ofNat i)), .val (.int (Int32.ofNat ch))] [])) _
    refine st5 _ ?_
    refine XS.ifYes X5.here hx rfl (pc0 := 3) (pc' := 28) rfl (hb hby d30_3) rfl ((if0 _ _).trans (feq hc3).2) (by decide) (by decide) ?_
    refine XS.iloadN X5.here hx rfl (hb hby d30_28) rfl ?_
    refine XS.iconst X5.here hx rfl (hb hby d30_29) ?_
    refine XS.ishl X5.here hx rfl (hb hby d30_30) rfl ?_
    refine XS.istoreN X5.here hx rfl (hb hby d30_31) rfl (l' := #[.val (.ref a1), .val (.int ((Int32.ofNat i) <<< ((1 : Int32) &&& 31))), .val (.int (Int32.ofNat ch))]) rfl ?_
    refine XS.aloadN X5.here hx rfl (hb hby d30_32) rfl rfl ?_
    show Steps p.tables e below (T5.setTop (mkF m 33 #[.val (.ref a1), .val (.int ((Int32.ofNat i) <<< ((1 : Int32) &&& 31))), .val (.int (Int32.ofNat ch))] [(.ref a1)])) _
    refine XS.iloadN X5.here hx rfl (hb hby d30_33) rfl ?_
    refine XS.iinc X5.here hx rfl (hb hby d30_34) rfl (l' := #[.val (.ref a1), .val (.int (((Int32.ofNat i) <<< ((1 : Int32) &&& 31)) + (1 : Int32))), .val (.int (Int32.ofNat ch))]) rfl ?_
    refine XS.iloadN X5.here hx rfl (hb hby d30_37) rfl ?_
    refine st7 _ ?_
    refine XS.ishr X7.here hx rfl (hb hby d30_41) rfl ?_
    refine XS.i2b X7.here hx rfl (hb hby d30_42) rfl ?_
    refine st8 _ ?_
    show Steps p.tables e below (T8.setTop (mkF m 44 #[.val (.ref a1), .val (.int (((Int32.ofNat i) <<< ((1 : Int32) &&& 31)) + (1 : Int32))), .val (.int (Int32.ofNat ch))] [])) _
    refine XS.aloadN X8.here hx rfl (hb hby d30_44) rfl rfl ?_
    refine XS.iloadN X8.here hx rfl (hb hby d30_45) rfl ?_
    refine XS.iloadN X8.here hx rfl (hb hby d30_46) rfl ?_
    refine st10 _ ?_
    refine XS.ishr X10.here hx rfl (hb hby d30_50) rfl ?_
    refine XS.i2b X10.here hx rfl (hb hby d30_51) rfl ?_
    refine st11 _ ?_
    show Steps p.tables e below (T11.setTop (mkF m 53 #[.val (.ref a1), .val (.int (((Int32.ofNat i) <<< ((1 : Int32) &&& 31)) + (1 : Int32))), .val (.int (Int32.ofNat ch))] [])) _
    exact X11.returnOut hx Bd.returns (hb hby d30_53) hr
  · show QW Z a1 .byte b8 ((ns.set (2 * i) (ch % 256)).set (2 * i + 1) (ch / 256)) h0 n0 _ T11.heap _
    rw [e11]
    exact ⟨rfl, N11, K11, A11⟩
def Rp (k : Int32) (ns cs : List Nat) : Prop := (k = 0 ∧ ns = cs ∧ ∀ c ∈ cs, c < 256) ∨ (k = 1 ∧ ns = cs.flatMap (fun c => [c % 256, c / 256]) ∧ (∀ c ∈ cs, c < 65536) ∧ cs ≠ [])
def Str (Z : State) (h : Heap) (a : Addr) (cs : List Nat) : Prop := Exa Z h a "java/lang/String" ∧ cs.length < 32 ∧ ∃ (v : Addr) (k : Int32) (ns : List Nat), Fld Z h a "java/lang/String" "value" "[B" (.ref v) ∧ Fld Z h a "java/lang/String" "coder" "B" (.int k) ∧ Av Z h v .byte b8 ns ∧ Rp k ns cs
theorem own_fml (cs : List Nat) : (cs.flatMap (fun c => [c % 256, c / 256])).length = 2 * cs.length := by
  induction cs with
  | nil => rfl
  | cons c r ih => rw [List.flatMap_cons, List.length_append, ih, List.length_cons]; simp; omega
theorem own_fmg (cs : List Nat) : ∀ (i c : Nat), cs[i]? = some c → (cs.flatMap (fun c => [c % 256, c / 256]))[2 * i]? = some (c % 256) ∧ (cs.flatMap (fun c => [c % 256, c / 256]))[2 * i + 1]? = some (c / 256) := by
  induction cs with
  | nil => intro i c h; simp at h
  | cons d r ih =>
    intro i c h
    cases i with
    | zero => simp at h; subst h; simp
    | succ i =>
      have q := ih i c (by simpa using h)
      have e1 : 2 * (i + 1) = 2 * i + 1 + 1 := by omega
      rw [List.flatMap_cons, e1]
      simpa using q
theorem d7_0 : decode jdk_42_method_152_code 0 = .ok (.getstatic 38, 3) := by decide +kernel
theorem d7_3 : decode jdk_42_method_152_code 3 = .ok (.ifCond .eq 10, 3) := by decide +kernel
theorem d7_6 : decode jdk_42_method_152_code 6 = .ok (.aload_n 0, 1) := by decide +kernel
theorem d7_7 : decode jdk_42_method_152_code 7 = .ok (.getfield 15, 3) := by decide +kernel
theorem d7_10 : decode jdk_42_method_152_code 10 = .ok (.goto 4, 3) := by decide +kernel
theorem d7_14 : decode jdk_42_method_152_code 14 = .ok (.ireturn, 1) := by decide +kernel
theorem pn_7 : plainName "java/lang/String" = true := by first | (simp [plainName, overriddenIn]; done) | decide +kernel
theorem ef_7 (m : MethodId) (x0 : Addr) : entryFrame m #[(.ref x0)] 1 = mkF m 0 #[.val (.ref x0)] [] := by first | (simp [entryFrame, mkF, argsToLocals, Value.category]; done) | rfl
set_option maxRecDepth 65536 in
set_option maxHeartbeats 40000000 in
theorem rm7 (l : Launch) (Z : State) (a0 : Array Value) (hw : ∀ d ∈ tables_1, d.before a0 Z = true) (ws : List Jvm.Cond) (a1 : Addr) (w2 : Int32) (w4 : Int32) (h0 : Heap) (n0 : Nat) (Z0 : n0 ≤ h0.size) (S_String_COMPACT_STRINGS : Sta Z h0 "java/lang/String" "COMPACT_STRINGS" "Z" (.int w2)) (F_coder_a1 : Fld Z h0 a1 "java/lang/String" "coder" "B" (.int w4)) (hc3 : ¬ (w2 = (0 : Int32))) (hb2 : nar .byte w4 = w4) :
    MetFree l (⟨"java/lang/String", "coder", "()B"⟩ : MethodName) (head1 (Jvm.Cond.code (⟨"java/lang/String", "coder", "()B"⟩ : MethodName) jdk_42_method_152_code 1 (some .byte) :: ws) ({ frames := 0, cells := 0, slots := 0, locals := 0 } : Room)) (fun a U => a = #[(.ref a1)] ∧ Z.Warmed39 U.vm ∧ U.heap = h0) (fun _ _ _ _ _ => True) (fun _ U o U' => ∃ v L, o = .returned v ∧ QI w4 h0 n0 v U'.heap L ∧ FrameEnd U o U' L ({ frames := 0, cells := 0, slots := 0, locals := 0 } : Room).cells ({ frames := 0, cells := 0, slots := 0, locals := 0 } : Room).slots) := by
  refine MetFree.of_bodySF (plainFor_of_name pn_7) hisR ?_
  intro p e s m args below meth c s₁ Bd hml0 hP hK
  obtain ⟨rfl, hZ, hh⟩ := hP
  have hx := Bd.exec
  have hby := Bd.bytes
  have hml : c.maxLocals = 1 := hml0
  have hown : s.vm.findClass "java/lang/String" = some m.cls := findClass_of_methodNamed Bd.named
  have hnm := (name_of_methodNamed Bd.named Bd.method).1
  have X0 : Stand p l e ({ frames := 0, cells := 0, slots := 0, locals := 0 } : Room) s m #[(.ref a1)] below meth c s₁ [] 0 0 := Stand.of_body Bd
  have e0 : s₁.heap = h0 := by rw [← hh, Bd.state]; rfl
  have N0 := Fr.nil n0
  have pre0 : ∀ t, Steps p.tables e below (s₁.setTop (mkF m 0 #[.val (.ref a1)] [])) t → Steps p.tables e below (s₁.setTop (entryFrame m #[(.ref a1)] 1)) t := fun t k => castTop (ef_7 m a1) k
  -- 3. LAWS
  obtain ⟨T3, X3, e3, st3⟩ := getS2 X0 hx hZ hown (host := "") (Or.inl (hw _ (List.mem_of_getElem? (i := 41) rfl))) Via.refl e0 S_String_COMPACT_STRINGS (g := (mkF m 0 #[.val (.ref a1)] [])) rfl (hb hby d7_0)
  obtain ⟨T5, X5, e5, st5⟩ := getF X3 hx hZ hown (host := "") (Or.inl (hw _ (List.mem_of_getElem? (i := 26) rfl))) Via.refl e3 F_coder_a1 (g := (mkF m 7 #[.val (.ref a1)] [(.ref a1)])) rfl rfl (hb hby d7_7)
  obtain ⟨fs, hr, hrun, hended, hW, hsame⟩ := X5.leave (v := some (.int w4)) (fun h => by rw [Bd.returns] at h; cases h)
  refine ⟨_, _, pre0 _ ?_, hrun, hended, _, _, rfl, ?_, ⟨_, rfl⟩, hW, hsame.mono (by decide) (by decide)⟩
  -- 4. STEPS
  · show Steps p.tables e below (s₁.setTop (mkF m 0 #[.val (.ref a1)] [])) _
    refine st3 _ ?_
    refine XS.ifNo X3.here hx rfl (hb hby d7_3) rfl ((if0 _ _).trans (feq hc3).1) ?_
    refine XS.aloadN X3.here hx rfl (hb hby d7_6) rfl rfl ?_
    refine st5 _ ?_
    refine XS.goto X5.here hx rfl (pc0 := 10) (pc' := 14) rfl (hb hby d7_10) (by decide) (by decide) ?_
    show Steps p.tables e below (T5.setTop (mkF m 14 #[.val (.ref a1)] [(.int w4)])) _
    exact retN X5 hx (t := .byte) Bd.returns (by simp) (hb hby d7_14) (by rw [hb2]; exact hr)
  · show QI w4 h0 n0 _ T5.heap _
    rw [e5]
    exact ⟨rfl, N0, rfl⟩
theorem d13_0 : decode jdk_42_method_154_code 0 = .ok (.getstatic 38, 3) := by decide +kernel
theorem d13_3 : decode jdk_42_method_154_code 3 = .ok (.ifCond .eq 14, 3) := by decide +kernel
theorem d13_6 : decode jdk_42_method_154_code 6 = .ok (.aload_n 0, 1) := by decide +kernel
theorem d13_7 : decode jdk_42_method_154_code 7 = .ok (.getfield 15, 3) := by decide +kernel
theorem d13_10 : decode jdk_42_method_154_code 10 = .ok (.ifCond .ne 7, 3) := by decide +kernel
theorem d13_13 : decode jdk_42_method_154_code 13 = .ok (.iconst 1, 1) := by decide +kernel
theorem d13_14 : decode jdk_42_method_154_code 14 = .ok (.goto 4, 3) := by decide +kernel
theorem d13_18 : decode jdk_42_method_154_code 18 = .ok (.ireturn, 1) := by decide +kernel
theorem pn_13 : plainName "java/lang/String" = true := by first | (simp [plainName, overriddenIn]; done) | decide +kernel
theorem ef_13 (m : MethodId) (x0 : Addr) : entryFrame m #[(.ref x0)] 1 = mkF m 0 #[.val (.ref x0)] [] := by first | (simp [entryFrame, mkF, argsToLocals, Value.category]; done) | rfl
set_option maxRecDepth 65536 in
set_option maxHeartbeats 40000000 in
theorem rm13y (l : Launch) (Z : State) (a0 : Array Value) (hw : ∀ d ∈ tables_1, d.before a0 Z = true) (ws : List Jvm.Cond) (a1 : Addr) (w2 : Int32) (w4 : Int32) (h0 : Heap) (n0 : Nat) (Z0 : n0 ≤ h0.size) (S_String_COMPACT_STRINGS : Sta Z h0 "java/lang/String" "COMPACT_STRINGS" "Z" (.int w2)) (F_coder_a1 : Fld Z h0 a1 "java/lang/String" "coder" "B" (.int w4)) (hc3 : ¬ (w2 = (0 : Int32))) (hc10 : w4 = (0 : Int32)) :
    MetFree l (⟨"java/lang/String", "isLatin1", "()Z"⟩ : MethodName) (head1 (Jvm.Cond.code (⟨"java/lang/String", "isLatin1", "()Z"⟩ : MethodName) jdk_42_method_154_code 1 (some .boolean) :: ws) ({ frames := 0, cells := 0, slots := 0, locals := 0 } : Room)) (fun a U => a = #[(.ref a1)] ∧ Z.Warmed39 U.vm ∧ U.heap = h0) (fun _ _ _ _ _ => True) (fun _ U o U' => ∃ v L, o = .returned v ∧ QI 1 h0 n0 v U'.heap L ∧ FrameEnd U o U' L ({ frames := 0, cells := 0, slots := 0, locals := 0 } : Room).cells ({ frames := 0, cells := 0, slots := 0, locals := 0 } : Room).slots) := by
  refine MetFree.of_bodySF (plainFor_of_name pn_13) hisR ?_
  intro p e s m args below meth c s₁ Bd hml0 hP hK
  obtain ⟨rfl, hZ, hh⟩ := hP
  have hx := Bd.exec
  have hby := Bd.bytes
  have hml : c.maxLocals = 1 := hml0
  have hown : s.vm.findClass "java/lang/String" = some m.cls := findClass_of_methodNamed Bd.named
  have hnm := (name_of_methodNamed Bd.named Bd.method).1
  have X0 : Stand p l e ({ frames := 0, cells := 0, slots := 0, locals := 0 } : Room) s m #[(.ref a1)] below meth c s₁ [] 0 0 := Stand.of_body Bd
  have e0 : s₁.heap = h0 := by rw [← hh, Bd.state]; rfl
  have N0 := Fr.nil n0
  have pre0 : ∀ t, Steps p.tables e below (s₁.setTop (mkF m 0 #[.val (.ref a1)] [])) t → Steps p.tables e below (s₁.setTop (entryFrame m #[(.ref a1)] 1)) t := fun t k => castTop (ef_13 m a1) k
  -- 3. LAWS
  obtain ⟨T3, X3, e3, st3⟩ := getS2 X0 hx hZ hown (host := "") (Or.inl (hw _ (List.mem_of_getElem? (i := 41) rfl))) Via.refl e0 S_String_COMPACT_STRINGS (g := (mkF m 0 #[.val (.ref a1)] [])) rfl (hb hby d13_0)
  obtain ⟨T5, X5, e5, st5⟩ := getF X3 hx hZ hown (host := "") (Or.inl (hw _ (List.mem_of_getElem? (i := 26) rfl))) Via.refl e3 F_coder_a1 (g := (mkF m 7 #[.val (.ref a1)] [(.ref a1)])) rfl rfl (hb hby d13_7)
  obtain ⟨fs, hr, hrun, hended, hW, hsame⟩ := X5.leave (v := some (.int (1 : Int32))) (fun h => by rw [Bd.returns] at h; cases h)
  refine ⟨_, _, pre0 _ ?_, hrun, hended, _, _, rfl, ?_, ⟨_, rfl⟩, hW, hsame.mono (by decide) (by decide)⟩
  -- 4. STEPS
  · show Steps p.tables e below (s₁.setTop (mkF m 0 #[.val (.ref a1)] [])) _
    refine st3 _ ?_
    refine XS.ifNo X3.here hx rfl (hb hby d13_3) rfl ((if0 _ _).trans (feq hc3).1) ?_
    refine XS.aloadN X3.here hx rfl (hb hby d13_6) rfl rfl ?_
    refine st5 _ ?_
    refine XS.ifNo X5.here hx rfl (hb hby d13_10) rfl ((if0 _ _).trans (teq hc10).2) ?_
    refine XS.iconst X5.here hx rfl (hb hby d13_13) ?_
    refine XS.goto X5.here hx rfl (pc0 := 14) (pc' := 18) rfl (hb hby d13_14) (by decide) (by decide) ?_
    show Steps p.tables e below (T5.setTop (mkF m 18 #[.val (.ref a1)] [(.int (1 : Int32))])) _
    exact retN X5 hx (t := .boolean) Bd.returns (by simp) (hb hby d13_18) hr
  · show QI 1 h0 n0 _ T5.heap _
    rw [e5]
    exact ⟨rfl, N0, rfl⟩
theorem d13_17 : decode jdk_42_method_154_code 17 = .ok (.iconst 0, 1) := by decide +kernel
set_option maxRecDepth 65536 in
set_option maxHeartbeats 40000000 in
theorem rm13n (l : Launch) (Z : State) (a0 : Array Value) (hw : ∀ d ∈ tables_1, d.before a0 Z = true) (ws : List Jvm.Cond) (a1 : Addr) (w2 : Int32) (w4 : Int32) (h0 : Heap) (n0 : Nat) (Z0 : n0 ≤ h0.size) (S_String_COMPACT_STRINGS : Sta Z h0 "java/lang/String" "COMPACT_STRINGS" "Z" (.int w2)) (F_coder_a1 : Fld Z h0 a1 "java/lang/String" "coder" "B" (.int w4)) (hc3 : ¬ (w2 = (0 : Int32))) (hc10 : ¬ (w4 = (0 : Int32))) :
    MetFree l (⟨"java/lang/String", "isLatin1", "()Z"⟩ : MethodName) (head1 (Jvm.Cond.code (⟨"java/lang/String", "isLatin1", "()Z"⟩ : MethodName) jdk_42_method_154_code 1 (some .boolean) :: ws) ({ frames := 0, cells := 0, slots := 0, locals := 0 } : Room)) (fun a U => a = #[(.ref a1)] ∧ Z.Warmed39 U.vm ∧ U.heap = h0) (fun _ _ _ _ _ => True) (fun _ U o U' => ∃ v L, o = .returned v ∧ QI 0 h0 n0 v U'.heap L ∧ FrameEnd U o U' L ({ frames := 0, cells := 0, slots := 0, locals := 0 } : Room).cells ({ frames := 0, cells := 0, slots := 0, locals := 0 } : Room).slots) := by
  refine MetFree.of_bodySF (plainFor_of_name pn_13) hisR ?_
  intro p e s m args below meth c s₁ Bd hml0 hP hK
  obtain ⟨rfl, hZ, hh⟩ := hP
  have hx := Bd.exec
  have hby := Bd.bytes
  have hml : c.maxLocals = 1 := hml0
  have hown : s.vm.findClass "java/lang/String" = some m.cls := findClass_of_methodNamed Bd.named
  have hnm := (name_of_methodNamed Bd.named Bd.method).1
  have X0 : Stand p l e ({ frames := 0, cells := 0, slots := 0, locals := 0 } : Room) s m #[(.ref a1)] below meth c s₁ [] 0 0 := Stand.of_body Bd
  have e0 : s₁.heap = h0 := by rw [← hh, Bd.state]; rfl
  have N0 := Fr.nil n0
  have pre0 : ∀ t, Steps p.tables e below (s₁.setTop (mkF m 0 #[.val (.ref a1)] [])) t → Steps p.tables e below (s₁.setTop (entryFrame m #[(.ref a1)] 1)) t := fun t k => castTop (ef_13 m a1) k
  -- 3. LAWS
  obtain ⟨T3, X3, e3, st3⟩ := getS2 X0 hx hZ hown (host := "") (Or.inl (hw _ (List.mem_of_getElem? (i := 41) rfl))) Via.refl e0 S_String_COMPACT_STRINGS (g := (mkF m 0 #[.val (.ref a1)] [])) rfl (hb hby d13_0)
  obtain ⟨T5, X5, e5, st5⟩ := getF X3 hx hZ hown (host := "") (Or.inl (hw _ (List.mem_of_getElem? (i := 26) rfl))) Via.refl e3 F_coder_a1 (g := (mkF m 7 #[.val (.ref a1)] [(.ref a1)])) rfl rfl (hb hby d13_7)
  obtain ⟨fs, hr, hrun, hended, hW, hsame⟩ := X5.leave (v := some (.int (0 : Int32))) (fun h => by rw [Bd.returns] at h; cases h)
  refine ⟨_, _, pre0 _ ?_, hrun, hended, _, _, rfl, ?_, ⟨_, rfl⟩, hW, hsame.mono (by decide) (by decide)⟩
  -- 4. STEPS
  · show Steps p.tables e below (s₁.setTop (mkF m 0 #[.val (.ref a1)] [])) _
    refine st3 _ ?_
    refine XS.ifNo X3.here hx rfl (hb hby d13_3) rfl ((if0 _ _).trans (feq hc3).1) ?_
    refine XS.aloadN X3.here hx rfl (hb hby d13_6) rfl rfl ?_
    refine st5 _ ?_
    refine XS.ifYes X5.here hx rfl (pc0 := 10) (pc' := 17) rfl (hb hby d13_10) rfl ((if0 _ _).trans (feq hc10).2) (by decide) (by decide) ?_
    refine XS.iconst X5.here hx rfl (hb hby d13_17) ?_
    show Steps p.tables e below (T5.setTop (mkF m 18 #[.val (.ref a1)] [(.int (0 : Int32))])) _
    exact retN X5 hx (t := .boolean) Bd.returns (by simp) (hb hby d13_18) hr
  · show QI 0 h0 n0 _ T5.heap _
    rw [e5]
    exact ⟨rfl, N0, rfl⟩
theorem d6_0 : decode jdk_42_method_54_code 0 = .ok (.aload_n 0, 1) := by decide +kernel
theorem d6_1 : decode jdk_42_method_54_code 1 = .ok (.getfield 9, 3) := by decide +kernel
theorem d6_4 : decode jdk_42_method_54_code 4 = .ok (.arraylength, 1) := by decide +kernel
theorem d6_5 : decode jdk_42_method_54_code 5 = .ok (.aload_n 0, 1) := by decide +kernel
theorem d6_6 : decode jdk_42_method_54_code 6 = .ok (.invokevirtual 335, 3) := by decide +kernel
theorem d6_9 : decode jdk_42_method_54_code 9 = .ok (.ishr, 1) := by decide +kernel
theorem d6_10 : decode jdk_42_method_54_code 10 = .ok (.ireturn, 1) := by decide +kernel
theorem pn_6 : plainName "java/lang/String" = true := by first | (simp [plainName, overriddenIn]; done) | decide +kernel
theorem pd_6_6 : parseMethodDescriptor "()B" = some ⟨[], some .byte⟩ := by decide +kernel
theorem ef_6 (m : MethodId) (x0 : Addr) : entryFrame m #[(.ref x0)] 1 = mkF m 0 #[.val (.ref x0)] [] := by first | (simp [entryFrame, mkF, argsToLocals, Value.category]; done) | rfl
set_option maxRecDepth 65536 in
set_option maxHeartbeats 40000000 in
theorem rm6 (l : Launch) (Z : State) (a0 : Array Value) (hw : ∀ d ∈ tables_1, d.before a0 Z = true) (ws : List Jvm.Cond) (a1 : Addr) (w2 : Addr) (cl_w2 : Cell) (z_w2 : Int32) (kc : Int32) (w4 : Int32) (r : Int32) (h0 : Heap) (n0 : Nat) (Z0 : n0 ≤ h0.size) (F_value_a1 : Fld Z h0 a1 "java/lang/String" "value" "[B" (.ref w2)) (Ar_w2 : Arr Z h0 w2 cl_w2 .byte) (S_w2 : cl_w2.slots.size = z_w2.toNatClampNeg) (N_w2 : ¬ z_w2 < 0) (E_a1 : Exa Z h0 a1 "java/lang/String") (SC : Sta Z h0 "java/lang/String" "COMPACT_STRINGS" "Z" (.int kc)) (hkc : ¬ (kc = 0)) (FC : Fld Z h0 a1 "java/lang/String" "coder" "B" (.int w4)) (hb2 : nar .byte w4 = w4) (hv : z_w2 >>> (w4 &&& 31) = r) :
    MetFree l (⟨"java/lang/String", "length", "()I"⟩ : MethodName) (head1 (Jvm.Cond.code (⟨"java/lang/String", "length", "()I"⟩ : MethodName) jdk_42_method_54_code 1 (some .int) :: ws) ({ frames := 1, cells := 0, slots := 0, locals := 13 } : Room)) (fun a U => a = #[(.ref a1)] ∧ Z.Warmed39 U.vm ∧ U.heap = h0) (fun _ _ _ _ _ => True) (fun _ U o U' => ∃ v L, o = .returned v ∧ QI r h0 n0 v U'.heap L ∧ FrameEnd U o U' L ({ frames := 1, cells := 0, slots := 0, locals := 13 } : Room).cells ({ frames := 1, cells := 0, slots := 0, locals := 13 } : Room).slots) := by
  refine MetFree.of_bodySF (plainFor_of_name pn_6) hisR ?_
  intro p e s m args below meth c s₁ Bd hml0 hP hK
  obtain ⟨rfl, hZ, hh⟩ := hP
  have hx := Bd.exec
  have hby := Bd.bytes
  have hml : c.maxLocals = 1 := hml0
  have hown : s.vm.findClass "java/lang/String" = some m.cls := findClass_of_methodNamed Bd.named
  have hnm := (name_of_methodNamed Bd.named Bd.method).1
  have X0 : Stand p l e ({ frames := 1, cells := 0, slots := 0, locals := 13 } : Room) s m #[(.ref a1)] below meth c s₁ [] 0 0 := Stand.of_body Bd
  have e0 : s₁.heap = h0 := by rw [← hh, Bd.state]; rfl
  have N0 := Fr.nil n0
  have pre0 : ∀ t, Steps p.tables e below (s₁.setTop (mkF m 0 #[.val (.ref a1)] [])) t → Steps p.tables e below (s₁.setTop (entryFrame m #[(.ref a1)] 1)) t := fun t k => castTop (ef_6 m a1) k
  -- 3. LAWS
  obtain ⟨T3, X3, e3, st3⟩ := getF X0 hx hZ hown (host := "") (Or.inl (hw _ (List.mem_of_getElem? (i := 25) rfl))) Via.refl e0 F_value_a1 (g := (mkF m 1 #[.val (.ref a1)] [(.ref a1)])) rfl rfl (hb hby d6_1)
  -- pc 6: java/lang/String.coder by the contract of the body that the receiver's class selects, rm7
  obtain ⟨cq4, kq4, q4a, q4b, q4c⟩ := isOf hZ e3 E_a1
  obtain ⟨_, _, ⟨T4, L4, k4, n4⟩, -, X4, ⟨Lc4, hQ4, l4, y4, z4⟩, st4⟩ := X3.virtualBack hx (y := (⟨"java/lang/String", "coder", "()B"⟩ : MethodName)) (z := (⟨"java/lang/String", "coder", "()B"⟩ : MethodName)) hown (mvT hZ (hw _ (List.mem_of_getElem? (i := 36) rfl))) (mvT hZ (hw _ (List.mem_of_getElem? (i := 37) rfl))) (notFace_of_selects (args := #[]) (mvT hZ (hw _ (List.mem_of_getElem? (i := 39) rfl)))) (mvT hZ (hw _ (List.mem_of_getElem? (i := 39) rfl))) (mvT hZ (hw _ (List.mem_of_getElem? (i := 38) rfl))) (by decide) (backOf (W := 1) (rm7 l Z a0 hw [] a1 kc w4 h0 n0 Z0 SC FC hkc hb2) hZ (hw _ (List.mem_of_getElem? (i := 40) rfl)) (hw _ (List.mem_of_getElem? (i := 8) rfl)) (by decide) (by decide)) q4a q4c (g := (mkF m 6 #[.val (.ref a1)] [(.ref a1), (.int z_w2)])) rfl (by rw [hml]; rfl) (Steps.refl _) (argsL := []) (rest := [(.int z_w2)]) (lenOf pd_6_6 rfl) rfl (by show 2 * 0 + _ ≤ _; exact Nat.le_of_eq rfl) (hb hby d6_6) (fun _ _ => ⟨rfl, e3, (by decide : 0 + 0 ≤ _), (by decide : 0 + 0 ≤ _)⟩)
  dsimp only [Pt.U, Pt.locs, Pt.cells, Pt.slots] at X4 l4 y4 z4 st4 hQ4
  subst l4 y4 z4
  obtain ⟨rfl, N4q, eq4⟩ := hQ4
  have N4 := Fr.app N0 N4q
  obtain ⟨fs, hr, hrun, hended, hW, hsame⟩ := X4.leave (v := some (.int (z_w2 >>> (w4 &&& 31)))) (fun h => by rw [Bd.returns] at h; cases h)
  refine ⟨_, _, pre0 _ ?_, hrun, hended, _, _, rfl, ?_, ⟨_, rfl⟩, hW, hsame.mono (by decide) (by decide)⟩
  -- 4. STEPS
  · show Steps p.tables e below (s₁.setTop (mkF m 0 #[.val (.ref a1)] [])) _
    refine XS.aloadN X0.here hx rfl (hb hby d6_0) rfl rfl ?_
    refine st3 _ ?_
    show Steps p.tables e below (T3.setTop (mkF m 4 #[.val (.ref a1)] [(.ref w2)])) _
    refine X3.arraylength hx (by rw [e3]; exact Ar_w2.1) (State.isArrayOf_alike hZ.alike Ar_w2.2.1) (g := (mkF m 4 #[.val (.ref a1)] [(.ref w2)])) rfl rfl (hb hby d6_4) _ ?_
    rw [len_of S_w2 N_w2]
    refine XS.aloadN X3.here hx rfl (hb hby d6_5) rfl rfl ?_
    refine st4.trans ?_
    refine XS.ishr X4.here hx rfl (hb hby d6_9) rfl ?_
    show Steps p.tables e below (T4.setTop (mkF m 10 #[.val (.ref a1)] [(.int (z_w2 >>> (w4 &&& 31)))])) _
    exact retI X4 hx Bd.returns (hb hby d6_10) hr      -- retI stands in the head ('lawwalk <made dir>' prints it)
  · show QI r h0 n0 _ T4.heap _
    exact ⟨by rw [hv], N4, eq4⟩
theorem len (l : Launch) (Z : State) (a0 : Array Value) (hw : ∀ d ∈ tables_1, d.before a0 Z = true) (ws : List Jvm.Cond) (a1 : Addr) (cs : List Nat) (h0 : Heap) (n0 : Nat) (Z0 : n0 ≤ h0.size) (D : Wd Z h0) (S : Str Z h0 a1 cs) :
    MetFree l (⟨"java/lang/String", "length", "()I"⟩ : MethodName) (head1 (Jvm.Cond.code (⟨"java/lang/String", "length", "()I"⟩ : MethodName) jdk_42_method_54_code 1 (some .int) :: ws) ({ frames := 1, cells := 0, slots := 0, locals := 13 } : Room)) (fun a U => a = #[(.ref a1)] ∧ Z.Warmed39 U.vm ∧ U.heap = h0) (fun _ _ _ _ _ => True) (fun _ U o U' => ∃ v L, o = .returned v ∧ QI (Int32.ofNat cs.length) h0 n0 v U'.heap L ∧ FrameEnd U o U' L ({ frames := 1, cells := 0, slots := 0, locals := 13 } : Room).cells ({ frames := 1, cells := 0, slots := 0, locals := 13 } : Room).slots) := by
  obtain ⟨-, ⟨kc, hkc, SC⟩, -⟩ := D
  obtain ⟨E, hl, v, k, ns, F1, F2, ⟨cl, A, q⟩, R⟩ := S
  rcases R with ⟨rfl, rfl, -⟩ | ⟨rfl, rfl, -⟩
  · exact rm6 l Z a0 hw ws a1 v cl _ kc 0 _ h0 n0 Z0 F1 A (own_avz q (by omega)).1 (own_avz q (by omega)).2 E SC hkc F2 (by decide) (own_sh0 _)
  · have e := own_fml cs
    exact rm6 l Z a0 hw ws a1 v cl _ kc 1 _ h0 n0 Z0 F1 A (own_avz q (by omega)).1 (own_avz q (by omega)).2 E SC hkc F2 (by decide) (by rw [e, own_shr _ (by omega)]; congr 1; omega)
theorem d24_0 : decode jdk_43_method_2_code 0 = .ok (.iload_n 1, 1) := by decide +kernel
theorem d24_1 : decode jdk_43_method_2_code 1 = .ok (.aload_n 0, 1) := by decide +kernel
theorem d24_2 : decode jdk_43_method_2_code 2 = .ok (.arraylength, 1) := by decide +kernel
theorem d24_3 : decode jdk_43_method_2_code 3 = .ok (.invokestatic 9, 3) := by decide +kernel
theorem d24_6 : decode jdk_43_method_2_code 6 = .ok (.aload_n 0, 1) := by decide +kernel
theorem d24_7 : decode jdk_43_method_2_code 7 = .ok (.iload_n 1, 1) := by decide +kernel
theorem d24_8 : decode jdk_43_method_2_code 8 = .ok (.baload, 1) := by decide +kernel
theorem d24_9 : decode jdk_43_method_2_code 9 = .ok (.sipush 255, 3) := by decide +kernel
theorem d24_12 : decode jdk_43_method_2_code 12 = .ok (.iand, 1) := by decide +kernel
theorem d24_13 : decode jdk_43_method_2_code 13 = .ok (.i2c, 1) := by decide +kernel
theorem d24_14 : decode jdk_43_method_2_code 14 = .ok (.ireturn, 1) := by decide +kernel
theorem pn_24 : plainName "java/lang/StringLatin1" = true := by first | (simp [plainName, overriddenIn]; done) | decide +kernel
theorem pd_24_22 : parseMethodDescriptor "(II)V" = some ⟨[.int, .int], none⟩ := by decide +kernel
theorem ef_24 (m : MethodId) (x0 : Addr) (x1 : Int32) : entryFrame m #[(.ref x0), (.int x1)] 2 = mkF m 0 #[.val (.ref x0), .val (.int x1)] [] := by first | (simp [entryFrame, mkF, argsToLocals, Value.category]; done) | rfl
set_option maxRecDepth 65536 in
set_option maxHeartbeats 40000000 in
theorem rm24 (l : Launch) (Z : State) (a0 : Array Value) (hw : ∀ d ∈ tables_1, d.before a0 Z = true) (ws : List Jvm.Cond) (a1 : Addr) (p2 : Int32) (cl_a1 : Cell) (z_a1 : Int32) (w4 : Int32) (w : RefV) (r : Int32) (h0 : Heap) (n0 : Nat) (Z0 : n0 ≤ h0.size) (Ar_a1 : Arr Z h0 a1 cl_a1 .byte) (S_a1 : cl_a1.slots.size = z_a1.toNatClampNeg) (N_a1 : ¬ z_a1 < 0) (hin8 : ¬ (p2 < 0 ∨ cl_a1.slots.size ≤ (p2).toNatClampNeg)) (hat8 : cl_a1.slots[(p2).toNatClampNeg]? = some (.int w4)) (SIO : Sta Z h0 "jdk/internal/util/Preconditions" "SIOOBE_FORMATTER" "Ljava/util/function/BiFunction;" w.v) (hc1 : ¬ (p2 < (0 : Int32))) (hc6 : p2 < z_a1) (hv : ((w4 &&& (255 : Int32)).toUInt32.toUInt16.toUInt32.toInt32) = r) :
    MetFree l (⟨"java/lang/StringLatin1", "charAt", "([BI)C"⟩ : MethodName) (head1 (Jvm.Cond.code (⟨"java/lang/StringLatin1", "charAt", "([BI)C"⟩ : MethodName) jdk_43_method_2_code 2 (some .char) :: ws) ({ frames := 2, cells := 0, slots := 0, locals := 27 } : Room)) (fun a U => a = #[(.ref a1), (.int p2)] ∧ Z.Warmed39 U.vm ∧ U.heap = h0) (fun _ _ _ _ _ => True) (fun _ U o U' => ∃ v L, o = .returned v ∧ QI r h0 n0 v U'.heap L ∧ FrameEnd U o U' L ({ frames := 2, cells := 0, slots := 0, locals := 27 } : Room).cells ({ frames := 2, cells := 0, slots := 0, locals := 27 } : Room).slots) := by
  refine MetFree.of_bodySF (plainFor_of_name pn_24) hisR ?_
  intro p e s m args below meth c s₁ Bd hml0 hP hK
  obtain ⟨rfl, hZ, hh⟩ := hP
  have hx := Bd.exec
  have hby := Bd.bytes
  have hml : c.maxLocals = 2 := hml0
  have hown : s.vm.findClass "java/lang/StringLatin1" = some m.cls := findClass_of_methodNamed Bd.named
  have hnm := (name_of_methodNamed Bd.named Bd.method).1
  have X0 : Stand p l e ({ frames := 2, cells := 0, slots := 0, locals := 27 } : Room) s m #[(.ref a1), (.int p2)] below meth c s₁ [] 0 0 := Stand.of_body Bd
  have e0 : s₁.heap = h0 := by rw [← hh, Bd.state]; rfl
  have N0 := Fr.nil n0
  have pre0 : ∀ t, Steps p.tables e below (s₁.setTop (mkF m 0 #[.val (.ref a1), .val (.int p2)] [])) t → Steps p.tables e below (s₁.setTop (entryFrame m #[(.ref a1), (.int p2)] 2)) t := fun t k => castTop (ef_24 m a1 p2) k
  -- 3. LAWS
  -- pc 3: java/lang/String.checkIndex by its contract rm25
  obtain ⟨_, _, ⟨T3, L3, k3, n3⟩, -, X3, ⟨Lc3, hQ3, l3, y3, z3⟩, st3⟩ := Jvm.LawKit.callS X0 hx (y := (⟨"java/lang/String", "checkIndex", "(II)V"⟩ : MethodName)) hown (mvT hZ (hw _ (List.mem_of_getElem? (i := 110) rfl))) (mvT hZ (hw _ (List.mem_of_getElem? (i := 111) rfl))) (mvT hZ (hw _ (List.mem_of_getElem? (i := 8) rfl))) (mvT hZ (hw _ (List.mem_of_getElem? (i := 112) rfl))) (by decide) (backOf (W := 0) (rm25 l Z a0 hw [] p2 z_a1 w h0 n0 Z0 SIO hc1 hc6) hZ (hw _ (List.mem_of_getElem? (i := 112) rfl)) (hw _ (List.mem_of_getElem? (i := 8) rfl)) (by decide) (by decide)) (g := (mkF m 3 #[.val (.ref a1), .val (.int p2)] [(.int z_a1), (.int p2)])) rfl (by rw [hml]; rfl) (argsL := [(.int p2), (.int z_a1)]) (rest := []) (lenOf pd_24_22 rfl) rfl (by show 2 * 0 + _ ≤ _; exact Nat.le_of_eq rfl) (hb hby d24_3) (fun _ _ => ⟨rfl, e0, (by decide : 0 + 0 ≤ _), (by decide : 0 + 0 ≤ _)⟩)
  dsimp only [Pt.U, Pt.locs, Pt.cells, Pt.slots] at X3 l3 y3 z3 st3 hQ3
  subst l3 y3 z3
  obtain ⟨rfl, N3q, eq3⟩ := hQ3
  have N3 := Fr.app N0 N3q
  -- ✋ yours: Ar_a1 must speak of T3.heap here (carried over the writes ahead of it)
  obtain ⟨fs, hr, hrun, hended, hW, hsame⟩ := X3.leave (v := some (.int ((w4 &&& (255 : Int32)).toUInt32.toUInt16.toUInt32.toInt32))) (fun h => by rw [Bd.returns] at h; cases h)
  refine ⟨_, _, pre0 _ ?_, hrun, hended, _, _, rfl, ?_, ⟨_, rfl⟩, hW, hsame.mono (by decide) (by decide)⟩
  -- 4. STEPS
  · show Steps p.tables e below (s₁.setTop (mkF m 0 #[.val (.ref a1), .val (.int p2)] [])) _
    refine XS.iloadN X0.here hx rfl (hb hby d24_0) rfl ?_
    refine XS.aloadN X0.here hx rfl (hb hby d24_1) rfl rfl ?_
    show Steps p.tables e below (s₁.setTop (mkF m 2 #[.val (.ref a1), .val (.int p2)] [(.ref a1), (.int p2)])) _
    refine X0.arraylength hx (by rw [e0]; exact Ar_a1.1) (State.isArrayOf_alike hZ.alike Ar_a1.2.1) (g := (mkF m 2 #[.val (.ref a1), .val (.int p2)] [(.ref a1), (.int p2)])) rfl rfl (hb hby d24_2) _ ?_
    rw [len_of S_a1 N_a1]
    refine st3 _ ?_
    refine XS.aloadN X3.here hx rfl (hb hby d24_6) rfl rfl ?_
    refine XS.iloadN X3.here hx rfl (hb hby d24_7) rfl ?_
    show Steps p.tables e below (T3.setTop (mkF m 8 #[.val (.ref a1), .val (.int p2)] [(.int p2), (.ref a1)])) _
    refine X3.baloadBytes hx (j := p2) (v := (.int w4)) (by rw [eq3]; exact Ar_a1.1) (State.isArrayOf_alike hZ.alike Ar_a1.2.1) Ar_a1.2.2 hin8 hat8 (g := (mkF m 8 #[.val (.ref a1), .val (.int p2)] [(.int p2), (.ref a1)])) rfl rfl (hb hby d24_8) _ ?_
    refine XS.sipush X3.here hx rfl (hb hby d24_9) ?_
    refine XS.iand X3.here hx rfl (hb hby d24_12) rfl ?_
    refine XS.i2c X3.here hx rfl (hb hby d24_13) rfl ?_
    show Steps p.tables e below (T3.setTop (mkF m 14 #[.val (.ref a1), .val (.int p2)] [(.int ((w4 &&& (255 : Int32)).toUInt32.toUInt16.toUInt32.toInt32))])) _
    exact retN X3 hx (t := .char) Bd.returns (by simp) (hb hby d24_14) (by rw [own_narc]; exact hr)
  · show QI r h0 n0 _ T3.heap _
    exact ⟨by rw [hv], N3, eq3⟩
theorem d35_0 : decode jdk_52_method_83_code 0 = .ok (.iload_n 1, 1) := by decide +kernel
theorem d35_1 : decode jdk_52_method_83_code 1 = .ok (.aload_n 0, 1) := by decide +kernel
theorem d35_2 : decode jdk_52_method_83_code 2 = .ok (.invokestatic 67, 3) := by decide +kernel
theorem d35_5 : decode jdk_52_method_83_code 5 = .ok (.aload_n 0, 1) := by decide +kernel
theorem d35_6 : decode jdk_52_method_83_code 6 = .ok (.iload_n 1, 1) := by decide +kernel
theorem d35_7 : decode jdk_52_method_83_code 7 = .ok (.invokestatic 71, 3) := by decide +kernel
theorem d35_10 : decode jdk_52_method_83_code 10 = .ok (.ireturn, 1) := by decide +kernel
theorem pn_35 : plainName "java/lang/StringUTF16" = true := by first | (simp [plainName, overriddenIn]; done) | decide +kernel
theorem pd_35_29 : parseMethodDescriptor "(I[B)V" = some ⟨[.int, (.array .byte)], none⟩ := by decide +kernel
theorem pd_35_21 : parseMethodDescriptor "([BI)C" = some ⟨[(.array .byte), .int], some .char⟩ := by decide +kernel
theorem ef_35 (m : MethodId) (x0 : Addr) (x1 : Int32) : entryFrame m #[(.ref x0), (.int x1)] 2 = mkF m 0 #[.val (.ref x0), .val (.int x1)] [] := by first | (simp [entryFrame, mkF, argsToLocals, Value.category]; done) | rfl
set_option maxRecDepth 65536 in
set_option maxHeartbeats 40000000 in
theorem rm35 (l : Launch) (Z : State) (a0 : Array Value) (hw : ∀ d ∈ tables_1, d.before a0 Z = true) (ws : List Jvm.Cond) (a1 : Addr) (i : Nat) (cl : Cell) (ns : List Nat) (lo hi : Nat) (w : RefV) (h0 : Heap) (n0 : Nat) (Z0 : n0 ≤ h0.size) (A : Arr Z h0 a1 cl .byte) (q : cl.slots.toList = ns.map (fun n => Value.int (b8 n))) (D : Wd Z h0) (SIO : Sta Z h0 "jdk/internal/util/Preconditions" "SIOOBE_FORMATTER" "Ljava/util/function/BiFunction;" w.v) (hl : ns.length < 128) (q1 : ns[2 * i]? = some lo) (q2 : ns[2 * i + 1]? = some hi) (l1 : lo < 256) (l2 : hi < 256) (hc1 : ¬ (Int32.ofNat i < (0 : Int32))) (hc6 : Int32.ofNat i < ((Int32.ofNat ns.length) >>> ((1 : Int32) &&& 31))) (hr2 : nar .char (Int32.ofNat (256 * hi + lo)) = Int32.ofNat (256 * hi + lo)) :
    MetFree l (⟨"java/lang/StringUTF16", "charAt", "([BI)C"⟩ : MethodName) (head1 (Jvm.Cond.code (⟨"java/lang/StringUTF16", "charAt", "([BI)C"⟩ : MethodName) jdk_52_method_83_code 2 (some .char) :: ws) ({ frames := 3, cells := 0, slots := 0, locals := 40 } : Room)) (fun a U => a = #[(.ref a1), (.int (Int32.ofNat i))] ∧ Z.Warmed39 U.vm ∧ U.heap = h0) (fun _ _ _ _ _ => True) (fun _ U o U' => ∃ v L, o = .returned v ∧ QI (Int32.ofNat (256 * hi + lo)) h0 n0 v U'.heap L ∧ FrameEnd U o U' L ({ frames := 3, cells := 0, slots := 0, locals := 40 } : Room).cells ({ frames := 3, cells := 0, slots := 0, locals := 40 } : Room).slots) := by
  refine MetFree.of_bodySF (plainFor_of_name pn_35) hisR ?_
  intro p e s m args below meth c s₁ Bd hml0 hP hK
  obtain ⟨rfl, hZ, hh⟩ := hP
  have hx := Bd.exec
  have hby := Bd.bytes
  have hml : c.maxLocals = 2 := hml0
  have hown : s.vm.findClass "java/lang/StringUTF16" = some m.cls := findClass_of_methodNamed Bd.named
  have hnm := (name_of_methodNamed Bd.named Bd.method).1
  have X0 : Stand p l e ({ frames := 3, cells := 0, slots := 0, locals := 40 } : Room) s m #[(.ref a1), (.int (Int32.ofNat i))] below meth c s₁ [] 0 0 := Stand.of_body Bd
  have e0 : s₁.heap = h0 := by rw [← hh, Bd.state]; rfl
  have N0 := Fr.nil n0
  have pre0 : ∀ t, Steps p.tables e below (s₁.setTop (mkF m 0 #[.val (.ref a1), .val (.int (Int32.ofNat i))] [])) t → Steps p.tables e below (s₁.setTop (entryFrame m #[(.ref a1), (.int (Int32.ofNat i))] 2)) t := fun t k => castTop (ef_35 m a1 (Int32.ofNat i)) k
  -- 3. LAWS
  -- pc 2: java/lang/StringUTF16.checkIndex by its contract rm36
  obtain ⟨_, _, ⟨T3, L3, k3, n3⟩, -, X3, ⟨Lc3, hQ3, l3, y3, z3⟩, st3⟩ := Jvm.LawKit.callS X0 hx (y := (⟨"java/lang/StringUTF16", "checkIndex", "(I[B)V"⟩ : MethodName)) hown (mvT hZ (hw _ (List.mem_of_getElem? (i := 148) rfl))) (mvT hZ (hw _ (List.mem_of_getElem? (i := 149) rfl))) (mvT hZ (hw _ (List.mem_of_getElem? (i := 94) rfl))) (mvT hZ (hw _ (List.mem_of_getElem? (i := 150) rfl))) (by decide) (backOf (W := 0) (rm36 l Z a0 hw [] (Int32.ofNat i) a1 cl (Int32.ofNat ns.length) w h0 n0 Z0 A (own_avz q (by omega)).1 (own_avz q (by omega)).2 SIO hc1 hc6) hZ (hw _ (List.mem_of_getElem? (i := 150) rfl)) (hw _ (List.mem_of_getElem? (i := 94) rfl)) (by decide) (by decide)) (g := (mkF m 2 #[.val (.ref a1), .val (.int (Int32.ofNat i))] [(.ref a1), (.int (Int32.ofNat i))])) rfl (by rw [hml]; rfl) (argsL := [(.int (Int32.ofNat i)), (.ref a1)]) (rest := []) (lenOf pd_35_29 rfl) rfl (by show 2 * 0 + _ ≤ _; exact Nat.le_of_eq rfl) (hb hby d35_2) (fun _ _ => ⟨rfl, e0, (by decide : 0 + 0 ≤ _), (by decide : 0 + 0 ≤ _)⟩)
  dsimp only [Pt.U, Pt.locs, Pt.cells, Pt.slots] at X3 l3 y3 z3 st3 hQ3
  subst l3 y3 z3
  obtain ⟨rfl, N3q, eq3⟩ := hQ3
  have N3 := Fr.app N0 N3q
  -- pc 7: java/lang/StringUTF16.getChar by its contract rm31
  obtain ⟨_, _, ⟨T4, L4, k4, n4⟩, -, X4, ⟨Lc4, hQ4, l4, y4, z4⟩, st4⟩ := Jvm.LawKit.callS X3 hx (y := (⟨"java/lang/StringUTF16", "getChar", "([BI)C"⟩ : MethodName)) hown (mvT hZ (hw _ (List.mem_of_getElem? (i := 132) rfl))) (mvT hZ (hw _ (List.mem_of_getElem? (i := 133) rfl))) (mvT hZ (hw _ (List.mem_of_getElem? (i := 94) rfl))) (mvT hZ (hw _ (List.mem_of_getElem? (i := 134) rfl))) (by decide) (backOf (W := 0) (gc l Z a0 hw [] a1 ns i lo hi T3.heap n0 (eq3 ▸ Z0) (eq3 ▸ D) (eq3 ▸ ⟨cl, A, q⟩) hl q1 q2 l1 l2) hZ (hw _ (List.mem_of_getElem? (i := 134) rfl)) (hw _ (List.mem_of_getElem? (i := 94) rfl)) (by decide) (by decide)) (g := (mkF m 7 #[.val (.ref a1), .val (.int (Int32.ofNat i))] [(.int (Int32.ofNat i)), (.ref a1)])) rfl (by rw [hml]; rfl) (argsL := [(.ref a1), (.int (Int32.ofNat i))]) (rest := []) (lenOf pd_35_21 rfl) rfl (by show 2 * 0 + _ ≤ _; exact Nat.le_of_eq rfl) (hb hby d35_7) (fun _ _ => ⟨rfl, rfl, (by decide : 0 + 0 ≤ _), (by decide : 0 + 0 ≤ _)⟩)
  dsimp only [Pt.U, Pt.locs, Pt.cells, Pt.slots] at X4 l4 y4 z4 st4 hQ4
  subst l4 y4 z4
  obtain ⟨rfl, N4q, eq4⟩ := hQ4
  have N4 := Fr.app N3 N4q
  obtain ⟨fs, hr, hrun, hended, hW, hsame⟩ := X4.leave (v := some (.int (Int32.ofNat (256 * hi + lo)))) (fun h => by rw [Bd.returns] at h; cases h)
  refine ⟨_, _, pre0 _ ?_, hrun, hended, _, _, rfl, ?_, ⟨_, rfl⟩, hW, hsame.mono (by decide) (by decide)⟩
  -- 4. STEPS
  · show Steps p.tables e below (s₁.setTop (mkF m 0 #[.val (.ref a1), .val (.int (Int32.ofNat i))] [])) _
    refine XS.iloadN X0.here hx rfl (hb hby d35_0) rfl ?_
    refine XS.aloadN X0.here hx rfl (hb hby d35_1) rfl rfl ?_
    refine st3 _ ?_
    refine XS.aloadN X3.here hx rfl (hb hby d35_5) rfl rfl ?_
    refine XS.iloadN X3.here hx rfl (hb hby d35_6) rfl ?_
    refine st4 _ ?_
    show Steps p.tables e below (T4.setTop (mkF m 10 #[.val (.ref a1), .val (.int (Int32.ofNat i))] [(.int (Int32.ofNat (256 * hi + lo)))])) _
    exact retN X4 hx (t := .char) Bd.returns (by simp) (hb hby d35_10) (by rw [hr2]; exact hr)
  · show QI (Int32.ofNat (256 * hi + lo)) h0 n0 _ T4.heap _
    exact ⟨rfl, N4, eq4.trans eq3⟩
theorem d23_0 : decode jdk_42_method_56_code 0 = .ok (.aload_n 0, 1) := by decide +kernel
theorem d23_1 : decode jdk_42_method_56_code 1 = .ok (.invokevirtual 492, 3) := by decide +kernel
theorem d23_4 : decode jdk_42_method_56_code 4 = .ok (.ifCond .eq 12, 3) := by decide +kernel
theorem d23_7 : decode jdk_42_method_56_code 7 = .ok (.aload_n 0, 1) := by decide +kernel
theorem d23_8 : decode jdk_42_method_56_code 8 = .ok (.getfield 9, 3) := by decide +kernel
theorem d23_11 : decode jdk_42_method_56_code 11 = .ok (.iload_n 1, 1) := by decide +kernel
theorem d23_12 : decode jdk_42_method_56_code 12 = .ok (.invokestatic 495, 3) := by decide +kernel
theorem d23_15 : decode jdk_42_method_56_code 15 = .ok (.ireturn, 1) := by decide +kernel
theorem pn_23 : plainName "java/lang/String" = true := by first | (simp [plainName, overriddenIn]; done) | decide +kernel
theorem pd_23_11 : parseMethodDescriptor "()Z" = some ⟨[], some .boolean⟩ := by decide +kernel
theorem pd_23_21 : parseMethodDescriptor "([BI)C" = some ⟨[(.array .byte), .int], some .char⟩ := by decide +kernel
theorem ef_23 (m : MethodId) (x0 : Addr) (x1 : Int32) : entryFrame m #[(.ref x0), (.int x1)] 2 = mkF m 0 #[.val (.ref x0), .val (.int x1)] [] := by first | (simp [entryFrame, mkF, argsToLocals, Value.category]; done) | rfl
set_option maxRecDepth 65536 in
set_option maxHeartbeats 40000000 in
theorem rm23l (l : Launch) (Z : State) (a0 : Array Value) (hw : ∀ d ∈ tables_1, d.before a0 Z = true) (ws : List Jvm.Cond) (a1 : Addr) (i : Nat) (ch : Nat) (cl : Cell) (ns : List Nat) (w : RefV) (kc : Int32) (w4 : Addr) (h0 : Heap) (n0 : Nat) (Z0 : n0 ≤ h0.size) (E_a1 : Exa Z h0 a1 "java/lang/String") (F_value_a1 : Fld Z h0 a1 "java/lang/String" "value" "[B" (.ref w4)) (D : Wd Z h0) (A : Arr Z h0 w4 cl .byte) (q : cl.slots.toList = ns.map (fun n => Value.int (b8 n))) (hl : ns.length < 128) (SIO : Sta Z h0 "jdk/internal/util/Preconditions" "SIOOBE_FORMATTER" "Ljava/util/function/BiFunction;" w.v) (SC : Sta Z h0 "java/lang/String" "COMPACT_STRINGS" "Z" (.int kc)) (hkc : ¬ (kc = 0)) (hc : ch < 65536) (FC : Fld Z h0 a1 "java/lang/String" "coder" "B" (.int 0)) (hi : i < ns.length) (hq : ns[i]? = some ch) (hc8 : ch < 256) :
    MetFree l (⟨"java/lang/String", "charAt", "(I)C"⟩ : MethodName) (head1 (Jvm.Cond.code (⟨"java/lang/String", "charAt", "(I)C"⟩ : MethodName) jdk_42_method_56_code 2 (some .char) :: ws) ({ frames := 4, cells := 0, slots := 0, locals := 53 } : Room)) (fun a U => a = #[(.ref a1), (.int (Int32.ofNat i))] ∧ Z.Warmed39 U.vm ∧ U.heap = h0) (fun _ _ _ _ _ => True) (fun _ U o U' => ∃ v L, o = .returned v ∧ QI (Int32.ofNat ch) h0 n0 v U'.heap L ∧ FrameEnd U o U' L ({ frames := 4, cells := 0, slots := 0, locals := 53 } : Room).cells ({ frames := 4, cells := 0, slots := 0, locals := 53 } : Room).slots) := by
  refine MetFree.of_bodySF (plainFor_of_name pn_23) hisR ?_
  intro p e s m args below meth c s₁ Bd hml0 hP hK
  obtain ⟨rfl, hZ, hh⟩ := hP
  have hx := Bd.exec
  have hby := Bd.bytes
  have hml : c.maxLocals = 2 := hml0
  have hown : s.vm.findClass "java/lang/String" = some m.cls := findClass_of_methodNamed Bd.named
  have hnm := (name_of_methodNamed Bd.named Bd.method).1
  have X0 : Stand p l e ({ frames := 4, cells := 0, slots := 0, locals := 53 } : Room) s m #[(.ref a1), (.int (Int32.ofNat i))] below meth c s₁ [] 0 0 := Stand.of_body Bd
  have e0 : s₁.heap = h0 := by rw [← hh, Bd.state]; rfl
  have N0 := Fr.nil n0
  have pre0 : ∀ t, Steps p.tables e below (s₁.setTop (mkF m 0 #[.val (.ref a1), .val (.int (Int32.ofNat i))] [])) t → Steps p.tables e below (s₁.setTop (entryFrame m #[(.ref a1), (.int (Int32.ofNat i))] 2)) t := fun t k => castTop (ef_23 m a1 (Int32.ofNat i)) k
  -- 3. LAWS
  -- pc 1: java/lang/String.isLatin1 by the contract of the body that the receiver's class selects, rm13
  obtain ⟨cq3, kq3, q3a, q3b, q3c⟩ := isOf hZ e0 E_a1
  obtain ⟨_, _, ⟨T3, L3, k3, n3⟩, -, X3, ⟨Lc3, hQ3, l3, y3, z3⟩, st3⟩ := X0.virtualBack hx (y := (⟨"java/lang/String", "isLatin1", "()Z"⟩ : MethodName)) (z := (⟨"java/lang/String", "isLatin1", "()Z"⟩ : MethodName)) hown (mvT hZ (hw _ (List.mem_of_getElem? (i := 62) rfl))) (mvT hZ (hw _ (List.mem_of_getElem? (i := 63) rfl))) (notFace_of_selects (args := #[]) (mvT hZ (hw _ (List.mem_of_getElem? (i := 65) rfl)))) (mvT hZ (hw _ (List.mem_of_getElem? (i := 65) rfl))) (mvT hZ (hw _ (List.mem_of_getElem? (i := 64) rfl))) (by decide) (backOf (W := 0) (rm13y l Z a0 hw [] a1 kc 0 h0 n0 Z0 SC FC hkc (by decide)) hZ (hw _ (List.mem_of_getElem? (i := 66) rfl)) (hw _ (List.mem_of_getElem? (i := 8) rfl)) (by decide) (by decide)) q3a q3c (g := (mkF m 1 #[.val (.ref a1), .val (.int (Int32.ofNat i))] [(.ref a1)])) rfl (by rw [hml]; rfl) (Steps.refl _) (argsL := []) (rest := []) (lenOf pd_23_11 rfl) rfl (by show 2 * 0 + _ ≤ _; exact Nat.le_of_eq rfl) (hb hby d23_1) (fun _ _ => ⟨rfl, e0, (by decide : 0 + 0 ≤ _), (by decide : 0 + 0 ≤ _)⟩)
  dsimp only [Pt.U, Pt.locs, Pt.cells, Pt.slots] at X3 l3 y3 z3 st3 hQ3
  subst l3 y3 z3
  obtain ⟨rfl, N3q, eq3⟩ := hQ3
  have N3 := Fr.app N0 N3q
  obtain ⟨T5, X5, e5, st5⟩ := getF X3 hx hZ hown (host := "") (Or.inl (hw _ (List.mem_of_getElem? (i := 25) rfl))) Via.refl rfl (F_value_a1.keep (own_same eq3 (ws := [])) (by simp)) (g := (mkF m 8 #[.val (.ref a1), .val (.int (Int32.ofNat i))] [(.ref a1)])) rfl rfl (hb hby d23_8)
  -- pc 12: java/lang/StringLatin1.charAt by its contract rm24
  obtain ⟨_, _, ⟨T6, L6, k6, n6⟩, -, X6, ⟨Lc6, hQ6, l6, y6, z6⟩, st6⟩ := Jvm.LawKit.callS X5 hx (y := (⟨"java/lang/StringLatin1", "charAt", "([BI)C"⟩ : MethodName)) hown (mvT hZ (hw _ (List.mem_of_getElem? (i := 107) rfl))) (mvT hZ (hw _ (List.mem_of_getElem? (i := 108) rfl))) (mvT hZ (hw _ (List.mem_of_getElem? (i := 69) rfl))) (mvT hZ (hw _ (List.mem_of_getElem? (i := 109) rfl))) (by decide) (backOf (W := 0) (rm24 l Z a0 hw [] w4 (Int32.ofNat i) cl (Int32.ofNat ns.length) (b8 ch) w (Int32.ofNat ch) T3.heap n0 (eq3 ▸ Z0) (eq3 ▸ A) (own_avz q (by omega)).1 (own_avz q (by omega)).2 (own_avi q hi (by omega)) (own_avn q hq (by omega)) (eq3 ▸ SIO) (own_n i (by omega)).2 (own_lt hi (by omega)) (own_get1 ch hc8)) hZ (hw _ (List.mem_of_getElem? (i := 109) rfl)) (hw _ (List.mem_of_getElem? (i := 69) rfl)) (by decide) (by decide)) (g := (mkF m 12 #[.val (.ref a1), .val (.int (Int32.ofNat i))] [(.int (Int32.ofNat i)), (.ref w4)])) rfl (by rw [hml]; rfl) (argsL := [(.ref w4), (.int (Int32.ofNat i))]) (rest := []) (lenOf pd_23_21 rfl) rfl (by show 2 * 0 + _ ≤ _; exact Nat.le_of_eq rfl) (hb hby d23_12) (fun _ _ => ⟨rfl, e5, (by decide : 0 + 0 ≤ _), (by decide : 0 + 0 ≤ _)⟩)
  dsimp only [Pt.U, Pt.locs, Pt.cells, Pt.slots] at X6 l6 y6 z6 st6 hQ6
  subst l6 y6 z6
  obtain ⟨rfl, N6q, eq6⟩ := hQ6
  have N6 := Fr.app N3 N6q
  obtain ⟨fs, hr, hrun, hended, hW, hsame⟩ := X6.leave (v := some (.int (Int32.ofNat ch))) (fun h => by rw [Bd.returns] at h; cases h)
  refine ⟨_, _, pre0 _ ?_, hrun, hended, _, _, rfl, ?_, ⟨_, rfl⟩, hW, hsame.mono (by decide) (by decide)⟩
  -- 4. STEPS
  · show Steps p.tables e below (s₁.setTop (mkF m 0 #[.val (.ref a1), .val (.int (Int32.ofNat i))] [])) _
    refine XS.aloadN X0.here hx rfl (hb hby d23_0) rfl rfl ?_
    refine st3.trans ?_
    refine XS.ifNo X3.here hx rfl (hb hby d23_4) rfl ((if0 _ _).trans (feq (by decide : ¬ ((1 : Int32) = (0 : Int32)))).1) ?_
    refine XS.aloadN X3.here hx rfl (hb hby d23_7) rfl rfl ?_
    refine st5 _ ?_
    refine XS.iloadN X5.here hx rfl (hb hby d23_11) rfl ?_
    refine st6 _ ?_
    show Steps p.tables e below (T6.setTop (mkF m 15 #[.val (.ref a1), .val (.int (Int32.ofNat i))] [(.int (Int32.ofNat ch))])) _
    exact retN X6 hx (t := .char) Bd.returns (by simp) (hb hby d23_15) (by rw [own_nc ch hc]; exact hr)
  · show QI (Int32.ofNat ch) h0 n0 _ T6.heap _
    exact ⟨rfl, N6, eq6.trans eq3⟩
theorem d23_16 : decode jdk_42_method_56_code 16 = .ok (.aload_n 0, 1) := by decide +kernel
theorem d23_17 : decode jdk_42_method_56_code 17 = .ok (.getfield 9, 3) := by decide +kernel
theorem d23_20 : decode jdk_42_method_56_code 20 = .ok (.iload_n 1, 1) := by decide +kernel
theorem d23_21 : decode jdk_42_method_56_code 21 = .ok (.invokestatic 498, 3) := by decide +kernel
theorem d23_24 : decode jdk_42_method_56_code 24 = .ok (.ireturn, 1) := by decide +kernel
set_option maxRecDepth 65536 in
set_option maxHeartbeats 40000000 in
theorem rm23u (l : Launch) (Z : State) (a0 : Array Value) (hw : ∀ d ∈ tables_1, d.before a0 Z = true) (ws : List Jvm.Cond) (a1 : Addr) (i : Nat) (ch : Nat) (cl : Cell) (ns : List Nat) (w : RefV) (kc : Int32) (w4 : Addr) (h0 : Heap) (n0 : Nat) (Z0 : n0 ≤ h0.size) (E_a1 : Exa Z h0 a1 "java/lang/String") (F_value_a1 : Fld Z h0 a1 "java/lang/String" "value" "[B" (.ref w4)) (D : Wd Z h0) (A : Arr Z h0 w4 cl .byte) (q : cl.slots.toList = ns.map (fun n => Value.int (b8 n))) (hl : ns.length < 128) (SIO : Sta Z h0 "jdk/internal/util/Preconditions" "SIOOBE_FORMATTER" "Ljava/util/function/BiFunction;" w.v) (SC : Sta Z h0 "java/lang/String" "COMPACT_STRINGS" "Z" (.int kc)) (hkc : ¬ (kc = 0)) (hc : ch < 65536) (FC : Fld Z h0 a1 "java/lang/String" "coder" "B" (.int 1)) (hi : 2 * i + 1 < ns.length) (hl2 : ns.length < 64) (q1 : ns[2 * i]? = some (ch % 256)) (q2 : ns[2 * i + 1]? = some (ch / 256)) :
    MetFree l (⟨"java/lang/String", "charAt", "(I)C"⟩ : MethodName) (head1 (Jvm.Cond.code (⟨"java/lang/String", "charAt", "(I)C"⟩ : MethodName) jdk_42_method_56_code 2 (some .char) :: ws) ({ frames := 4, cells := 0, slots := 0, locals := 53 } : Room)) (fun a U => a = #[(.ref a1), (.int (Int32.ofNat i))] ∧ Z.Warmed39 U.vm ∧ U.heap = h0) (fun _ _ _ _ _ => True) (fun _ U o U' => ∃ v L, o = .returned v ∧ QI (Int32.ofNat ch) h0 n0 v U'.heap L ∧ FrameEnd U o U' L ({ frames := 4, cells := 0, slots := 0, locals := 53 } : Room).cells ({ frames := 4, cells := 0, slots := 0, locals := 53 } : Room).slots) := by
  refine MetFree.of_bodySF (plainFor_of_name pn_23) hisR ?_
  intro p e s m args below meth c s₁ Bd hml0 hP hK
  obtain ⟨rfl, hZ, hh⟩ := hP
  have hx := Bd.exec
  have hby := Bd.bytes
  have hml : c.maxLocals = 2 := hml0
  have hown : s.vm.findClass "java/lang/String" = some m.cls := findClass_of_methodNamed Bd.named
  have hnm := (name_of_methodNamed Bd.named Bd.method).1
  have X0 : Stand p l e ({ frames := 4, cells := 0, slots := 0, locals := 53 } : Room) s m #[(.ref a1), (.int (Int32.ofNat i))] below meth c s₁ [] 0 0 := Stand.of_body Bd
  have e0 : s₁.heap = h0 := by rw [← hh, Bd.state]; rfl
  have N0 := Fr.nil n0
  have pre0 : ∀ t, Steps p.tables e below (s₁.setTop (mkF m 0 #[.val (.ref a1), .val (.int (Int32.ofNat i))] [])) t → Steps p.tables e below (s₁.setTop (entryFrame m #[(.ref a1), (.int (Int32.ofNat i))] 2)) t := fun t k => castTop (ef_23 m a1 (Int32.ofNat i)) k
  -- 3. LAWS
  -- pc 1: java/lang/String.isLatin1 by the contract of the body that the receiver's class selects, rm13
  obtain ⟨cq3, kq3, q3a, q3b, q3c⟩ := isOf hZ e0 E_a1
  obtain ⟨_, _, ⟨T3, L3, k3, n3⟩, -, X3, ⟨Lc3, hQ3, l3, y3, z3⟩, st3⟩ := X0.virtualBack hx (y := (⟨"java/lang/String", "isLatin1", "()Z"⟩ : MethodName)) (z := (⟨"java/lang/String", "isLatin1", "()Z"⟩ : MethodName)) hown (mvT hZ (hw _ (List.mem_of_getElem? (i := 62) rfl))) (mvT hZ (hw _ (List.mem_of_getElem? (i := 63) rfl))) (notFace_of_selects (args := #[]) (mvT hZ (hw _ (List.mem_of_getElem? (i := 65) rfl)))) (mvT hZ (hw _ (List.mem_of_getElem? (i := 65) rfl))) (mvT hZ (hw _ (List.mem_of_getElem? (i := 64) rfl))) (by decide) (backOf (W := 0) (rm13n l Z a0 hw [] a1 kc 1 h0 n0 Z0 SC FC hkc (by decide)) hZ (hw _ (List.mem_of_getElem? (i := 66) rfl)) (hw _ (List.mem_of_getElem? (i := 8) rfl)) (by decide) (by decide)) q3a q3c (g := (mkF m 1 #[.val (.ref a1), .val (.int (Int32.ofNat i))] [(.ref a1)])) rfl (by rw [hml]; rfl) (Steps.refl _) (argsL := []) (rest := []) (lenOf pd_23_11 rfl) rfl (by show 2 * 0 + _ ≤ _; exact Nat.le_of_eq rfl) (hb hby d23_1) (fun _ _ => ⟨rfl, e0, (by decide : 0 + 0 ≤ _), (by decide : 0 + 0 ≤ _)⟩)
  dsimp only [Pt.U, Pt.locs, Pt.cells, Pt.slots] at X3 l3 y3 z3 st3 hQ3
  subst l3 y3 z3
  obtain ⟨rfl, N3q, eq3⟩ := hQ3
  have N3 := Fr.app N0 N3q
  obtain ⟨T5, X5, e5, st5⟩ := getF X3 hx hZ hown (host := "") (Or.inl (hw _ (List.mem_of_getElem? (i := 25) rfl))) Via.refl rfl (F_value_a1.keep (own_same eq3 (ws := [])) (by simp)) (g := (mkF m 17 #[.val (.ref a1), .val (.int (Int32.ofNat i))] [(.ref a1)])) rfl rfl (hb hby d23_17)
  -- pc 21: java/lang/StringUTF16.charAt by its contract rm35
  obtain ⟨_, _, ⟨T6, L6, k6, n6⟩, -, X6, ⟨Lc6, hQ6, l6, y6, z6⟩, st6⟩ := Jvm.LawKit.callS X5 hx (y := (⟨"java/lang/StringUTF16", "charAt", "([BI)C"⟩ : MethodName)) hown (mvT hZ (hw _ (List.mem_of_getElem? (i := 145) rfl))) (mvT hZ (hw _ (List.mem_of_getElem? (i := 146) rfl))) (mvT hZ (hw _ (List.mem_of_getElem? (i := 94) rfl))) (mvT hZ (hw _ (List.mem_of_getElem? (i := 147) rfl))) (by decide) (backOf (W := 0) (rm35 l Z a0 hw [] w4 i cl ns (ch % 256) (ch / 256) w T3.heap n0 (eq3 ▸ Z0) (eq3 ▸ A) q (eq3 ▸ D) (eq3 ▸ SIO) hl q1 q2 (Nat.mod_lt _ (by decide)) (Nat.div_lt_of_lt_mul hc) (own_n i (by omega)).2 (by rw [own_shr _ (by omega)]; exact own_lt (by omega) (by omega)) (by rw [own_dm]; exact own_nc ch hc)) hZ (hw _ (List.mem_of_getElem? (i := 147) rfl)) (hw _ (List.mem_of_getElem? (i := 94) rfl)) (by decide) (by decide)) (g := (mkF m 21 #[.val (.ref a1), .val (.int (Int32.ofNat i))] [(.int (Int32.ofNat i)), (.ref w4)])) rfl (by rw [hml]; rfl) (argsL := [(.ref w4), (.int (Int32.ofNat i))]) (rest := []) (lenOf pd_23_21 rfl) rfl (by show 2 * 0 + _ ≤ _; exact Nat.le_of_eq rfl) (hb hby d23_21) (fun _ _ => ⟨rfl, e5, (by decide : 0 + 0 ≤ _), (by decide : 0 + 0 ≤ _)⟩)
  dsimp only [Pt.U, Pt.locs, Pt.cells, Pt.slots] at X6 l6 y6 z6 st6 hQ6
  subst l6 y6 z6
  rw [own_dm] at hQ6
  obtain ⟨rfl, N6q, eq6⟩ := hQ6
  have N6 := Fr.app N3 N6q
  obtain ⟨fs, hr, hrun, hended, hW, hsame⟩ := X6.leave (v := some (.int (Int32.ofNat ch))) (fun h => by rw [Bd.returns] at h; cases h)
  refine ⟨_, _, pre0 _ ?_, hrun, hended, _, _, rfl, ?_, ⟨_, rfl⟩, hW, hsame.mono (by decide) (by decide)⟩
  -- 4. STEPS
  · show Steps p.tables e below (s₁.setTop (mkF m 0 #[.val (.ref a1), .val (.int (Int32.ofNat i))] [])) _
    refine XS.aloadN X0.here hx rfl (hb hby d23_0) rfl rfl ?_
    refine st3.trans ?_
    refine XS.ifYes X3.here hx rfl (pc0 := 4) (pc' := 16) rfl (hb hby d23_4) rfl ((if0 _ _).trans (teq (by decide : (0 : Int32) = (0 : Int32))).1) (by decide) (by decide) ?_
    refine XS.aloadN X3.here hx rfl (hb hby d23_16) rfl rfl ?_
    refine st5 _ ?_
    refine XS.iloadN X5.here hx rfl (hb hby d23_20) rfl ?_
    refine st6 _ ?_
    show Steps p.tables e below (T6.setTop (mkF m 24 #[.val (.ref a1), .val (.int (Int32.ofNat i))] [(.int (Int32.ofNat ch))])) _
    exact retN X6 hx (t := .char) Bd.returns (by simp) (hb hby d23_24) (by rw [own_nc ch hc]; exact hr)
  · show QI (Int32.ofNat ch) h0 n0 _ T6.heap _
    exact ⟨rfl, N6, eq6.trans eq3⟩
theorem chat (l : Launch) (Z : State) (a0 : Array Value) (hw : ∀ d ∈ tables_1, d.before a0 Z = true) (ws : List Jvm.Cond) (a1 : Addr) (i : Nat) (ch : Nat) (cs : List Nat) (h0 : Heap) (n0 : Nat) (Z0 : n0 ≤ h0.size) (D : Wd Z h0) (S : Str Z h0 a1 cs) (hq : cs[i]? = some ch) :
    MetFree l (⟨"java/lang/String", "charAt", "(I)C"⟩ : MethodName) (head1 (Jvm.Cond.code (⟨"java/lang/String", "charAt", "(I)C"⟩ : MethodName) jdk_42_method_56_code 2 (some .char) :: ws) ({ frames := 4, cells := 0, slots := 0, locals := 53 } : Room)) (fun a U => a = #[(.ref a1), (.int (Int32.ofNat i))] ∧ Z.Warmed39 U.vm ∧ U.heap = h0) (fun _ _ _ _ _ => True) (fun _ U o U' => ∃ v L, o = .returned v ∧ QI (Int32.ofNat ch) h0 n0 v U'.heap L ∧ FrameEnd U o U' L ({ frames := 4, cells := 0, slots := 0, locals := 53 } : Room).cells ({ frames := 4, cells := 0, slots := 0, locals := 53 } : Room).slots) := by
  have D' := D
  obtain ⟨⟨w, SIO⟩, ⟨kc, hkc, SC⟩, -⟩ := D'
  obtain ⟨E, hl, v, k, ns, F1, F2, ⟨cl, A, q⟩, R⟩ := S
  have hi : i < cs.length := (List.getElem?_eq_some_iff.mp hq).1
  have hm : ch ∈ cs := List.mem_of_getElem? hq
  rcases R with ⟨rfl, rfl, hb⟩ | ⟨rfl, rfl, hb, -⟩
  · exact rm23l l Z a0 hw ws a1 i ch cl _ w kc v h0 n0 Z0 E F1 D A q (by omega) SIO SC hkc (Nat.lt_trans (hb _ hm) (by decide)) F2 hi hq (hb _ hm)
  · have e := own_fml cs
    have g := own_fmg cs i ch hq
    exact rm23u l Z a0 hw ws a1 i ch cl _ w kc v h0 n0 Z0 E F1 D A q (by omega) SIO SC hkc (hb _ hm) F2 (by omega) (by omega) g.1 g.2
/-- first place above 255 -/
theorem own_first (cs : List Nat) : (∀ c ∈ cs, c < 256) ∨ ∃ j ch : Nat, cs[j]? = some ch ∧ 255 < ch ∧ ∀ i c : Nat, i < j → cs[i]? = some c → c < 256 := by
  induction cs with
  | nil => left; intro c h; cases h
  | cons d r ih =>
    by_cases hd : d < 256
    · rcases ih with h | ⟨j, ch, h1, h2, h3⟩
      · left; intro c hc
        rcases List.mem_cons.mp hc with rfl | hc
        · exact hd
        · exact h c hc
      · right
        refine ⟨j + 1, ch, by simpa using h1, h2, fun i c hi hc => ?_⟩
        cases i with
        | zero => simp at hc; omega
        | succ i => exact h3 i c (by omega) (by simpa using hc)
    · right; exact ⟨0, d, rfl, by omega, fun i c hi => by omega⟩
def blit (ds : List Nat) (off : Nat) : List Nat → List Nat
  | [] => ds
  | c :: r => blit (ds.set off c) (off + 1) r
def put2 (ns : List Nat) (i : Nat) : List Nat → List Nat
  | [] => ns
  | c :: r => put2 ((ns.set (2 * i) (c % 256)).set (2 * i + 1) (c / 256)) (i + 1) r
theorem own_blen (ds : List Nat) (off : Nat) (r : List Nat) : (blit ds off r).length = ds.length := by
  induction r generalizing ds off with
  | nil => rfl
  | cons c r ih => rw [blit, ih, List.length_set]
theorem own_plen (ns : List Nat) (i : Nat) (r : List Nat) : (put2 ns i r).length = ns.length := by
  induction r generalizing ns i with
  | nil => rfl
  | cons c r ih => rw [put2, ih, List.length_set, List.length_set]
theorem own_blz (pre r post : List Nat) : blit (pre ++ List.replicate r.length 0 ++ post) pre.length r = pre ++ r ++ post := by
  induction r generalizing pre with
  | nil => rfl
  | cons c r ih =>
    have e : (pre ++ List.replicate (c :: r).length 0 ++ post).set pre.length c = (pre ++ [c]) ++ List.replicate r.length 0 ++ post := by
      rw [List.length_cons, List.replicate_succ]; simp
    rw [blit, e]
    have := ih (pre ++ [c])
    rw [List.length_append] at this
    simpa using this
theorem own_ptz (pre r : List Nat) (i : Nat) (hi : pre.length = 2 * i) : put2 (pre ++ List.replicate (2 * r.length) 0) i r = pre ++ r.flatMap (fun c => [c % 256, c / 256]) := by
  induction r generalizing pre i with
  | nil => simp [put2]
  | cons c r ih =>
    have e : ((pre ++ List.replicate (2 * (c :: r).length) 0).set (2 * i) (c % 256)).set (2 * i + 1) (c / 256) = (pre ++ [c % 256, c / 256]) ++ List.replicate (2 * r.length) 0 := by
      rw [show 2 * (c :: r).length = 2 * r.length + 1 + 1 by simp; omega, List.replicate_succ, List.replicate_succ, ← hi]
      simp [List.set_append]
    rw [put2, e, ih _ _ (by simp; omega)]
    simp
theorem own_bl0 (r : List Nat) : blit (List.replicate r.length 0) 0 r = r := by simpa using own_blz [] r []
theorem own_pt0 (r : List Nat) : put2 (List.replicate (2 * r.length) 0) 0 r = r.flatMap (fun c => [c % 256, c / 256]) := by simpa using own_ptz [] r 0 rfl
-- Int32 on small naturals
theorem own_tn (n : Nat) (h : n < 2147483648) : (Int32.ofNat n).toBitVec.toNat = n := by
  show (BitVec.ofNat 32 n).toNat = n
  rw [BitVec.toNat_ofNat]; omega
theorem own_inj {x y : Int32} (h : x.toBitVec.toNat = y.toBitVec.toNat) : x = y := Int32.toBitVec_inj.1 (BitVec.eq_of_toNat_eq h)
theorem own_or (a b k : Nat) (hb : b < 2 ^ k) (h : a * 2 ^ k + b < 2147483648) : Int32.ofNat (a * 2 ^ k) ||| Int32.ofNat b = Int32.ofNat (a * 2 ^ k + b) := by
  have h1 : a * 2 ^ k < 2147483648 := by omega
  have h2 : b < 2147483648 := by omega
  apply own_inj
  show (Int32.ofNat (a * 2 ^ k)).toBitVec.toNat ||| (Int32.ofNat b).toBitVec.toNat = _
  rw [own_tn _ h1, own_tn _ h2, own_tn _ h, ← Nat.shiftLeft_eq, Nat.shiftLeft_add_eq_or_of_lt hb]
theorem own_and (a k : Nat) (hk : k < 31) (h : a < 2147483648) : Int32.ofNat a &&& Int32.ofNat (2 ^ k - 1) = Int32.ofNat (a % 2 ^ k) := by
  have hp : 2 ^ k ≤ 2 ^ 30 := Nat.pow_le_pow_right (by decide) (by omega)
  have h1 : 2 ^ k - 1 < 2147483648 := by omega
  have h2 : a % 2 ^ k < 2147483648 := Nat.lt_of_le_of_lt (Nat.mod_le _ _) h
  apply own_inj
  show (Int32.ofNat a).toBitVec.toNat &&& (Int32.ofNat (2 ^ k - 1)).toBitVec.toNat = _
  rw [own_tn _ h1, own_tn _ h2, own_tn _ h, Nat.and_two_pow_sub_one_eq_mod]
theorem own_sl (a k : Nat) (hk : k < 32) (h : a * 2 ^ k < 2147483648) (ha : a < 2147483648) : (Int32.ofNat a).toBitVec <<< k = (Int32.ofNat (a * 2 ^ k)).toBitVec := by
  apply BitVec.eq_of_toNat_eq
  rw [BitVec.toNat_shiftLeft, own_tn _ ha, own_tn _ h, Nat.shiftLeft_eq]; omega
theorem own_sr (a k : Nat) (h : a < 2147483648) : (Int32.ofNat a).toBitVec.sshiftRight k = (Int32.ofNat (a / 2 ^ k)).toBitVec := by
  have hm : (Int32.ofNat a).toBitVec.msb = false := by
    rw [BitVec.msb_eq_decide, own_tn _ h]; simp; omega
  apply BitVec.eq_of_toNat_eq
  rw [BitVec.sshiftRight_eq_of_msb_false hm, BitVec.toNat_ushiftRight, own_tn _ h, own_tn _ (Nat.lt_of_le_of_lt (Nat.div_le_self _ _) h), Nat.shiftRight_eq_div_pow]
theorem own_l16 (a : Nat) (h : a < 32768) : Int32.ofNat a <<< ((16 : Int32) &&& 31) = Int32.ofNat (a * 65536) := Int32.toBitVec_inj.1 (own_sl a 16 (by decide) (by omega) (by omega))
theorem own_l8 (a : Nat) (h : a < 32768) : Int32.ofNat a <<< ((8 : Int32) &&& 31) = Int32.ofNat (a * 256) := Int32.toBitVec_inj.1 (own_sl a 8 (by decide) (by omega) (by omega))
theorem own_l4 (a : Nat) (h : a < 32768) : Int32.ofNat a <<< ((4 : Int32) &&& 31) = Int32.ofNat (a * 16) := Int32.toBitVec_inj.1 (own_sl a 4 (by decide) (by omega) (by omega))
theorem own_l2 (a : Nat) (h : a < 32768) : Int32.ofNat a <<< ((2 : Int32) &&& 31) = Int32.ofNat (a * 4) := Int32.toBitVec_inj.1 (own_sl a 2 (by decide) (by omega) (by omega))
theorem own_r18 (a : Nat) (h : a < 2147483648) : Int32.ofNat a >>> ((18 : Int32) &&& 31) = Int32.ofNat (a / 262144) := Int32.toBitVec_inj.1 (own_sr a 18 h)
theorem own_r12 (a : Nat) (h : a < 2147483648) : Int32.ofNat a >>> ((12 : Int32) &&& 31) = Int32.ofNat (a / 4096) := Int32.toBitVec_inj.1 (own_sr a 12 h)
theorem own_r6 (a : Nat) (h : a < 2147483648) : Int32.ofNat a >>> ((6 : Int32) &&& 31) = Int32.ofNat (a / 64) := Int32.toBitVec_inj.1 (own_sr a 6 h)
theorem own_r4 (a : Nat) (h : a < 2147483648) : Int32.ofNat a >>> ((4 : Int32) &&& 31) = Int32.ofNat (a / 16) := Int32.toBitVec_inj.1 (own_sr a 4 h)
theorem own_r2 (a : Nat) (h : a < 2147483648) : Int32.ofNat a >>> ((2 : Int32) &&& 31) = Int32.ofNat (a / 4) := Int32.toBitVec_inj.1 (own_sr a 2 h)
theorem own_a63 (a : Nat) (h : a < 2147483648) : Int32.ofNat a &&& (63 : Int32) = Int32.ofNat (a % 64) := own_and a 6 (by decide) h
theorem own_a15 (a : Nat) (h : a < 2147483648) : Int32.ofNat a &&& (15 : Int32) = Int32.ofNat (a % 16) := own_and a 4 (by decide) h
theorem own_a3 (a : Nat) (h : a < 2147483648) : Int32.ofNat a &&& (3 : Int32) = Int32.ofNat (a % 4) := own_and a 2 (by decide) h
theorem own_v3 (x y z : Nat) (hx : x < 256) (hy : y < 256) (hz : z < 256) : ((Int32.ofNat x <<< ((16 : Int32) &&& 31)) ||| (Int32.ofNat y <<< ((8 : Int32) &&& 31))) ||| Int32.ofNat z = Int32.ofNat (x * 65536 + y * 256 + z) := by
  rw [own_l16 x (by omega), own_l8 y (by omega)]
  have e1 := own_or x (y * 256) 16 (by omega) (by omega)
  rw [show (2 : Nat) ^ 16 = 65536 from rfl] at e1
  rw [e1, show x * 65536 + y * 256 = (x * 256 + y) * 2 ^ 8 by omega]
  exact own_or _ z 8 hz (by omega)
theorem own_v2 (x y : Nat) (hx : x < 256) (hy : y < 256) : (Int32.ofNat x <<< ((16 : Int32) &&& 31)) ||| (Int32.ofNat y <<< ((8 : Int32) &&& 31)) = Int32.ofNat (x * 65536 + y * 256) := by
  rw [own_l16 x (by omega), own_l8 y (by omega)]
  have e1 := own_or x (y * 256) 16 (by omega) (by omega)
  rw [show (2 : Nat) ^ 16 = 65536 from rfl] at e1
  exact e1
theorem own_v1 (x : Nat) (hx : x < 256) : (Int32.ofNat x <<< ((16 : Int32) &&& 31)) ||| (0 : Int32) = Int32.ofNat (x * 65536) := by
  rw [own_l16 x (by omega)]
  have e1 := own_or x 0 16 (by decide) (by omega)
  rw [show (2 : Nat) ^ 16 = 65536 from rfl, Nat.add_zero] at e1
  exact e1
theorem own_m4 (x y : Nat) (hx : x < 256) (hy : y < 256) : ((Int32.ofNat x &&& (3 : Int32)) <<< ((4 : Int32) &&& 31)) ||| (Int32.ofNat y >>> ((4 : Int32) &&& 31)) = Int32.ofNat (x % 4 * 16 + y / 16) := by
  rw [own_a3 x (by omega), own_l4 _ (by omega), own_r4 y (by omega)]
  exact own_or _ _ 4 (by omega) (by omega)
theorem own_m2 (x y : Nat) (hx : x < 256) (hy : y < 256) : ((Int32.ofNat x &&& (15 : Int32)) <<< ((2 : Int32) &&& 31)) ||| (Int32.ofNat y >>> ((6 : Int32) &&& 31)) = Int32.ofNat (x % 16 * 4 + y / 64) := by
  rw [own_a15 x (by omega), own_l2 _ (by omega), own_r6 y (by omega)]
  exact own_or _ _ 2 (by omega) (by omega)
theorem own_255 (x : Int32) : ∃ n, n < 256 ∧ x &&& (255 : Int32) = Int32.ofNat n := by
  refine ⟨(x &&& (255 : Int32)).toBitVec.toNat, ?_, ?_⟩
  · show (x.toBitVec.toNat &&& 255) < 256
    exact Nat.lt_of_le_of_lt Nat.and_le_right (by decide)
  · apply Int32.toBitVec_inj.1
    show _ = BitVec.ofNat 32 _
    rw [BitVec.ofNat_toNat, BitVec.setWidth_eq]
theorem own_mod (x m : Int32) (k : Nat) (hk : k ≠ 0) (hk2 : k < 256) (hx : 0 ≤ x.toInt) (hm : m.toInt = k) : ∃ n, n < k ∧ x % m = Int32.ofNat n := by
  have q : (x % m).toInt = x.toInt.tmod m.toInt := Int32.toInt_mod x m
  rw [hm] at q
  have h1 : 0 ≤ x.toInt.tmod k := Int.tmod_nonneg _ hx
  have h2 : x.toInt.tmod k < k := Int.tmod_lt_of_pos _ (by omega)
  refine ⟨(x.toInt.tmod k).toNat, by omega, ?_⟩
  apply Int32.toInt_inj.1
  rw [q, Int32.toInt_ofNat_of_lt (by omega)]; omega
theorem own_lt16 (x : Int32) : ∃ n, n < 65536 ∧ x.toUInt32.toUInt16.toUInt32.toInt32 = Int32.ofNat n := by
  refine ⟨(x.toBitVec.setWidth 16).toNat, (x.toBitVec.setWidth 16).isLt, ?_⟩
  apply Int32.toBitVec_inj.1
  show (x.toBitVec.setWidth 16).setWidth 32 = BitVec.ofNat 32 _
  apply BitVec.eq_of_toNat_eq
  rw [BitVec.toNat_ofNat, BitVec.toNat_setWidth]

def al (k : Nat) : Nat := if k < 26 then k + 65 else if k < 52 then k + 71 else if k < 62 then k - 4 else if k = 62 then 43 else 47
theorem own_al (k : Nat) (h : k < 64) : al k < 256 := by
  unfold al
  repeat' split
  all_goals omega
def qd (o : List Nat) (p x y z n : Nat) : List Nat :=
  (((o.set p (al (x / 4))).set (p + 1) (al (x % 4 * 16 + (if 1 < n then y else 0) / 16))).set (p + 2) (if 1 < n then al ((if 1 < n then y else 0) % 16 * 4 + (if 2 < n then z else 0) / 64) else 61)).set (p + 3) (if 2 < n then al ((if 2 < n then z else 0) % 64) else 61)
theorem own_qdl (o : List Nat) (p x y z n : Nat) : (qd o p x y z n).length = o.length := by simp [qd]
theorem own_q3 (o : List Nat) (q x y z : Nat) (hx : x < 256) (hy : y < 256) (hz : z < 256) : (((o.set q (al ((x * 65536 + y * 256 + z) / 262144))).set (q + 1) (al ((x * 65536 + y * 256 + z) / 4096 % 64))).set (q + 2) (al ((x * 65536 + y * 256 + z) / 64 % 64))).set (q + 3) (al ((x * 65536 + y * 256 + z) % 64)) = qd o q x y z 3 := by
  unfold qd
  rw [show (x * 65536 + y * 256 + z) / 262144 = x / 4 by omega, show (x * 65536 + y * 256 + z) / 4096 % 64 = x % 4 * 16 + y / 16 by omega, show (x * 65536 + y * 256 + z) / 64 % 64 = y % 16 * 4 + z / 64 by omega, show (x * 65536 + y * 256 + z) % 64 = z % 64 by omega]
  rfl
theorem own_q2 (o : List Nat) (q x y z : Nat) (hx : x < 256) (hy : y < 256) : (((o.set q (al ((x * 65536 + y * 256) / 262144))).set (q + 1) (al ((x * 65536 + y * 256) / 4096 % 64))).set (q + 2) (al ((x * 65536 + y * 256) / 64 % 64))).set (q + 3) 61 = qd o q x y z 2 := by
  unfold qd
  rw [show (x * 65536 + y * 256) / 262144 = x / 4 by omega, show (x * 65536 + y * 256) / 4096 % 64 = x % 4 * 16 + y / 16 by omega, show (x * 65536 + y * 256) / 64 % 64 = y % 16 * 4 by omega]
  simp
theorem own_q1 (o : List Nat) (q x y z : Nat) (hx : x < 256) : (((o.set q (al (x * 65536 / 262144))).set (q + 1) (al (x * 65536 / 4096 % 64))).set (q + 2) 61).set (q + 3) 61 = qd o q x y z 1 := by
  unfold qd
  rw [show x * 65536 / 262144 = x / 4 by omega, show x * 65536 / 4096 % 64 = x % 4 * 16 by omega]
  simp
def trn (bs : List Nat) : Nat → Nat → Nat → List Nat → List Nat
  | 0, _, _, o => o
  | t + 1, i, q, o => trn bs t (i + 3) (q + 4) (qd o q (bs.getD i 0) (bs.getD (i + 1) 0) (bs.getD (i + 2) 0) 3)
def remd (bs : List Nat) (r i q : Nat) (o : List Nat) : List Nat := if r = 0 then o else qd o q (bs.getD i 0) (bs.getD (i + 1) 0) 0 r
def encL (n sl xl : Nat) (sig bs suf : List Nat) : List Nat :=
  blit (remd bs (n - 3 * (n / 3)) (3 * (n / 3)) (sl + 4 * (n / 3)) (trn bs (n / 3) 0 sl (blit (List.replicate (sl + 4 * ((n + 2) / 3) + xl) 0) 0 sig)))
    (sl + 4 * (n / 3) + (if n - 3 * (n / 3) = 0 then 0 else 4)) suf
def ets (n x0 x1 x2 x3 x4 x5 sl : Nat) (o : List Nat) : List Nat :=
  let e1 := if 1 ≤ n then qd o sl x0 x1 x2 (min n 3) else o
  if 4 ≤ n then qd e1 (sl + (if 1 ≤ n then 4 else 0)) x3 x4 x5 (n - 3) else e1
def put (o : List Nat) (p k : Nat) (x y : Nat) : List Nat := let o1 := if 0 < k then o.set p x else o; if 1 < k then o1.set (p + 1) y else o1
def expP (n sl : Nat) : Nat := sl + (if 1 ≤ n then 4 else 0) + (if 4 ≤ n then 4 else 0)
def expL (n sl xl x0 x1 x2 x3 x4 x5 s0 s1 t0 t1 : Nat) : List Nat :=
  put (ets n x0 x1 x2 x3 x4 x5 sl (put (List.replicate 12 0) 0 sl s0 s1)) (expP n sl) xl t0 t1
theorem own_fin (n sl xl x0 x1 x2 x3 x4 x5 s0 s1 t0 t1 : Nat) (hn : n < 7) (hs : sl < 3) (hx : xl < 3) :
    encL n sl xl ([s0, s1].take sl) ([x0, x1, x2, x3, x4, x5].take n) ([t0, t1].take xl) = (expL n sl xl x0 x1 x2 x3 x4 x5 s0 s1 t0 t1).take (expP n sl + xl) := by
  have c1 : sl = 0 ∨ sl = 1 ∨ sl = 2 := by omega
  have c2 : xl = 0 ∨ xl = 1 ∨ xl = 2 := by omega
  have c3 : n = 0 ∨ n = 1 ∨ n = 2 ∨ n = 3 ∨ n = 4 ∨ n = 5 ∨ n = 6 := by omega
  rcases c3 with rfl | rfl | rfl | rfl | rfl | rfl | rfl <;> rcases c1 with rfl | rfl | rfl <;> rcases c2 with rfl | rfl | rfl <;> rfl
theorem own_bs (n x0 x1 x2 x3 x4 x5 : Nat) (hn : n < 7) :
    (let o0 := List.replicate n 0
     let o1 := if 0 < n then o0.set 0 x0 else o0
     let o2 := if 1 < n then o1.set 1 x1 else o1
     let o3 := if 2 < n then o2.set 2 x2 else o2
     let o4 := if 3 < n then o3.set 3 x3 else o3
     let o5 := if 4 < n then o4.set 4 x4 else o4
     if 5 < n then o5.set 5 x5 else o5) = [x0, x1, x2, x3, x4, x5].take n := by
  have c3 : n = 0 ∨ n = 1 ∨ n = 2 ∨ n = 3 ∨ n = 4 ∨ n = 5 ∨ n = 6 := by omega
  rcases c3 with rfl | rfl | rfl | rfl | rfl | rfl | rfl <;> rfl
theorem own_il (P : Prop) [Decidable P] (o : List Nat) (i x : Nat) : (if P then o.set i x else o).length = o.length := by split <;> simp
theorem own_ql (P : Prop) [Decidable P] (o : List Nat) (a b c d e : Nat) : (if P then qd o a b c d e else o).length = o.length := by split <;> simp [own_qdl]
theorem own_exl (n sl xl x0 x1 x2 x3 x4 x5 s0 s1 t0 t1 : Nat) : (expL n sl xl x0 x1 x2 x3 x4 x5 s0 s1 t0 t1).length = 12 := by
  unfold expL put ets
  simp only [own_il, own_ql, List.length_replicate]
theorem own_tkq (es : List Nat) (t i : Nat) (h : i < (es.take t).length) : (es.take t)[i]? = es[i]? := by
  rw [List.length_take] at h
  exact List.getElem?_take_of_lt (by omega)
theorem own_tot (n sl xl : Nat) (hn : n < 7) (hs : sl < 3) (hx : xl < 3) : expP n sl + xl ≤ 12 := by
  unfold expP; split <;> split <;> omega
theorem own_tk2 (a b k : Nat) (h : k < 3) : ([a, b].take k).length = k := by rw [List.length_take]; simp; omega
theorem own_tk6 (a b c d e f k : Nat) (h : k < 7) : ([a, b, c, d, e, f].take k).length = k := by rw [List.length_take]; simp; omega
theorem own_bt {k : Nat} {l : List Nat} (h : ∀ x ∈ l, x < 256) : ∀ x ∈ l.take k, x < 256 := fun x hx => h x (List.mem_of_mem_take hx)
theorem own_newq {f : Nat → Int32} (k : ClassId) (ty : FieldType) (n : Nat) (hn : n < 256) (hd : defaultValue ty = Value.int (f 0)) : (newA k ty (Int32.ofNat n)).slots.toList = (List.replicate n 0).map (fun n => Value.int (f n)) := by
  show (Array.replicate (Int32.ofNat n).toNatClampNeg (defaultValue ty)).toList = _
  rw [(own_n n hn).1, hd, Array.toList_replicate, List.map_replicate]
theorem own_dis {Z : State} {h : Heap} {a b : Addr} {t u : FieldType} {f g : Nat → Int32} {ns ms : List Nat} (A : Av Z h a t f ns) (B : Av Z h b u g ms) (hne : t ≠ u) : a ≠ b := fun e => by
  subst e
  obtain ⟨c1, ⟨h1, ⟨-, k1, q1, comp1, r1⟩, -⟩, -⟩ := A
  obtain ⟨c2, ⟨h2, ⟨-, k2, q2, comp2, r2⟩, -⟩, -⟩ := B
  cases h1.symm.trans h2
  cases q1.symm.trans q2
  have z := r1.symm.trans r2
  injection z with _ e
  exact hne e
theorem own_dis2 {Z : State} {h : Heap} {a b : Addr} {v : Value} {C n d : String} {u : FieldType} {g : Nat → Int32} {ms : List Nat} (F : Fld Z h a C n d v) (hv : ∀ k, v ≠ .int k) (B : Av Z h b u g ms) : a ≠ b := fun e => by
  subst e
  obtain ⟨c, cf, k, i, f, h1, h2, -, -, -, -, h7⟩ := F
  obtain ⟨c2, ⟨g1, -⟩, q⟩ := B
  cases h1.symm.trans g1
  have hm : v ∈ c.slots.toList := Array.mem_toList_iff.mpr (Array.mem_of_getElem? h7)
  rw [q, List.mem_map] at hm
  obtain ⟨x, -, hx⟩ := hm
  exact hv _ hx.symm
theorem own_b80 : b8 0 = 0 := by decide
theorem own_f8 : defaultValue .byte = .int (b8 0) := congrArg Value.int own_b80.symm
theorem own_fc : defaultValue .char = .int (Int32.ofNat 0) := rfl
theorem own_le (ch : Nat) (h : ch < 256) : ¬ ((255 : Int32) < Int32.ofNat ch) := by
  have z : (255 : Int32).toInt = 255 := by decide
  rw [Int32.lt_iff_toInt_lt, Int32.toInt_ofNat_of_lt (by omega), z]; omega
theorem own_gt (ch : Nat) (h : 255 < ch) (h2 : ch < 65536) : (255 : Int32) < Int32.ofNat ch := by
  have z : (255 : Int32).toInt = 255 := by decide
  rw [Int32.lt_iff_toInt_lt, Int32.toInt_ofNat_of_lt (by omega), z]; omega
theorem own_sm (n : Nat) (h : n < 256) : Int32.ofNat n < (1073741823 : Int32) := by
  have z : (1073741823 : Int32).toInt = 1073741823 := by decide
  rw [Int32.lt_iff_toInt_lt, Int32.toInt_ofNat_of_lt (by omega), z]; omega
theorem own_nlt {i n : Nat} (h : n ≤ i) (hi : i < 256) : ¬ (Int32.ofNat i < Int32.ofNat n) := by
  rw [Int32.lt_iff_toInt_lt, Int32.toInt_ofNat_of_lt (by omega), Int32.toInt_ofNat_of_lt (by omega)]; omega
theorem own_nei {i n : Nat} (h : i ≠ n) (hi : i < 65536) (hn : n < 65536) : ¬ (Int32.ofNat i = Int32.ofNat n) := fun q => by
  have := congrArg Int32.toInt q
  rw [Int32.toInt_ofNat_of_lt (by omega), Int32.toInt_ofNat_of_lt (by omega)] at this; omega
theorem own_dq {cs r : List Nat} {i ch : Nat} (h : cs.drop i = ch :: r) : cs[i]? = some ch ∧ cs.drop (i + 1) = r := by
  constructor
  · rw [← List.head?_drop, h]; rfl
  · rw [← List.tail_drop, h]; rfl
theorem Av.nost {Z : State} {h : Heap} {a : Addr} {ty : FieldType} {f : Nat → Int32} {ns : List Nat} (A : Av Z h a ty f ns) : ∀ x ∈ [a], ∀ cell : Cell, h[x]? = some cell → cell.vm.isStatics = false := fun x hx cell q => by
  cases List.mem_singleton.mp hx
  obtain ⟨cl, A, -⟩ := A
  cases A.1.symm.trans q
  exact A.plain
theorem own_ns0 {h : Heap} : ∀ x ∈ ([] : List Addr), ∀ cell : Cell, h[x]? = some cell → cell.vm.isStatics = false := fun _ q => nomatch q
def QN (Z : State) (ty : FieldType) (f : Nat → Int32) (ns : List Nat) (h0 : Heap) (n0 : Nat) (v : Option Value) (h : Heap) (L : List Loc) : Prop := ∃ b : Addr, v = some (.ref b) ∧ Fr n0 L ∧ n0 ≤ b ∧ h0.size ≤ b ∧ Keep h0 h [] ∧ Av Z h b ty f ns
section AvLaws
variable {p : Program} {l : Launch} {e : Env} {R : Room} {s : State} {m : MethodId} {args : Array Value} {below : List Frame} {meth : Method} {c : Code} {T : State} {locs : List Loc} {cells slots : Nat} {Z : State} {a0 : Array Value} {h : Heap}
theorem newPv (X : Stand p l e R s m args below meth c T locs cells slots) (hx : p.tables.exec = Jvm.exec) (hZ : Z.Warmed39 s.vm) (eT : T.heap = h) {n0 : Nat} (Z0 : n0 ≤ h.size) {g : JFrame} (hg : g.method = m) {aty : ArrayType} (hd : decode c.code g.pc = .ok (.newarray aty, 2)) {ty : FieldType} (hty : newarray.typeOf aty = ty) (w : (Jvm.Cond.arrayClass ty).before a0 Z = true) (n : Nat) (hn : n < 256) (f : Nat → Int32) (hf : defaultValue ty = .int (f 0)) {z : Int32} (hz : z = Int32.ofNat n) {rest : List Value} (hs : g.stack = .int z :: rest) {cap : Nat} (hcap : n ≤ cap) (hb : cap * 8 ≤ 536870912) (hc : cells + 1 ≤ R.cells) (hl : slots + cap ≤ R.slots) :
    ∃ T' h' b, Stand p l e R s m args below meth c T' locs (cells + 1) (slots + cap) ∧ T'.heap = h' ∧ Ext h h' ∧ n0 ≤ b ∧ h.size ≤ b ∧ Av Z h' b ty f (List.replicate n 0) ∧
      ∀ target, Steps p.tables e below (T'.setTop { g with pc := g.pc + 2, stack := .ref b :: rest }) target → Steps p.tables e below (T.setTop g) target := by
  subst hz hty
  obtain ⟨T', h', k, X', e', E, A, st⟩ := newP X hx hZ w eT hg hd hs (own_n n hn).2 (cap := cap) (by rw [(own_n n hn).1]; exact hcap) hb hc hl
  exact ⟨T', h', h.size, X', e', E, Z0, Nat.le_refl _, ⟨_, A, own_newq k _ n hn hf⟩, st⟩
theorem stCv (X : Stand p l e R s m args below meth c T locs cells slots) (hx : p.tables.exec = Jvm.exec) (hZ : Z.Warmed39 s.vm) (eT : T.heap = h) {n0 : Nat} (N : Fr n0 locs) {a : Addr} (g0 : n0 ≤ a) {ns : List Nat} (A : Av Z h a .char Int32.ofNat ns) (hl : ns.length < 256) (i : Nat) (hi : i < ns.length) (ch : Nat) (hch : ch < 65536) {j x : Int32} (hj : j = Int32.ofNat i) (hv : x = Int32.ofNat ch) {g : JFrame} (hg : g.method = m) {rest : List Value} (hs : g.stack = .int x :: .int j :: .ref a :: rest) (hd : decode c.code g.pc = .ok (.castore, 1)) :
    ∃ T' h' L', Stand p l e R s m args below meth c T' L' cells slots ∧ T'.heap = h' ∧ Fr n0 L' ∧ Keep h h' [a] ∧ Av Z h' a .char Int32.ofNat (ns.set i ch) ∧ ∀ target, Steps p.tables e below (T'.setTop { g with pc := g.pc + 1, stack := rest }) target → Steps p.tables e below (T.setTop g) target := by
  subst hj hv
  obtain ⟨cl, A, q⟩ := A
  obtain ⟨T', h', X', e', W, st⟩ := stC X hx hZ eT A (own_avi q hi hl) hg hs hd
  have W' := W
  rw [(own_n i (by omega)).1] at W'
  exact ⟨T', h', _, X', e', Fr.snoc X' N g0, Keep.of_wr W, own_avset A q W' (congrArg Value.int (own_nc ch hch)), st⟩
theorem stBv (X : Stand p l e R s m args below meth c T locs cells slots) (hx : p.tables.exec = Jvm.exec) (hZ : Z.Warmed39 s.vm) (eT : T.heap = h) {n0 : Nat} (N : Fr n0 locs) {a : Addr} (g0 : n0 ≤ a) {ns : List Nat} (A : Av Z h a .byte b8 ns) (hl : ns.length < 256) (i : Nat) (hi : i < ns.length) (ch : Nat) {j x : Int32} (hj : j = Int32.ofNat i) (hv : nar .byte x = b8 ch) {g : JFrame} (hg : g.method = m) {rest : List Value} (hs : g.stack = .int x :: .int j :: .ref a :: rest) (hd : decode c.code g.pc = .ok (.bastore, 1)) :
    ∃ T' h' L', Stand p l e R s m args below meth c T' L' cells slots ∧ T'.heap = h' ∧ Fr n0 L' ∧ Keep h h' [a] ∧ Av Z h' a .byte b8 (ns.set i ch) ∧ ∀ target, Steps p.tables e below (T'.setTop { g with pc := g.pc + 1, stack := rest }) target → Steps p.tables e below (T.setTop g) target := by
  subst hj
  obtain ⟨cl, A, q⟩ := A
  obtain ⟨T', h', X', e', W, st⟩ := stB X hx hZ eT A (own_avi q hi hl) hg hs hd
  have W' := W
  rw [(own_n i (by omega)).1] at W'
  exact ⟨T', h', _, X', e', Fr.snoc X' N g0, Keep.of_wr W, own_avset A q W' (congrArg Value.int hv), st⟩
end AvLaws
theorem own_bb (n : Nat) (h : n < 256) : nar .byte ((Int32.ofNat n).toInt8.toInt32) = b8 n := own_b8n n h
theorem own_sub0 (n : Nat) : Int32.ofNat n - (0 : Int32) = Int32.ofNat n := by
  apply Int32.toInt_inj.1; simp
theorem own_kt {h0 h1 h2 : Heap} {ws : List Addr} (K : Keep h0 h1 ws) (K' : Keep h1 h2 ws) : Keep h0 h2 ws := K.trans K' fun x hx => Or.inl hx
theorem own_kn {h0 h1 h2 : Heap} {b : Addr} (K : Keep h0 h1 []) (K' : Keep h1 h2 [b]) (hb : h0.size ≤ b) : Keep h0 h2 [] := K.trans K' fun x hx => Or.inr (by cases List.mem_singleton.mp hx; exact hb)
theorem own_k0 {h0 h1 h2 : Heap} (K : Keep h0 h1 []) (K' : Keep h1 h2 []) : Keep h0 h2 [] := own_kt K K'
theorem own_rpn {k : Int32} {ns cs : List Nat} (R : Rp k ns cs) : Rp (nar .byte k) ns cs := by
  rcases R with ⟨rfl, r⟩ | ⟨rfl, r⟩
  · exact Or.inl ⟨by decide, r⟩
  · exact Or.inr ⟨by decide, r⟩
theorem own_kw {h0 h : Heap} (K : Keep h0 h []) (a : Addr) : Keep h0 h [a] := ⟨K.1, fun x c q _ => K.2.1 x c q (by simp), K.2.2⟩
theorem Str.keep {Z : State} {h h' : Heap} {a : Addr} {cs : List Nat} (S : Str Z h a cs) (K : Keep h h' []) : Str Z h' a cs := by
  obtain ⟨E, hl, v, k, ns, F1, F2, A, R⟩ := S
  exact ⟨E.keep K, hl, v, k, ns, F1.keep K (by simp), F2.keep K (by simp), A.keep K (by simp), R⟩
theorem Str.keepc {Z : State} {h h' : Heap} {a b : Addr} {cs ms : List Nat} (S : Str Z h a cs) (K : Keep h h' [b]) (B : Av Z h b .char Int32.ofNat ms) : Str Z h' a cs := by
  obtain ⟨E, hl, v, k, ns, F1, F2, A, R⟩ := S
  have d := own_dis2 F1 (fun _ q => nomatch q) B
  have d' := own_dis A B (fun q => nomatch q)
  exact ⟨E.keep K, hl, v, k, ns, F1.keep K (by simpa using d), F2.keep K (by simpa using d), A.keep K (by simpa using d'), R⟩
theorem Str.lt {Z : State} {h : Heap} {a : Addr} {cs : List Nat} (S : Str Z h a cs) : ∀ ch ∈ cs, ch < 65536 := fun ch hm => by
  obtain ⟨-, -, v, k, ns, -, -, -, R⟩ := S
  rcases R with ⟨-, -, hb⟩ | ⟨-, -, hb, -⟩
  · exact Nat.lt_trans (hb _ hm) (by decide)
  · exact hb _ hm
theorem d39_0 : decode jdk_43_method_46_code 0 = .ok (.iconst 1, 1) := by decide +kernel
theorem d39_1 : decode jdk_43_method_46_code 1 = .ok (.newarray .byte, 2) := by decide +kernel
theorem d39_3 : decode jdk_43_method_46_code 3 = .ok (.dup, 1) := by decide +kernel
theorem d39_4 : decode jdk_43_method_46_code 4 = .ok (.iconst 0, 1) := by decide +kernel
theorem d39_5 : decode jdk_43_method_46_code 5 = .ok (.iload_n 0, 1) := by decide +kernel
theorem d39_6 : decode jdk_43_method_46_code 6 = .ok (.i2b, 1) := by decide +kernel
theorem d39_7 : decode jdk_43_method_46_code 7 = .ok (.bastore, 1) := by decide +kernel
theorem d39_8 : decode jdk_43_method_46_code 8 = .ok (.areturn, 1) := by decide +kernel
theorem pn_39 : plainName "java/lang/StringLatin1" = true := by first | (simp [plainName, overriddenIn]; done) | decide +kernel
theorem ef_39 (m : MethodId) (x0 : Int32) : entryFrame m #[(.int x0)] 1 = mkF m 0 #[.val (.int x0)] [] := by first | (simp [entryFrame, mkF, argsToLocals, Value.category]; done) | rfl
set_option maxRecDepth 65536 in
set_option maxHeartbeats 40000000 in
theorem rm39 (l : Launch) (Z : State) (a0 : Array Value) (hw : ∀ d ∈ tables_1, d.before a0 Z = true) (ws : List Jvm.Cond) (ch : Nat) (h0 : Heap) (n0 : Nat) (Z0 : n0 ≤ h0.size) (hch : ch < 256) :
    MetFree l (⟨"java/lang/StringLatin1", "toBytes", "(C)[B"⟩ : MethodName) (head1 (Jvm.Cond.code (⟨"java/lang/StringLatin1", "toBytes", "(C)[B"⟩ : MethodName) jdk_43_method_46_code 1 (some (.array .byte)) :: ws) ({ frames := 0, cells := 1, slots := 1, locals := 0 } : Room)) (fun a U => a = #[(.int (Int32.ofNat ch))] ∧ Z.Warmed39 U.vm ∧ U.heap = h0) (fun _ _ _ _ _ => True) (fun _ U o U' => ∃ v L, o = .returned v ∧ QN Z .byte b8 [ch] h0 n0 v U'.heap L ∧ FrameEnd U o U' L ({ frames := 0, cells := 1, slots := 1, locals := 0 } : Room).cells ({ frames := 0, cells := 1, slots := 1, locals := 0 } : Room).slots) := by
  refine MetFree.of_bodySF (plainFor_of_name pn_39) hisR ?_
  intro p e s m args below meth c s₁ Bd hml0 hP hK
  obtain ⟨rfl, hZ, hh⟩ := hP
  have hx := Bd.exec
  have hby := Bd.bytes
  have hml : c.maxLocals = 1 := hml0
  have hown : s.vm.findClass "java/lang/StringLatin1" = some m.cls := findClass_of_methodNamed Bd.named
  have hnm := (name_of_methodNamed Bd.named Bd.method).1
  have X0 : Stand p l e ({ frames := 0, cells := 1, slots := 1, locals := 0 } : Room) s m #[(.int (Int32.ofNat ch))] below meth c s₁ [] 0 0 := Stand.of_body Bd
  have e0 : s₁.heap = h0 := by rw [← hh, Bd.state]; rfl
  have N0 := Fr.nil n0
  have pre0 : ∀ t, Steps p.tables e below (s₁.setTop (mkF m 0 #[.val (.int (Int32.ofNat ch))] [])) t → Steps p.tables e below (s₁.setTop (entryFrame m #[(.int (Int32.ofNat ch))] 1)) t := fun t_ k_ => castTop (ef_39 m (Int32.ofNat ch)) k_
  obtain ⟨T2, h2, b2, X2, e2, E2, g_b2, sz_b2, A2, st2⟩ := newPv (a0 := a0) X0 hx hZ e0 Z0 (g := (mkF m 1 #[.val (.int (Int32.ofNat ch))] [(.int (1 : Int32))])) rfl (hb hby d39_1) rfl (hw _ (List.mem_of_getElem? (i := 1) rfl)) 1 (by decide) b8 own_f8 rfl rfl (cap := 1) (by decide) (by decide) (by decide) (by decide)
  obtain ⟨T3, h3, L3, X3, e3, N3, K3, A3, st3⟩ := stBv X2 hx hZ e2 N0 g_b2 A2 (by decide) 0 (by decide) ch rfl (own_bb ch hch) (g := (mkF m 7 #[.val (.int (Int32.ofNat ch))] [(.int ((Int32.ofNat ch).toInt8.toInt32)), (.int (0 : Int32)), (.ref b2), (.ref b2)])) rfl rfl (hb hby d39_7)
  obtain ⟨fs, hr, hrun, hended, hW, hsame⟩ := X3.leave (v := some (.ref b2)) (fun h => by rw [Bd.returns] at h; cases h)
  refine ⟨_, _, pre0 _ ?_, hrun, hended, _, _, rfl, ?_, ⟨_, rfl⟩, hW, hsame.mono (by decide) (by decide)⟩
  -- 4. STEPS
  · show Steps p.tables e below (s₁.setTop (mkF m 0 #[.val (.int (Int32.ofNat ch))] [])) _
    refine XS.iconst X0.here hx rfl (hb hby d39_0) ?_
    refine st2 _ ?_
    refine XS.dup X2.here hx rfl (hb hby d39_3) rfl rfl ?_
    refine XS.iconst X2.here hx rfl (hb hby d39_4) ?_
    refine XS.iloadN X2.here hx rfl (hb hby d39_5) rfl ?_
    refine XS.i2b X2.here hx rfl (hb hby d39_6) rfl ?_
    refine st3 _ ?_
    show Steps p.tables e below (T3.setTop (mkF m 8 #[.val (.int (Int32.ofNat ch))] [(.ref b2)])) _
    jvm_step X3.here [X3.here.top, hx, (hb hby d39_8), X3.method', Bd.returns, Value.isRef, FieldType.isReference]
    first | (intro acts; rw [hr _ acts rfl rfl rfl]) | rw [hr _ _ rfl rfl rfl]
    exact Steps.refl _
  · show QN Z .byte b8 [ch] h0 n0 _ T3.heap _
    rw [e3]
    exact ⟨b2, rfl, N3, g_b2, sz_b2, own_kn ((Keep.refl h0 []).ext E2) K3 sz_b2, A3⟩
theorem d41_0 : decode jdk_52_method_24_code 0 = .ok (.iconst 2, 1) := by decide +kernel
theorem d41_1 : decode jdk_52_method_24_code 1 = .ok (.newarray .byte, 2) := by decide +kernel
theorem d41_3 : decode jdk_52_method_24_code 3 = .ok (.astore_n 1, 1) := by decide +kernel
theorem d41_4 : decode jdk_52_method_24_code 4 = .ok (.aload_n 1, 1) := by decide +kernel
theorem d41_5 : decode jdk_52_method_24_code 5 = .ok (.iconst 0, 1) := by decide +kernel
theorem d41_6 : decode jdk_52_method_24_code 6 = .ok (.iload_n 0, 1) := by decide +kernel
theorem d41_7 : decode jdk_52_method_24_code 7 = .ok (.invokestatic 111, 3) := by decide +kernel
theorem d41_10 : decode jdk_52_method_24_code 10 = .ok (.aload_n 1, 1) := by decide +kernel
theorem d41_11 : decode jdk_52_method_24_code 11 = .ok (.areturn, 1) := by decide +kernel
theorem pn_41 : plainName "java/lang/StringUTF16" = true := by first | (simp [plainName, overriddenIn]; done) | decide +kernel
theorem pd_41_26 : parseMethodDescriptor "([BII)V" = some ⟨[(.array .byte), .int, .int], none⟩ := by decide +kernel
theorem ef_41 (m : MethodId) (x0 : Int32) : entryFrame m #[(.int x0)] 2 = mkF m 0 #[.val (.int x0), .unset] [] := by first | (simp [entryFrame, mkF, argsToLocals, Value.category]; done) | rfl
set_option maxRecDepth 65536 in
set_option maxHeartbeats 40000000 in
theorem rm41 (l : Launch) (Z : State) (a0 : Array Value) (hw : ∀ d ∈ tables_1, d.before a0 Z = true) (ws : List Jvm.Cond) (ch : Nat) (h0 : Heap) (n0 : Nat) (Z0 : n0 ≤ h0.size) (D : Wd Z h0) (hch : ch < 65536) :
    MetFree l (⟨"java/lang/StringUTF16", "toBytes", "(C)[B"⟩ : MethodName) (head1 (Jvm.Cond.code (⟨"java/lang/StringUTF16", "toBytes", "(C)[B"⟩ : MethodName) jdk_52_method_24_code 2 (some (.array .byte)) :: ws) ({ frames := 1, cells := 1, slots := 2, locals := 14 } : Room)) (fun a U => a = #[(.int (Int32.ofNat ch))] ∧ Z.Warmed39 U.vm ∧ U.heap = h0) (fun _ _ _ _ _ => True) (fun _ U o U' => ∃ v L, o = .returned v ∧ QN Z .byte b8 [ch % 256, ch / 256] h0 n0 v U'.heap L ∧ FrameEnd U o U' L ({ frames := 1, cells := 1, slots := 2, locals := 14 } : Room).cells ({ frames := 1, cells := 1, slots := 2, locals := 14 } : Room).slots) := by
  refine MetFree.of_bodySF (plainFor_of_name pn_41) hisR ?_
  intro p e s m args below meth c s₁ Bd hml0 hP hK
  obtain ⟨rfl, hZ, hh⟩ := hP
  have hx := Bd.exec
  have hby := Bd.bytes
  have hml : c.maxLocals = 2 := hml0
  have hown : s.vm.findClass "java/lang/StringUTF16" = some m.cls := findClass_of_methodNamed Bd.named
  have hnm := (name_of_methodNamed Bd.named Bd.method).1
  have X0 : Stand p l e ({ frames := 1, cells := 1, slots := 2, locals := 14 } : Room) s m #[(.int (Int32.ofNat ch))] below meth c s₁ [] 0 0 := Stand.of_body Bd
  have e0 : s₁.heap = h0 := by rw [← hh, Bd.state]; rfl
  have N0 := Fr.nil n0
  have pre0 : ∀ t, Steps p.tables e below (s₁.setTop (mkF m 0 #[.val (.int (Int32.ofNat ch)), .unset] [])) t → Steps p.tables e below (s₁.setTop (entryFrame m #[(.int (Int32.ofNat ch))] 2)) t := fun t_ k_ => castTop (ef_41 m (Int32.ofNat ch)) k_
  obtain ⟨T2, h2, b2, X2, e2, E2, g_b2, sz_b2, ⟨cl2, A2, q2⟩, st2⟩ := newPv (a0 := a0) X0 hx hZ e0 Z0 (g := (mkF m 1 #[.val (.int (Int32.ofNat ch)), .unset] [(.int (2 : Int32))])) rfl (hb hby d41_1) rfl (hw _ (List.mem_of_getElem? (i := 1) rfl)) 2 (by decide) b8 own_f8 rfl rfl (cap := 2) (by decide) (by decide) (by decide) (by decide)
  obtain ⟨_, _, ⟨T3, L3, k3, n3⟩, -, X3, ⟨Lc3, hQ3, l3, y3, z3⟩, st3⟩ := Jvm.LawKit.callS X2 hx (y := (⟨"java/lang/StringUTF16", "putChar", "([BII)V"⟩ : MethodName)) hown (mvT hZ (hw _ (List.mem_of_getElem? (i := 126) rfl))) (mvT hZ (hw _ (List.mem_of_getElem? (i := 127) rfl))) (mvT hZ (hw _ (List.mem_of_getElem? (i := 94) rfl))) (mvT hZ (hw _ (List.mem_of_getElem? (i := 128) rfl))) (by decide) (backOf (W := 0) (rm30 l Z a0 hw [] b2 0 ch cl2 _ h2 n0 (Nat.le_trans Z0 E2.1) (D.ext E2).2.2.1 (D.ext E2).2.2.2.1 A2 g_b2 (D.ext E2).2.2.2.2 q2 (by decide) (by decide) hch (by decide)) hZ (hw _ (List.mem_of_getElem? (i := 128) rfl)) (hw _ (List.mem_of_getElem? (i := 94) rfl)) (by decide) (by decide)) (g := (mkF m 7 #[.val (.int (Int32.ofNat ch)), .val (.ref b2)] [(.int (Int32.ofNat ch)), (.int (0 : Int32)), (.ref b2)])) rfl (by rw [hml]; rfl) (argsL := [(.ref b2), (.int (0 : Int32)), (.int (Int32.ofNat ch))]) (rest := []) (lenOf pd_41_26 rfl) rfl (by show 2 * 0 + _ ≤ _; exact Nat.le_of_eq rfl) (hb hby d41_7) (fun _ _ => ⟨rfl, e2, (by decide : 1 + 0 ≤ _), (by decide : 2 + 0 ≤ _)⟩)
  dsimp only [Pt.U, Pt.locs, Pt.cells, Pt.slots] at X3 l3 y3 z3 st3 hQ3
  subst l3 y3 z3
  obtain ⟨rfl, N3q, K3, A3⟩ := hQ3
  have N3 := Fr.app N0 N3q
  obtain ⟨fs, hr, hrun, hended, hW, hsame⟩ := X3.leave (v := some (.ref b2)) (fun h => by rw [Bd.returns] at h; cases h)
  refine ⟨_, _, pre0 _ ?_, hrun, hended, _, _, rfl, ?_, ⟨_, rfl⟩, hW, hsame.mono (by decide) (by decide)⟩
  -- 4. STEPS
  · show Steps p.tables e below (s₁.setTop (mkF m 0 #[.val (.int (Int32.ofNat ch)), .unset] [])) _
    refine XS.iconst X0.here hx rfl (hb hby d41_0) ?_
    refine st2 _ ?_
    refine XS.astoreN X2.here hx rfl (hb hby d41_3) rfl rfl (l' := #[.val (.int (Int32.ofNat ch)), .val (.ref b2)]) rfl ?_
    refine XS.aloadN X2.here hx rfl (hb hby d41_4) rfl rfl ?_
    refine XS.iconst X2.here hx rfl (hb hby d41_5) ?_
    refine XS.iloadN X2.here hx rfl (hb hby d41_6) rfl ?_
    refine st3 _ ?_
    show Steps p.tables e below (T3.setTop (mkF m 10 #[.val (.int (Int32.ofNat ch)), .val (.ref b2)] [])) _
    refine XS.aloadN X3.here hx rfl (hb hby d41_10) rfl rfl ?_
    show Steps p.tables e below (T3.setTop (mkF m 11 #[.val (.int (Int32.ofNat ch)), .val (.ref b2)] [(.ref b2)])) _
    jvm_step X3.here [X3.here.top, hx, (hb hby d41_11), X3.method', Bd.returns, Value.isRef, FieldType.isReference]
    first | (intro acts; rw [hr _ acts rfl rfl rfl]) | rw [hr _ _ rfl rfl rfl]
    exact Steps.refl _
  · show QN Z .byte b8 [ch % 256, ch / 256] h0 n0 _ T3.heap _
    exact ⟨b2, rfl, N3, g_b2, sz_b2, own_kn ((Keep.refl h0 []).ext E2) K3 sz_b2, A3⟩
theorem d40_0 : decode jdk_42_method_151_code 0 = .ok (.aload_n 0, 1) := by decide +kernel
theorem d40_1 : decode jdk_42_method_151_code 1 = .ok (.invokespecial 1, 3) := by decide +kernel
theorem d40_4 : decode jdk_42_method_151_code 4 = .ok (.aload_n 0, 1) := by decide +kernel
theorem d40_5 : decode jdk_42_method_151_code 5 = .ok (.aload_n 1, 1) := by decide +kernel
theorem d40_6 : decode jdk_42_method_151_code 6 = .ok (.putfield 9, 3) := by decide +kernel
theorem d40_9 : decode jdk_42_method_151_code 9 = .ok (.aload_n 0, 1) := by decide +kernel
theorem d40_10 : decode jdk_42_method_151_code 10 = .ok (.iload_n 2, 1) := by decide +kernel
theorem d40_11 : decode jdk_42_method_151_code 11 = .ok (.putfield 15, 3) := by decide +kernel
theorem d40_14 : decode jdk_42_method_151_code 14 = .ok (.return_, 1) := by decide +kernel
theorem pn_40 : plainName "java/lang/String" = true := by first | (simp [plainName, overriddenIn]; done) | decide +kernel
theorem ef_40 (m : MethodId) (x0 : Addr) (x1 : Addr) (x2 : Int32) : entryFrame m #[(.ref x0), (.ref x1), (.int x2)] 3 = mkF m 0 #[.val (.ref x0), .val (.ref x1), .val (.int x2)] [] := by first | (simp [entryFrame, mkF, argsToLocals, Value.category]; done) | rfl
def Q40 (Z : State) (a1 : Addr) (a2 : Addr) (p3 : Int32) (u_value_a1 : Value) (u_coder_a1 : Value) (h0 : Heap) (n0 : Nat) (v : Option Value) (h : Heap) (L : List Loc) : Prop := v = none ∧ Fr n0 L ∧ Keep h0 h [a1] ∧ Exa Z h a1 "java/lang/String" ∧ Fld Z h a1 "java/lang/String" "value" "[B" (.ref a2) ∧ Fld Z h a1 "java/lang/String" "coder" "B" (.int (nar .byte p3))
set_option maxRecDepth 65536 in
set_option maxHeartbeats 40000000 in
theorem rm40 (l : Launch) (Z : State) (a0 : Array Value) (hw : ∀ d ∈ tables_1, d.before a0 Z = true) (ws : List Jvm.Cond) (a1 : Addr) (a2 : Addr) (p3 : Int32) (u_value_a1 : Value) (u_coder_a1 : Value) (h0 : Heap) (n0 : Nat) (Z0 : n0 ≤ h0.size) (E_a1 : Exa Z h0 a1 "java/lang/String") (F_value_a1 : Fld Z h0 a1 "java/lang/String" "value" "[B" u_value_a1) (g_a1 : n0 ≤ a1) (F_coder_a1 : Fld Z h0 a1 "java/lang/String" "coder" "B" u_coder_a1) :
    MetFree l (⟨"java/lang/String", "<init>", "([BB)V"⟩ : MethodName) (head1 (Jvm.Cond.code (⟨"java/lang/String", "<init>", "([BB)V"⟩ : MethodName) jdk_42_method_151_code 3 none :: ws) ({ frames := 1, cells := 0, slots := 0, locals := 12 } : Room)) (fun a U => a = #[(.ref a1), (.ref a2), (.int p3)] ∧ Z.Warmed39 U.vm ∧ U.heap = h0) (fun _ _ _ _ _ => True) (fun _ U o U' => ∃ v L, o = .returned v ∧ Q40 Z a1 a2 p3 u_value_a1 u_coder_a1 h0 n0 v U'.heap L ∧ FrameEnd U o U' L ({ frames := 1, cells := 0, slots := 0, locals := 12 } : Room).cells ({ frames := 1, cells := 0, slots := 0, locals := 12 } : Room).slots) := by
  refine MetFree.of_bodySF (plainFor_of_name pn_40) hisR ?_
  intro p e s m args below meth c s₁ Bd hml0 hP hK
  obtain ⟨rfl, hZ, hh⟩ := hP
  have hx := Bd.exec
  have hby := Bd.bytes
  have hml : c.maxLocals = 3 := hml0
  have hown : s.vm.findClass "java/lang/String" = some m.cls := findClass_of_methodNamed Bd.named
  have hnm := (name_of_methodNamed Bd.named Bd.method).1
  have X0 : Stand p l e ({ frames := 1, cells := 0, slots := 0, locals := 12 } : Room) s m #[(.ref a1), (.ref a2), (.int p3)] below meth c s₁ [] 0 0 := Stand.of_body Bd
  have e0 : s₁.heap = h0 := by rw [← hh, Bd.state]; rfl
  have N0 := Fr.nil n0
  have pre0 : ∀ t, Steps p.tables e below (s₁.setTop (mkF m 0 #[.val (.ref a1), .val (.ref a2), .val (.int p3)] [])) t → Steps p.tables e below (s₁.setTop (entryFrame m #[(.ref a1), (.ref a2), (.int p3)] 3)) t := fun t k => castTop (ef_40 m a1 a2 p3) k
  -- 3. LAWS
  obtain ⟨T4, X4, e4, st4⟩ := initO X0 hx hZ hown (hw _ (List.mem_of_getElem? (i := 17) rfl)) (hw _ (List.mem_of_getElem? (i := 18) rfl)) (hw _ (List.mem_of_getElem? (i := 19) rfl)) e0 (g := (mkF m 1 #[.val (.ref a1), .val (.ref a2), .val (.int p3)] [(.ref a1)])) rfl (by rw [hml]; rfl) rfl (hb hby d40_1) (by decide) (W := 0) (by show 2 * 0 + _ ≤ _; exact Nat.le_of_eq rfl) (by decide)
  obtain ⟨T5, h5, X5, e5, W5, st5⟩ := putF X4 hx hZ hown (host := "") (Or.inl (hw _ (List.mem_of_getElem? (i := 25) rfl))) Via.refl e4 F_value_a1 E_a1 (Or.inr ⟨(hw _ (List.mem_of_getElem? (i := 21) rfl)), rfl, hnm⟩) (hw _ (List.mem_of_getElem? (i := 7) rfl)) (ty := (.array .byte)) (by decide) rfl rfl (g := (mkF m 6 #[.val (.ref a1), .val (.ref a2), .val (.int p3)] [(.ref a2), (.ref a1)])) rfl rfl (hb hby d40_6)
  have Fw5 := F_value_a1.same W5      -- the field now holds (.ref a2)
  have K5 : Keep h0 h5 [a1] := (Keep.refl h0 [a1]).wr W5 (Or.inl (List.mem_of_getElem? (i := 0) rfl))
  have N5 := Fr.snoc X5 N0 g_a1
  obtain ⟨T6, h6, X6, e6, W6, st6⟩ := putFN X5 hx hZ hown (hw _ (List.mem_of_getElem? (i := 26) rfl)) Via.refl e5 (F_coder_a1.other W5 (Or.inr (slot_ne (Or.inr (hw _ (List.mem_of_getElem? (i := 22) rfl))) (Or.inr (hw _ (List.mem_of_getElem? (i := 21) rfl))) (by decide) (t := .byte) (t' := (.array .byte)) (by decide) (by decide)))) (E_a1.wr W5) (Or.inr ⟨(hw _ (List.mem_of_getElem? (i := 22) rfl)), rfl, hnm⟩) (hw _ (List.mem_of_getElem? (i := 7) rfl)) (ty := .byte) (v' := (.int (nar .byte p3))) (by decide) rfl (fits_nar_byte _) (g := (mkF m 11 #[.val (.ref a1), .val (.ref a2), .val (.int p3)] [(.int p3), (.ref a1)])) rfl rfl (hb hby d40_11)
  have Fw6 := (F_coder_a1.other W5 (Or.inr (slot_ne (Or.inr (hw _ (List.mem_of_getElem? (i := 22) rfl))) (Or.inr (hw _ (List.mem_of_getElem? (i := 21) rfl))) (by decide) (t := .byte) (t' := (.array .byte)) (by decide) (by decide)))).same W6      -- the field now holds (.int p3)
  have K6 : Keep h0 h6 [a1] := K5.wr W6 (Or.inl (List.mem_of_getElem? (i := 0) rfl))
  have N6 := Fr.snoc X6 N5 g_a1
  obtain ⟨fs, hr, hrun, hended, hW, hsame⟩ := X6.leave (v := none) (fun _ => rfl)
  refine ⟨_, _, pre0 _ ?_, hrun, hended, _, _, rfl, ?_, ⟨_, rfl⟩, hW, hsame.mono (by decide) (by decide)⟩
  -- 4. STEPS
  · show Steps p.tables e below (s₁.setTop (mkF m 0 #[.val (.ref a1), .val (.ref a2), .val (.int p3)] [])) _
    refine XS.aloadN X0.here hx rfl (hb hby d40_0) rfl rfl ?_
    refine st4 _ ?_
    refine XS.aloadN X4.here hx rfl (hb hby d40_4) rfl rfl ?_
    refine XS.aloadN X4.here hx rfl (hb hby d40_5) rfl rfl ?_
    refine st5 _ ?_
    refine XS.aloadN X5.here hx rfl (hb hby d40_9) rfl rfl ?_
    refine XS.iloadN X5.here hx rfl (hb hby d40_10) rfl ?_
    show Steps p.tables e below (T5.setTop (mkF m 11 #[.val (.ref a1), .val (.ref a2), .val (.int p3)] [(.int p3), (.ref a1)])) _
    refine st6 _ ?_
    show Steps p.tables e below (T6.setTop (mkF m 14 #[.val (.ref a1), .val (.ref a2), .val (.int p3)] [])) _
    exact X6.returnOut hx Bd.returns (hb hby d40_14) hr
  · show Q40 Z a1 a2 p3 u_value_a1 u_coder_a1 h0 n0 _ T6.heap _
    rw [e6]
    exact ⟨rfl, N6, K6, ((E_a1.wr W5).wr W6), (Fw5.other W6 (Or.inr (slot_ne (Or.inr (hw _ (List.mem_of_getElem? (i := 21) rfl))) (Or.inr (hw _ (List.mem_of_getElem? (i := 22) rfl))) (by decide) (t := (.array .byte)) (t' := .byte) (by decide) (by decide)))), Fw6⟩
def QS (Z : State) (cs : List Nat) (h0 : Heap) (n0 : Nat) (v : Option Value) (h : Heap) (L : List Loc) : Prop := ∃ b : Addr, v = some (.ref b) ∧ Fr n0 L ∧ n0 ≤ b ∧ h0.size ≤ b ∧ Keep h0 h [] ∧ Str Z h b cs
theorem d37_0 : decode jdk_42_method_139_code 0 = .ok (.getstatic 38, 3) := by decide +kernel
theorem d37_3 : decode jdk_42_method_139_code 3 = .ok (.ifCond .eq 23, 3) := by decide +kernel
theorem d37_6 : decode jdk_42_method_139_code 6 = .ok (.iload_n 0, 1) := by decide +kernel
theorem d37_7 : decode jdk_42_method_139_code 7 = .ok (.invokestatic 1015, 3) := by decide +kernel
theorem d37_10 : decode jdk_42_method_139_code 10 = .ok (.ifCond .eq 16, 3) := by decide +kernel
theorem d37_13 : decode jdk_42_method_139_code 13 = .ok (.new 10, 3) := by decide +kernel
theorem d37_16 : decode jdk_42_method_139_code 16 = .ok (.dup, 1) := by decide +kernel
theorem d37_17 : decode jdk_42_method_139_code 17 = .ok (.iload_n 0, 1) := by decide +kernel
theorem d37_18 : decode jdk_42_method_139_code 18 = .ok (.invokestatic 1018, 3) := by decide +kernel
theorem d37_21 : decode jdk_42_method_139_code 21 = .ok (.iconst 0, 1) := by decide +kernel
theorem d37_22 : decode jdk_42_method_139_code 22 = .ok (.invokespecial 209, 3) := by decide +kernel
theorem d37_25 : decode jdk_42_method_139_code 25 = .ok (.areturn, 1) := by decide +kernel
theorem pn_37 : plainName "java/lang/String" = true := by first | (simp [plainName, overriddenIn]; done) | decide +kernel
theorem pd_37_31 : parseMethodDescriptor "(C)Z" = some ⟨[.char], some .boolean⟩ := by decide +kernel
theorem pd_37_32 : parseMethodDescriptor "(C)[B" = some ⟨[.char], some (.array .byte)⟩ := by decide +kernel
theorem pd_37_33 : parseMethodDescriptor "([BB)V" = some ⟨[(.array .byte), .byte], none⟩ := by decide +kernel
theorem ef_37 (m : MethodId) (x0 : Int32) : entryFrame m #[(.int x0)] 1 = mkF m 0 #[.val (.int x0)] [] := by first | (simp [entryFrame, mkF, argsToLocals, Value.category]; done) | rfl
set_option maxRecDepth 65536 in
set_option maxHeartbeats 40000000 in
theorem rm37l (l : Launch) (Z : State) (a0 : Array Value) (hw : ∀ d ∈ tables_1, d.before a0 Z = true) (ws : List Jvm.Cond) (ch : Nat) (h0 : Heap) (n0 : Nat) (Z0 : n0 ≤ h0.size) (D : Wd Z h0) (hch : ch < 256) :
    MetFree l (⟨"java/lang/String", "valueOf", "(C)Ljava/lang/String;"⟩ : MethodName) (head1 (Jvm.Cond.code (⟨"java/lang/String", "valueOf", "(C)Ljava/lang/String;"⟩ : MethodName) jdk_42_method_139_code 1 (some (.object "java/lang/String")) :: ws) ({ frames := 2, cells := 2, slots := 6, locals := 29 } : Room)) (fun a U => a = #[(.int (Int32.ofNat ch))] ∧ Z.Warmed39 U.vm ∧ U.heap = h0) (fun _ _ _ _ _ => True) (fun _ U o U' => ∃ v L, o = .returned v ∧ QS Z [ch] h0 n0 v U'.heap L ∧ FrameEnd U o U' L ({ frames := 2, cells := 2, slots := 6, locals := 29 } : Room).cells ({ frames := 2, cells := 2, slots := 6, locals := 29 } : Room).slots) := by
  refine MetFree.of_bodySF (plainFor_of_name pn_37) hisR ?_
  intro p e s m args below meth c s₁ Bd hml0 hP hK
  obtain ⟨rfl, hZ, hh⟩ := hP
  have hx := Bd.exec
  have hby := Bd.bytes
  have hml : c.maxLocals = 1 := hml0
  have hown : s.vm.findClass "java/lang/String" = some m.cls := findClass_of_methodNamed Bd.named
  have hnm := (name_of_methodNamed Bd.named Bd.method).1
  have X0 : Stand p l e ({ frames := 2, cells := 2, slots := 6, locals := 29 } : Room) s m #[(.int (Int32.ofNat ch))] below meth c s₁ [] 0 0 := Stand.of_body Bd
  have e0 : s₁.heap = h0 := by rw [← hh, Bd.state]; rfl
  have N0 := Fr.nil n0
  have pre0 : ∀ t, Steps p.tables e below (s₁.setTop (mkF m 0 #[.val (.int (Int32.ofNat ch))] [])) t → Steps p.tables e below (s₁.setTop (entryFrame m #[(.int (Int32.ofNat ch))] 1)) t := fun t_ k_ => castTop (ef_37 m (Int32.ofNat ch)) k_
  obtain ⟨w2, hc3, S_String_COMPACT_STRINGS⟩ := D.2.1
  obtain ⟨T3, X3, e3, st3⟩ := getS2 X0 hx hZ hown (host := "") (Or.inl (hw _ (List.mem_of_getElem? (i := 41) rfl))) Via.refl e0 S_String_COMPACT_STRINGS (g := (mkF m 0 #[.val (.int (Int32.ofNat ch))] [])) rfl (hb hby d37_0)
  obtain ⟨_, _, ⟨T4, L4, k4, n4⟩, -, X4, ⟨Lc4, hQ4, l4, y4, z4⟩, st4⟩ := Jvm.LawKit.callS X3 hx (y := (⟨"java/lang/StringLatin1", "canEncode", "(C)Z"⟩ : MethodName)) hown (mvT hZ (hw _ (List.mem_of_getElem? (i := 155) rfl))) (mvT hZ (hw _ (List.mem_of_getElem? (i := 156) rfl))) (mvT hZ (hw _ (List.mem_of_getElem? (i := 69) rfl))) (mvT hZ (hw _ (List.mem_of_getElem? (i := 157) rfl))) (by decide) (backOf (W := 0) (rm38n l Z a0 hw [] (Int32.ofNat ch) h0 n0 Z0 (own_le ch hch)) hZ (hw _ (List.mem_of_getElem? (i := 157) rfl)) (hw _ (List.mem_of_getElem? (i := 69) rfl)) (by decide) (by decide)) (g := (mkF m 7 #[.val (.int (Int32.ofNat ch))] [(.int (Int32.ofNat ch))])) rfl (by rw [hml]; rfl) (argsL := [(.int (Int32.ofNat ch))]) (rest := []) (lenOf pd_37_31 rfl) rfl (by show 2 * 0 + _ ≤ _; exact Nat.le_of_eq rfl) (hb hby d37_7) (fun _ _ => ⟨rfl, e3, (by decide : 0 + 0 ≤ _), (by decide : 0 + 0 ≤ _)⟩)
  dsimp only [Pt.U, Pt.locs, Pt.cells, Pt.slots] at X4 l4 y4 z4 st4 hQ4
  subst l4 y4 z4
  obtain ⟨rfl, N4q, eq4⟩ := hQ4
  have N4 := Fr.app N0 N4q
  obtain ⟨T5, h5, X5, e5, E5, A5, D5, -, st5⟩ := newO X4 hx hZ hown (hw _ (List.mem_of_getElem? (i := 158) rfl)) (hw _ (List.mem_of_getElem? (i := 7) rfl)) (hw _ (List.mem_of_getElem? (i := 8) rfl)) rfl (g := (mkF m 13 #[.val (.int (Int32.ofNat ch))] [])) rfl (hb hby d37_13) (by decide) (by decide)
  obtain ⟨b5, g5⟩ : ∃ z, z = T4.heap.size := ⟨_, rfl⟩
  rw [← g5] at A5 D5 st5
  have F_value_b5 : Fld Z h5 b5 "java/lang/String" "value" "[B" .null := D5 (Or.inr (hw _ (List.mem_of_getElem? (i := 21) rfl))) (ty := (.array .byte)) (by decide)
  have F_coder_b5 : Fld Z h5 b5 "java/lang/String" "coder" "B" (.int (0 : Int32)) := D5 (Or.inr (hw _ (List.mem_of_getElem? (i := 22) rfl))) (ty := .byte) (by decide)
  have E_b5 := A5
  have K5 : Keep h0 h5 [] := (own_same eq4).ext E5
  have g_b5 : n0 ≤ b5 := by rw [g5, eq4]; exact Z0
  have sz5 : h0.size ≤ b5 := by rw [g5, eq4]; exact Nat.le_refl _
  obtain ⟨_, _, ⟨T6, L6, k6, n6⟩, -, X6, ⟨Lc6, hQ6, l6, y6, z6⟩, st6⟩ := Jvm.LawKit.callS X5 hx (y := (⟨"java/lang/StringLatin1", "toBytes", "(C)[B"⟩ : MethodName)) hown (mvT hZ (hw _ (List.mem_of_getElem? (i := 159) rfl))) (mvT hZ (hw _ (List.mem_of_getElem? (i := 160) rfl))) (mvT hZ (hw _ (List.mem_of_getElem? (i := 69) rfl))) (mvT hZ (hw _ (List.mem_of_getElem? (i := 161) rfl))) (by decide) (backOf (W := 2) (rm39 l Z a0 hw [] ch h5 n0 (Nat.le_trans Z0 K5.1) hch) hZ (hw _ (List.mem_of_getElem? (i := 161) rfl)) (hw _ (List.mem_of_getElem? (i := 69) rfl)) (by decide) (by decide)) (g := (mkF m 18 #[.val (.int (Int32.ofNat ch))] [(.int (Int32.ofNat ch)), (.ref b5), (.ref b5)])) rfl (by rw [hml]; rfl) (argsL := [(.int (Int32.ofNat ch))]) (rest := [(.ref b5), (.ref b5)]) (lenOf pd_37_32 rfl) rfl (by show 2 * 0 + _ ≤ _; exact Nat.le_of_eq rfl) (hb hby d37_18) (fun _ _ => ⟨rfl, e5, (by decide : 1 + 1 ≤ _), (by decide : 4 + 1 ≤ _)⟩)
  dsimp only [Pt.U, Pt.locs, Pt.cells, Pt.slots] at X6 l6 y6 z6 st6 hQ6
  subst l6 y6 z6
  obtain ⟨b6, rfl, N6q, g_b6, sz_b6, K6, A6⟩ := hQ6
  have N6 := Fr.app N4 N6q
  obtain ⟨_, _, ⟨T7, L7, k7, n7⟩, -, X7, ⟨Lc7, hQ7, l7, y7, z7⟩, st7⟩ := X6.specialBack hx (y := (⟨"java/lang/String", "<init>", "([BB)V"⟩ : MethodName)) rfl hown (mvT hZ (hw _ (List.mem_of_getElem? (i := 162) rfl))) (mvT hZ (hw _ (List.mem_of_getElem? (i := 163) rfl))) (mvT hZ (hw _ (List.mem_of_getElem? (i := 164) rfl))) (by decide) (backOf (W := 1) (rm40 l Z a0 hw [] b5 b6 (0 : Int32) _ _ T6.heap n0 (Nat.le_trans Z0 (Nat.le_trans K5.1 K6.1)) (E_b5.keep K6) (F_value_b5.keep K6 (by simp)) g_b5 (F_coder_b5.keep K6 (by simp))) hZ (hw _ (List.mem_of_getElem? (i := 164) rfl)) (hw _ (List.mem_of_getElem? (i := 8) rfl)) (by decide) (by decide)) (g := (mkF m 22 #[.val (.int (Int32.ofNat ch))] [(.int (0 : Int32)), (.ref b6), (.ref b5), (.ref b5)])) rfl (by rw [hml]; rfl) (Steps.refl _) (a := b5) (argsL := [(.ref b6), (.int (0 : Int32))]) (rest := [(.ref b5)]) (lenOf pd_37_33 rfl) rfl (by show 2 * 0 + _ ≤ _; exact Nat.le_of_eq rfl) (hb hby d37_22) (fun _ _ => ⟨rfl, rfl, (by decide : 1 + 1 ≤ _), (by decide : 4 + 1 ≤ _)⟩)
  dsimp only [Pt.U, Pt.locs, Pt.cells, Pt.slots] at X7 l7 y7 z7 st7 hQ7
  subst l7 y7 z7
  obtain ⟨rfl, N7q, K7, E7, F7v, F7c⟩ := hQ7
  have N7 := Fr.app N6 N7q
  have hne := own_dis2 (F_value_b5.keep K6 (by simp)) (fun _ q => nomatch q) A6
  obtain ⟨fs, hr, hrun, hended, hW, hsame⟩ := X7.leave (v := some (.ref b5)) (fun h => by rw [Bd.returns] at h; cases h)
  refine ⟨_, _, pre0 _ ?_, hrun, hended, _, _, rfl, ?_, ⟨_, rfl⟩, hW, hsame.mono (by decide) (by decide)⟩
  -- 4. STEPS
  · show Steps p.tables e below (s₁.setTop (mkF m 0 #[.val (.int (Int32.ofNat ch))] [])) _
    refine st3 _ ?_
    refine XS.ifNo X3.here hx rfl (hb hby d37_3) rfl ((if0 _ _).trans (feq hc3).1) ?_
    refine XS.iloadN X3.here hx rfl (hb hby d37_6) rfl ?_
    refine st4 _ ?_
    refine XS.ifNo X4.here hx rfl (hb hby d37_10) rfl ((if0 _ _).trans (feq ((by decide) : ¬ ((1 : Int32) = (0 : Int32)))).1) ?_
    refine st5 _ ?_
    refine XS.dup X5.here hx rfl (hb hby d37_16) rfl rfl ?_
    show Steps p.tables e below (T5.setTop (mkF m 17 #[.val (.int (Int32.ofNat ch))] [(.ref b5), (.ref b5)])) _
    refine XS.iloadN X5.here hx rfl (hb hby d37_17) rfl ?_
    refine st6 _ ?_
    refine XS.iconst X6.here hx rfl (hb hby d37_21) ?_
    refine st7.trans ?_
    show Steps p.tables e below (T7.setTop (mkF m 25 #[.val (.int (Int32.ofNat ch))] [(.ref b5)])) _
    jvm_step X7.here [X7.here.top, hx, (hb hby d37_25), X7.method', Bd.returns, Value.isRef, FieldType.isReference]
    first | (intro acts; rw [hr _ acts rfl rfl rfl]) | rw [hr _ _ rfl rfl rfl]
    exact Steps.refl _
  · show QS Z [ch] h0 n0 _ T7.heap _
    exact ⟨b5, rfl, N7, g_b5, sz5, own_kn (own_k0 K5 K6) K7 sz5, E7, by simp, b6, _, _, F7v, F7c, A6.keep K7 (by simpa using hne.symm), Or.inl ⟨by decide, rfl, by simpa using hch⟩⟩
theorem d37_26 : decode jdk_42_method_139_code 26 = .ok (.new 10, 3) := by decide +kernel
theorem d37_29 : decode jdk_42_method_139_code 29 = .ok (.dup, 1) := by decide +kernel
theorem d37_30 : decode jdk_42_method_139_code 30 = .ok (.iload_n 0, 1) := by decide +kernel
theorem d37_31 : decode jdk_42_method_139_code 31 = .ok (.invokestatic 1021, 3) := by decide +kernel
theorem d37_34 : decode jdk_42_method_139_code 34 = .ok (.iconst 1, 1) := by decide +kernel
theorem d37_35 : decode jdk_42_method_139_code 35 = .ok (.invokespecial 209, 3) := by decide +kernel
theorem d37_38 : decode jdk_42_method_139_code 38 = .ok (.areturn, 1) := by decide +kernel
set_option maxRecDepth 65536 in
set_option maxHeartbeats 40000000 in
theorem rm37u (l : Launch) (Z : State) (a0 : Array Value) (hw : ∀ d ∈ tables_1, d.before a0 Z = true) (ws : List Jvm.Cond) (ch : Nat) (h0 : Heap) (n0 : Nat) (Z0 : n0 ≤ h0.size) (D : Wd Z h0) (hch : ch < 65536) (hg : 255 < ch) :
    MetFree l (⟨"java/lang/String", "valueOf", "(C)Ljava/lang/String;"⟩ : MethodName) (head1 (Jvm.Cond.code (⟨"java/lang/String", "valueOf", "(C)Ljava/lang/String;"⟩ : MethodName) jdk_42_method_139_code 1 (some (.object "java/lang/String")) :: ws) ({ frames := 2, cells := 2, slots := 6, locals := 29 } : Room)) (fun a U => a = #[(.int (Int32.ofNat ch))] ∧ Z.Warmed39 U.vm ∧ U.heap = h0) (fun _ _ _ _ _ => True) (fun _ U o U' => ∃ v L, o = .returned v ∧ QS Z [ch] h0 n0 v U'.heap L ∧ FrameEnd U o U' L ({ frames := 2, cells := 2, slots := 6, locals := 29 } : Room).cells ({ frames := 2, cells := 2, slots := 6, locals := 29 } : Room).slots) := by
  refine MetFree.of_bodySF (plainFor_of_name pn_37) hisR ?_
  intro p e s m args below meth c s₁ Bd hml0 hP hK
  obtain ⟨rfl, hZ, hh⟩ := hP
  have hx := Bd.exec
  have hby := Bd.bytes
  have hml : c.maxLocals = 1 := hml0
  have hown : s.vm.findClass "java/lang/String" = some m.cls := findClass_of_methodNamed Bd.named
  have hnm := (name_of_methodNamed Bd.named Bd.method).1
  have X0 : Stand p l e ({ frames := 2, cells := 2, slots := 6, locals := 29 } : Room) s m #[(.int (Int32.ofNat ch))] below meth c s₁ [] 0 0 := Stand.of_body Bd
  have e0 : s₁.heap = h0 := by rw [← hh, Bd.state]; rfl
  have N0 := Fr.nil n0
  have pre0 : ∀ t, Steps p.tables e below (s₁.setTop (mkF m 0 #[.val (.int (Int32.ofNat ch))] [])) t → Steps p.tables e below (s₁.setTop (entryFrame m #[(.int (Int32.ofNat ch))] 1)) t := fun t_ k_ => castTop (ef_37 m (Int32.ofNat ch)) k_
  obtain ⟨w2, hc3, S_String_COMPACT_STRINGS⟩ := D.2.1
  obtain ⟨T3, X3, e3, st3⟩ := getS2 X0 hx hZ hown (host := "") (Or.inl (hw _ (List.mem_of_getElem? (i := 41) rfl))) Via.refl e0 S_String_COMPACT_STRINGS (g := (mkF m 0 #[.val (.int (Int32.ofNat ch))] [])) rfl (hb hby d37_0)
  obtain ⟨_, _, ⟨T4, L4, k4, n4⟩, -, X4, ⟨Lc4, hQ4, l4, y4, z4⟩, st4⟩ := Jvm.LawKit.callS X3 hx (y := (⟨"java/lang/StringLatin1", "canEncode", "(C)Z"⟩ : MethodName)) hown (mvT hZ (hw _ (List.mem_of_getElem? (i := 155) rfl))) (mvT hZ (hw _ (List.mem_of_getElem? (i := 156) rfl))) (mvT hZ (hw _ (List.mem_of_getElem? (i := 69) rfl))) (mvT hZ (hw _ (List.mem_of_getElem? (i := 157) rfl))) (by decide) (backOf (W := 0) (rm38y l Z a0 hw [] (Int32.ofNat ch) h0 n0 Z0 (own_gt ch hg hch)) hZ (hw _ (List.mem_of_getElem? (i := 157) rfl)) (hw _ (List.mem_of_getElem? (i := 69) rfl)) (by decide) (by decide)) (g := (mkF m 7 #[.val (.int (Int32.ofNat ch))] [(.int (Int32.ofNat ch))])) rfl (by rw [hml]; rfl) (argsL := [(.int (Int32.ofNat ch))]) (rest := []) (lenOf pd_37_31 rfl) rfl (by show 2 * 0 + _ ≤ _; exact Nat.le_of_eq rfl) (hb hby d37_7) (fun _ _ => ⟨rfl, e3, (by decide : 0 + 0 ≤ _), (by decide : 0 + 0 ≤ _)⟩)
  dsimp only [Pt.U, Pt.locs, Pt.cells, Pt.slots] at X4 l4 y4 z4 st4 hQ4
  subst l4 y4 z4
  obtain ⟨rfl, N4q, eq4⟩ := hQ4
  have N4 := Fr.app N0 N4q
  obtain ⟨T5, h5, X5, e5, E5, A5, D5, -, st5⟩ := newO X4 hx hZ hown (hw _ (List.mem_of_getElem? (i := 158) rfl)) (hw _ (List.mem_of_getElem? (i := 7) rfl)) (hw _ (List.mem_of_getElem? (i := 8) rfl)) rfl (g := (mkF m 26 #[.val (.int (Int32.ofNat ch))] [])) rfl (hb hby d37_26) (by decide) (by decide)
  obtain ⟨b5, g5⟩ : ∃ z, z = T4.heap.size := ⟨_, rfl⟩
  rw [← g5] at A5 D5 st5
  have F_value_b5 : Fld Z h5 b5 "java/lang/String" "value" "[B" .null := D5 (Or.inr (hw _ (List.mem_of_getElem? (i := 21) rfl))) (ty := (.array .byte)) (by decide)
  have F_coder_b5 : Fld Z h5 b5 "java/lang/String" "coder" "B" (.int (0 : Int32)) := D5 (Or.inr (hw _ (List.mem_of_getElem? (i := 22) rfl))) (ty := .byte) (by decide)
  have E_b5 := A5
  have K5 : Keep h0 h5 [] := (own_same eq4).ext E5
  have g_b5 : n0 ≤ b5 := by rw [g5, eq4]; exact Z0
  have sz5 : h0.size ≤ b5 := by rw [g5, eq4]; exact Nat.le_refl _
  obtain ⟨_, _, ⟨T6, L6, k6, n6⟩, -, X6, ⟨Lc6, hQ6, l6, y6, z6⟩, st6⟩ := Jvm.LawKit.callS X5 hx (y := (⟨"java/lang/StringUTF16", "toBytes", "(C)[B"⟩ : MethodName)) hown (mvT hZ (hw _ (List.mem_of_getElem? (i := 165) rfl))) (mvT hZ (hw _ (List.mem_of_getElem? (i := 166) rfl))) (mvT hZ (hw _ (List.mem_of_getElem? (i := 94) rfl))) (mvT hZ (hw _ (List.mem_of_getElem? (i := 167) rfl))) (by decide) (backOf (W := 2) (rm41 l Z a0 hw [] ch h5 n0 (Nat.le_trans Z0 K5.1) (D.keep K5 own_ns0) hch) hZ (hw _ (List.mem_of_getElem? (i := 167) rfl)) (hw _ (List.mem_of_getElem? (i := 94) rfl)) (by decide) (by decide)) (g := (mkF m 31 #[.val (.int (Int32.ofNat ch))] [(.int (Int32.ofNat ch)), (.ref b5), (.ref b5)])) rfl (by rw [hml]; rfl) (argsL := [(.int (Int32.ofNat ch))]) (rest := [(.ref b5), (.ref b5)]) (lenOf pd_37_32 rfl) rfl (by show 2 * 0 + _ ≤ _; exact Nat.le_of_eq rfl) (hb hby d37_31) (fun _ _ => ⟨rfl, e5, (by decide : 1 + 1 ≤ _), (by decide : 4 + 2 ≤ _)⟩)
  dsimp only [Pt.U, Pt.locs, Pt.cells, Pt.slots] at X6 l6 y6 z6 st6 hQ6
  subst l6 y6 z6
  obtain ⟨b6, rfl, N6q, g_b6, sz_b6, K6, A6⟩ := hQ6
  have N6 := Fr.app N4 N6q
  obtain ⟨_, _, ⟨T7, L7, k7, n7⟩, -, X7, ⟨Lc7, hQ7, l7, y7, z7⟩, st7⟩ := X6.specialBack hx (y := (⟨"java/lang/String", "<init>", "([BB)V"⟩ : MethodName)) rfl hown (mvT hZ (hw _ (List.mem_of_getElem? (i := 162) rfl))) (mvT hZ (hw _ (List.mem_of_getElem? (i := 163) rfl))) (mvT hZ (hw _ (List.mem_of_getElem? (i := 164) rfl))) (by decide) (backOf (W := 1) (rm40 l Z a0 hw [] b5 b6 (1 : Int32) _ _ T6.heap n0 (Nat.le_trans Z0 (Nat.le_trans K5.1 K6.1)) (E_b5.keep K6) (F_value_b5.keep K6 (by simp)) g_b5 (F_coder_b5.keep K6 (by simp))) hZ (hw _ (List.mem_of_getElem? (i := 164) rfl)) (hw _ (List.mem_of_getElem? (i := 8) rfl)) (by decide) (by decide)) (g := (mkF m 35 #[.val (.int (Int32.ofNat ch))] [(.int (1 : Int32)), (.ref b6), (.ref b5), (.ref b5)])) rfl (by rw [hml]; rfl) (Steps.refl _) (a := b5) (argsL := [(.ref b6), (.int (1 : Int32))]) (rest := [(.ref b5)]) (lenOf pd_37_33 rfl) rfl (by show 2 * 0 + _ ≤ _; exact Nat.le_of_eq rfl) (hb hby d37_35) (fun _ _ => ⟨rfl, rfl, (by decide : 1 + 1 ≤ _), (by decide : 4 + 2 ≤ _)⟩)
  dsimp only [Pt.U, Pt.locs, Pt.cells, Pt.slots] at X7 l7 y7 z7 st7 hQ7
  subst l7 y7 z7
  obtain ⟨rfl, N7q, K7, E7, F7v, F7c⟩ := hQ7
  have N7 := Fr.app N6 N7q
  have hne := own_dis2 (F_value_b5.keep K6 (by simp)) (fun _ q => nomatch q) A6
  obtain ⟨fs, hr, hrun, hended, hW, hsame⟩ := X7.leave (v := some (.ref b5)) (fun h => by rw [Bd.returns] at h; cases h)
  refine ⟨_, _, pre0 _ ?_, hrun, hended, _, _, rfl, ?_, ⟨_, rfl⟩, hW, hsame.mono (by decide) (by decide)⟩
  -- 4. STEPS
  · show Steps p.tables e below (s₁.setTop (mkF m 0 #[.val (.int (Int32.ofNat ch))] [])) _
    refine st3 _ ?_
    refine XS.ifNo X3.here hx rfl (hb hby d37_3) rfl ((if0 _ _).trans (feq hc3).1) ?_
    refine XS.iloadN X3.here hx rfl (hb hby d37_6) rfl ?_
    refine st4 _ ?_
    refine XS.ifYes X4.here hx rfl (pc0 := 10) (pc' := 26) rfl (hb hby d37_10) rfl ((if0 _ _).trans (teq ((by decide) : (0 : Int32) = (0 : Int32))).1) (by decide) (by decide) ?_
    refine st5 _ ?_
    refine XS.dup X5.here hx rfl (hb hby d37_29) rfl rfl ?_
    show Steps p.tables e below (T5.setTop (mkF m 30 #[.val (.int (Int32.ofNat ch))] [(.ref b5), (.ref b5)])) _
    refine XS.iloadN X5.here hx rfl (hb hby d37_30) rfl ?_
    refine st6 _ ?_
    refine XS.iconst X6.here hx rfl (hb hby d37_34) ?_
    refine st7.trans ?_
    show Steps p.tables e below (T7.setTop (mkF m 38 #[.val (.int (Int32.ofNat ch))] [(.ref b5)])) _
    jvm_step X7.here [X7.here.top, hx, (hb hby d37_38), X7.method', Bd.returns, Value.isRef, FieldType.isReference]
    first | (intro acts; rw [hr _ acts rfl rfl rfl]) | rw [hr _ _ rfl rfl rfl]
    exact Steps.refl _
  · show QS Z [ch] h0 n0 _ T7.heap _
    exact ⟨b5, rfl, N7, g_b5, sz5, own_kn (own_k0 K5 K6) K7 sz5, E7, by simp, b6, _, _, F7v, F7c, A6.keep K7 (by simpa using hne.symm), Or.inr ⟨by decide, rfl, by simpa using hch, by simp⟩⟩
theorem vof (l : Launch) (Z : State) (a0 : Array Value) (hw : ∀ d ∈ tables_1, d.before a0 Z = true) (ws : List Jvm.Cond) (ch : Nat) (h0 : Heap) (n0 : Nat) (Z0 : n0 ≤ h0.size) (D : Wd Z h0) (hch : ch < 65536) :
    MetFree l (⟨"java/lang/String", "valueOf", "(C)Ljava/lang/String;"⟩ : MethodName) (head1 (Jvm.Cond.code (⟨"java/lang/String", "valueOf", "(C)Ljava/lang/String;"⟩ : MethodName) jdk_42_method_139_code 1 (some (.object "java/lang/String")) :: ws) ({ frames := 2, cells := 2, slots := 6, locals := 29 } : Room)) (fun a U => a = #[(.int (Int32.ofNat ch))] ∧ Z.Warmed39 U.vm ∧ U.heap = h0) (fun _ _ _ _ _ => True) (fun _ U o U' => ∃ v L, o = .returned v ∧ QS Z [ch] h0 n0 v U'.heap L ∧ FrameEnd U o U' L ({ frames := 2, cells := 2, slots := 6, locals := 29 } : Room).cells ({ frames := 2, cells := 2, slots := 6, locals := 29 } : Room).slots) := by
  by_cases h : ch < 256
  · exact rm37l l Z a0 hw ws ch h0 n0 Z0 D h
  · exact rm37u l Z a0 hw ws ch h0 n0 Z0 D hch (by omega)
theorem d28_0 : decode jdk_52_method_2_code 0 = .ok (.iload_n 0, 1) := by decide +kernel
theorem d28_1 : decode jdk_52_method_2_code 1 = .ok (.invokestatic 11, 3) := by decide +kernel
theorem d28_4 : decode jdk_52_method_2_code 4 = .ok (.newarray .byte, 2) := by decide +kernel
theorem d28_6 : decode jdk_52_method_2_code 6 = .ok (.areturn, 1) := by decide +kernel
theorem pn_28 : plainName "java/lang/StringUTF16" = true := by first | (simp [plainName, overriddenIn]; done) | decide +kernel
theorem pd_28_25 : parseMethodDescriptor "(I)I" = some ⟨[.int], some .int⟩ := by decide +kernel
theorem ef_28 (m : MethodId) (x0 : Int32) : entryFrame m #[(.int x0)] 1 = mkF m 0 #[.val (.int x0)] [] := by first | (simp [entryFrame, mkF, argsToLocals, Value.category]; done) | rfl
set_option maxRecDepth 65536 in
set_option maxHeartbeats 40000000 in
theorem rm28 (l : Launch) (Z : State) (a0 : Array Value) (hw : ∀ d ∈ tables_1, d.before a0 Z = true) (ws : List Jvm.Cond) (n : Nat) (h0 : Heap) (n0 : Nat) (Z0 : n0 ≤ h0.size) (hn : n ≤ 16) :
    MetFree l (⟨"java/lang/StringUTF16", "newBytesFor", "(I)[B"⟩ : MethodName) (head1 (Jvm.Cond.code (⟨"java/lang/StringUTF16", "newBytesFor", "(I)[B"⟩ : MethodName) jdk_52_method_2_code 1 (some (.array .byte)) :: ws) ({ frames := 1, cells := 1, slots := 32, locals := 12 } : Room)) (fun a U => a = #[(.int (Int32.ofNat n))] ∧ Z.Warmed39 U.vm ∧ U.heap = h0) (fun _ _ _ _ _ => True) (fun _ U o U' => ∃ v L, o = .returned v ∧ QN Z .byte b8 (List.replicate (2 * n) 0) h0 n0 v U'.heap L ∧ FrameEnd U o U' L ({ frames := 1, cells := 1, slots := 32, locals := 12 } : Room).cells ({ frames := 1, cells := 1, slots := 32, locals := 12 } : Room).slots) := by
  refine MetFree.of_bodySF (plainFor_of_name pn_28) hisR ?_
  intro p e s m args below meth c s₁ Bd hml0 hP hK
  obtain ⟨rfl, hZ, hh⟩ := hP
  have hx := Bd.exec
  have hby := Bd.bytes
  have hml : c.maxLocals = 1 := hml0
  have hown : s.vm.findClass "java/lang/StringUTF16" = some m.cls := findClass_of_methodNamed Bd.named
  have hnm := (name_of_methodNamed Bd.named Bd.method).1
  have X0 : Stand p l e ({ frames := 1, cells := 1, slots := 32, locals := 12 } : Room) s m #[(.int (Int32.ofNat n))] below meth c s₁ [] 0 0 := Stand.of_body Bd
  have e0 : s₁.heap = h0 := by rw [← hh, Bd.state]; rfl
  have N0 := Fr.nil n0
  have pre0 : ∀ t, Steps p.tables e below (s₁.setTop (mkF m 0 #[.val (.int (Int32.ofNat n))] [])) t → Steps p.tables e below (s₁.setTop (entryFrame m #[(.int (Int32.ofNat n))] 1)) t := fun t_ k_ => castTop (ef_28 m (Int32.ofNat n)) k_
  obtain ⟨_, _, ⟨T2, L2, k2, n2⟩, -, X2, ⟨Lc2, hQ2, l2, y2, z2⟩, st2⟩ := Jvm.LawKit.callS X0 hx (y := (⟨"java/lang/StringUTF16", "newBytesLength", "(I)I"⟩ : MethodName)) hown (mvT hZ (hw _ (List.mem_of_getElem? (i := 122) rfl))) (mvT hZ (hw _ (List.mem_of_getElem? (i := 123) rfl))) (mvT hZ (hw _ (List.mem_of_getElem? (i := 94) rfl))) (mvT hZ (hw _ (List.mem_of_getElem? (i := 124) rfl))) (by decide) (backOf (W := 0) (rm29 l Z a0 hw [] (Int32.ofNat n) h0 n0 Z0 (own_n n (by omega)).2 (own_sm n (by omega))) hZ (hw _ (List.mem_of_getElem? (i := 124) rfl)) (hw _ (List.mem_of_getElem? (i := 94) rfl)) (by decide) (by decide)) (g := (mkF m 1 #[.val (.int (Int32.ofNat n))] [(.int (Int32.ofNat n))])) rfl (by rw [hml]; rfl) (argsL := [(.int (Int32.ofNat n))]) (rest := []) (lenOf pd_28_25 rfl) rfl (by show 2 * 0 + _ ≤ _; exact Nat.le_of_eq rfl) (hb hby d28_1) (fun _ _ => ⟨rfl, e0, (by decide : 0 + 0 ≤ _), (by decide : 0 + 0 ≤ _)⟩)
  dsimp only [Pt.U, Pt.locs, Pt.cells, Pt.slots] at X2 l2 y2 z2 st2 hQ2
  subst l2 y2 z2
  obtain ⟨rfl, N2q, eq2⟩ := hQ2
  have N2 := Fr.app N0 N2q
  obtain ⟨T3, h3, b3, X3, e3, E3, g_b3, sz_b3, A3, st3⟩ := newPv (a0 := a0) X2 hx hZ rfl (by rw [eq2]; exact Z0) (g := (mkF m 4 #[.val (.int (Int32.ofNat n))] [(.int ((Int32.ofNat n) <<< ((1 : Int32) &&& 31)))])) rfl (hb hby d28_4) rfl (hw _ (List.mem_of_getElem? (i := 1) rfl)) (2 * n) (by omega) b8 own_f8 (own_shl n (by omega)) rfl (cap := 32) (by omega) (by decide) (by decide) (by decide)
  obtain ⟨fs, hr, hrun, hended, hW, hsame⟩ := X3.leave (v := some (.ref b3)) (fun h => by rw [Bd.returns] at h; cases h)
  refine ⟨_, _, pre0 _ ?_, hrun, hended, _, _, rfl, ?_, ⟨_, rfl⟩, hW, hsame.mono (by decide) (by decide)⟩
  -- 4. STEPS
  · show Steps p.tables e below (s₁.setTop (mkF m 0 #[.val (.int (Int32.ofNat n))] [])) _
    refine XS.iloadN X0.here hx rfl (hb hby d28_0) rfl ?_
    refine st2 _ ?_
    refine st3 _ ?_
    show Steps p.tables e below (T3.setTop (mkF m 6 #[.val (.int (Int32.ofNat n))] [(.ref b3)])) _
    jvm_step X3.here [X3.here.top, hx, (hb hby d28_6), X3.method', Bd.returns, Value.isRef, FieldType.isReference]
    first | (intro acts; rw [hr _ acts rfl rfl rfl]) | rw [hr _ _ rfl rfl rfl]
    exact Steps.refl _
  · show QN Z .byte b8 (List.replicate (2 * n) 0) h0 n0 _ T3.heap _
    rw [e3]
    exact ⟨b3, rfl, N2, g_b3, by rw [eq2] at sz_b3; exact sz_b3, (own_same eq2).ext E3, A3⟩
theorem d15_0 : decode jdk_43_method_49_code 0 = .ok (.iconst 0, 1) := by decide +kernel
theorem d15_1 : decode jdk_43_method_49_code 1 = .ok (.istore 5, 2) := by decide +kernel
theorem os15_1 {s0 : Slot} {s1 : Slot} {s2 : Slot} {s3 : Slot} {s4 : Slot} {s5 : Slot} {v : Int32} (h : One s5) : storeLocals #[s0, s1, s2, s3, s4, s5] 5 (.int v) = some #[s0, s1, s2, s3, s4, .val (.int v)] := by
  rcases h with rfl | ⟨w, rfl, hw⟩
  · rfl
  · cases w <;> first | rfl | (simp [Value.category] at hw)
set_option maxRecDepth 65536 in
set_option maxHeartbeats 40000000 in
theorem s15a {p : Program} {l : Launch} {e : Env} {R : Room} {s : State} {m : MethodId} {args : Array Value} {below : List Frame} {meth : Method} {c : Code} {T0 : State} {locs : List Loc} {cells slots : Nat} {Z : State} {h0 : Heap} (s0 : Slot) (s1 : Slot) (s2 : Slot) (s3 : Slot) (s4 : Slot) (s5 : Slot) 
    (X0 : Stand p l e R s m args below meth c T0 locs cells slots) (hx : p.tables.exec = Jvm.exec) (hZ : Z.Warmed39 s.vm) (hby : c.code = jdk_43_method_49_code) (e0 : T0.heap = h0) (hs5 : One s5)  :
    ∀ target, Steps p.tables e below (T0.setTop (mkF m 3 #[s0, s1, s2, s3, s4, .val (.int (0 : Int32))] [])) target → Steps p.tables e below (T0.setTop (mkF m 0 #[s0, s1, s2, s3, s4, s5] [])) target := by
  intro target kt
  show Steps p.tables e below (T0.setTop (mkF m 0 #[s0, s1, s2, s3, s4, s5] [])) _
  refine XS.iconst X0.here hx rfl (hb hby d15_0) ?_
  refine XS.istore X0.here hx rfl (hb hby d15_1) rfl (l' := #[s0, s1, s2, s3, s4, .val (.int (0 : Int32))]) (os15_1 hs5) ?_
  exact kt
theorem d15_3 : decode jdk_43_method_49_code 3 = .ok (.iload 5, 2) := by decide +kernel
theorem d15_5 : decode jdk_43_method_49_code 5 = .ok (.iload 4, 2) := by decide +kernel
theorem d15_7 : decode jdk_43_method_49_code 7 = .ok (.if_icmp .ge 26, 3) := by decide +kernel
set_option maxRecDepth 65536 in
set_option maxHeartbeats 40000000 in
theorem s15x {p : Program} {l : Launch} {e : Env} {R : Room} {s : State} {m : MethodId} {args : Array Value} {below : List Frame} {meth : Method} {c : Code} {T0 : State} {locs : List Loc} {cells slots : Nat} {Z : State} {h0 : Heap} (s0 : Slot) (s1 : Slot) (s2 : Slot) (s3 : Slot) (i4 : Int32) (i5 : Int32) 
    (X0 : Stand p l e R s m args below meth c T0 locs cells slots) (hx : p.tables.exec = Jvm.exec) (hZ : Z.Warmed39 s.vm) (hby : c.code = jdk_43_method_49_code) (e0 : T0.heap = h0) (hc7 : ¬ (i5 < i4))  :
    ∀ target, Steps p.tables e below (T0.setTop (mkF m 33 #[s0, s1, s2, s3, .val (.int i4), .val (.int i5)] [])) target → Steps p.tables e below (T0.setTop (mkF m 3 #[s0, s1, s2, s3, .val (.int i4), .val (.int i5)] [])) target := by
  intro target kt
  show Steps p.tables e below (T0.setTop (mkF m 3 #[s0, s1, s2, s3, .val (.int i4), .val (.int i5)] [])) _
  refine XS.iload X0.here hx rfl (hb hby d15_3) rfl ?_
  refine XS.iload X0.here hx rfl (hb hby d15_5) rfl ?_
  refine XS.icmpYes X0.here hx rfl (pc0 := 7) (pc' := 33) rfl (hb hby d15_7) rfl (flt hc7).2.1 (by decide) (by decide) ?_
  exact kt
theorem d15_10 : decode jdk_43_method_49_code 10 = .ok (.aload_n 2, 1) := by decide +kernel
theorem d15_11 : decode jdk_43_method_49_code 11 = .ok (.iload_n 3, 1) := by decide +kernel
theorem d15_12 : decode jdk_43_method_49_code 12 = .ok (.iinc 3 1, 3) := by decide +kernel
theorem d15_15 : decode jdk_43_method_49_code 15 = .ok (.aload_n 0, 1) := by decide +kernel
theorem d15_16 : decode jdk_43_method_49_code 16 = .ok (.iload_n 1, 1) := by decide +kernel
theorem d15_17 : decode jdk_43_method_49_code 17 = .ok (.iinc 1 1, 3) := by decide +kernel
theorem d15_20 : decode jdk_43_method_49_code 20 = .ok (.baload, 1) := by decide +kernel
theorem d15_21 : decode jdk_43_method_49_code 21 = .ok (.sipush 255, 3) := by decide +kernel
theorem d15_24 : decode jdk_43_method_49_code 24 = .ok (.iand, 1) := by decide +kernel
theorem d15_25 : decode jdk_43_method_49_code 25 = .ok (.i2c, 1) := by decide +kernel
theorem d15_26 : decode jdk_43_method_49_code 26 = .ok (.castore, 1) := by decide +kernel
theorem d15_27 : decode jdk_43_method_49_code 27 = .ok (.iinc 5 1, 3) := by decide +kernel
theorem d15_30 : decode jdk_43_method_49_code 30 = .ok (.goto (-27), 3) := by decide +kernel
set_option maxRecDepth 65536 in
set_option maxHeartbeats 40000000 in
theorem t15 {p : Program} {l : Launch} {e : Env} {R : Room} {s : State} {m : MethodId} {args : Array Value} {below : List Frame} {meth : Method} {c : Code} {T0 : State} {locs : List Loc} {cells slots : Nat} {Z : State} {a0 : Array Value} {h0 : Heap} (o0 : Addr) (o2 : Addr) (i d k t ch : Nat) (ns ds : List Nat) (n0 : Nat)
    (X0 : Stand p l e R s m args below meth c T0 locs cells slots) (hx : p.tables.exec = Jvm.exec) (hZ : Z.Warmed39 s.vm) (hw : ∀ d ∈ tables_1, d.before a0 Z = true) (hby : c.code = jdk_43_method_49_code) (hml : c.maxLocals = 6) (hown : s.vm.findClass "java/lang/StringLatin1" = some m.cls) (e0 : T0.heap = h0) (N0 : Fr n0 locs) (Z0 : n0 ≤ h0.size) (A0 : Av Z h0 o0 .byte b8 ns) (A2 : Av Z h0 o2 .char Int32.ofNat ds) (hn : ns.length < 128) (hd : ds.length < 128) (hq : ns[i]? = some ch) (hc8 : ch < 256) (hdi : d < ds.length) (g_o2 : n0 ≤ o2) (hc7 : Int32.ofNat t < Int32.ofNat k) :
    ∃ (T' : State) (h' : Heap) (L' : List Loc), Stand p l e R s m args below meth c T' L' cells slots ∧ T'.heap = h' ∧ Fr n0 L' ∧ Keep h0 h' [o2] ∧ Av Z h' o2 .char Int32.ofNat (ds.set d ch) ∧
      ∀ target, Steps p.tables e below (T'.setTop (mkF m 3 #[.val (.ref o0), .val (.int ((Int32.ofNat i) + (1 : Int32))), .val (.ref o2), .val (.int ((Int32.ofNat d) + (1 : Int32))), .val (.int (Int32.ofNat k)), .val (.int ((Int32.ofNat t) + (1 : Int32)))] [])) target → Steps p.tables e below (T0.setTop (mkF m 3 #[.val (.ref o0), .val (.int (Int32.ofNat i)), .val (.ref o2), .val (.int (Int32.ofNat d)), .val (.int (Int32.ofNat k)), .val (.int (Int32.ofNat t))] [])) target := by
  obtain ⟨cl_o0, Ar_o0, q_o0⟩ := A0
  have hin20 := own_avi q_o0 (List.getElem?_eq_some_iff.mp hq).1 (by omega)
  have hat20 := own_avn q_o0 hq (by omega)
  obtain ⟨T7, h7, L7, X7, e7, N7, K7, A7, st7⟩ := stCv X0 hx hZ e0 N0 g_o2 A2 (by omega) d hdi ch (by omega) rfl (own_get1 ch hc8) (g := (mkF m 26 #[.val (.ref o0), .val (.int ((Int32.ofNat i) + (1 : Int32))), .val (.ref o2), .val (.int ((Int32.ofNat d) + (1 : Int32))), .val (.int (Int32.ofNat k)), .val (.int (Int32.ofNat t))] [(.int (((b8 ch) &&& (255 : Int32)).toUInt32.toUInt16.toUInt32.toInt32)), (.int (Int32.ofNat d)), (.ref o2)])) rfl rfl (hb hby d15_26)
  refine ⟨T7, _, _, X7, e7, N7, K7, A7, fun target kt => ?_⟩
  show Steps p.tables e below (T0.setTop (mkF m 3 #[.val (.ref o0), .val (.int (Int32.ofNat i)), .val (.ref o2), .val (.int (Int32.ofNat d)), .val (.int (Int32.ofNat k)), .val (.int (Int32.ofNat t))] [])) _
  refine XS.iload X0.here hx rfl (hb hby d15_3) rfl ?_
  refine XS.iload X0.here hx rfl (hb hby d15_5) rfl ?_
  refine XS.icmpNo X0.here hx rfl (hb hby d15_7) rfl (tlt hc7).2.1 ?_
  refine XS.aloadN X0.here hx rfl (hb hby d15_10) rfl rfl ?_
  refine XS.iloadN X0.here hx rfl (hb hby d15_11) rfl ?_
  refine XS.iinc X0.here hx rfl (hb hby d15_12) rfl (l' := #[.val (.ref o0), .val (.int (Int32.ofNat i)), .val (.ref o2), .val (.int ((Int32.ofNat d) + (1 : Int32))), .val (.int (Int32.ofNat k)), .val (.int (Int32.ofNat t))]) rfl ?_
  refine XS.aloadN X0.here hx rfl (hb hby d15_15) rfl rfl ?_
  show Steps p.tables e below (T0.setTop (mkF m 16 #[.val (.ref o0), .val (.int (Int32.ofNat i)), .val (.ref o2), .val (.int ((Int32.ofNat d) + (1 : Int32))), .val (.int (Int32.ofNat k)), .val (.int (Int32.ofNat t))] [(.ref o0), (.int (Int32.ofNat d)), (.ref o2)])) _
  refine XS.iloadN X0.here hx rfl (hb hby d15_16) rfl ?_
  refine XS.iinc X0.here hx rfl (hb hby d15_17) rfl (l' := #[.val (.ref o0), .val (.int ((Int32.ofNat i) + (1 : Int32))), .val (.ref o2), .val (.int ((Int32.ofNat d) + (1 : Int32))), .val (.int (Int32.ofNat k)), .val (.int (Int32.ofNat t))]) rfl ?_
  show Steps p.tables e below (T0.setTop (mkF m 20 #[.val (.ref o0), .val (.int ((Int32.ofNat i) + (1 : Int32))), .val (.ref o2), .val (.int ((Int32.ofNat d) + (1 : Int32))), .val (.int (Int32.ofNat k)), .val (.int (Int32.ofNat t))] [(.int (Int32.ofNat i)), (.ref o0), (.int (Int32.ofNat d)), (.ref o2)])) _
  refine X0.baloadBytes hx (j := (Int32.ofNat i)) (v := (.int (b8 ch))) (by rw [e0]; exact Ar_o0.1) (State.isArrayOf_alike hZ.alike Ar_o0.2.1) Ar_o0.2.2 hin20 hat20 (g := (mkF m 20 #[.val (.ref o0), .val (.int ((Int32.ofNat i) + (1 : Int32))), .val (.ref o2), .val (.int ((Int32.ofNat d) + (1 : Int32))), .val (.int (Int32.ofNat k)), .val (.int (Int32.ofNat t))] [(.int (Int32.ofNat i)), (.ref o0), (.int (Int32.ofNat d)), (.ref o2)])) rfl rfl (hb hby d15_20) _ ?_
  refine XS.sipush X0.here hx rfl (hb hby d15_21) ?_
  refine XS.iand X0.here hx rfl (hb hby d15_24) rfl ?_
  refine XS.i2c X0.here hx rfl (hb hby d15_25) rfl ?_
  refine st7 _ ?_
  refine XS.iinc X7.here hx rfl (hb hby d15_27) rfl (l' := #[.val (.ref o0), .val (.int ((Int32.ofNat i) + (1 : Int32))), .val (.ref o2), .val (.int ((Int32.ofNat d) + (1 : Int32))), .val (.int (Int32.ofNat k)), .val (.int ((Int32.ofNat t) + (1 : Int32)))]) rfl ?_
  refine XS.goto X7.here hx rfl (pc0 := 30) (pc' := 3) rfl (hb hby d15_30) (by decide) (by decide) ?_
  exact kt
theorem lp15 {p : Program} {l : Launch} {e : Env} {R : Room} {s : State} {m : MethodId} {args : Array Value} {below : List Frame} {meth : Method} {c : Code} {cells slots : Nat} {Z : State} {a0 : Array Value} (o0 o2 : Addr) (ns : List Nat) (k n0 : Nat) (hx : p.tables.exec = Jvm.exec) (hZ : Z.Warmed39 s.vm) (hw : ∀ d ∈ tables_1, d.before a0 Z = true) (hby : c.code = jdk_43_method_49_code) (hml : c.maxLocals = 6) (hown : s.vm.findClass "java/lang/StringLatin1" = some m.cls) (hn : ns.length < 128) (hb : ∀ x ∈ ns, x < 256) (g_o2 : n0 ≤ o2) (hk : k < 128) (r : List Nat) : ∀ {T0 : State} {locs : List Loc} {h0 : Heap} (i d t : Nat) (ds : List Nat), Stand p l e R s m args below meth c T0 locs cells slots → T0.heap = h0 → Fr n0 locs → n0 ≤ h0.size → Av Z h0 o0 .byte b8 ns → Av Z h0 o2 .char Int32.ofNat ds → ds.length < 128 → ns.drop i = r → t + r.length ≤ k → d + r.length ≤ ds.length →
    ∃ (T' : State) (h' : Heap) (L' : List Loc), Stand p l e R s m args below meth c T' L' cells slots ∧ T'.heap = h' ∧ Fr n0 L' ∧ Keep h0 h' [o2] ∧ Av Z h' o2 .char Int32.ofNat (blit ds d r) ∧
      ∀ target, Steps p.tables e below (T'.setTop (mkF m 3 #[.val (.ref o0), .val (.int (Int32.ofNat (i + r.length))), .val (.ref o2), .val (.int (Int32.ofNat (d + r.length))), .val (.int (Int32.ofNat k)), .val (.int (Int32.ofNat (t + r.length)))] [])) target → Steps p.tables e below (T0.setTop (mkF m 3 #[.val (.ref o0), .val (.int (Int32.ofNat i)), .val (.ref o2), .val (.int (Int32.ofNat d)), .val (.int (Int32.ofNat k)), .val (.int (Int32.ofNat t))] [])) target := by
  induction r with
  | nil => intro T0 locs h0 i d t ds X0 e0 N0 Z0 A0 A2 hd hr ht hdl; exact ⟨T0, h0, locs, X0, e0, N0, Keep.refl _ _, A2, fun target kt => kt⟩
  | cons ch r ih =>
    intro T0 locs h0 i d t ds X0 e0 N0 Z0 A0 A2 hd hr ht hdl
    rw [List.length_cons] at ht hdl
    obtain ⟨hq, hr'⟩ := own_dq hr
    obtain ⟨T1, h1, L1, X1, e1, N1, K1, A1, st1⟩ := t15 o0 o2 i d k t ch ns ds n0 X0 hx hZ hw hby hml hown e0 N0 Z0 A0 A2 hn hd hq (hb _ (List.mem_of_getElem? hq)) (by omega) g_o2 (own_lt (by omega) (by omega))
    simp only [own_suc] at st1
    obtain ⟨T2, h2, L2, X2, e2, N2, K2, A3, st2⟩ := ih (i + 1) (d + 1) (t + 1) (ds.set d ch) X1 e1 N1 (Nat.le_trans Z0 K1.1) (A0.keep K1 (by simpa using own_dis A0 A2 (fun q => nomatch q))) A1 (by simpa using hd) hr' (by omega) (by rw [List.length_set]; omega)
    refine ⟨T2, h2, L2, X2, e2, N2, own_kt K1 K2, A3, fun target kt => st1 _ (st2 _ ?_)⟩
    rw [show i + 1 + r.length = i + (ch :: r).length by rw [List.length_cons]; omega, show d + 1 + r.length = d + (ch :: r).length by rw [List.length_cons]; omega, show t + 1 + r.length = t + (ch :: r).length by rw [List.length_cons]; omega]
    exact kt
theorem d15_33 : decode jdk_43_method_49_code 33 = .ok (.return_, 1) := by decide +kernel
theorem pn_15 : plainName "java/lang/StringLatin1" = true := by first | (simp [plainName, overriddenIn]; done) | decide +kernel
theorem ef_15 (m : MethodId) (x0 : Addr) (x1 : Int32) (x2 : Addr) (x3 : Int32) (x4 : Int32) : entryFrame m #[(.ref x0), (.int x1), (.ref x2), (.int x3), (.int x4)] 6 = mkF m 0 #[.val (.ref x0), .val (.int x1), .val (.ref x2), .val (.int x3), .val (.int x4), .unset] [] := by first | (simp [entryFrame, mkF, argsToLocals, Value.category]; done) | rfl
set_option maxRecDepth 65536 in
set_option maxHeartbeats 40000000 in
theorem rm15 (l : Launch) (Z : State) (a0 : Array Value) (hw : ∀ d ∈ tables_1, d.before a0 Z = true) (ws : List Jvm.Cond) (a1 : Addr) (a3 : Addr) (d : Nat) (ns ds : List Nat) (h0 : Heap) (n0 : Nat) (Z0 : n0 ≤ h0.size) (A0 : Av Z h0 a1 .byte b8 ns) (A2 : Av Z h0 a3 .char Int32.ofNat ds) (hn : ns.length < 64) (hb9 : ∀ x ∈ ns, x < 256) (hd : ds.length < 128) (hdl : d + ns.length ≤ ds.length) (g_a3 : n0 ≤ a3) :
    MetFree l (⟨"java/lang/StringLatin1", "inflate", "([BI[CII)V"⟩ : MethodName) (head1 (Jvm.Cond.code (⟨"java/lang/StringLatin1", "inflate", "([BI[CII)V"⟩ : MethodName) jdk_43_method_49_code 6 none :: ws) ({ frames := 0, cells := 0, slots := 0, locals := 0 } : Room)) (fun a U => a = #[(.ref a1), (.int (0 : Int32)), (.ref a3), (.int (Int32.ofNat d)), (.int (Int32.ofNat ns.length))] ∧ Z.Warmed39 U.vm ∧ U.heap = h0) (fun _ _ _ _ _ => True) (fun _ U o U' => ∃ v L, o = .returned v ∧ QW Z a3 .char Int32.ofNat (blit ds d ns) h0 n0 v U'.heap L ∧ FrameEnd U o U' L ({ frames := 0, cells := 0, slots := 0, locals := 0 } : Room).cells ({ frames := 0, cells := 0, slots := 0, locals := 0 } : Room).slots) := by
  refine MetFree.of_bodySF (plainFor_of_name pn_15) hisR ?_
  intro p e s m args below meth c s₁ Bd hml0 hP hK
  obtain ⟨rfl, hZ, hh⟩ := hP
  have hx := Bd.exec
  have hby := Bd.bytes
  have hml : c.maxLocals = 6 := hml0
  have hown : s.vm.findClass "java/lang/StringLatin1" = some m.cls := findClass_of_methodNamed Bd.named
  have hnm := (name_of_methodNamed Bd.named Bd.method).1
  have X0 : Stand p l e ({ frames := 0, cells := 0, slots := 0, locals := 0 } : Room) s m #[(.ref a1), (.int (0 : Int32)), (.ref a3), (.int (Int32.ofNat d)), (.int (Int32.ofNat ns.length))] below meth c s₁ [] 0 0 := Stand.of_body Bd
  have e0 : s₁.heap = h0 := by rw [← hh, Bd.state]; rfl
  have N0 := Fr.nil n0
  have pre0 : ∀ t, Steps p.tables e below (s₁.setTop (mkF m 0 #[.val (.ref a1), .val (.int (0 : Int32)), .val (.ref a3), .val (.int (Int32.ofNat d)), .val (.int (Int32.ofNat ns.length)), .unset] [])) t → Steps p.tables e below (s₁.setTop (entryFrame m #[(.ref a1), (.int (0 : Int32)), (.ref a3), (.int (Int32.ofNat d)), (.int (Int32.ofNat ns.length))] 6)) t := fun t_ k_ => castTop (ef_15 m a1 (0 : Int32) a3 (Int32.ofNat d) (Int32.ofNat ns.length)) k_
  obtain ⟨T9, h9, L9, X9, e9, N9, K9, A9, st9⟩ := lp15 a1 a3 ns ns.length n0 hx hZ hw hby hml hown (by omega) hb9 g_a3 (by omega) ns 0 d 0 ds X0 e0 N0 Z0 A0 A2 hd rfl (by omega) hdl
  obtain ⟨fs, hr, hrun, hended, hW, hsame⟩ := X9.leave (v := none) (fun _ => rfl)
  refine ⟨_, _, pre0 _ ?_, hrun, hended, _, _, rfl, ?_, ⟨_, rfl⟩, hW, hsame.mono (by decide) (by decide)⟩
  · refine s15a _ _ _ _ _ _ X0 hx hZ hby e0 One.u _ ?_
    refine st9 _ ?_
    refine s15x _ _ _ _ _ _ X9 hx hZ hby e9 (own_nlt (by omega) (by omega)) _ ?_
    exact X9.returnOut hx Bd.returns (hb hby d15_33) hr
  · show QW Z a3 .char Int32.ofNat (blit ds d ns) h0 n0 _ T9.heap _
    rw [e9]; exact ⟨rfl, N9, K9, A9⟩
theorem own_ke {h0 h1 h : Heap} {ws : List Addr} (q : h1 = h0) (K : Keep h1 h ws) : Keep h0 h ws := q ▸ K
theorem own_b33 : ∀ n < 32, ¬ ((((Int32.ofNat (2 * n) >>> ((1 : Int32) &&& 31)) ||| (0 : Int32)) ||| (Int32.ofNat n - (0 : Int32))) < (0 : Int32)) ∧ ¬ (((Int32.ofNat (2 * n) >>> ((1 : Int32) &&& 31)) - (0 : Int32)) < (Int32.ofNat n - (0 : Int32))) := by decide +kernel
theorem own_b11 : ∀ L < 16, ∀ d < 16, ∀ n < 16, ¬ (((Int32.ofNat L ||| Int32.ofNat d) ||| (Int32.ofNat n - (0 : Int32))) < (0 : Int32)) ∧ (d + n ≤ L → ¬ ((Int32.ofNat L - Int32.ofNat d) < (Int32.ofNat n - (0 : Int32)))) := by decide +kernel
theorem d14_0 : decode jdk_43_method_11_code 0 = .ok (.aload_n 0, 1) := by decide +kernel
theorem d14_1 : decode jdk_43_method_11_code 1 = .ok (.iload_n 1, 1) := by decide +kernel
theorem d14_2 : decode jdk_43_method_11_code 2 = .ok (.aload_n 3, 1) := by decide +kernel
theorem d14_3 : decode jdk_43_method_11_code 3 = .ok (.iload 4, 2) := by decide +kernel
theorem d14_5 : decode jdk_43_method_11_code 5 = .ok (.iload_n 2, 1) := by decide +kernel
theorem d14_6 : decode jdk_43_method_11_code 6 = .ok (.iload_n 1, 1) := by decide +kernel
theorem d14_7 : decode jdk_43_method_11_code 7 = .ok (.isub, 1) := by decide +kernel
theorem d14_8 : decode jdk_43_method_11_code 8 = .ok (.invokestatic 13, 3) := by decide +kernel
theorem d14_11 : decode jdk_43_method_11_code 11 = .ok (.return_, 1) := by decide +kernel
theorem pn_14 : plainName "java/lang/StringLatin1" = true := by first | (simp [plainName, overriddenIn]; done) | decide +kernel
theorem pd_14_13 : parseMethodDescriptor "([BI[CII)V" = some ⟨[(.array .byte), .int, (.array .char), .int, .int], none⟩ := by decide +kernel
theorem ef_14 (m : MethodId) (x0 : Addr) (x1 : Int32) (x2 : Int32) (x3 : Addr) (x4 : Int32) : entryFrame m #[(.ref x0), (.int x1), (.int x2), (.ref x3), (.int x4)] 5 = mkF m 0 #[.val (.ref x0), .val (.int x1), .val (.int x2), .val (.ref x3), .val (.int x4)] [] := by first | (simp [entryFrame, mkF, argsToLocals, Value.category]; done) | rfl
set_option maxRecDepth 65536 in
set_option maxHeartbeats 40000000 in
theorem rm14 (l : Launch) (Z : State) (a0 : Array Value) (hw : ∀ d ∈ tables_1, d.before a0 Z = true) (ws : List Jvm.Cond) (a1 : Addr) (a4 : Addr) (d : Nat) (ns ds : List Nat) (h0 : Heap) (n0 : Nat) (Z0 : n0 ≤ h0.size) (A0 : Av Z h0 a1 .byte b8 ns) (A2 : Av Z h0 a4 .char Int32.ofNat ds) (hn : ns.length < 64) (hb9 : ∀ x ∈ ns, x < 256) (hd : ds.length < 128) (hdl : d + ns.length ≤ ds.length) (g_a4 : n0 ≤ a4) :
    MetFree l (⟨"java/lang/StringLatin1", "getChars", "([BII[CI)V"⟩ : MethodName) (head1 (Jvm.Cond.code (⟨"java/lang/StringLatin1", "getChars", "([BII[CI)V"⟩ : MethodName) jdk_43_method_11_code 5 none :: ws) ({ frames := 1, cells := 0, slots := 0, locals := 17 } : Room)) (fun a U => a = #[(.ref a1), (.int (0 : Int32)), (.int (Int32.ofNat ns.length)), (.ref a4), (.int (Int32.ofNat d))] ∧ Z.Warmed39 U.vm ∧ U.heap = h0) (fun _ _ _ _ _ => True) (fun _ U o U' => ∃ v L, o = .returned v ∧ QW Z a4 .char Int32.ofNat (blit ds d ns) h0 n0 v U'.heap L ∧ FrameEnd U o U' L ({ frames := 1, cells := 0, slots := 0, locals := 17 } : Room).cells ({ frames := 1, cells := 0, slots := 0, locals := 17 } : Room).slots) := by
  refine MetFree.of_bodySF (plainFor_of_name pn_14) hisR ?_
  intro p e s m args below meth c s₁ Bd hml0 hP hK
  obtain ⟨rfl, hZ, hh⟩ := hP
  have hx := Bd.exec
  have hby := Bd.bytes
  have hml : c.maxLocals = 5 := hml0
  have hown : s.vm.findClass "java/lang/StringLatin1" = some m.cls := findClass_of_methodNamed Bd.named
  have hnm := (name_of_methodNamed Bd.named Bd.method).1
  have X0 : Stand p l e ({ frames := 1, cells := 0, slots := 0, locals := 17 } : Room) s m #[(.ref a1), (.int (0 : Int32)), (.int (Int32.ofNat ns.length)), (.ref a4), (.int (Int32.ofNat d))] below meth c s₁ [] 0 0 := Stand.of_body Bd
  have e0 : s₁.heap = h0 := by rw [← hh, Bd.state]; rfl
  have N0 := Fr.nil n0
  have pre0 : ∀ t, Steps p.tables e below (s₁.setTop (mkF m 0 #[.val (.ref a1), .val (.int (0 : Int32)), .val (.int (Int32.ofNat ns.length)), .val (.ref a4), .val (.int (Int32.ofNat d))] [])) t → Steps p.tables e below (s₁.setTop (entryFrame m #[(.ref a1), (.int (0 : Int32)), (.int (Int32.ofNat ns.length)), (.ref a4), (.int (Int32.ofNat d))] 5)) t := fun t_ k_ => castTop (ef_14 m a1 (0 : Int32) (Int32.ofNat ns.length) a4 (Int32.ofNat d)) k_
  obtain ⟨_, _, ⟨T6, L6, k6, n6⟩, -, X6, ⟨Lc6, hQ6, l6, y6, z6⟩, st6⟩ := Jvm.LawKit.callS X0 hx (y := (⟨"java/lang/StringLatin1", "inflate", "([BI[CII)V"⟩ : MethodName)) hown (mvT hZ (hw _ (List.mem_of_getElem? (i := 71) rfl))) (mvT hZ (hw _ (List.mem_of_getElem? (i := 72) rfl))) (mvT hZ (hw _ (List.mem_of_getElem? (i := 69) rfl))) (mvT hZ (hw _ (List.mem_of_getElem? (i := 73) rfl))) (by decide) (backOf (W := 0) (rm15 l Z a0 hw [] a1 a4 d ns ds h0 n0 Z0 A0 A2 hn hb9 hd hdl g_a4) hZ (hw _ (List.mem_of_getElem? (i := 73) rfl)) (hw _ (List.mem_of_getElem? (i := 69) rfl)) (by decide) (by decide)) (g := (mkF m 8 #[.val (.ref a1), .val (.int (0 : Int32)), .val (.int (Int32.ofNat ns.length)), .val (.ref a4), .val (.int (Int32.ofNat d))] [(.int ((Int32.ofNat ns.length) - (0 : Int32))), (.int (Int32.ofNat d)), (.ref a4), (.int (0 : Int32)), (.ref a1)])) rfl (by rw [hml]; rfl) (argsL := [(.ref a1), (.int (0 : Int32)), (.ref a4), (.int (Int32.ofNat d)), (.int ((Int32.ofNat ns.length) - (0 : Int32)))]) (rest := []) (lenOf pd_14_13 rfl) rfl (by show 2 * 0 + _ ≤ _; exact Nat.le_of_eq rfl) (hb hby d14_8) (fun _ _ => ⟨by rw [own_sub0], e0, (by decide : 0 + 0 ≤ _), (by decide : 0 + 0 ≤ _)⟩)
  dsimp only [Pt.U, Pt.locs, Pt.cells, Pt.slots] at X6 l6 y6 z6 st6 hQ6
  subst l6 y6 z6
  obtain ⟨rfl, N6q, K6, A6⟩ := hQ6
  have N6 := Fr.app N0 N6q
  obtain ⟨fs, hr, hrun, hended, hW, hsame⟩ := X6.leave (v := none) (fun _ => rfl)
  refine ⟨_, _, pre0 _ ?_, hrun, hended, _, _, rfl, ?_, ⟨_, rfl⟩, hW, hsame.mono (by decide) (by decide)⟩
  -- 4. STEPS
  · show Steps p.tables e below (s₁.setTop (mkF m 0 #[.val (.ref a1), .val (.int (0 : Int32)), .val (.int (Int32.ofNat ns.length)), .val (.ref a4), .val (.int (Int32.ofNat d))] [])) _
    refine XS.aloadN X0.here hx rfl (hb hby d14_0) rfl rfl ?_
    refine XS.iloadN X0.here hx rfl (hb hby d14_1) rfl ?_
    refine XS.aloadN X0.here hx rfl (hb hby d14_2) rfl rfl ?_
    refine XS.iload X0.here hx rfl (hb hby d14_3) rfl ?_
    refine XS.iloadN X0.here hx rfl (hb hby d14_5) rfl ?_
    refine XS.iloadN X0.here hx rfl (hb hby d14_6) rfl ?_
    refine XS.isub X0.here hx rfl (hb hby d14_7) rfl ?_
    show Steps p.tables e below (s₁.setTop (mkF m 8 #[.val (.ref a1), .val (.int (0 : Int32)), .val (.int (Int32.ofNat ns.length)), .val (.ref a4), .val (.int (Int32.ofNat d))] [(.int ((Int32.ofNat ns.length) - (0 : Int32))), (.int (Int32.ofNat d)), (.ref a4), (.int (0 : Int32)), (.ref a1)])) _
    refine st6 _ ?_
    show Steps p.tables e below (T6.setTop (mkF m 11 #[.val (.ref a1), .val (.int (0 : Int32)), .val (.int (Int32.ofNat ns.length)), .val (.ref a4), .val (.int (Int32.ofNat d))] [])) _
    exact X6.returnOut hx Bd.returns (hb hby d14_11) hr
  · show QW Z a4 .char Int32.ofNat (blit ds d ns) h0 n0 _ T6.heap _
    exact ⟨rfl, N6, K6, A6⟩
theorem d32_0 : decode jdk_52_method_26_code 0 = .ok (.iload_n 1, 1) := by decide +kernel
theorem d32_1 : decode jdk_52_method_26_code 1 = .ok (.iload_n 2, 1) := by decide +kernel
theorem d32_2 : decode jdk_52_method_26_code 2 = .ok (.if_icmp .ge 11, 3) := by decide +kernel
theorem d32_5 : decode jdk_52_method_26_code 5 = .ok (.iload_n 1, 1) := by decide +kernel
theorem d32_6 : decode jdk_52_method_26_code 6 = .ok (.iload_n 2, 1) := by decide +kernel
theorem d32_7 : decode jdk_52_method_26_code 7 = .ok (.iload_n 1, 1) := by decide +kernel
theorem d32_8 : decode jdk_52_method_26_code 8 = .ok (.isub, 1) := by decide +kernel
theorem d32_9 : decode jdk_52_method_26_code 9 = .ok (.aload_n 0, 1) := by decide +kernel
theorem d32_10 : decode jdk_52_method_26_code 10 = .ok (.invokestatic 173, 3) := by decide +kernel
theorem d32_13 : decode jdk_52_method_26_code 13 = .ok (.iload_n 1, 1) := by decide +kernel
theorem d32_14 : decode jdk_52_method_26_code 14 = .ok (.istore 5, 2) := by decide +kernel
theorem pd_32_27 : parseMethodDescriptor "(II[B)V" = some ⟨[.int, .int, (.array .byte)], none⟩ := by decide +kernel
theorem os32_14 {z0 : Value} {z1 : Value} {z2 : Value} {s3 : Slot} {s4 : Slot} {s5 : Slot} {v : Int32} (h : One s5) : storeLocals #[.val z0, .val z1, .val z2, s3, s4, s5] 5 (.int v) = some #[.val z0, .val z1, .val z2, s3, s4, .val (.int v)] := by
  rcases h with rfl | ⟨w, rfl, hw⟩
  · rfl
  · cases w <;> first | rfl | (simp [Value.category] at hw)
set_option maxRecDepth 65536 in
set_option maxHeartbeats 40000000 in
theorem a32 {p : Program} {l : Launch} {e : Env} {s : State} {m : MethodId} {args : Array Value} {below : List Frame} {meth : Method} {c : Code} {T0 : State} {locs : List Loc} {Z : State} {a0 : Array Value} {h0 : Heap} (o0 : Addr) (s3 : Slot) (s4 : Slot) (s5 : Slot) (cs : List Nat) (n0 : Nat)
    (X0 : Stand p l e ({ frames := 3, cells := 0, slots := 0, locals := 43 } : Room) s m args below meth c T0 locs 0 0) (hx : p.tables.exec = Jvm.exec) (hZ : Z.Warmed39 s.vm) (hw : ∀ d ∈ tables_1, d.before a0 Z = true) (hby : c.code = jdk_52_method_26_code) (hml : c.maxLocals = 6) (hown : s.vm.findClass "java/lang/StringUTF16" = some m.cls) (e0 : T0.heap = h0) (hs5 : One s5) (N0 : Fr n0 locs) (Z0 : n0 ≤ h0.size) (D : Wd Z h0) (A0 : Av Z h0 o0 .byte b8 (cs.flatMap (fun c => [c % 256, c / 256]))) (hn : cs.length < 32) (hc2 : (0 : Int32) < Int32.ofNat cs.length) :
    ∃ (T' : State) (h' : Heap) (L' : List Loc), Stand p l e ({ frames := 3, cells := 0, slots := 0, locals := 43 } : Room) s m args below meth c T' L' 0 0 ∧ T'.heap = h' ∧ Fr n0 L' ∧ h' = h0 ∧
      ∀ target, Steps p.tables e below (T'.setTop (mkF m 16 #[.val (.ref o0), .val (.int (0 : Int32)), .val (.int (Int32.ofNat cs.length)), s3, s4, .val (.int (0 : Int32))] [])) target → Steps p.tables e below (T0.setTop (mkF m 0 #[.val (.ref o0), .val (.int (0 : Int32)), .val (.int (Int32.ofNat cs.length)), s3, s4, s5] [])) target := by
  obtain ⟨⟨w, SIO⟩, -⟩ := D
  obtain ⟨cl0, Ar0, q0⟩ := A0
  have hz := own_avz q0 (by rw [own_fml]; omega)
  rw [own_fml] at hz
  obtain ⟨_, _, ⟨T6, L6, k6, n6⟩, -, X6, ⟨Lc6, hQ6, l6, y6, z6⟩, st6⟩ := Jvm.LawKit.callS X0 hx (y := (⟨"java/lang/StringUTF16", "checkBoundsOffCount", "(II[B)V"⟩ : MethodName)) hown (mvT hZ (hw _ (List.mem_of_getElem? (i := 138) rfl))) (mvT hZ (hw _ (List.mem_of_getElem? (i := 139) rfl))) (mvT hZ (hw _ (List.mem_of_getElem? (i := 94) rfl))) (mvT hZ (hw _ (List.mem_of_getElem? (i := 140) rfl))) (by decide) (backOf (W := 0) (rm33 l Z a0 hw [] (0 : Int32) (Int32.ofNat cs.length - (0 : Int32)) o0 cl0 (Int32.ofNat (2 * cs.length)) w h0 n0 Z0 Ar0 hz.1 hz.2 SIO (own_b33 _ hn).1 (own_b33 _ hn).2) hZ (hw _ (List.mem_of_getElem? (i := 140) rfl)) (hw _ (List.mem_of_getElem? (i := 94) rfl)) (by decide) (by decide)) (g := (mkF m 10 #[.val (.ref o0), .val (.int (0 : Int32)), .val (.int (Int32.ofNat cs.length)), s3, s4, s5] [(.ref o0), (.int ((Int32.ofNat cs.length) - (0 : Int32))), (.int (0 : Int32))])) rfl (by rw [hml]; rfl) (argsL := [(.int (0 : Int32)), (.int ((Int32.ofNat cs.length) - (0 : Int32))), (.ref o0)]) (rest := []) (lenOf pd_32_27 rfl) rfl (by show 2 * 0 + _ ≤ _; exact Nat.le_of_eq rfl) (hb hby d32_10) (fun _ _ => ⟨rfl, e0, (by decide : 0 + 0 + 0 ≤ _), (by decide : 0 + 0 + 0 ≤ _)⟩)
  dsimp only [Pt.U, Pt.locs, Pt.cells, Pt.slots] at X6 l6 y6 z6 st6 hQ6
  subst l6 y6 z6
  obtain ⟨rfl, N6q, eq6⟩ := hQ6
  refine ⟨T6, _, _, X6, rfl, Fr.app N0 N6q, eq6, fun target kt => ?_⟩
  show Steps p.tables e below (T0.setTop (mkF m 0 #[.val (.ref o0), .val (.int (0 : Int32)), .val (.int (Int32.ofNat cs.length)), s3, s4, s5] [])) _
  refine XS.iloadN X0.here hx rfl (hb hby d32_0) rfl ?_
  refine XS.iloadN X0.here hx rfl (hb hby d32_1) rfl ?_
  refine XS.icmpNo X0.here hx rfl (hb hby d32_2) rfl (tlt hc2).2.1 ?_
  refine XS.iloadN X0.here hx rfl (hb hby d32_5) rfl ?_
  refine XS.iloadN X0.here hx rfl (hb hby d32_6) rfl ?_
  refine XS.iloadN X0.here hx rfl (hb hby d32_7) rfl ?_
  refine XS.isub X0.here hx rfl (hb hby d32_8) rfl ?_
  show Steps p.tables e below (T0.setTop (mkF m 9 #[.val (.ref o0), .val (.int (0 : Int32)), .val (.int (Int32.ofNat cs.length)), s3, s4, s5] [(.int ((Int32.ofNat cs.length) - (0 : Int32))), (.int (0 : Int32))])) _
  refine XS.aloadN X0.here hx rfl (hb hby d32_9) rfl rfl ?_
  refine st6 _ ?_
  refine XS.iloadN X6.here hx rfl (hb hby d32_13) rfl ?_
  refine XS.istore X6.here hx rfl (hb hby d32_14) rfl (l' := #[.val (.ref o0), .val (.int (0 : Int32)), .val (.int (Int32.ofNat cs.length)), s3, s4, .val (.int (0 : Int32))]) (os32_14 hs5) ?_
  exact kt
theorem d32_16 : decode jdk_52_method_26_code 16 = .ok (.iload 5, 2) := by decide +kernel
theorem d32_18 : decode jdk_52_method_26_code 18 = .ok (.iload_n 2, 1) := by decide +kernel
theorem d32_19 : decode jdk_52_method_26_code 19 = .ok (.if_icmp .ge 22, 3) := by decide +kernel
set_option maxRecDepth 65536 in
set_option maxHeartbeats 40000000 in
theorem s32x {p : Program} {l : Launch} {e : Env} {R : Room} {s : State} {m : MethodId} {args : Array Value} {below : List Frame} {meth : Method} {c : Code} {T0 : State} {locs : List Loc} {cells slots : Nat} {Z : State} {h0 : Heap} (s0 : Slot) (s1 : Slot) (i2 : Int32) (s3 : Slot) (s4 : Slot) (i5 : Int32) 
    (X0 : Stand p l e R s m args below meth c T0 locs cells slots) (hx : p.tables.exec = Jvm.exec) (hZ : Z.Warmed39 s.vm) (hby : c.code = jdk_52_method_26_code) (e0 : T0.heap = h0) (hc19 : ¬ (i5 < i2))  :
    ∀ target, Steps p.tables e below (T0.setTop (mkF m 41 #[s0, s1, .val (.int i2), s3, s4, .val (.int i5)] [])) target → Steps p.tables e below (T0.setTop (mkF m 16 #[s0, s1, .val (.int i2), s3, s4, .val (.int i5)] [])) target := by
  intro target kt
  show Steps p.tables e below (T0.setTop (mkF m 16 #[s0, s1, .val (.int i2), s3, s4, .val (.int i5)] [])) _
  refine XS.iload X0.here hx rfl (hb hby d32_16) rfl ?_
  refine XS.iloadN X0.here hx rfl (hb hby d32_18) rfl ?_
  refine XS.icmpYes X0.here hx rfl (pc0 := 19) (pc' := 41) rfl (hb hby d32_19) rfl (flt hc19).2.1 (by decide) (by decide) ?_
  exact kt
theorem d32_22 : decode jdk_52_method_26_code 22 = .ok (.aload_n 3, 1) := by decide +kernel
theorem d32_23 : decode jdk_52_method_26_code 23 = .ok (.iload 4, 2) := by decide +kernel
theorem d32_25 : decode jdk_52_method_26_code 25 = .ok (.iinc 4 1, 3) := by decide +kernel
theorem d32_28 : decode jdk_52_method_26_code 28 = .ok (.aload_n 0, 1) := by decide +kernel
theorem d32_29 : decode jdk_52_method_26_code 29 = .ok (.iload 5, 2) := by decide +kernel
theorem d32_31 : decode jdk_52_method_26_code 31 = .ok (.invokestatic 71, 3) := by decide +kernel
theorem d32_34 : decode jdk_52_method_26_code 34 = .ok (.castore, 1) := by decide +kernel
theorem d32_35 : decode jdk_52_method_26_code 35 = .ok (.iinc 5 1, 3) := by decide +kernel
theorem d32_38 : decode jdk_52_method_26_code 38 = .ok (.goto (-22), 3) := by decide +kernel
theorem pd_32_21 : parseMethodDescriptor "([BI)C" = some ⟨[(.array .byte), .int], some .char⟩ := by decide +kernel
set_option maxRecDepth 65536 in
set_option maxHeartbeats 40000000 in
theorem t32 {p : Program} {l : Launch} {e : Env} {s : State} {m : MethodId} {args : Array Value} {below : List Frame} {meth : Method} {c : Code} {T0 : State} {locs : List Loc} {Z : State} {a0 : Array Value} {h0 : Heap} (o0 : Addr) (s1 : Slot) (o3 : Addr) (d k i ch : Nat) (ns ds : List Nat) (n0 : Nat)
    (X0 : Stand p l e ({ frames := 3, cells := 0, slots := 0, locals := 43 } : Room) s m args below meth c T0 locs 0 0) (hx : p.tables.exec = Jvm.exec) (hZ : Z.Warmed39 s.vm) (hw : ∀ d ∈ tables_1, d.before a0 Z = true) (hby : c.code = jdk_52_method_26_code) (hml : c.maxLocals = 6) (hown : s.vm.findClass "java/lang/StringUTF16" = some m.cls) (e0 : T0.heap = h0) (N0 : Fr n0 locs) (Z0 : n0 ≤ h0.size) (D : Wd Z h0) (A0 : Av Z h0 o0 .byte b8 ns) (A3 : Av Z h0 o3 .char Int32.ofNat ds) (hn : ns.length < 128) (hd : ds.length < 128) (q1 : ns[2 * i]? = some (ch % 256)) (q2 : ns[2 * i + 1]? = some (ch / 256)) (hch : ch < 65536) (hdi : d < ds.length) (g_o3 : n0 ≤ o3) (hc19 : Int32.ofNat i < Int32.ofNat k) :
    ∃ (T' : State) (h' : Heap) (L' : List Loc), Stand p l e ({ frames := 3, cells := 0, slots := 0, locals := 43 } : Room) s m args below meth c T' L' 0 0 ∧ T'.heap = h' ∧ Fr n0 L' ∧ Keep h0 h' [o3] ∧ Av Z h' o3 .char Int32.ofNat (ds.set d ch) ∧
      ∀ target, Steps p.tables e below (T'.setTop (mkF m 16 #[.val (.ref o0), s1, .val (.int (Int32.ofNat k)), .val (.ref o3), .val (.int ((Int32.ofNat d) + (1 : Int32))), .val (.int ((Int32.ofNat i) + (1 : Int32)))] [])) target → Steps p.tables e below (T0.setTop (mkF m 16 #[.val (.ref o0), s1, .val (.int (Int32.ofNat k)), .val (.ref o3), .val (.int (Int32.ofNat d)), .val (.int (Int32.ofNat i))] [])) target := by
  obtain ⟨_, _, ⟨T6, L6, k6, n6⟩, -, X6, ⟨Lc6, hQ6, l6, y6, z6⟩, st6⟩ := Jvm.LawKit.callS X0 hx (y := (⟨"java/lang/StringUTF16", "getChar", "([BI)C"⟩ : MethodName)) hown (mvT hZ (hw _ (List.mem_of_getElem? (i := 132) rfl))) (mvT hZ (hw _ (List.mem_of_getElem? (i := 133) rfl))) (mvT hZ (hw _ (List.mem_of_getElem? (i := 94) rfl))) (mvT hZ (hw _ (List.mem_of_getElem? (i := 134) rfl))) (by decide) (backOf (W := 2) (gc l Z a0 hw [] o0 ns i (ch % 256) (ch / 256) h0 n0 Z0 D A0 hn q1 q2 (Nat.mod_lt _ (by decide)) (Nat.div_lt_of_lt_mul hch)) hZ (hw _ (List.mem_of_getElem? (i := 134) rfl)) (hw _ (List.mem_of_getElem? (i := 94) rfl)) (by decide) (by decide)) (g := (mkF m 31 #[.val (.ref o0), s1, .val (.int (Int32.ofNat k)), .val (.ref o3), .val (.int ((Int32.ofNat d) + (1 : Int32))), .val (.int (Int32.ofNat i))] [(.int (Int32.ofNat i)), (.ref o0), (.int (Int32.ofNat d)), (.ref o3)])) rfl (by rw [hml]; rfl) (argsL := [(.ref o0), (.int (Int32.ofNat i))]) (rest := [(.int (Int32.ofNat d)), (.ref o3)]) (lenOf pd_32_21 rfl) rfl (by show 2 * 0 + _ ≤ _; exact Nat.le_of_eq rfl) (hb hby d32_31) (fun _ _ => ⟨rfl, e0, (by decide : 0 + 0 + 0 ≤ _), (by decide : 0 + 0 + 0 ≤ _)⟩)
  dsimp only [Pt.U, Pt.locs, Pt.cells, Pt.slots] at X6 l6 y6 z6 st6 hQ6
  subst l6 y6 z6
  rw [own_dm] at hQ6
  obtain ⟨rfl, N6q, eq6⟩ := hQ6
  have N6 := Fr.app N0 N6q
  obtain ⟨T7, h7, L7, X7, e7, N7, K7, A7, st7⟩ := stCv X6 hx hZ eq6 N6 g_o3 A3 (by omega) d hdi ch hch rfl rfl (g := (mkF m 34 #[.val (.ref o0), s1, .val (.int (Int32.ofNat k)), .val (.ref o3), .val (.int ((Int32.ofNat d) + (1 : Int32))), .val (.int (Int32.ofNat i))] [(.int (Int32.ofNat ch)), (.int (Int32.ofNat d)), (.ref o3)])) rfl rfl (hb hby d32_34)
  refine ⟨T7, _, _, X7, e7, N7, K7, A7, fun target kt => ?_⟩
  show Steps p.tables e below (T0.setTop (mkF m 16 #[.val (.ref o0), s1, .val (.int (Int32.ofNat k)), .val (.ref o3), .val (.int (Int32.ofNat d)), .val (.int (Int32.ofNat i))] [])) _
  refine XS.iload X0.here hx rfl (hb hby d32_16) rfl ?_
  refine XS.iloadN X0.here hx rfl (hb hby d32_18) rfl ?_
  refine XS.icmpNo X0.here hx rfl (hb hby d32_19) rfl (tlt hc19).2.1 ?_
  refine XS.aloadN X0.here hx rfl (hb hby d32_22) rfl rfl ?_
  refine XS.iload X0.here hx rfl (hb hby d32_23) rfl ?_
  refine XS.iinc X0.here hx rfl (hb hby d32_25) rfl (l' := #[.val (.ref o0), s1, .val (.int (Int32.ofNat k)), .val (.ref o3), .val (.int ((Int32.ofNat d) + (1 : Int32))), .val (.int (Int32.ofNat i))]) rfl ?_
  refine XS.aloadN X0.here hx rfl (hb hby d32_28) rfl rfl ?_
  show Steps p.tables e below (T0.setTop (mkF m 29 #[.val (.ref o0), s1, .val (.int (Int32.ofNat k)), .val (.ref o3), .val (.int ((Int32.ofNat d) + (1 : Int32))), .val (.int (Int32.ofNat i))] [(.ref o0), (.int (Int32.ofNat d)), (.ref o3)])) _
  refine XS.iload X0.here hx rfl (hb hby d32_29) rfl ?_
  refine st6 _ ?_
  refine st7 _ ?_
  refine XS.iinc X7.here hx rfl (hb hby d32_35) rfl (l' := #[.val (.ref o0), s1, .val (.int (Int32.ofNat k)), .val (.ref o3), .val (.int ((Int32.ofNat d) + (1 : Int32))), .val (.int ((Int32.ofNat i) + (1 : Int32)))]) rfl ?_
  refine XS.goto X7.here hx rfl (pc0 := 38) (pc' := 16) rfl (hb hby d32_38) (by decide) (by decide) ?_
  exact kt
theorem lp32 {p : Program} {l : Launch} {e : Env} {s : State} {m : MethodId} {args : Array Value} {below : List Frame} {meth : Method} {c : Code} {Z : State} {a0 : Array Value} (o0 o3 : Addr) (cs : List Nat) (k n0 : Nat) (hx : p.tables.exec = Jvm.exec) (hZ : Z.Warmed39 s.vm) (hw : ∀ d ∈ tables_1, d.before a0 Z = true) (hby : c.code = jdk_52_method_26_code) (hml : c.maxLocals = 6) (hown : s.vm.findClass "java/lang/StringUTF16" = some m.cls) (hn : cs.length < 32) (hb9 : ∀ x ∈ cs, x < 65536) (g_o3 : n0 ≤ o3) (hk : k < 128) (s1 : Slot) (r : List Nat) : ∀ {T0 : State} {locs : List Loc} {h0 : Heap} (i d : Nat) (ds : List Nat), Stand p l e ({ frames := 3, cells := 0, slots := 0, locals := 43 } : Room) s m args below meth c T0 locs 0 0 → T0.heap = h0 → Fr n0 locs → n0 ≤ h0.size → Wd Z h0 → Av Z h0 o0 .byte b8 (cs.flatMap (fun c => [c % 256, c / 256])) → Av Z h0 o3 .char Int32.ofNat ds → ds.length < 128 → cs.drop i = r → i + r.length ≤ k → d + r.length ≤ ds.length →
    ∃ (T' : State) (h' : Heap) (L' : List Loc), Stand p l e ({ frames := 3, cells := 0, slots := 0, locals := 43 } : Room) s m args below meth c T' L' 0 0 ∧ T'.heap = h' ∧ Fr n0 L' ∧ Keep h0 h' [o3] ∧ Av Z h' o3 .char Int32.ofNat (blit ds d r) ∧
      ∀ target, Steps p.tables e below (T'.setTop (mkF m 16 #[.val (.ref o0), s1, .val (.int (Int32.ofNat k)), .val (.ref o3), .val (.int (Int32.ofNat (d + r.length))), .val (.int (Int32.ofNat (i + r.length)))] [])) target → Steps p.tables e below (T0.setTop (mkF m 16 #[.val (.ref o0), s1, .val (.int (Int32.ofNat k)), .val (.ref o3), .val (.int (Int32.ofNat d)), .val (.int (Int32.ofNat i))] [])) target := by
  induction r with
  | nil => intro T0 locs h0 i d ds X0 e0 N0 Z0 D A0 A2 hd hr ht hdl; exact ⟨T0, h0, locs, X0, e0, N0, Keep.refl _ _, A2, fun target kt => kt⟩
  | cons ch r ih =>
    intro T0 locs h0 i d ds X0 e0 N0 Z0 D A0 A2 hd hr ht hdl
    rw [List.length_cons] at ht hdl
    obtain ⟨hq, hr'⟩ := own_dq hr
    have g := own_fmg cs i ch hq
    obtain ⟨T1, h1, L1, X1, e1, N1, K1, A1, st1⟩ := t32 o0 s1 o3 d k i ch (cs.flatMap (fun c => [c % 256, c / 256])) ds n0 X0 hx hZ hw hby hml hown e0 N0 Z0 D A0 A2 (by rw [own_fml]; omega) hd g.1 g.2 (hb9 _ (List.mem_of_getElem? hq)) (by omega) g_o3 (own_lt (by omega) (by omega))
    simp only [own_suc] at st1
    obtain ⟨T2, h2, L2, X2, e2, N2, K2, A3, st2⟩ := ih (i + 1) (d + 1) (ds.set d ch) X1 e1 N1 (Nat.le_trans Z0 K1.1) (D.keep K1 A2.nost) (A0.keep K1 (by simpa using own_dis A0 A2 (fun q => nomatch q))) A1 (by simpa using hd) hr' (by omega) (by rw [List.length_set]; omega)
    refine ⟨T2, h2, L2, X2, e2, N2, own_kt K1 K2, A3, fun target kt => st1 _ (st2 _ ?_)⟩
    rw [show i + 1 + r.length = i + (ch :: r).length by rw [List.length_cons]; omega, show d + 1 + r.length = d + (ch :: r).length by rw [List.length_cons]; omega]
    exact kt
theorem d32_41 : decode jdk_52_method_26_code 41 = .ok (.return_, 1) := by decide +kernel
theorem pn_32 : plainName "java/lang/StringUTF16" = true := by first | (simp [plainName, overriddenIn]; done) | decide +kernel
theorem ef_32 (m : MethodId) (x0 : Addr) (x1 : Int32) (x2 : Int32) (x3 : Addr) (x4 : Int32) : entryFrame m #[(.ref x0), (.int x1), (.int x2), (.ref x3), (.int x4)] 6 = mkF m 0 #[.val (.ref x0), .val (.int x1), .val (.int x2), .val (.ref x3), .val (.int x4), .unset] [] := by first | (simp [entryFrame, mkF, argsToLocals, Value.category]; done) | rfl
set_option maxRecDepth 65536 in
set_option maxHeartbeats 40000000 in
theorem rm32 (l : Launch) (Z : State) (a0 : Array Value) (hw : ∀ d ∈ tables_1, d.before a0 Z = true) (ws : List Jvm.Cond) (a1 : Addr) (a4 : Addr) (d : Nat) (cs ds : List Nat) (h0 : Heap) (n0 : Nat) (Z0 : n0 ≤ h0.size) (D : Wd Z h0) (A0 : Av Z h0 a1 .byte b8 (cs.flatMap (fun c => [c % 256, c / 256]))) (A2 : Av Z h0 a4 .char Int32.ofNat ds) (hn : cs.length < 32) (hne : cs ≠ []) (hb9 : ∀ x ∈ cs, x < 65536) (hd : ds.length < 128) (hdl : d + cs.length ≤ ds.length) (g_a4 : n0 ≤ a4) :
    MetFree l (⟨"java/lang/StringUTF16", "getChars", "([BII[CI)V"⟩ : MethodName) (head1 (Jvm.Cond.code (⟨"java/lang/StringUTF16", "getChars", "([BII[CI)V"⟩ : MethodName) jdk_52_method_26_code 6 none :: ws) ({ frames := 3, cells := 0, slots := 0, locals := 43 } : Room)) (fun a U => a = #[(.ref a1), (.int (0 : Int32)), (.int (Int32.ofNat cs.length)), (.ref a4), (.int (Int32.ofNat d))] ∧ Z.Warmed39 U.vm ∧ U.heap = h0) (fun _ _ _ _ _ => True) (fun _ U o U' => ∃ v L, o = .returned v ∧ QW Z a4 .char Int32.ofNat (blit ds d cs) h0 n0 v U'.heap L ∧ FrameEnd U o U' L ({ frames := 3, cells := 0, slots := 0, locals := 43 } : Room).cells ({ frames := 3, cells := 0, slots := 0, locals := 43 } : Room).slots) := by
  refine MetFree.of_bodySF (plainFor_of_name pn_32) hisR ?_
  intro p e s m args below meth c s₁ Bd hml0 hP hK
  obtain ⟨rfl, hZ, hh⟩ := hP
  have hx := Bd.exec
  have hby := Bd.bytes
  have hml : c.maxLocals = 6 := hml0
  have hown : s.vm.findClass "java/lang/StringUTF16" = some m.cls := findClass_of_methodNamed Bd.named
  have hnm := (name_of_methodNamed Bd.named Bd.method).1
  have X0 : Stand p l e ({ frames := 3, cells := 0, slots := 0, locals := 43 } : Room) s m #[(.ref a1), (.int (0 : Int32)), (.int (Int32.ofNat cs.length)), (.ref a4), (.int (Int32.ofNat d))] below meth c s₁ [] 0 0 := Stand.of_body Bd
  have e0 : s₁.heap = h0 := by rw [← hh, Bd.state]; rfl
  have N0 := Fr.nil n0
  have pre0 : ∀ t, Steps p.tables e below (s₁.setTop (mkF m 0 #[.val (.ref a1), .val (.int (0 : Int32)), .val (.int (Int32.ofNat cs.length)), .val (.ref a4), .val (.int (Int32.ofNat d)), .unset] [])) t → Steps p.tables e below (s₁.setTop (entryFrame m #[(.ref a1), (.int (0 : Int32)), (.int (Int32.ofNat cs.length)), (.ref a4), (.int (Int32.ofNat d))] 6)) t := fun t_ k_ => castTop (ef_32 m a1 (0 : Int32) (Int32.ofNat cs.length) a4 (Int32.ofNat d)) k_
  have hlen : 0 < cs.length := List.length_pos_iff.mpr hne
  obtain ⟨T8, h8, L8, X8, e8, N8, eq8, st8⟩ := a32 a1 (.val (.ref a4)) (.val (.int (Int32.ofNat d))) .unset cs n0 X0 hx hZ hw hby hml hown e0 One.u N0 Z0 D A0 hn (own_lt hlen (by omega))
  have eq8 := eq8.symm
  subst eq8
  obtain ⟨T9, h9, L9, X9, e9, N9, K9, A9, st9⟩ := lp32 a1 a4 cs cs.length n0 hx hZ hw hby hml hown hn hb9 g_a4 (by omega) (.val (.int (0 : Int32))) cs 0 d ds X8 e8 N8 Z0 D A0 A2 hd rfl (by omega) hdl
  obtain ⟨fs, hr, hrun, hended, hW, hsame⟩ := X9.leave (v := none) (fun _ => rfl)
  refine ⟨_, _, pre0 _ ?_, hrun, hended, _, _, rfl, ?_, ⟨_, rfl⟩, hW, hsame.mono (by decide) (by decide)⟩
  · refine st8 _ ?_
    refine st9 _ ?_
    refine s32x _ _ _ _ _ _ X9 hx hZ hby e9 (own_nlt (by omega) (by omega)) _ ?_
    exact X9.returnOut hx Bd.returns (hb hby d32_41) hr
  · show QW Z a4 .char Int32.ofNat (blit ds d cs) h0 n0 _ T9.heap _
    rw [e9]; exact ⟨rfl, N9, K9, A9⟩
theorem d8_0 : decode jdk_42_method_61_code 0 = .ok (.iload_n 1, 1) := by decide +kernel
theorem d8_1 : decode jdk_42_method_61_code 1 = .ok (.iload_n 2, 1) := by decide +kernel
theorem d8_2 : decode jdk_42_method_61_code 2 = .ok (.aload_n 0, 1) := by decide +kernel
theorem d8_3 : decode jdk_42_method_61_code 3 = .ok (.invokevirtual 505, 3) := by decide +kernel
theorem d8_6 : decode jdk_42_method_61_code 6 = .ok (.invokestatic 521, 3) := by decide +kernel
theorem d8_9 : decode jdk_42_method_61_code 9 = .ok (.iload 4, 2) := by decide +kernel
theorem d8_11 : decode jdk_42_method_61_code 11 = .ok (.iload_n 2, 1) := by decide +kernel
theorem d8_12 : decode jdk_42_method_61_code 12 = .ok (.iload_n 1, 1) := by decide +kernel
theorem d8_13 : decode jdk_42_method_61_code 13 = .ok (.isub, 1) := by decide +kernel
theorem d8_14 : decode jdk_42_method_61_code 14 = .ok (.aload_n 3, 1) := by decide +kernel
theorem d8_15 : decode jdk_42_method_61_code 15 = .ok (.arraylength, 1) := by decide +kernel
theorem d8_16 : decode jdk_42_method_61_code 16 = .ok (.invokestatic 34, 3) := by decide +kernel
theorem d8_19 : decode jdk_42_method_61_code 19 = .ok (.pop, 1) := by decide +kernel
theorem d8_20 : decode jdk_42_method_61_code 20 = .ok (.aload_n 0, 1) := by decide +kernel
theorem d8_21 : decode jdk_42_method_61_code 21 = .ok (.invokevirtual 492, 3) := by decide +kernel
theorem d8_24 : decode jdk_42_method_61_code 24 = .ok (.ifCond .eq 18, 3) := by decide +kernel
theorem d8_27 : decode jdk_42_method_61_code 27 = .ok (.aload_n 0, 1) := by decide +kernel
theorem d8_28 : decode jdk_42_method_61_code 28 = .ok (.getfield 9, 3) := by decide +kernel
theorem d8_31 : decode jdk_42_method_61_code 31 = .ok (.iload_n 1, 1) := by decide +kernel
theorem d8_32 : decode jdk_42_method_61_code 32 = .ok (.iload_n 2, 1) := by decide +kernel
theorem d8_33 : decode jdk_42_method_61_code 33 = .ok (.aload_n 3, 1) := by decide +kernel
theorem d8_34 : decode jdk_42_method_61_code 34 = .ok (.iload 4, 2) := by decide +kernel
theorem d8_36 : decode jdk_42_method_61_code 36 = .ok (.invokestatic 525, 3) := by decide +kernel
theorem d8_39 : decode jdk_42_method_61_code 39 = .ok (.goto 15, 3) := by decide +kernel
theorem d8_54 : decode jdk_42_method_61_code 54 = .ok (.return_, 1) := by decide +kernel
theorem pn_8 : plainName "java/lang/String" = true := by first | (simp [plainName, overriddenIn]; done) | decide +kernel
theorem pd_8_5 : parseMethodDescriptor "()I" = some ⟨[], some .int⟩ := by decide +kernel
theorem pd_8_8 : parseMethodDescriptor "(III)V" = some ⟨[.int, .int, .int], none⟩ := by decide +kernel
theorem pd_8_10 : parseMethodDescriptor "(III)I" = some ⟨[.int, .int, .int], some .int⟩ := by decide +kernel
theorem pd_8_11 : parseMethodDescriptor "()Z" = some ⟨[], some .boolean⟩ := by decide +kernel
theorem pd_8_12 : parseMethodDescriptor "([BII[CI)V" = some ⟨[(.array .byte), .int, .int, (.array .char), .int], none⟩ := by decide +kernel
theorem ef_8 (m : MethodId) (x0 : Addr) (x1 : Int32) (x2 : Int32) (x3 : Addr) (x4 : Int32) : entryFrame m #[(.ref x0), (.int x1), (.int x2), (.ref x3), (.int x4)] 5 = mkF m 0 #[.val (.ref x0), .val (.int x1), .val (.int x2), .val (.ref x3), .val (.int x4)] [] := by first | (simp [entryFrame, mkF, argsToLocals, Value.category]; done) | rfl
set_option maxRecDepth 65536 in
set_option maxHeartbeats 40000000 in
theorem rm8l (l : Launch) (Z : State) (a0 : Array Value) (hw : ∀ d ∈ tables_1, d.before a0 Z = true) (ws : List Jvm.Cond) (a1 : Addr) (a4 : Addr) (d : Nat) (cs ds : List Nat) (w10 : Addr) (kc : Int32) (w : RefV) (h0 : Heap) (n0 : Nat) (Z0 : n0 ≤ h0.size) (D : Wd Z h0) (SIO : Sta Z h0 "jdk/internal/util/Preconditions" "SIOOBE_FORMATTER" "Ljava/util/function/BiFunction;" w.v) (SC : Sta Z h0 "java/lang/String" "COMPACT_STRINGS" "Z" (.int kc)) (hkc : ¬ (kc = 0)) (S : Str Z h0 a1 cs) (F1 : Fld Z h0 a1 "java/lang/String" "value" "[B" (.ref w10)) (FC : Fld Z h0 a1 "java/lang/String" "coder" "B" (.int 0)) (A0 : Av Z h0 w10 .byte b8 cs) (A4 : Av Z h0 a4 .char Int32.ofNat ds) (hn : cs.length < 16) (hd : ds.length < 16) (hdl : d + cs.length ≤ ds.length) (g_a4 : n0 ≤ a4) (hb9 : ∀ x ∈ cs, x < 256) :
    MetFree l (⟨"java/lang/String", "getChars", "(II[CI)V"⟩ : MethodName) (head1 (Jvm.Cond.code (⟨"java/lang/String", "getChars", "(II[CI)V"⟩ : MethodName) jdk_42_method_61_code 5 none :: ws) ({ frames := 4, cells := 0, slots := 0, locals := 60 } : Room)) (fun a U => a = #[(.ref a1), (.int (0 : Int32)), (.int (Int32.ofNat cs.length)), (.ref a4), (.int (Int32.ofNat d))] ∧ Z.Warmed39 U.vm ∧ U.heap = h0) (fun _ _ _ _ _ => True) (fun _ U o U' => ∃ v L, o = .returned v ∧ QW Z a4 .char Int32.ofNat (blit ds d cs) h0 n0 v U'.heap L ∧ FrameEnd U o U' L ({ frames := 4, cells := 0, slots := 0, locals := 60 } : Room).cells ({ frames := 4, cells := 0, slots := 0, locals := 60 } : Room).slots) := by
  refine MetFree.of_bodySF (plainFor_of_name pn_8) hisR ?_
  intro p e s m args below meth c s₁ Bd hml0 hP hK
  obtain ⟨rfl, hZ, hh⟩ := hP
  have hx := Bd.exec
  have hby := Bd.bytes
  have hml : c.maxLocals = 5 := hml0
  have hown : s.vm.findClass "java/lang/String" = some m.cls := findClass_of_methodNamed Bd.named
  have hnm := (name_of_methodNamed Bd.named Bd.method).1
  have X0 : Stand p l e ({ frames := 4, cells := 0, slots := 0, locals := 60 } : Room) s m #[(.ref a1), (.int (0 : Int32)), (.int (Int32.ofNat cs.length)), (.ref a4), (.int (Int32.ofNat d))] below meth c s₁ [] 0 0 := Stand.of_body Bd
  have e0 : s₁.heap = h0 := by rw [← hh, Bd.state]; rfl
  have N0 := Fr.nil n0
  have pre0 : ∀ t, Steps p.tables e below (s₁.setTop (mkF m 0 #[.val (.ref a1), .val (.int (0 : Int32)), .val (.int (Int32.ofNat cs.length)), .val (.ref a4), .val (.int (Int32.ofNat d))] [])) t → Steps p.tables e below (s₁.setTop (entryFrame m #[(.ref a1), (.int (0 : Int32)), (.int (Int32.ofNat cs.length)), (.ref a4), (.int (Int32.ofNat d))] 5)) t := fun t_ k_ => castTop (ef_8 m a1 (0 : Int32) (Int32.ofNat cs.length) a4 (Int32.ofNat d)) k_
  obtain ⟨cq6, kq6, q6a, q6b, q6c⟩ := isOf hZ e0 S.1
  obtain ⟨_, _, ⟨T6, L6, k6, n6⟩, -, X6, ⟨Lc6, hQ6, l6, y6, z6⟩, st6⟩ := X0.virtualBack hx (y := (⟨"java/lang/String", "length", "()I"⟩ : MethodName)) (z := (⟨"java/lang/String", "length", "()I"⟩ : MethodName)) hown (mvT hZ (hw _ (List.mem_of_getElem? (i := 47) rfl))) (mvT hZ (hw _ (List.mem_of_getElem? (i := 32) rfl))) (notFace_of_selects (args := #[]) (mvT hZ (hw _ (List.mem_of_getElem? (i := 34) rfl)))) (mvT hZ (hw _ (List.mem_of_getElem? (i := 34) rfl))) (mvT hZ (hw _ (List.mem_of_getElem? (i := 33) rfl))) (by decide) (backOf (W := 2) (len l Z a0 hw [] a1 cs h0 n0 Z0 D S) hZ (hw _ (List.mem_of_getElem? (i := 35) rfl)) (hw _ (List.mem_of_getElem? (i := 8) rfl)) (by decide) (by decide)) q6a q6c (g := (mkF m 3 #[.val (.ref a1), .val (.int (0 : Int32)), .val (.int (Int32.ofNat cs.length)), .val (.ref a4), .val (.int (Int32.ofNat d))] [(.ref a1), (.int (Int32.ofNat cs.length)), (.int (0 : Int32))])) rfl (by rw [hml]; rfl) (Steps.refl _) (argsL := []) (rest := [(.int (Int32.ofNat cs.length)), (.int (0 : Int32))]) (lenOf pd_8_5 rfl) rfl (by show 2 * 0 + _ ≤ _; exact Nat.le_of_eq rfl) (hb hby d8_3) (fun _ _ => ⟨rfl, e0, (by decide : 0 + 0 ≤ _), (by decide : 0 + 0 ≤ _)⟩)
  dsimp only [Pt.U, Pt.locs, Pt.cells, Pt.slots] at X6 l6 y6 z6 st6 hQ6
  subst l6 y6 z6
  obtain ⟨rfl, N6q, eq6⟩ := hQ6
  obtain ⟨cl_a4, Ar_a4, q_a4⟩ := A4
  have S_a4 := (own_avz q_a4 (by omega)).1
  have N_a4 := (own_avz q_a4 (by omega)).2
  obtain ⟨_, _, ⟨T7, L7, k7, n7⟩, -, X7, ⟨Lc7, hQ7, l7, y7, z7⟩, st7⟩ := Jvm.LawKit.callS X6 hx (y := (⟨"java/lang/String", "checkBoundsBeginEnd", "(III)V"⟩ : MethodName)) hown (mvT hZ (hw _ (List.mem_of_getElem? (i := 48) rfl))) (mvT hZ (hw _ (List.mem_of_getElem? (i := 49) rfl))) (mvT hZ (hw _ (List.mem_of_getElem? (i := 8) rfl))) (mvT hZ (hw _ (List.mem_of_getElem? (i := 50) rfl))) (by decide) (backOf (W := 0) (rm9 l Z a0 hw [] (0 : Int32) (Int32.ofNat cs.length) (Int32.ofNat cs.length) w T6.heap n0 (eq6 ▸ Z0) (eq6 ▸ SIO) (by decide) (own_n _ (by omega)).2 (own_nlt (Nat.le_refl _) (by omega))) hZ (hw _ (List.mem_of_getElem? (i := 50) rfl)) (hw _ (List.mem_of_getElem? (i := 8) rfl)) (by decide) (by decide)) (g := (mkF m 6 #[.val (.ref a1), .val (.int (0 : Int32)), .val (.int (Int32.ofNat cs.length)), .val (.ref a4), .val (.int (Int32.ofNat d))] [(.int (Int32.ofNat cs.length)), (.int (Int32.ofNat cs.length)), (.int (0 : Int32))])) rfl (by rw [hml]; rfl) (argsL := [(.int (0 : Int32)), (.int (Int32.ofNat cs.length)), (.int (Int32.ofNat cs.length))]) (rest := []) (lenOf pd_8_8 rfl) rfl (by show 2 * 0 + _ ≤ _; exact Nat.le_of_eq rfl) (hb hby d8_6) (fun _ _ => ⟨rfl, rfl, (by decide : 0 + 0 ≤ _), (by decide : 0 + 0 ≤ _)⟩)
  dsimp only [Pt.U, Pt.locs, Pt.cells, Pt.slots] at X7 l7 y7 z7 st7 hQ7
  subst l7 y7 z7
  obtain ⟨rfl, N7q, eq7⟩ := hQ7
  have eq7 := eq7.trans eq6
  obtain ⟨_, _, ⟨T8, L8, k8, n8⟩, -, X8, ⟨Lc8, hQ8, l8, y8, z8⟩, st8⟩ := Jvm.LawKit.callS X7 hx (y := (⟨"java/lang/String", "checkBoundsOffCount", "(III)I"⟩ : MethodName)) hown (mvT hZ (hw _ (List.mem_of_getElem? (i := 56) rfl))) (mvT hZ (hw _ (List.mem_of_getElem? (i := 57) rfl))) (mvT hZ (hw _ (List.mem_of_getElem? (i := 8) rfl))) (mvT hZ (hw _ (List.mem_of_getElem? (i := 58) rfl))) (by decide) (backOf (W := 0) (rm11 l Z a0 hw [] (Int32.ofNat d) (Int32.ofNat cs.length - (0 : Int32)) (Int32.ofNat ds.length) w T7.heap n0 (eq7 ▸ Z0) (eq7 ▸ SIO) (own_b11 _ hd _ (by omega) _ hn).1 ((own_b11 _ hd _ (by omega) _ hn).2 hdl)) hZ (hw _ (List.mem_of_getElem? (i := 58) rfl)) (hw _ (List.mem_of_getElem? (i := 8) rfl)) (by decide) (by decide)) (g := (mkF m 16 #[.val (.ref a1), .val (.int (0 : Int32)), .val (.int (Int32.ofNat cs.length)), .val (.ref a4), .val (.int (Int32.ofNat d))] [(.int (Int32.ofNat ds.length)), (.int ((Int32.ofNat cs.length) - (0 : Int32))), (.int (Int32.ofNat d))])) rfl (by rw [hml]; rfl) (argsL := [(.int (Int32.ofNat d)), (.int ((Int32.ofNat cs.length) - (0 : Int32))), (.int (Int32.ofNat ds.length))]) (rest := []) (lenOf pd_8_10 rfl) rfl (by show 2 * 0 + _ ≤ _; exact Nat.le_of_eq rfl) (hb hby d8_16) (fun _ _ => ⟨rfl, rfl, (by decide : 0 + 0 ≤ _), (by decide : 0 + 0 ≤ _)⟩)
  dsimp only [Pt.U, Pt.locs, Pt.cells, Pt.slots] at X8 l8 y8 z8 st8 hQ8
  subst l8 y8 z8
  obtain ⟨rfl, N8q, eq8⟩ := hQ8
  have eq8 := eq8.trans eq7
  obtain ⟨cq9, kq9, q9a, q9b, q9c⟩ := isOf hZ eq8 S.1
  obtain ⟨_, _, ⟨T9, L9, k9, n9⟩, -, X9, ⟨Lc9, hQ9, l9, y9, z9⟩, st9⟩ := X8.virtualBack hx (y := (⟨"java/lang/String", "isLatin1", "()Z"⟩ : MethodName)) (z := (⟨"java/lang/String", "isLatin1", "()Z"⟩ : MethodName)) hown (mvT hZ (hw _ (List.mem_of_getElem? (i := 62) rfl))) (mvT hZ (hw _ (List.mem_of_getElem? (i := 63) rfl))) (notFace_of_selects (args := #[]) (mvT hZ (hw _ (List.mem_of_getElem? (i := 65) rfl)))) (mvT hZ (hw _ (List.mem_of_getElem? (i := 65) rfl))) (mvT hZ (hw _ (List.mem_of_getElem? (i := 64) rfl))) (by decide) (backOf (W := 0) (rm13y l Z a0 hw [] a1 kc 0 T8.heap n0 (eq8 ▸ Z0) (eq8 ▸ SC) (eq8 ▸ FC) hkc (by decide)) hZ (hw _ (List.mem_of_getElem? (i := 66) rfl)) (hw _ (List.mem_of_getElem? (i := 8) rfl)) (by decide) (by decide)) q9a q9c (g := (mkF m 21 #[.val (.ref a1), .val (.int (0 : Int32)), .val (.int (Int32.ofNat cs.length)), .val (.ref a4), .val (.int (Int32.ofNat d))] [(.ref a1)])) rfl (by rw [hml]; rfl) (Steps.refl _) (argsL := []) (rest := []) (lenOf pd_8_11 rfl) rfl (by show 2 * 0 + _ ≤ _; exact Nat.le_of_eq rfl) (hb hby d8_21) (fun _ _ => ⟨rfl, rfl, (by decide : 0 + 0 ≤ _), (by decide : 0 + 0 ≤ _)⟩)
  dsimp only [Pt.U, Pt.locs, Pt.cells, Pt.slots] at X9 l9 y9 z9 st9 hQ9
  subst l9 y9 z9
  obtain ⟨rfl, N9q, eq9⟩ := hQ9
  have eq9 := eq9.trans eq8
  have F9 : Fld Z T9.heap a1 "java/lang/String" "value" "[B" (.ref w10) := eq9 ▸ F1
  obtain ⟨T11, X11, e11, st11⟩ := getF X9 hx hZ hown (host := "") (Or.inl (hw _ (List.mem_of_getElem? (i := 25) rfl))) Via.refl rfl F9 (g := (mkF m 28 #[.val (.ref a1), .val (.int (0 : Int32)), .val (.int (Int32.ofNat cs.length)), .val (.ref a4), .val (.int (Int32.ofNat d))] [(.ref a1)])) rfl rfl (hb hby d8_28)
  obtain ⟨_, _, ⟨T12, L12, k12, n12⟩, -, X12, ⟨Lc12, hQ12, l12, y12, z12⟩, st12⟩ := Jvm.LawKit.callS X11 hx (y := (⟨"java/lang/StringLatin1", "getChars", "([BII[CI)V"⟩ : MethodName)) hown (mvT hZ (hw _ (List.mem_of_getElem? (i := 67) rfl))) (mvT hZ (hw _ (List.mem_of_getElem? (i := 68) rfl))) (mvT hZ (hw _ (List.mem_of_getElem? (i := 69) rfl))) (mvT hZ (hw _ (List.mem_of_getElem? (i := 70) rfl))) (by decide) (backOf (W := 0) (rm14 l Z a0 hw [] w10 a4 d cs ds T9.heap n0 (eq9 ▸ Z0) (eq9 ▸ A0) (eq9 ▸ ⟨cl_a4, Ar_a4, q_a4⟩) (by omega) hb9 (by omega) hdl g_a4) hZ (hw _ (List.mem_of_getElem? (i := 70) rfl)) (hw _ (List.mem_of_getElem? (i := 69) rfl)) (by decide) (by decide)) (g := (mkF m 36 #[.val (.ref a1), .val (.int (0 : Int32)), .val (.int (Int32.ofNat cs.length)), .val (.ref a4), .val (.int (Int32.ofNat d))] [(.int (Int32.ofNat d)), (.ref a4), (.int (Int32.ofNat cs.length)), (.int (0 : Int32)), (.ref w10)])) rfl (by rw [hml]; rfl) (argsL := [(.ref w10), (.int (0 : Int32)), (.int (Int32.ofNat cs.length)), (.ref a4), (.int (Int32.ofNat d))]) (rest := []) (lenOf pd_8_12 rfl) rfl (by show 2 * 0 + _ ≤ _; exact Nat.le_of_eq rfl) (hb hby d8_36) (fun _ _ => ⟨rfl, e11, (by decide : 0 + 0 ≤ _), (by decide : 0 + 0 ≤ _)⟩)
  dsimp only [Pt.U, Pt.locs, Pt.cells, Pt.slots] at X12 l12 y12 z12 st12 hQ12
  subst l12 y12 z12
  obtain ⟨rfl, N12q, K12, A12⟩ := hQ12
  have N12 := Fr.app (Fr.app (Fr.app (Fr.app (Fr.app N0 N6q) N7q) N8q) N9q) N12q
  obtain ⟨fs, hr, hrun, hended, hW, hsame⟩ := X12.leave (v := none) (fun _ => rfl)
  refine ⟨_, _, pre0 _ ?_, hrun, hended, _, _, rfl, ?_, ⟨_, rfl⟩, hW, hsame.mono (by decide) (by decide)⟩
  -- 4. STEPS
  · show Steps p.tables e below (s₁.setTop (mkF m 0 #[.val (.ref a1), .val (.int (0 : Int32)), .val (.int (Int32.ofNat cs.length)), .val (.ref a4), .val (.int (Int32.ofNat d))] [])) _
    refine XS.iloadN X0.here hx rfl (hb hby d8_0) rfl ?_
    refine XS.iloadN X0.here hx rfl (hb hby d8_1) rfl ?_
    refine XS.aloadN X0.here hx rfl (hb hby d8_2) rfl rfl ?_
    refine st6.trans ?_
    refine st7 _ ?_
    refine XS.iload X7.here hx rfl (hb hby d8_9) rfl ?_
    refine XS.iloadN X7.here hx rfl (hb hby d8_11) rfl ?_
    show Steps p.tables e below (T7.setTop (mkF m 12 #[.val (.ref a1), .val (.int (0 : Int32)), .val (.int (Int32.ofNat cs.length)), .val (.ref a4), .val (.int (Int32.ofNat d))] [(.int (Int32.ofNat cs.length)), (.int (Int32.ofNat d))])) _
    refine XS.iloadN X7.here hx rfl (hb hby d8_12) rfl ?_
    refine XS.isub X7.here hx rfl (hb hby d8_13) rfl ?_
    refine XS.aloadN X7.here hx rfl (hb hby d8_14) rfl rfl ?_
    show Steps p.tables e below (T7.setTop (mkF m 15 #[.val (.ref a1), .val (.int (0 : Int32)), .val (.int (Int32.ofNat cs.length)), .val (.ref a4), .val (.int (Int32.ofNat d))] [(.ref a4), (.int ((Int32.ofNat cs.length) - (0 : Int32))), (.int (Int32.ofNat d))])) _
    refine X7.arraylength hx (by rw [eq7]; exact Ar_a4.1) (State.isArrayOf_alike hZ.alike Ar_a4.2.1) (g := (mkF m 15 #[.val (.ref a1), .val (.int (0 : Int32)), .val (.int (Int32.ofNat cs.length)), .val (.ref a4), .val (.int (Int32.ofNat d))] [(.ref a4), (.int ((Int32.ofNat cs.length) - (0 : Int32))), (.int (Int32.ofNat d))])) rfl rfl (hb hby d8_15) _ ?_
    rw [len_of S_a4 N_a4]
    refine st8 _ ?_
    refine XS.pop X8.here hx rfl (hb hby d8_19) rfl rfl ?_
    refine XS.aloadN X8.here hx rfl (hb hby d8_20) rfl rfl ?_
    refine st9.trans ?_
    refine XS.ifNo X9.here hx rfl (hb hby d8_24) rfl ((if0 _ _).trans (feq ((by decide) : ¬ ((1 : Int32) = (0 : Int32)))).1) ?_
    refine XS.aloadN X9.here hx rfl (hb hby d8_27) rfl rfl ?_
    show Steps p.tables e below (T9.setTop (mkF m 28 #[.val (.ref a1), .val (.int (0 : Int32)), .val (.int (Int32.ofNat cs.length)), .val (.ref a4), .val (.int (Int32.ofNat d))] [(.ref a1)])) _
    refine st11 _ ?_
    refine XS.iloadN X11.here hx rfl (hb hby d8_31) rfl ?_
    refine XS.iloadN X11.here hx rfl (hb hby d8_32) rfl ?_
    refine XS.aloadN X11.here hx rfl (hb hby d8_33) rfl rfl ?_
    refine XS.iload X11.here hx rfl (hb hby d8_34) rfl ?_
    refine st12 _ ?_
    refine XS.goto X12.here hx rfl (pc0 := 39) (pc' := 54) rfl (hb hby d8_39) (by decide) (by decide) ?_
    show Steps p.tables e below (T12.setTop (mkF m 54 #[.val (.ref a1), .val (.int (0 : Int32)), .val (.int (Int32.ofNat cs.length)), .val (.ref a4), .val (.int (Int32.ofNat d))] [])) _
    exact X12.returnOut hx Bd.returns (hb hby d8_54) hr
  · show QW Z a4 .char Int32.ofNat (blit ds d cs) h0 n0 _ T12.heap _
    exact ⟨rfl, N12, own_ke eq9 K12, A12⟩
theorem d8_42 : decode jdk_42_method_61_code 42 = .ok (.aload_n 0, 1) := by decide +kernel
theorem d8_43 : decode jdk_42_method_61_code 43 = .ok (.getfield 9, 3) := by decide +kernel
theorem d8_46 : decode jdk_42_method_61_code 46 = .ok (.iload_n 1, 1) := by decide +kernel
theorem d8_47 : decode jdk_42_method_61_code 47 = .ok (.iload_n 2, 1) := by decide +kernel
theorem d8_48 : decode jdk_42_method_61_code 48 = .ok (.aload_n 3, 1) := by decide +kernel
theorem d8_49 : decode jdk_42_method_61_code 49 = .ok (.iload 4, 2) := by decide +kernel
theorem d8_51 : decode jdk_42_method_61_code 51 = .ok (.invokestatic 529, 3) := by decide +kernel
set_option maxRecDepth 65536 in
set_option maxHeartbeats 40000000 in
theorem rm8u (l : Launch) (Z : State) (a0 : Array Value) (hw : ∀ d ∈ tables_1, d.before a0 Z = true) (ws : List Jvm.Cond) (a1 : Addr) (a4 : Addr) (d : Nat) (cs ds : List Nat) (w10 : Addr) (kc : Int32) (w : RefV) (h0 : Heap) (n0 : Nat) (Z0 : n0 ≤ h0.size) (D : Wd Z h0) (SIO : Sta Z h0 "jdk/internal/util/Preconditions" "SIOOBE_FORMATTER" "Ljava/util/function/BiFunction;" w.v) (SC : Sta Z h0 "java/lang/String" "COMPACT_STRINGS" "Z" (.int kc)) (hkc : ¬ (kc = 0)) (S : Str Z h0 a1 cs) (F1 : Fld Z h0 a1 "java/lang/String" "value" "[B" (.ref w10)) (FC : Fld Z h0 a1 "java/lang/String" "coder" "B" (.int 1)) (A0 : Av Z h0 w10 .byte b8 (cs.flatMap (fun c => [c % 256, c / 256]))) (A4 : Av Z h0 a4 .char Int32.ofNat ds) (hn : cs.length < 16) (hd : ds.length < 16) (hdl : d + cs.length ≤ ds.length) (g_a4 : n0 ≤ a4) (hb9 : ∀ x ∈ cs, x < 65536) (hne : cs ≠ []) :
    MetFree l (⟨"java/lang/String", "getChars", "(II[CI)V"⟩ : MethodName) (head1 (Jvm.Cond.code (⟨"java/lang/String", "getChars", "(II[CI)V"⟩ : MethodName) jdk_42_method_61_code 5 none :: ws) ({ frames := 4, cells := 0, slots := 0, locals := 60 } : Room)) (fun a U => a = #[(.ref a1), (.int (0 : Int32)), (.int (Int32.ofNat cs.length)), (.ref a4), (.int (Int32.ofNat d))] ∧ Z.Warmed39 U.vm ∧ U.heap = h0) (fun _ _ _ _ _ => True) (fun _ U o U' => ∃ v L, o = .returned v ∧ QW Z a4 .char Int32.ofNat (blit ds d cs) h0 n0 v U'.heap L ∧ FrameEnd U o U' L ({ frames := 4, cells := 0, slots := 0, locals := 60 } : Room).cells ({ frames := 4, cells := 0, slots := 0, locals := 60 } : Room).slots) := by
  refine MetFree.of_bodySF (plainFor_of_name pn_8) hisR ?_
  intro p e s m args below meth c s₁ Bd hml0 hP hK
  obtain ⟨rfl, hZ, hh⟩ := hP
  have hx := Bd.exec
  have hby := Bd.bytes
  have hml : c.maxLocals = 5 := hml0
  have hown : s.vm.findClass "java/lang/String" = some m.cls := findClass_of_methodNamed Bd.named
  have hnm := (name_of_methodNamed Bd.named Bd.method).1
  have X0 : Stand p l e ({ frames := 4, cells := 0, slots := 0, locals := 60 } : Room) s m #[(.ref a1), (.int (0 : Int32)), (.int (Int32.ofNat cs.length)), (.ref a4), (.int (Int32.ofNat d))] below meth c s₁ [] 0 0 := Stand.of_body Bd
  have e0 : s₁.heap = h0 := by rw [← hh, Bd.state]; rfl
  have N0 := Fr.nil n0
  have pre0 : ∀ t, Steps p.tables e below (s₁.setTop (mkF m 0 #[.val (.ref a1), .val (.int (0 : Int32)), .val (.int (Int32.ofNat cs.length)), .val (.ref a4), .val (.int (Int32.ofNat d))] [])) t → Steps p.tables e below (s₁.setTop (entryFrame m #[(.ref a1), (.int (0 : Int32)), (.int (Int32.ofNat cs.length)), (.ref a4), (.int (Int32.ofNat d))] 5)) t := fun t_ k_ => castTop (ef_8 m a1 (0 : Int32) (Int32.ofNat cs.length) a4 (Int32.ofNat d)) k_
  obtain ⟨cq6, kq6, q6a, q6b, q6c⟩ := isOf hZ e0 S.1
  obtain ⟨_, _, ⟨T6, L6, k6, n6⟩, -, X6, ⟨Lc6, hQ6, l6, y6, z6⟩, st6⟩ := X0.virtualBack hx (y := (⟨"java/lang/String", "length", "()I"⟩ : MethodName)) (z := (⟨"java/lang/String", "length", "()I"⟩ : MethodName)) hown (mvT hZ (hw _ (List.mem_of_getElem? (i := 47) rfl))) (mvT hZ (hw _ (List.mem_of_getElem? (i := 32) rfl))) (notFace_of_selects (args := #[]) (mvT hZ (hw _ (List.mem_of_getElem? (i := 34) rfl)))) (mvT hZ (hw _ (List.mem_of_getElem? (i := 34) rfl))) (mvT hZ (hw _ (List.mem_of_getElem? (i := 33) rfl))) (by decide) (backOf (W := 2) (len l Z a0 hw [] a1 cs h0 n0 Z0 D S) hZ (hw _ (List.mem_of_getElem? (i := 35) rfl)) (hw _ (List.mem_of_getElem? (i := 8) rfl)) (by decide) (by decide)) q6a q6c (g := (mkF m 3 #[.val (.ref a1), .val (.int (0 : Int32)), .val (.int (Int32.ofNat cs.length)), .val (.ref a4), .val (.int (Int32.ofNat d))] [(.ref a1), (.int (Int32.ofNat cs.length)), (.int (0 : Int32))])) rfl (by rw [hml]; rfl) (Steps.refl _) (argsL := []) (rest := [(.int (Int32.ofNat cs.length)), (.int (0 : Int32))]) (lenOf pd_8_5 rfl) rfl (by show 2 * 0 + _ ≤ _; exact Nat.le_of_eq rfl) (hb hby d8_3) (fun _ _ => ⟨rfl, e0, (by decide : 0 + 0 ≤ _), (by decide : 0 + 0 ≤ _)⟩)
  dsimp only [Pt.U, Pt.locs, Pt.cells, Pt.slots] at X6 l6 y6 z6 st6 hQ6
  subst l6 y6 z6
  obtain ⟨rfl, N6q, eq6⟩ := hQ6
  obtain ⟨cl_a4, Ar_a4, q_a4⟩ := A4
  have S_a4 := (own_avz q_a4 (by omega)).1
  have N_a4 := (own_avz q_a4 (by omega)).2
  obtain ⟨_, _, ⟨T7, L7, k7, n7⟩, -, X7, ⟨Lc7, hQ7, l7, y7, z7⟩, st7⟩ := Jvm.LawKit.callS X6 hx (y := (⟨"java/lang/String", "checkBoundsBeginEnd", "(III)V"⟩ : MethodName)) hown (mvT hZ (hw _ (List.mem_of_getElem? (i := 48) rfl))) (mvT hZ (hw _ (List.mem_of_getElem? (i := 49) rfl))) (mvT hZ (hw _ (List.mem_of_getElem? (i := 8) rfl))) (mvT hZ (hw _ (List.mem_of_getElem? (i := 50) rfl))) (by decide) (backOf (W := 0) (rm9 l Z a0 hw [] (0 : Int32) (Int32.ofNat cs.length) (Int32.ofNat cs.length) w T6.heap n0 (eq6 ▸ Z0) (eq6 ▸ SIO) (by decide) (own_n _ (by omega)).2 (own_nlt (Nat.le_refl _) (by omega))) hZ (hw _ (List.mem_of_getElem? (i := 50) rfl)) (hw _ (List.mem_of_getElem? (i := 8) rfl)) (by decide) (by decide)) (g := (mkF m 6 #[.val (.ref a1), .val (.int (0 : Int32)), .val (.int (Int32.ofNat cs.length)), .val (.ref a4), .val (.int (Int32.ofNat d))] [(.int (Int32.ofNat cs.length)), (.int (Int32.ofNat cs.length)), (.int (0 : Int32))])) rfl (by rw [hml]; rfl) (argsL := [(.int (0 : Int32)), (.int (Int32.ofNat cs.length)), (.int (Int32.ofNat cs.length))]) (rest := []) (lenOf pd_8_8 rfl) rfl (by show 2 * 0 + _ ≤ _; exact Nat.le_of_eq rfl) (hb hby d8_6) (fun _ _ => ⟨rfl, rfl, (by decide : 0 + 0 ≤ _), (by decide : 0 + 0 ≤ _)⟩)
  dsimp only [Pt.U, Pt.locs, Pt.cells, Pt.slots] at X7 l7 y7 z7 st7 hQ7
  subst l7 y7 z7
  obtain ⟨rfl, N7q, eq7⟩ := hQ7
  have eq7 := eq7.trans eq6
  obtain ⟨_, _, ⟨T8, L8, k8, n8⟩, -, X8, ⟨Lc8, hQ8, l8, y8, z8⟩, st8⟩ := Jvm.LawKit.callS X7 hx (y := (⟨"java/lang/String", "checkBoundsOffCount", "(III)I"⟩ : MethodName)) hown (mvT hZ (hw _ (List.mem_of_getElem? (i := 56) rfl))) (mvT hZ (hw _ (List.mem_of_getElem? (i := 57) rfl))) (mvT hZ (hw _ (List.mem_of_getElem? (i := 8) rfl))) (mvT hZ (hw _ (List.mem_of_getElem? (i := 58) rfl))) (by decide) (backOf (W := 0) (rm11 l Z a0 hw [] (Int32.ofNat d) (Int32.ofNat cs.length - (0 : Int32)) (Int32.ofNat ds.length) w T7.heap n0 (eq7 ▸ Z0) (eq7 ▸ SIO) (own_b11 _ hd _ (by omega) _ hn).1 ((own_b11 _ hd _ (by omega) _ hn).2 hdl)) hZ (hw _ (List.mem_of_getElem? (i := 58) rfl)) (hw _ (List.mem_of_getElem? (i := 8) rfl)) (by decide) (by decide)) (g := (mkF m 16 #[.val (.ref a1), .val (.int (0 : Int32)), .val (.int (Int32.ofNat cs.length)), .val (.ref a4), .val (.int (Int32.ofNat d))] [(.int (Int32.ofNat ds.length)), (.int ((Int32.ofNat cs.length) - (0 : Int32))), (.int (Int32.ofNat d))])) rfl (by rw [hml]; rfl) (argsL := [(.int (Int32.ofNat d)), (.int ((Int32.ofNat cs.length) - (0 : Int32))), (.int (Int32.ofNat ds.length))]) (rest := []) (lenOf pd_8_10 rfl) rfl (by show 2 * 0 + _ ≤ _; exact Nat.le_of_eq rfl) (hb hby d8_16) (fun _ _ => ⟨rfl, rfl, (by decide : 0 + 0 ≤ _), (by decide : 0 + 0 ≤ _)⟩)
  dsimp only [Pt.U, Pt.locs, Pt.cells, Pt.slots] at X8 l8 y8 z8 st8 hQ8
  subst l8 y8 z8
  obtain ⟨rfl, N8q, eq8⟩ := hQ8
  have eq8 := eq8.trans eq7
  obtain ⟨cq9, kq9, q9a, q9b, q9c⟩ := isOf hZ eq8 S.1
  obtain ⟨_, _, ⟨T9, L9, k9, n9⟩, -, X9, ⟨Lc9, hQ9, l9, y9, z9⟩, st9⟩ := X8.virtualBack hx (y := (⟨"java/lang/String", "isLatin1", "()Z"⟩ : MethodName)) (z := (⟨"java/lang/String", "isLatin1", "()Z"⟩ : MethodName)) hown (mvT hZ (hw _ (List.mem_of_getElem? (i := 62) rfl))) (mvT hZ (hw _ (List.mem_of_getElem? (i := 63) rfl))) (notFace_of_selects (args := #[]) (mvT hZ (hw _ (List.mem_of_getElem? (i := 65) rfl)))) (mvT hZ (hw _ (List.mem_of_getElem? (i := 65) rfl))) (mvT hZ (hw _ (List.mem_of_getElem? (i := 64) rfl))) (by decide) (backOf (W := 0) (rm13n l Z a0 hw [] a1 kc 1 T8.heap n0 (eq8 ▸ Z0) (eq8 ▸ SC) (eq8 ▸ FC) hkc (by decide)) hZ (hw _ (List.mem_of_getElem? (i := 66) rfl)) (hw _ (List.mem_of_getElem? (i := 8) rfl)) (by decide) (by decide)) q9a q9c (g := (mkF m 21 #[.val (.ref a1), .val (.int (0 : Int32)), .val (.int (Int32.ofNat cs.length)), .val (.ref a4), .val (.int (Int32.ofNat d))] [(.ref a1)])) rfl (by rw [hml]; rfl) (Steps.refl _) (argsL := []) (rest := []) (lenOf pd_8_11 rfl) rfl (by show 2 * 0 + _ ≤ _; exact Nat.le_of_eq rfl) (hb hby d8_21) (fun _ _ => ⟨rfl, rfl, (by decide : 0 + 0 ≤ _), (by decide : 0 + 0 ≤ _)⟩)
  dsimp only [Pt.U, Pt.locs, Pt.cells, Pt.slots] at X9 l9 y9 z9 st9 hQ9
  subst l9 y9 z9
  obtain ⟨rfl, N9q, eq9⟩ := hQ9
  have eq9 := eq9.trans eq8
  have F9 : Fld Z T9.heap a1 "java/lang/String" "value" "[B" (.ref w10) := eq9 ▸ F1
  obtain ⟨T11, X11, e11, st11⟩ := getF X9 hx hZ hown (host := "") (Or.inl (hw _ (List.mem_of_getElem? (i := 25) rfl))) Via.refl rfl F9 (g := (mkF m 43 #[.val (.ref a1), .val (.int (0 : Int32)), .val (.int (Int32.ofNat cs.length)), .val (.ref a4), .val (.int (Int32.ofNat d))] [(.ref a1)])) rfl rfl (hb hby d8_43)
  obtain ⟨_, _, ⟨T12, L12, k12, n12⟩, -, X12, ⟨Lc12, hQ12, l12, y12, z12⟩, st12⟩ := Jvm.LawKit.callS X11 hx (y := (⟨"java/lang/StringUTF16", "getChars", "([BII[CI)V"⟩ : MethodName)) hown (mvT hZ (hw _ (List.mem_of_getElem? (i := 135) rfl))) (mvT hZ (hw _ (List.mem_of_getElem? (i := 136) rfl))) (mvT hZ (hw _ (List.mem_of_getElem? (i := 94) rfl))) (mvT hZ (hw _ (List.mem_of_getElem? (i := 137) rfl))) (by decide) (backOf (W := 0) (rm32 l Z a0 hw [] w10 a4 d cs ds T9.heap n0 (eq9 ▸ Z0) (eq9 ▸ D) (eq9 ▸ A0) (eq9 ▸ ⟨cl_a4, Ar_a4, q_a4⟩) (by omega) hne hb9 (by omega) hdl g_a4) hZ (hw _ (List.mem_of_getElem? (i := 137) rfl)) (hw _ (List.mem_of_getElem? (i := 94) rfl)) (by decide) (by decide)) (g := (mkF m 51 #[.val (.ref a1), .val (.int (0 : Int32)), .val (.int (Int32.ofNat cs.length)), .val (.ref a4), .val (.int (Int32.ofNat d))] [(.int (Int32.ofNat d)), (.ref a4), (.int (Int32.ofNat cs.length)), (.int (0 : Int32)), (.ref w10)])) rfl (by rw [hml]; rfl) (argsL := [(.ref w10), (.int (0 : Int32)), (.int (Int32.ofNat cs.length)), (.ref a4), (.int (Int32.ofNat d))]) (rest := []) (lenOf pd_8_12 rfl) rfl (by show 2 * 0 + _ ≤ _; exact Nat.le_of_eq rfl) (hb hby d8_51) (fun _ _ => ⟨rfl, e11, (by decide : 0 + 0 ≤ _), (by decide : 0 + 0 ≤ _)⟩)
  dsimp only [Pt.U, Pt.locs, Pt.cells, Pt.slots] at X12 l12 y12 z12 st12 hQ12
  subst l12 y12 z12
  obtain ⟨rfl, N12q, K12, A12⟩ := hQ12
  have N12 := Fr.app (Fr.app (Fr.app (Fr.app (Fr.app N0 N6q) N7q) N8q) N9q) N12q
  obtain ⟨fs, hr, hrun, hended, hW, hsame⟩ := X12.leave (v := none) (fun _ => rfl)
  refine ⟨_, _, pre0 _ ?_, hrun, hended, _, _, rfl, ?_, ⟨_, rfl⟩, hW, hsame.mono (by decide) (by decide)⟩
  -- 4. STEPS
  · show Steps p.tables e below (s₁.setTop (mkF m 0 #[.val (.ref a1), .val (.int (0 : Int32)), .val (.int (Int32.ofNat cs.length)), .val (.ref a4), .val (.int (Int32.ofNat d))] [])) _
    refine XS.iloadN X0.here hx rfl (hb hby d8_0) rfl ?_
    refine XS.iloadN X0.here hx rfl (hb hby d8_1) rfl ?_
    refine XS.aloadN X0.here hx rfl (hb hby d8_2) rfl rfl ?_
    refine st6.trans ?_
    refine st7 _ ?_
    refine XS.iload X7.here hx rfl (hb hby d8_9) rfl ?_
    refine XS.iloadN X7.here hx rfl (hb hby d8_11) rfl ?_
    show Steps p.tables e below (T7.setTop (mkF m 12 #[.val (.ref a1), .val (.int (0 : Int32)), .val (.int (Int32.ofNat cs.length)), .val (.ref a4), .val (.int (Int32.ofNat d))] [(.int (Int32.ofNat cs.length)), (.int (Int32.ofNat d))])) _
    refine XS.iloadN X7.here hx rfl (hb hby d8_12) rfl ?_
    refine XS.isub X7.here hx rfl (hb hby d8_13) rfl ?_
    refine XS.aloadN X7.here hx rfl (hb hby d8_14) rfl rfl ?_
    show Steps p.tables e below (T7.setTop (mkF m 15 #[.val (.ref a1), .val (.int (0 : Int32)), .val (.int (Int32.ofNat cs.length)), .val (.ref a4), .val (.int (Int32.ofNat d))] [(.ref a4), (.int ((Int32.ofNat cs.length) - (0 : Int32))), (.int (Int32.ofNat d))])) _
    refine X7.arraylength hx (by rw [eq7]; exact Ar_a4.1) (State.isArrayOf_alike hZ.alike Ar_a4.2.1) (g := (mkF m 15 #[.val (.ref a1), .val (.int (0 : Int32)), .val (.int (Int32.ofNat cs.length)), .val (.ref a4), .val (.int (Int32.ofNat d))] [(.ref a4), (.int ((Int32.ofNat cs.length) - (0 : Int32))), (.int (Int32.ofNat d))])) rfl rfl (hb hby d8_15) _ ?_
    rw [len_of S_a4 N_a4]
    refine st8 _ ?_
    refine XS.pop X8.here hx rfl (hb hby d8_19) rfl rfl ?_
    refine XS.aloadN X8.here hx rfl (hb hby d8_20) rfl rfl ?_
    refine st9.trans ?_
    refine XS.ifYes X9.here hx rfl (pc0 := 24) (pc' := 42) rfl (hb hby d8_24) rfl ((if0 _ _).trans (teq ((by decide) : (0 : Int32) = (0 : Int32))).1) (by decide) (by decide) ?_
    refine XS.aloadN X9.here hx rfl (hb hby d8_42) rfl rfl ?_
    show Steps p.tables e below (T9.setTop (mkF m 43 #[.val (.ref a1), .val (.int (0 : Int32)), .val (.int (Int32.ofNat cs.length)), .val (.ref a4), .val (.int (Int32.ofNat d))] [(.ref a1)])) _
    refine st11 _ ?_
    refine XS.iloadN X11.here hx rfl (hb hby d8_46) rfl ?_
    refine XS.iloadN X11.here hx rfl (hb hby d8_47) rfl ?_
    refine XS.aloadN X11.here hx rfl (hb hby d8_48) rfl rfl ?_
    refine XS.iload X11.here hx rfl (hb hby d8_49) rfl ?_
    refine st12 _ ?_
    show Steps p.tables e below (T12.setTop (mkF m 54 #[.val (.ref a1), .val (.int (0 : Int32)), .val (.int (Int32.ofNat cs.length)), .val (.ref a4), .val (.int (Int32.ofNat d))] [])) _
    exact X12.returnOut hx Bd.returns (hb hby d8_54) hr
  · show QW Z a4 .char Int32.ofNat (blit ds d cs) h0 n0 _ T12.heap _
    exact ⟨rfl, N12, own_ke eq9 K12, A12⟩
theorem gch (l : Launch) (Z : State) (a0 : Array Value) (hw : ∀ d ∈ tables_1, d.before a0 Z = true) (ws : List Jvm.Cond) (a1 : Addr) (a4 : Addr) (d : Nat) (cs ds : List Nat) (h0 : Heap) (n0 : Nat) (Z0 : n0 ≤ h0.size) (D : Wd Z h0) (S : Str Z h0 a1 cs) (A4 : Av Z h0 a4 .char Int32.ofNat ds) (hn : cs.length < 16) (hd : ds.length < 16) (hdl : d + cs.length ≤ ds.length) (g_a4 : n0 ≤ a4) :
    MetFree l (⟨"java/lang/String", "getChars", "(II[CI)V"⟩ : MethodName) (head1 (Jvm.Cond.code (⟨"java/lang/String", "getChars", "(II[CI)V"⟩ : MethodName) jdk_42_method_61_code 5 none :: ws) ({ frames := 4, cells := 0, slots := 0, locals := 60 } : Room)) (fun a U => a = #[(.ref a1), (.int (0 : Int32)), (.int (Int32.ofNat cs.length)), (.ref a4), (.int (Int32.ofNat d))] ∧ Z.Warmed39 U.vm ∧ U.heap = h0) (fun _ _ _ _ _ => True) (fun _ U o U' => ∃ v L, o = .returned v ∧ QW Z a4 .char Int32.ofNat (blit ds d cs) h0 n0 v U'.heap L ∧ FrameEnd U o U' L ({ frames := 4, cells := 0, slots := 0, locals := 60 } : Room).cells ({ frames := 4, cells := 0, slots := 0, locals := 60 } : Room).slots) := by
  have D' := D
  have S' := S
  obtain ⟨⟨w, SIO⟩, ⟨kc, hkc, SC⟩, -⟩ := D'
  obtain ⟨E, hl, v, k, ns, F1, F2, A0, R⟩ := S'
  rcases R with ⟨rfl, rfl, hb9⟩ | ⟨rfl, rfl, hb9, hne⟩
  · exact rm8l l Z a0 hw ws a1 a4 d _ ds v kc w h0 n0 Z0 D SIO SC hkc S F1 F2 A0 A4 hn hd hdl g_a4 hb9
  · exact rm8u l Z a0 hw ws a1 a4 d cs ds v kc w h0 n0 Z0 D SIO SC hkc S F1 F2 A0 A4 hn hd hdl g_a4 hb9 hne
theorem pch (l : Launch) (Z : State) (a0 : Array Value) (hw : ∀ d ∈ tables_1, d.before a0 Z = true) (ws : List Jvm.Cond) (a1 : Addr) (i : Nat) (ch : Nat) (ns : List Nat) (h0 : Heap) (n0 : Nat) (Z0 : n0 ≤ h0.size) (D : Wd Z h0) (A : Av Z h0 a1 .byte b8 ns) (g_a1 : n0 ≤ a1) (hl : ns.length < 128) (hi2 : 2 * i + 1 < ns.length) (hch : ch < 65536) :
    MetFree l (⟨"java/lang/StringUTF16", "putChar", "([BII)V"⟩ : MethodName) (head1 (Jvm.Cond.code (⟨"java/lang/StringUTF16", "putChar", "([BII)V"⟩ : MethodName) jdk_52_method_4_code 3 none :: ws) ({ frames := 0, cells := 0, slots := 0, locals := 0 } : Room)) (fun a U => a = #[(.ref a1), (.int (Int32.ofNat i)), (.int (Int32.ofNat ch))] ∧ Z.Warmed39 U.vm ∧ U.heap = h0) (fun _ _ _ _ _ => True) (fun _ U o U' => ∃ v L, o = .returned v ∧ QW Z a1 .byte b8 ((ns.set (2 * i) (ch % 256)).set (2 * i + 1) (ch / 256)) h0 n0 v U'.heap L ∧ FrameEnd U o U' L ({ frames := 0, cells := 0, slots := 0, locals := 0 } : Room).cells ({ frames := 0, cells := 0, slots := 0, locals := 0 } : Room).slots) := by
  obtain ⟨-, -, d3, d4, d5⟩ := D
  obtain ⟨cl, A, q⟩ := A
  exact rm30 l Z a0 hw ws a1 i ch cl ns h0 n0 Z0 d3 d4 A g_a1 d5 q hl hi2 hch (by decide)
theorem d27_0 : decode jdk_52_method_14_code 0 = .ok (.iload_n 2, 1) := by decide +kernel
theorem d27_1 : decode jdk_52_method_14_code 1 = .ok (.invokestatic 107, 3) := by decide +kernel
theorem d27_4 : decode jdk_52_method_14_code 4 = .ok (.astore_n 3, 1) := by decide +kernel
theorem d27_5 : decode jdk_52_method_14_code 5 = .ok (.iconst 0, 1) := by decide +kernel
theorem d27_6 : decode jdk_52_method_14_code 6 = .ok (.istore 4, 2) := by decide +kernel
theorem pd_27_24 : parseMethodDescriptor "(I)[B" = some ⟨[.int], some (.array .byte)⟩ := by decide +kernel
theorem os27_4 {s0 : Slot} {s1 : Slot} {z2 : Value} {s3 : Slot} {s4 : Slot} {v : Addr} (h : One s3) : storeLocals #[s0, s1, .val z2, s3, s4] 3 (.ref v) = some #[s0, s1, .val z2, .val (.ref v), s4] := by
  rcases h with rfl | ⟨w, rfl, hw⟩
  · rfl
  · cases w <;> first | rfl | (simp [Value.category] at hw)
theorem os27_6 {s0 : Slot} {s1 : Slot} {z2 : Value} {z3 : Value} {s4 : Slot} {v : Int32} (h : One s4) : storeLocals #[s0, s1, .val z2, .val z3, s4] 4 (.int v) = some #[s0, s1, .val z2, .val z3, .val (.int v)] := by
  rcases h with rfl | ⟨w, rfl, hw⟩
  · rfl
  · cases w <;> first | rfl | (simp [Value.category] at hw)
set_option maxRecDepth 65536 in
set_option maxHeartbeats 40000000 in
theorem a27 {p : Program} {l : Launch} {e : Env} {s : State} {m : MethodId} {args : Array Value} {below : List Frame} {meth : Method} {c : Code} {T0 : State} {locs : List Loc} {Z : State} {a0 : Array Value} {h0 : Heap} (s0 : Slot) (s1 : Slot) (s3 : Slot) (s4 : Slot) (k : Nat) (n0 : Nat)
    (X0 : Stand p l e ({ frames := 2, cells := 1, slots := 32, locals := 24 } : Room) s m args below meth c T0 locs 0 0) (hx : p.tables.exec = Jvm.exec) (hZ : Z.Warmed39 s.vm) (hw : ∀ d ∈ tables_1, d.before a0 Z = true) (hby : c.code = jdk_52_method_14_code) (hml : c.maxLocals = 5) (hown : s.vm.findClass "java/lang/StringUTF16" = some m.cls) (e0 : T0.heap = h0) (hs3 : One s3) (hs4 : One s4) (N0 : Fr n0 locs) (Z0 : n0 ≤ h0.size) (hk : k ≤ 16) :
    ∃ (T' : State) (h' : Heap) (L' : List Loc) (b4 : Addr), Stand p l e ({ frames := 2, cells := 1, slots := 32, locals := 24 } : Room) s m args below meth c T' L' 1 32 ∧ T'.heap = h' ∧ Fr n0 L' ∧ n0 ≤ b4 ∧ h0.size ≤ b4 ∧ Keep h0 h' [] ∧ Av Z h' b4 .byte b8 (List.replicate (2 * k) 0) ∧
      ∀ target, Steps p.tables e below (T'.setTop (mkF m 8 #[s0, s1, .val (.int (Int32.ofNat k)), .val (.ref b4), .val (.int (0 : Int32))] [])) target → Steps p.tables e below (T0.setTop (mkF m 0 #[s0, s1, .val (.int (Int32.ofNat k)), s3, s4] [])) target := by
  obtain ⟨_, _, ⟨T4, L4, k4, n4⟩, -, X4, ⟨Lc4, hQ4, l4, y4, z4⟩, st4⟩ := Jvm.LawKit.callS X0 hx (y := (⟨"java/lang/StringUTF16", "newBytesFor", "(I)[B"⟩ : MethodName)) hown (mvT hZ (hw _ (List.mem_of_getElem? (i := 119) rfl))) (mvT hZ (hw _ (List.mem_of_getElem? (i := 120) rfl))) (mvT hZ (hw _ (List.mem_of_getElem? (i := 94) rfl))) (mvT hZ (hw _ (List.mem_of_getElem? (i := 121) rfl))) (by decide) (backOf (W := 0) (rm28 l Z a0 hw [] k h0 n0 Z0 hk) hZ (hw _ (List.mem_of_getElem? (i := 121) rfl)) (hw _ (List.mem_of_getElem? (i := 94) rfl)) (by decide) (by decide)) (g := (mkF m 1 #[s0, s1, .val (.int (Int32.ofNat k)), s3, s4] [(.int (Int32.ofNat k))])) rfl (by rw [hml]; rfl) (argsL := [(.int (Int32.ofNat k))]) (rest := []) (lenOf pd_27_24 rfl) rfl (by show 2 * 0 + _ ≤ _; exact Nat.le_of_eq rfl) (hb hby d27_1) (fun _ _ => ⟨rfl, e0, (by decide : 0 + 0 + 1 ≤ _), (by decide : 0 + 0 + 32 ≤ _)⟩)
  dsimp only [Pt.U, Pt.locs, Pt.cells, Pt.slots] at X4 l4 y4 z4 st4 hQ4
  subst l4 y4 z4
  obtain ⟨b4, rfl, N4q, g4, z4s, K4, A4⟩ := hQ4
  refine ⟨T4, _, _, b4, X4, rfl, Fr.app N0 N4q, g4, z4s, K4, A4, fun target kt => ?_⟩
  show Steps p.tables e below (T0.setTop (mkF m 0 #[s0, s1, .val (.int (Int32.ofNat k)), s3, s4] [])) _
  refine XS.iloadN X0.here hx rfl (hb hby d27_0) rfl ?_
  refine st4 _ ?_
  refine XS.astoreN X4.here hx rfl (hb hby d27_4) rfl rfl (l' := #[s0, s1, .val (.int (Int32.ofNat k)), .val (.ref b4), s4]) (os27_4 hs3) ?_
  refine XS.iconst X4.here hx rfl (hb hby d27_5) ?_
  refine XS.istore X4.here hx rfl (hb hby d27_6) rfl (l' := #[s0, s1, .val (.int (Int32.ofNat k)), .val (.ref b4), .val (.int (0 : Int32))]) (os27_6 hs4) ?_
  exact kt
theorem d27_8 : decode jdk_52_method_14_code 8 = .ok (.iload 4, 2) := by decide +kernel
theorem d27_10 : decode jdk_52_method_14_code 10 = .ok (.iload_n 2, 1) := by decide +kernel
theorem d27_11 : decode jdk_52_method_14_code 11 = .ok (.if_icmp .ge 21, 3) := by decide +kernel
set_option maxRecDepth 65536 in
set_option maxHeartbeats 40000000 in
theorem s27x {p : Program} {l : Launch} {e : Env} {R : Room} {s : State} {m : MethodId} {args : Array Value} {below : List Frame} {meth : Method} {c : Code} {T0 : State} {locs : List Loc} {cells slots : Nat} {Z : State} {h0 : Heap} (s0 : Slot) (s1 : Slot) (i2 : Int32) (s3 : Slot) (i4 : Int32) 
    (X0 : Stand p l e R s m args below meth c T0 locs cells slots) (hx : p.tables.exec = Jvm.exec) (hZ : Z.Warmed39 s.vm) (hby : c.code = jdk_52_method_14_code) (e0 : T0.heap = h0) (hc11 : ¬ (i4 < i2))  :
    ∀ target, Steps p.tables e below (T0.setTop (mkF m 32 #[s0, s1, .val (.int i2), s3, .val (.int i4)] [])) target → Steps p.tables e below (T0.setTop (mkF m 8 #[s0, s1, .val (.int i2), s3, .val (.int i4)] [])) target := by
  intro target kt
  show Steps p.tables e below (T0.setTop (mkF m 8 #[s0, s1, .val (.int i2), s3, .val (.int i4)] [])) _
  refine XS.iload X0.here hx rfl (hb hby d27_8) rfl ?_
  refine XS.iloadN X0.here hx rfl (hb hby d27_10) rfl ?_
  refine XS.icmpYes X0.here hx rfl (pc0 := 11) (pc' := 32) rfl (hb hby d27_11) rfl (flt hc11).2.1 (by decide) (by decide) ?_
  exact kt
theorem d27_14 : decode jdk_52_method_14_code 14 = .ok (.aload_n 3, 1) := by decide +kernel
theorem d27_15 : decode jdk_52_method_14_code 15 = .ok (.iload 4, 2) := by decide +kernel
theorem d27_17 : decode jdk_52_method_14_code 17 = .ok (.aload_n 0, 1) := by decide +kernel
theorem d27_18 : decode jdk_52_method_14_code 18 = .ok (.iload_n 1, 1) := by decide +kernel
theorem d27_19 : decode jdk_52_method_14_code 19 = .ok (.caload, 1) := by decide +kernel
theorem d27_20 : decode jdk_52_method_14_code 20 = .ok (.invokestatic 111, 3) := by decide +kernel
theorem d27_23 : decode jdk_52_method_14_code 23 = .ok (.iinc 1 1, 3) := by decide +kernel
theorem d27_26 : decode jdk_52_method_14_code 26 = .ok (.iinc 4 1, 3) := by decide +kernel
theorem d27_29 : decode jdk_52_method_14_code 29 = .ok (.goto (-21), 3) := by decide +kernel
theorem pd_27_26 : parseMethodDescriptor "([BII)V" = some ⟨[(.array .byte), .int, .int], none⟩ := by decide +kernel
set_option maxRecDepth 65536 in
set_option maxHeartbeats 40000000 in
theorem t27 {p : Program} {l : Launch} {e : Env} {s : State} {m : MethodId} {args : Array Value} {below : List Frame} {meth : Method} {c : Code} {T0 : State} {locs : List Loc} {Z : State} {a0 : Array Value} {h0 : Heap} (o0 : Addr) (o3 : Addr) (k i ch : Nat) (cs ns : List Nat) (n0 : Nat)
    (X0 : Stand p l e ({ frames := 2, cells := 1, slots := 32, locals := 24 } : Room) s m args below meth c T0 locs 1 32) (hx : p.tables.exec = Jvm.exec) (hZ : Z.Warmed39 s.vm) (hw : ∀ d ∈ tables_1, d.before a0 Z = true) (hby : c.code = jdk_52_method_14_code) (hml : c.maxLocals = 5) (hown : s.vm.findClass "java/lang/StringUTF16" = some m.cls) (e0 : T0.heap = h0) (N0 : Fr n0 locs) (Z0 : n0 ≤ h0.size) (D : Wd Z h0) (A0 : Av Z h0 o0 .char Int32.ofNat cs) (A3 : Av Z h0 o3 .byte b8 ns) (hn : cs.length < 64) (hd : ns.length < 128) (hq : cs[i]? = some ch) (hch : ch < 65536) (hdi : 2 * i + 1 < ns.length) (g_o3 : n0 ≤ o3) (hc11 : Int32.ofNat i < Int32.ofNat k) :
    ∃ (T' : State) (h' : Heap) (L' : List Loc), Stand p l e ({ frames := 2, cells := 1, slots := 32, locals := 24 } : Room) s m args below meth c T' L' 1 32 ∧ T'.heap = h' ∧ Fr n0 L' ∧ Keep h0 h' [o3] ∧ Av Z h' o3 .byte b8 ((ns.set (2 * i) (ch % 256)).set (2 * i + 1) (ch / 256)) ∧
      ∀ target, Steps p.tables e below (T'.setTop (mkF m 8 #[.val (.ref o0), .val (.int ((Int32.ofNat i) + (1 : Int32))), .val (.int (Int32.ofNat k)), .val (.ref o3), .val (.int ((Int32.ofNat i) + (1 : Int32)))] [])) target → Steps p.tables e below (T0.setTop (mkF m 8 #[.val (.ref o0), .val (.int (Int32.ofNat i)), .val (.int (Int32.ofNat k)), .val (.ref o3), .val (.int (Int32.ofNat i))] [])) target := by
  obtain ⟨cl_o0, Ar_o0, q_o0⟩ := A0
  have hin19 := own_avi q_o0 (List.getElem?_eq_some_iff.mp hq).1 (by omega)
  have hat19 := own_avn q_o0 hq (by omega)
  obtain ⟨_, _, ⟨T5, L5, k5, n5⟩, -, X5, ⟨Lc5, hQ5, l5, y5, z5⟩, st5⟩ := Jvm.LawKit.callS X0 hx (y := (⟨"java/lang/StringUTF16", "putChar", "([BII)V"⟩ : MethodName)) hown (mvT hZ (hw _ (List.mem_of_getElem? (i := 126) rfl))) (mvT hZ (hw _ (List.mem_of_getElem? (i := 127) rfl))) (mvT hZ (hw _ (List.mem_of_getElem? (i := 94) rfl))) (mvT hZ (hw _ (List.mem_of_getElem? (i := 128) rfl))) (by decide) (backOf (W := 0) (pch l Z a0 hw [] o3 i ch ns h0 n0 Z0 D A3 g_o3 hd hdi hch) hZ (hw _ (List.mem_of_getElem? (i := 128) rfl)) (hw _ (List.mem_of_getElem? (i := 94) rfl)) (by decide) (by decide)) (g := (mkF m 20 #[.val (.ref o0), .val (.int (Int32.ofNat i)), .val (.int (Int32.ofNat k)), .val (.ref o3), .val (.int (Int32.ofNat i))] [(.int (Int32.ofNat ch)), (.int (Int32.ofNat i)), (.ref o3)])) rfl (by rw [hml]; rfl) (argsL := [(.ref o3), (.int (Int32.ofNat i)), (.int (Int32.ofNat ch))]) (rest := []) (lenOf pd_27_26 rfl) rfl (by show 2 * 0 + _ ≤ _; exact Nat.le_of_eq rfl) (hb hby d27_20) (fun _ _ => ⟨rfl, e0, (by decide : 1 + 0 + 0 ≤ _), (by decide : 32 + 0 + 0 ≤ _)⟩)
  dsimp only [Pt.U, Pt.locs, Pt.cells, Pt.slots] at X5 l5 y5 z5 st5 hQ5
  subst l5 y5 z5
  obtain ⟨rfl, N5q, K5, A5⟩ := hQ5
  refine ⟨T5, _, _, X5, rfl, Fr.app N0 N5q, K5, A5, fun target kt => ?_⟩
  show Steps p.tables e below (T0.setTop (mkF m 8 #[.val (.ref o0), .val (.int (Int32.ofNat i)), .val (.int (Int32.ofNat k)), .val (.ref o3), .val (.int (Int32.ofNat i))] [])) _
  refine XS.iload X0.here hx rfl (hb hby d27_8) rfl ?_
  refine XS.iloadN X0.here hx rfl (hb hby d27_10) rfl ?_
  refine XS.icmpNo X0.here hx rfl (hb hby d27_11) rfl (tlt hc11).2.1 ?_
  refine XS.aloadN X0.here hx rfl (hb hby d27_14) rfl rfl ?_
  refine XS.iload X0.here hx rfl (hb hby d27_15) rfl ?_
  refine XS.aloadN X0.here hx rfl (hb hby d27_17) rfl rfl ?_
  refine XS.iloadN X0.here hx rfl (hb hby d27_18) rfl ?_
  show Steps p.tables e below (T0.setTop (mkF m 19 #[.val (.ref o0), .val (.int (Int32.ofNat i)), .val (.int (Int32.ofNat k)), .val (.ref o3), .val (.int (Int32.ofNat i))] [(.int (Int32.ofNat i)), (.ref o0), (.int (Int32.ofNat i)), (.ref o3)])) _
  refine X0.caload hx (j := (Int32.ofNat i)) (v := (.int (Int32.ofNat ch))) (by rw [e0]; exact Ar_o0.1) (State.isArrayOf_alike hZ.alike Ar_o0.2.1) Ar_o0.2.2 hin19 hat19 (g := (mkF m 19 #[.val (.ref o0), .val (.int (Int32.ofNat i)), .val (.int (Int32.ofNat k)), .val (.ref o3), .val (.int (Int32.ofNat i))] [(.int (Int32.ofNat i)), (.ref o0), (.int (Int32.ofNat i)), (.ref o3)])) rfl rfl (hb hby d27_19) _ ?_
  refine st5 _ ?_
  refine XS.iinc X5.here hx rfl (hb hby d27_23) rfl (l' := #[.val (.ref o0), .val (.int ((Int32.ofNat i) + (1 : Int32))), .val (.int (Int32.ofNat k)), .val (.ref o3), .val (.int (Int32.ofNat i))]) rfl ?_
  refine XS.iinc X5.here hx rfl (hb hby d27_26) rfl (l' := #[.val (.ref o0), .val (.int ((Int32.ofNat i) + (1 : Int32))), .val (.int (Int32.ofNat k)), .val (.ref o3), .val (.int ((Int32.ofNat i) + (1 : Int32)))]) rfl ?_
  refine XS.goto X5.here hx rfl (pc0 := 29) (pc' := 8) rfl (hb hby d27_29) (by decide) (by decide) ?_
  exact kt
theorem lp27 {p : Program} {l : Launch} {e : Env} {s : State} {m : MethodId} {args : Array Value} {below : List Frame} {meth : Method} {c : Code} {Z : State} {a0 : Array Value} (o0 o3 : Addr) (cs : List Nat) (k n0 : Nat) (hx : p.tables.exec = Jvm.exec) (hZ : Z.Warmed39 s.vm) (hw : ∀ d ∈ tables_1, d.before a0 Z = true) (hby : c.code = jdk_52_method_14_code) (hml : c.maxLocals = 5) (hown : s.vm.findClass "java/lang/StringUTF16" = some m.cls) (hn : cs.length < 32) (hb9 : ∀ x ∈ cs, x < 65536) (g_o3 : n0 ≤ o3) (hk : k < 32) (r : List Nat) : ∀ {T0 : State} {locs : List Loc} {h0 : Heap} (i : Nat) (ns : List Nat), Stand p l e ({ frames := 2, cells := 1, slots := 32, locals := 24 } : Room) s m args below meth c T0 locs 1 32 → T0.heap = h0 → Fr n0 locs → n0 ≤ h0.size → Wd Z h0 → Av Z h0 o0 .char Int32.ofNat cs → Av Z h0 o3 .byte b8 ns → ns.length = 2 * k → cs.drop i = r → i + r.length = k →
    ∃ (T' : State) (h' : Heap) (L' : List Loc), Stand p l e ({ frames := 2, cells := 1, slots := 32, locals := 24 } : Room) s m args below meth c T' L' 1 32 ∧ T'.heap = h' ∧ Fr n0 L' ∧ Keep h0 h' [o3] ∧ Av Z h' o3 .byte b8 (put2 ns i r) ∧
      ∀ target, Steps p.tables e below (T'.setTop (mkF m 8 #[.val (.ref o0), .val (.int (Int32.ofNat (i + r.length))), .val (.int (Int32.ofNat k)), .val (.ref o3), .val (.int (Int32.ofNat (i + r.length)))] [])) target → Steps p.tables e below (T0.setTop (mkF m 8 #[.val (.ref o0), .val (.int (Int32.ofNat i)), .val (.int (Int32.ofNat k)), .val (.ref o3), .val (.int (Int32.ofNat i))] [])) target := by
  induction r with
  | nil => intro T0 locs h0 i ns X0 e0 N0 Z0 D A0 A2 hd hr ht; exact ⟨T0, h0, locs, X0, e0, N0, Keep.refl _ _, A2, fun target kt => kt⟩
  | cons ch r ih =>
    intro T0 locs h0 i ns X0 e0 N0 Z0 D A0 A2 hd hr ht
    rw [List.length_cons] at ht
    obtain ⟨hq, hr'⟩ := own_dq hr
    obtain ⟨T1, h1, L1, X1, e1, N1, K1, A1, st1⟩ := t27 o0 o3 k i ch cs ns n0 X0 hx hZ hw hby hml hown e0 N0 Z0 D A0 A2 (by omega) (by omega) hq (hb9 _ (List.mem_of_getElem? hq)) (by omega) g_o3 (own_lt (by omega) (by omega))
    simp only [own_suc] at st1
    obtain ⟨T2, h2, L2, X2, e2, N2, K2, A3, st2⟩ := ih (i + 1) _ X1 e1 N1 (Nat.le_trans Z0 K1.1) (D.keep K1 A2.nost) (A0.keep K1 (by simpa using own_dis A0 A2 (fun q => nomatch q))) A1 (by rw [List.length_set, List.length_set]; exact hd) hr' (by omega)
    refine ⟨T2, h2, L2, X2, e2, N2, own_kt K1 K2, A3, fun target kt => st1 _ (st2 _ ?_)⟩
    rw [show i + 1 + r.length = i + (ch :: r).length by rw [List.length_cons]; omega]
    exact kt
theorem d27_32 : decode jdk_52_method_14_code 32 = .ok (.aload_n 3, 1) := by decide +kernel
theorem d27_33 : decode jdk_52_method_14_code 33 = .ok (.areturn, 1) := by decide +kernel
theorem pn_27 : plainName "java/lang/StringUTF16" = true := by first | (simp [plainName, overriddenIn]; done) | decide +kernel
theorem ef_27 (m : MethodId) (x0 : Addr) (x1 : Int32) (x2 : Int32) : entryFrame m #[(.ref x0), (.int x1), (.int x2)] 5 = mkF m 0 #[.val (.ref x0), .val (.int x1), .val (.int x2), .unset, .unset] [] := by first | (simp [entryFrame, mkF, argsToLocals, Value.category]; done) | rfl
set_option maxRecDepth 65536 in
set_option maxHeartbeats 40000000 in
theorem rm27 (l : Launch) (Z : State) (a0 : Array Value) (hw : ∀ d ∈ tables_1, d.before a0 Z = true) (ws : List Jvm.Cond) (a1 : Addr) (cs : List Nat) (h0 : Heap) (n0 : Nat) (Z0 : n0 ≤ h0.size) (D : Wd Z h0) (A0 : Av Z h0 a1 .char Int32.ofNat cs) (hn : cs.length ≤ 16) (hb9 : ∀ x ∈ cs, x < 65536) :
    MetFree l (⟨"java/lang/StringUTF16", "toBytes", "([CII)[B"⟩ : MethodName) (head1 (Jvm.Cond.code (⟨"java/lang/StringUTF16", "toBytes", "([CII)[B"⟩ : MethodName) jdk_52_method_14_code 5 (some (.array .byte)) :: ws) ({ frames := 2, cells := 1, slots := 32, locals := 24 } : Room)) (fun a U => a = #[(.ref a1), (.int (0 : Int32)), (.int (Int32.ofNat cs.length))] ∧ Z.Warmed39 U.vm ∧ U.heap = h0) (fun _ _ _ _ _ => True) (fun _ U o U' => ∃ v L, o = .returned v ∧ QN Z .byte b8 (cs.flatMap (fun c => [c % 256, c / 256])) h0 n0 v U'.heap L ∧ FrameEnd U o U' L ({ frames := 2, cells := 1, slots := 32, locals := 24 } : Room).cells ({ frames := 2, cells := 1, slots := 32, locals := 24 } : Room).slots) := by
  refine MetFree.of_bodySF (plainFor_of_name pn_27) hisR ?_
  intro p e s m args below meth c s₁ Bd hml0 hP hK
  obtain ⟨rfl, hZ, hh⟩ := hP
  have hx := Bd.exec
  have hby := Bd.bytes
  have hml : c.maxLocals = 5 := hml0
  have hown : s.vm.findClass "java/lang/StringUTF16" = some m.cls := findClass_of_methodNamed Bd.named
  have hnm := (name_of_methodNamed Bd.named Bd.method).1
  have X0 : Stand p l e ({ frames := 2, cells := 1, slots := 32, locals := 24 } : Room) s m #[(.ref a1), (.int (0 : Int32)), (.int (Int32.ofNat cs.length))] below meth c s₁ [] 0 0 := Stand.of_body Bd
  have e0 : s₁.heap = h0 := by rw [← hh, Bd.state]; rfl
  have N0 := Fr.nil n0
  have pre0 : ∀ t, Steps p.tables e below (s₁.setTop (mkF m 0 #[.val (.ref a1), .val (.int (0 : Int32)), .val (.int (Int32.ofNat cs.length)), .unset, .unset] [])) t → Steps p.tables e below (s₁.setTop (entryFrame m #[(.ref a1), (.int (0 : Int32)), (.int (Int32.ofNat cs.length))] 5)) t := fun t_ k_ => castTop (ef_27 m a1 (0 : Int32) (Int32.ofNat cs.length)) k_
  obtain ⟨T8, h8, L8, b4, X8, e8, N8, g8, z8, K8, A8, st8⟩ := a27 (.val (.ref a1)) (.val (.int (0 : Int32))) .unset .unset cs.length n0 X0 hx hZ hw hby hml hown e0 One.u One.u N0 Z0 hn
  obtain ⟨T9, h9, L9, X9, e9, N9, K9, A9, st9⟩ := lp27 a1 b4 cs cs.length n0 hx hZ hw hby hml hown (by omega) hb9 g8 (by omega) cs 0 _ X8 e8 N8 (Nat.le_trans Z0 K8.1) (D.keep K8 own_ns0) (A0.keep K8 (by simp)) A8 (by simp) rfl (by omega)
  rw [own_pt0] at A9
  obtain ⟨fs, hr, hrun, hended, hW, hsame⟩ := X9.leave (v := some (.ref b4)) (fun h => by rw [Bd.returns] at h; cases h)
  refine ⟨_, _, pre0 _ ?_, hrun, hended, _, _, rfl, ?_, ⟨_, rfl⟩, hW, hsame.mono (by decide) (by decide)⟩
  · refine st8 _ ?_
    refine st9 _ ?_
    refine s27x _ _ _ _ _ X9 hx hZ hby e9 (own_nlt (by omega) (by omega)) _ ?_
    refine XS.aloadN X9.here hx rfl (hb hby d27_32) rfl rfl ?_
    jvm_step X9.here [X9.here.top, hx, (hb hby d27_33), X9.method', Bd.returns, Value.isRef, FieldType.isReference]
    first | (intro acts; rw [hr _ acts rfl rfl rfl]) | rw [hr _ _ rfl rfl rfl]
    exact Steps.refl _
  · show QN Z .byte b8 (cs.flatMap (fun c => [c % 256, c / 256])) h0 n0 _ T9.heap _
    rw [e9]; exact ⟨b4, rfl, N9, g8, z8, own_kn K8 K9 z8, A9⟩
theorem d21_0 : decode jdk_52_method_21_code 0 = .ok (.iconst 0, 1) := by decide +kernel
theorem d21_1 : decode jdk_52_method_21_code 1 = .ok (.istore 5, 2) := by decide +kernel
theorem os21_1 {s0 : Slot} {s1 : Slot} {s2 : Slot} {s3 : Slot} {s4 : Slot} {s5 : Slot} {s6 : Slot} {v : Int32} (h : One s5) : storeLocals #[s0, s1, s2, s3, s4, s5, s6] 5 (.int v) = some #[s0, s1, s2, s3, s4, .val (.int v), s6] := by
  rcases h with rfl | ⟨w, rfl, hw⟩
  · rfl
  · cases w <;> first | rfl | (simp [Value.category] at hw)
set_option maxRecDepth 65536 in
set_option maxHeartbeats 40000000 in
theorem s21a {p : Program} {l : Launch} {e : Env} {R : Room} {s : State} {m : MethodId} {args : Array Value} {below : List Frame} {meth : Method} {c : Code} {T0 : State} {locs : List Loc} {cells slots : Nat} {Z : State} {h0 : Heap} (s0 : Slot) (s1 : Slot) (s2 : Slot) (s3 : Slot) (s4 : Slot) (s5 : Slot) (s6 : Slot) 
    (X0 : Stand p l e R s m args below meth c T0 locs cells slots) (hx : p.tables.exec = Jvm.exec) (hZ : Z.Warmed39 s.vm) (hby : c.code = jdk_52_method_21_code) (e0 : T0.heap = h0) (hs5 : One s5)  :
    ∀ target, Steps p.tables e below (T0.setTop (mkF m 3 #[s0, s1, s2, s3, s4, .val (.int (0 : Int32)), s6] [])) target → Steps p.tables e below (T0.setTop (mkF m 0 #[s0, s1, s2, s3, s4, s5, s6] [])) target := by
  intro target kt
  show Steps p.tables e below (T0.setTop (mkF m 0 #[s0, s1, s2, s3, s4, s5, s6] [])) _
  refine XS.iconst X0.here hx rfl (hb hby d21_0) ?_
  refine XS.istore X0.here hx rfl (hb hby d21_1) rfl (l' := #[s0, s1, s2, s3, s4, .val (.int (0 : Int32)), s6]) (os21_1 hs5) ?_
  exact kt
theorem d21_3 : decode jdk_52_method_21_code 3 = .ok (.iload 5, 2) := by decide +kernel
theorem d21_5 : decode jdk_52_method_21_code 5 = .ok (.iload 4, 2) := by decide +kernel
theorem d21_7 : decode jdk_52_method_21_code 7 = .ok (.if_icmp .ge 37, 3) := by decide +kernel
set_option maxRecDepth 65536 in
set_option maxHeartbeats 40000000 in
theorem s21x {p : Program} {l : Launch} {e : Env} {R : Room} {s : State} {m : MethodId} {args : Array Value} {below : List Frame} {meth : Method} {c : Code} {T0 : State} {locs : List Loc} {cells slots : Nat} {Z : State} {h0 : Heap} (s0 : Slot) (s1 : Slot) (s2 : Slot) (s3 : Slot) (i4 : Int32) (i5 : Int32) (s6 : Slot) 
    (X0 : Stand p l e R s m args below meth c T0 locs cells slots) (hx : p.tables.exec = Jvm.exec) (hZ : Z.Warmed39 s.vm) (hby : c.code = jdk_52_method_21_code) (e0 : T0.heap = h0) (hc7 : ¬ (i5 < i4))  :
    ∀ target, Steps p.tables e below (T0.setTop (mkF m 44 #[s0, s1, s2, s3, .val (.int i4), .val (.int i5), s6] [])) target → Steps p.tables e below (T0.setTop (mkF m 3 #[s0, s1, s2, s3, .val (.int i4), .val (.int i5), s6] [])) target := by
  intro target kt
  show Steps p.tables e below (T0.setTop (mkF m 3 #[s0, s1, s2, s3, .val (.int i4), .val (.int i5), s6] [])) _
  refine XS.iload X0.here hx rfl (hb hby d21_3) rfl ?_
  refine XS.iload X0.here hx rfl (hb hby d21_5) rfl ?_
  refine XS.icmpYes X0.here hx rfl (pc0 := 7) (pc' := 44) rfl (hb hby d21_7) rfl (flt hc7).2.1 (by decide) (by decide) ?_
  exact kt
theorem d21_10 : decode jdk_52_method_21_code 10 = .ok (.aload_n 0, 1) := by decide +kernel
theorem d21_11 : decode jdk_52_method_21_code 11 = .ok (.iload_n 1, 1) := by decide +kernel
theorem d21_12 : decode jdk_52_method_21_code 12 = .ok (.caload, 1) := by decide +kernel
theorem d21_13 : decode jdk_52_method_21_code 13 = .ok (.istore 6, 2) := by decide +kernel
theorem d21_15 : decode jdk_52_method_21_code 15 = .ok (.iload 6, 2) := by decide +kernel
theorem d21_17 : decode jdk_52_method_21_code 17 = .ok (.sipush 255, 3) := by decide +kernel
theorem d21_20 : decode jdk_52_method_21_code 20 = .ok (.if_icmp .le 6, 3) := by decide +kernel
theorem os21_13 {z0 : Value} {z1 : Value} {s2 : Slot} {s3 : Slot} {z4 : Value} {z5 : Value} {s6 : Slot} {v : Int32} (h : One s6) : storeLocals #[.val z0, .val z1, s2, s3, .val z4, .val z5, s6] 6 (.int v) = some #[.val z0, .val z1, s2, s3, .val z4, .val z5, .val (.int v)] := by
  rcases h with rfl | ⟨w, rfl, hw⟩
  · rfl
  · cases w <;> first | rfl | (simp [Value.category] at hw)
set_option maxRecDepth 65536 in
set_option maxHeartbeats 40000000 in
theorem s21y {p : Program} {l : Launch} {e : Env} {R : Room} {s : State} {m : MethodId} {args : Array Value} {below : List Frame} {meth : Method} {c : Code} {T0 : State} {locs : List Loc} {cells slots : Nat} {Z : State} {h0 : Heap} (o0 : Addr) (s2 : Slot) (s3 : Slot) (s6 : Slot) (k i ch : Nat) (cs : List Nat)
    (X0 : Stand p l e R s m args below meth c T0 locs cells slots) (hx : p.tables.exec = Jvm.exec) (hZ : Z.Warmed39 s.vm) (hby : c.code = jdk_52_method_21_code) (e0 : T0.heap = h0) (hs6 : One s6) (A0 : Av Z h0 o0 .char Int32.ofNat cs) (hn : cs.length < 64) (hq : cs[i]? = some ch) (hc7 : Int32.ofNat i < Int32.ofNat k) (hc20 : (255 : Int32) < Int32.ofNat ch) :
    ∀ target, Steps p.tables e below (T0.setTop (mkF m 23 #[.val (.ref o0), .val (.int (Int32.ofNat i)), s2, s3, .val (.int (Int32.ofNat k)), .val (.int (Int32.ofNat i)), .val (.int (Int32.ofNat ch))] [])) target → Steps p.tables e below (T0.setTop (mkF m 3 #[.val (.ref o0), .val (.int (Int32.ofNat i)), s2, s3, .val (.int (Int32.ofNat k)), .val (.int (Int32.ofNat i)), s6] [])) target := by
  intro target kt
  obtain ⟨cl_o0, Ar_o0, q_o0⟩ := A0
  have hin12 := own_avi q_o0 (List.getElem?_eq_some_iff.mp hq).1 (by omega)
  have hat12 := own_avn q_o0 hq (by omega)
  show Steps p.tables e below (T0.setTop (mkF m 3 #[.val (.ref o0), .val (.int (Int32.ofNat i)), s2, s3, .val (.int (Int32.ofNat k)), .val (.int (Int32.ofNat i)), s6] [])) _
  refine XS.iload X0.here hx rfl (hb hby d21_3) rfl ?_
  refine XS.iload X0.here hx rfl (hb hby d21_5) rfl ?_
  refine XS.icmpNo X0.here hx rfl (hb hby d21_7) rfl (tlt hc7).2.1 ?_
  refine XS.aloadN X0.here hx rfl (hb hby d21_10) rfl rfl ?_
  refine XS.iloadN X0.here hx rfl (hb hby d21_11) rfl ?_
  show Steps p.tables e below (T0.setTop (mkF m 12 #[.val (.ref o0), .val (.int (Int32.ofNat i)), s2, s3, .val (.int (Int32.ofNat k)), .val (.int (Int32.ofNat i)), s6] [(.int (Int32.ofNat i)), (.ref o0)])) _
  refine X0.caload hx (j := (Int32.ofNat i)) (v := (.int (Int32.ofNat ch))) (by rw [e0]; exact Ar_o0.1) (State.isArrayOf_alike hZ.alike Ar_o0.2.1) Ar_o0.2.2 hin12 hat12 (g := (mkF m 12 #[.val (.ref o0), .val (.int (Int32.ofNat i)), s2, s3, .val (.int (Int32.ofNat k)), .val (.int (Int32.ofNat i)), s6] [(.int (Int32.ofNat i)), (.ref o0)])) rfl rfl (hb hby d21_12) _ ?_
  refine XS.istore X0.here hx rfl (hb hby d21_13) rfl (l' := #[.val (.ref o0), .val (.int (Int32.ofNat i)), s2, s3, .val (.int (Int32.ofNat k)), .val (.int (Int32.ofNat i)), .val (.int (Int32.ofNat ch))]) (os21_13 hs6) ?_
  refine XS.iload X0.here hx rfl (hb hby d21_15) rfl ?_
  refine XS.sipush X0.here hx rfl (hb hby d21_17) ?_
  refine XS.icmpNo X0.here hx rfl (hb hby d21_20) rfl (tlt hc20).2.2.2 ?_
  exact kt
theorem d21_26 : decode jdk_52_method_21_code 26 = .ok (.aload_n 2, 1) := by decide +kernel
theorem d21_27 : decode jdk_52_method_21_code 27 = .ok (.iload_n 3, 1) := by decide +kernel
theorem d21_28 : decode jdk_52_method_21_code 28 = .ok (.iload 6, 2) := by decide +kernel
theorem d21_30 : decode jdk_52_method_21_code 30 = .ok (.i2b, 1) := by decide +kernel
theorem d21_31 : decode jdk_52_method_21_code 31 = .ok (.bastore, 1) := by decide +kernel
theorem d21_32 : decode jdk_52_method_21_code 32 = .ok (.iinc 1 1, 3) := by decide +kernel
theorem d21_35 : decode jdk_52_method_21_code 35 = .ok (.iinc 3 1, 3) := by decide +kernel
theorem d21_38 : decode jdk_52_method_21_code 38 = .ok (.iinc 5 1, 3) := by decide +kernel
theorem d21_41 : decode jdk_52_method_21_code 41 = .ok (.goto (-38), 3) := by decide +kernel
theorem os21_13_t21 {z0 : Value} {z1 : Value} {z2 : Value} {z3 : Value} {z4 : Value} {z5 : Value} {s6 : Slot} {v : Int32} (h : One s6) : storeLocals #[.val z0, .val z1, .val z2, .val z3, .val z4, .val z5, s6] 6 (.int v) = some #[.val z0, .val z1, .val z2, .val z3, .val z4, .val z5, .val (.int v)] := by
  rcases h with rfl | ⟨w, rfl, hw⟩
  · rfl
  · cases w <;> first | rfl | (simp [Value.category] at hw)
set_option maxRecDepth 65536 in
set_option maxHeartbeats 40000000 in
theorem t21 {p : Program} {l : Launch} {e : Env} {R : Room} {s : State} {m : MethodId} {args : Array Value} {below : List Frame} {meth : Method} {c : Code} {T0 : State} {locs : List Loc} {cells slots : Nat} {Z : State} {a0 : Array Value} {h0 : Heap} (o0 : Addr) (o2 : Addr) (s6 : Slot) (k i ch : Nat) (cs ns : List Nat) (n0 : Nat)
    (X0 : Stand p l e R s m args below meth c T0 locs cells slots) (hx : p.tables.exec = Jvm.exec) (hZ : Z.Warmed39 s.vm) (hw : ∀ d ∈ tables_1, d.before a0 Z = true) (hby : c.code = jdk_52_method_21_code) (hml : c.maxLocals = 7) (hown : s.vm.findClass "java/lang/StringUTF16" = some m.cls) (e0 : T0.heap = h0) (hs6 : One s6) (N0 : Fr n0 locs) (Z0 : n0 ≤ h0.size) (A0 : Av Z h0 o0 .char Int32.ofNat cs) (A2 : Av Z h0 o2 .byte b8 ns) (hn : cs.length < 64) (hd : ns.length < 64) (hq : cs[i]? = some ch) (hch : ch < 256) (hdi : i < ns.length) (g_o2 : n0 ≤ o2) (hc7 : Int32.ofNat i < Int32.ofNat k) :
    ∃ (T' : State) (h' : Heap) (L' : List Loc), Stand p l e R s m args below meth c T' L' cells slots ∧ T'.heap = h' ∧ Fr n0 L' ∧ Keep h0 h' [o2] ∧ Av Z h' o2 .byte b8 (ns.set i ch) ∧
      ∀ target, Steps p.tables e below (T'.setTop (mkF m 3 #[.val (.ref o0), .val (.int ((Int32.ofNat i) + (1 : Int32))), .val (.ref o2), .val (.int ((Int32.ofNat i) + (1 : Int32))), .val (.int (Int32.ofNat k)), .val (.int ((Int32.ofNat i) + (1 : Int32))), .val (.int (Int32.ofNat ch))] [])) target → Steps p.tables e below (T0.setTop (mkF m 3 #[.val (.ref o0), .val (.int (Int32.ofNat i)), .val (.ref o2), .val (.int (Int32.ofNat i)), .val (.int (Int32.ofNat k)), .val (.int (Int32.ofNat i)), s6] [])) target := by
  have hc20 := own_le ch hch
  obtain ⟨cl_o0, Ar_o0, q_o0⟩ := A0
  have hin12 := own_avi q_o0 (List.getElem?_eq_some_iff.mp hq).1 (by omega)
  have hat12 := own_avn q_o0 hq (by omega)
  obtain ⟨T7, h7, L7, X7, e7, N7, K7, A7, st7⟩ := stBv X0 hx hZ e0 N0 g_o2 A2 (by omega) i hdi ch rfl (own_bb ch hch) (g := (mkF m 31 #[.val (.ref o0), .val (.int (Int32.ofNat i)), .val (.ref o2), .val (.int (Int32.ofNat i)), .val (.int (Int32.ofNat k)), .val (.int (Int32.ofNat i)), .val (.int (Int32.ofNat ch))] [(.int ((Int32.ofNat ch).toInt8.toInt32)), (.int (Int32.ofNat i)), (.ref o2)])) rfl rfl (hb hby d21_31)
  refine ⟨T7, _, _, X7, e7, N7, K7, A7, fun target kt => ?_⟩
  show Steps p.tables e below (T0.setTop (mkF m 3 #[.val (.ref o0), .val (.int (Int32.ofNat i)), .val (.ref o2), .val (.int (Int32.ofNat i)), .val (.int (Int32.ofNat k)), .val (.int (Int32.ofNat i)), s6] [])) _
  refine XS.iload X0.here hx rfl (hb hby d21_3) rfl ?_
  refine XS.iload X0.here hx rfl (hb hby d21_5) rfl ?_
  refine XS.icmpNo X0.here hx rfl (hb hby d21_7) rfl (tlt hc7).2.1 ?_
  refine XS.aloadN X0.here hx rfl (hb hby d21_10) rfl rfl ?_
  refine XS.iloadN X0.here hx rfl (hb hby d21_11) rfl ?_
  show Steps p.tables e below (T0.setTop (mkF m 12 #[.val (.ref o0), .val (.int (Int32.ofNat i)), .val (.ref o2), .val (.int (Int32.ofNat i)), .val (.int (Int32.ofNat k)), .val (.int (Int32.ofNat i)), s6] [(.int (Int32.ofNat i)), (.ref o0)])) _
  refine X0.caload hx (j := (Int32.ofNat i)) (v := (.int (Int32.ofNat ch))) (by rw [e0]; exact Ar_o0.1) (State.isArrayOf_alike hZ.alike Ar_o0.2.1) Ar_o0.2.2 hin12 hat12 (g := (mkF m 12 #[.val (.ref o0), .val (.int (Int32.ofNat i)), .val (.ref o2), .val (.int (Int32.ofNat i)), .val (.int (Int32.ofNat k)), .val (.int (Int32.ofNat i)), s6] [(.int (Int32.ofNat i)), (.ref o0)])) rfl rfl (hb hby d21_12) _ ?_
  refine XS.istore X0.here hx rfl (hb hby d21_13) rfl (l' := #[.val (.ref o0), .val (.int (Int32.ofNat i)), .val (.ref o2), .val (.int (Int32.ofNat i)), .val (.int (Int32.ofNat k)), .val (.int (Int32.ofNat i)), .val (.int (Int32.ofNat ch))]) (os21_13_t21 hs6) ?_
  refine XS.iload X0.here hx rfl (hb hby d21_15) rfl ?_
  refine XS.sipush X0.here hx rfl (hb hby d21_17) ?_
  refine XS.icmpYes X0.here hx rfl (pc0 := 20) (pc' := 26) rfl (hb hby d21_20) rfl (flt hc20).2.2.2 (by decide) (by decide) ?_
  refine XS.aloadN X0.here hx rfl (hb hby d21_26) rfl rfl ?_
  refine XS.iloadN X0.here hx rfl (hb hby d21_27) rfl ?_
  show Steps p.tables e below (T0.setTop (mkF m 28 #[.val (.ref o0), .val (.int (Int32.ofNat i)), .val (.ref o2), .val (.int (Int32.ofNat i)), .val (.int (Int32.ofNat k)), .val (.int (Int32.ofNat i)), .val (.int (Int32.ofNat ch))] [(.int (Int32.ofNat i)), (.ref o2)])) _
  refine XS.iload X0.here hx rfl (hb hby d21_28) rfl ?_
  refine XS.i2b X0.here hx rfl (hb hby d21_30) rfl ?_
  refine st7 _ ?_
  refine XS.iinc X7.here hx rfl (hb hby d21_32) rfl (l' := #[.val (.ref o0), .val (.int ((Int32.ofNat i) + (1 : Int32))), .val (.ref o2), .val (.int (Int32.ofNat i)), .val (.int (Int32.ofNat k)), .val (.int (Int32.ofNat i)), .val (.int (Int32.ofNat ch))]) rfl ?_
  refine XS.iinc X7.here hx rfl (hb hby d21_35) rfl (l' := #[.val (.ref o0), .val (.int ((Int32.ofNat i) + (1 : Int32))), .val (.ref o2), .val (.int ((Int32.ofNat i) + (1 : Int32))), .val (.int (Int32.ofNat k)), .val (.int (Int32.ofNat i)), .val (.int (Int32.ofNat ch))]) rfl ?_
  refine XS.iinc X7.here hx rfl (hb hby d21_38) rfl (l' := #[.val (.ref o0), .val (.int ((Int32.ofNat i) + (1 : Int32))), .val (.ref o2), .val (.int ((Int32.ofNat i) + (1 : Int32))), .val (.int (Int32.ofNat k)), .val (.int ((Int32.ofNat i) + (1 : Int32))), .val (.int (Int32.ofNat ch))]) rfl ?_
  refine XS.goto X7.here hx rfl (pc0 := 41) (pc' := 3) rfl (hb hby d21_41) (by decide) (by decide) ?_
  exact kt
theorem lp21 {p : Program} {l : Launch} {e : Env} {R : Room} {s : State} {m : MethodId} {args : Array Value} {below : List Frame} {meth : Method} {c : Code} {cells slots : Nat} {Z : State} {a0 : Array Value} (o0 o2 : Addr) (cs : List Nat) (k n0 : Nat) (hx : p.tables.exec = Jvm.exec) (hZ : Z.Warmed39 s.vm) (hw : ∀ d ∈ tables_1, d.before a0 Z = true) (hby : c.code = jdk_52_method_21_code) (hml : c.maxLocals = 7) (hown : s.vm.findClass "java/lang/StringUTF16" = some m.cls) (hn : cs.length < 64) (g_o2 : n0 ≤ o2) (hk : k < 64) (rest : List Nat) (r : List Nat) : ∀ {T0 : State} {locs : List Loc} {h0 : Heap} (i : Nat) (ns : List Nat) (s6 : Slot), One s6 → Stand p l e R s m args below meth c T0 locs cells slots → T0.heap = h0 → Fr n0 locs → n0 ≤ h0.size → Av Z h0 o0 .char Int32.ofNat cs → Av Z h0 o2 .byte b8 ns → ns.length = k → cs.drop i = r ++ rest → (∀ x ∈ r, x < 256) → i + r.length ≤ k →
    ∃ (T' : State) (h' : Heap) (L' : List Loc) (s6' : Slot), One s6' ∧ Stand p l e R s m args below meth c T' L' cells slots ∧ T'.heap = h' ∧ Fr n0 L' ∧ Keep h0 h' [o2] ∧ Av Z h' o2 .byte b8 (blit ns i r) ∧
      ∀ target, Steps p.tables e below (T'.setTop (mkF m 3 #[.val (.ref o0), .val (.int (Int32.ofNat (i + r.length))), .val (.ref o2), .val (.int (Int32.ofNat (i + r.length))), .val (.int (Int32.ofNat k)), .val (.int (Int32.ofNat (i + r.length))), s6'] [])) target → Steps p.tables e below (T0.setTop (mkF m 3 #[.val (.ref o0), .val (.int (Int32.ofNat i)), .val (.ref o2), .val (.int (Int32.ofNat i)), .val (.int (Int32.ofNat k)), .val (.int (Int32.ofNat i)), s6] [])) target := by
  induction r with
  | nil => intro T0 locs h0 i ns s6 O X0 e0 N0 Z0 A0 A2 hd hr hb9 ht; exact ⟨T0, h0, locs, s6, O, X0, e0, N0, Keep.refl _ _, A2, fun target kt => kt⟩
  | cons ch r ih =>
    intro T0 locs h0 i ns s6 O X0 e0 N0 Z0 A0 A2 hd hr hb9 ht
    rw [List.length_cons] at ht
    obtain ⟨hq, hr'⟩ := own_dq (r := r ++ rest) hr
    obtain ⟨T1, h1, L1, X1, e1, N1, K1, A1, st1⟩ := t21 o0 o2 s6 k i ch cs ns n0 X0 hx hZ hw hby hml hown e0 O N0 Z0 A0 A2 hn (by omega) hq (hb9 _ (List.mem_cons_self ..)) (by omega) g_o2 (own_lt (by omega) (by omega))
    simp only [own_suc] at st1
    obtain ⟨T2, h2, L2, s6', O2, X2, e2, N2, K2, A3, st2⟩ := ih (i + 1) _ (.val (.int (Int32.ofNat ch))) (One.val rfl) X1 e1 N1 (Nat.le_trans Z0 K1.1) (A0.keep K1 (by simpa using own_dis A0 A2 (fun q => nomatch q))) A1 (by rw [List.length_set]; exact hd) hr' (fun x hx => hb9 x (List.mem_cons_of_mem _ hx)) (by omega)
    refine ⟨T2, h2, L2, s6', O2, X2, e2, N2, own_kt K1 K2, A3, fun target kt => st1 _ (st2 _ ?_)⟩
    rw [show i + 1 + r.length = i + (ch :: r).length by rw [List.length_cons]; omega]
    exact kt
def QB (r : Int32) (a : Addr) (P : Heap → Prop) (h0 : Heap) (n0 : Nat) (v : Option Value) (h : Heap) (L : List Loc) : Prop := v = some (.int r) ∧ Fr n0 L ∧ Keep h0 h [a] ∧ P h
theorem d21_44 : decode jdk_52_method_21_code 44 = .ok (.iload 4, 2) := by decide +kernel
theorem d21_46 : decode jdk_52_method_21_code 46 = .ok (.ireturn, 1) := by decide +kernel
theorem pn_21 : plainName "java/lang/StringUTF16" = true := by first | (simp [plainName, overriddenIn]; done) | decide +kernel
theorem ef_21 (m : MethodId) (x0 : Addr) (x1 : Int32) (x2 : Addr) (x3 : Int32) (x4 : Int32) : entryFrame m #[(.ref x0), (.int x1), (.ref x2), (.int x3), (.int x4)] 7 = mkF m 0 #[.val (.ref x0), .val (.int x1), .val (.ref x2), .val (.int x3), .val (.int x4), .unset, .unset] [] := by first | (simp [entryFrame, mkF, argsToLocals, Value.category]; done) | rfl
set_option maxRecDepth 65536 in
set_option maxHeartbeats 40000000 in
theorem rm21y (l : Launch) (Z : State) (a0 : Array Value) (hw : ∀ d ∈ tables_1, d.before a0 Z = true) (ws : List Jvm.Cond) (a1 : Addr) (a3 : Addr) (cs : List Nat) (h0 : Heap) (n0 : Nat) (Z0 : n0 ≤ h0.size) (A0 : Av Z h0 a1 .char Int32.ofNat cs) (A2 : Av Z h0 a3 .byte b8 (List.replicate cs.length 0)) (hn : cs.length ≤ 16) (g_a3 : n0 ≤ a3) (hb9 : ∀ x ∈ cs, x < 256) :
    MetFree l (⟨"java/lang/StringUTF16", "compress", "([CI[BII)I"⟩ : MethodName) (head1 (Jvm.Cond.code (⟨"java/lang/StringUTF16", "compress", "([CI[BII)I"⟩ : MethodName) jdk_52_method_21_code 7 (some .int) :: ws) ({ frames := 0, cells := 0, slots := 0, locals := 0 } : Room)) (fun a U => a = #[(.ref a1), (.int (0 : Int32)), (.ref a3), (.int (0 : Int32)), (.int (Int32.ofNat cs.length))] ∧ Z.Warmed39 U.vm ∧ U.heap = h0) (fun _ _ _ _ _ => True) (fun _ U o U' => ∃ v L, o = .returned v ∧ QB (Int32.ofNat cs.length) a3 (fun h => Av Z h a3 .byte b8 cs) h0 n0 v U'.heap L ∧ FrameEnd U o U' L ({ frames := 0, cells := 0, slots := 0, locals := 0 } : Room).cells ({ frames := 0, cells := 0, slots := 0, locals := 0 } : Room).slots) := by
  refine MetFree.of_bodySF (plainFor_of_name pn_21) hisR ?_
  intro p e s m args below meth c s₁ Bd hml0 hP hK
  obtain ⟨rfl, hZ, hh⟩ := hP
  have hx := Bd.exec
  have hby := Bd.bytes
  have hml : c.maxLocals = 7 := hml0
  have hown : s.vm.findClass "java/lang/StringUTF16" = some m.cls := findClass_of_methodNamed Bd.named
  have hnm := (name_of_methodNamed Bd.named Bd.method).1
  have X0 : Stand p l e ({ frames := 0, cells := 0, slots := 0, locals := 0 } : Room) s m #[(.ref a1), (.int (0 : Int32)), (.ref a3), (.int (0 : Int32)), (.int (Int32.ofNat cs.length))] below meth c s₁ [] 0 0 := Stand.of_body Bd
  have e0 : s₁.heap = h0 := by rw [← hh, Bd.state]; rfl
  have N0 := Fr.nil n0
  have pre0 : ∀ t, Steps p.tables e below (s₁.setTop (mkF m 0 #[.val (.ref a1), .val (.int (0 : Int32)), .val (.ref a3), .val (.int (0 : Int32)), .val (.int (Int32.ofNat cs.length)), .unset, .unset] [])) t → Steps p.tables e below (s₁.setTop (entryFrame m #[(.ref a1), (.int (0 : Int32)), (.ref a3), (.int (0 : Int32)), (.int (Int32.ofNat cs.length))] 7)) t := fun t_ k_ => castTop (ef_21 m a1 (0 : Int32) a3 (0 : Int32) (Int32.ofNat cs.length)) k_
  obtain ⟨T9, h9, L9, s6, O9, X9, e9, N9, K9, A9, st9⟩ := lp21 a1 a3 cs cs.length n0 hx hZ hw hby hml hown (by omega) g_a3 (by omega) [] cs 0 _ .unset One.u X0 e0 N0 Z0 A0 A2 (by simp) (by simp) hb9 (by omega)
  rw [own_bl0] at A9
  obtain ⟨fs, hr, hrun, hended, hW, hsame⟩ := X9.leave (v := some (.int (Int32.ofNat cs.length))) (fun h => by rw [Bd.returns] at h; cases h)
  refine ⟨_, _, pre0 _ ?_, hrun, hended, _, _, rfl, ?_, ⟨_, rfl⟩, hW, hsame.mono (by decide) (by decide)⟩
  · refine s21a _ _ _ _ _ _ _ X0 hx hZ hby e0 One.u _ ?_
    refine st9 _ ?_
    refine s21x _ _ _ _ _ _ _ X9 hx hZ hby e9 (own_nlt (by omega) (by omega)) _ ?_
    refine XS.iload X9.here hx rfl (hb hby d21_44) rfl ?_
    exact retI X9 hx Bd.returns (hb hby d21_46) hr
  · show QB (Int32.ofNat cs.length) a3 (fun h => Av Z h a3 .byte b8 cs) h0 n0 _ T9.heap _
    rw [e9]; exact ⟨rfl, N9, K9, A9⟩
theorem d21_23 : decode jdk_52_method_21_code 23 = .ok (.iload 5, 2) := by decide +kernel
theorem d21_25 : decode jdk_52_method_21_code 25 = .ok (.ireturn, 1) := by decide +kernel
set_option maxRecDepth 65536 in
set_option maxHeartbeats 40000000 in
theorem rm21n (l : Launch) (Z : State) (a0 : Array Value) (hw : ∀ d ∈ tables_1, d.before a0 Z = true) (ws : List Jvm.Cond) (a1 : Addr) (a3 : Addr) (cs : List Nat) (j ch : Nat) (h0 : Heap) (n0 : Nat) (Z0 : n0 ≤ h0.size) (A0 : Av Z h0 a1 .char Int32.ofNat cs) (A2 : Av Z h0 a3 .byte b8 (List.replicate cs.length 0)) (hn : cs.length ≤ 16) (g_a3 : n0 ≤ a3) (hj : cs[j]? = some ch) (hg : 255 < ch) (hch : ch < 65536) (hb9 : ∀ i x : Nat, i < j → cs[i]? = some x → x < 256) :
    MetFree l (⟨"java/lang/StringUTF16", "compress", "([CI[BII)I"⟩ : MethodName) (head1 (Jvm.Cond.code (⟨"java/lang/StringUTF16", "compress", "([CI[BII)I"⟩ : MethodName) jdk_52_method_21_code 7 (some .int) :: ws) ({ frames := 0, cells := 0, slots := 0, locals := 0 } : Room)) (fun a U => a = #[(.ref a1), (.int (0 : Int32)), (.ref a3), (.int (0 : Int32)), (.int (Int32.ofNat cs.length))] ∧ Z.Warmed39 U.vm ∧ U.heap = h0) (fun _ _ _ _ _ => True) (fun _ U o U' => ∃ v L, o = .returned v ∧ QB (Int32.ofNat j) a3 (fun _ => True) h0 n0 v U'.heap L ∧ FrameEnd U o U' L ({ frames := 0, cells := 0, slots := 0, locals := 0 } : Room).cells ({ frames := 0, cells := 0, slots := 0, locals := 0 } : Room).slots) := by
  refine MetFree.of_bodySF (plainFor_of_name pn_21) hisR ?_
  intro p e s m args below meth c s₁ Bd hml0 hP hK
  obtain ⟨rfl, hZ, hh⟩ := hP
  have hx := Bd.exec
  have hby := Bd.bytes
  have hml : c.maxLocals = 7 := hml0
  have hown : s.vm.findClass "java/lang/StringUTF16" = some m.cls := findClass_of_methodNamed Bd.named
  have hnm := (name_of_methodNamed Bd.named Bd.method).1
  have X0 : Stand p l e ({ frames := 0, cells := 0, slots := 0, locals := 0 } : Room) s m #[(.ref a1), (.int (0 : Int32)), (.ref a3), (.int (0 : Int32)), (.int (Int32.ofNat cs.length))] below meth c s₁ [] 0 0 := Stand.of_body Bd
  have e0 : s₁.heap = h0 := by rw [← hh, Bd.state]; rfl
  have N0 := Fr.nil n0
  have pre0 : ∀ t, Steps p.tables e below (s₁.setTop (mkF m 0 #[.val (.ref a1), .val (.int (0 : Int32)), .val (.ref a3), .val (.int (0 : Int32)), .val (.int (Int32.ofNat cs.length)), .unset, .unset] [])) t → Steps p.tables e below (s₁.setTop (entryFrame m #[(.ref a1), (.int (0 : Int32)), (.ref a3), (.int (0 : Int32)), (.int (Int32.ofNat cs.length))] 7)) t := fun t_ k_ => castTop (ef_21 m a1 (0 : Int32) a3 (0 : Int32) (Int32.ofNat cs.length)) k_
  have hjl : j < cs.length := (List.getElem?_eq_some_iff.mp hj).1
  have htl : (cs.take j).length = j := by rw [List.length_take]; omega
  obtain ⟨T9, h9, L9, s6, O9, X9, e9, N9, K9, A9, st9⟩ := lp21 a1 a3 cs cs.length n0 hx hZ hw hby hml hown (by omega) g_a3 (by omega) (cs.drop j) (cs.take j) 0 _ .unset One.u X0 e0 N0 Z0 A0 A2 (by simp) (List.take_append_drop j cs).symm (fun x hx => by
    obtain ⟨i, hi⟩ := List.getElem?_of_mem hx
    have hij : i < j := by
      have := (List.getElem?_eq_some_iff.mp hi).1
      omega
    rw [List.getElem?_take_of_lt hij] at hi
    exact hb9 i x hij hi) (by omega)
  rw [htl, Nat.zero_add] at st9
  have A0' := A0.keep K9 (by simpa using own_dis A0 A2 (fun q => nomatch q))
  obtain ⟨fs, hr, hrun, hended, hW, hsame⟩ := X9.leave (v := some (.int (Int32.ofNat j))) (fun h => by rw [Bd.returns] at h; cases h)
  refine ⟨_, _, pre0 _ ?_, hrun, hended, _, _, rfl, ?_, ⟨_, rfl⟩, hW, hsame.mono (by decide) (by decide)⟩
  · refine s21a _ _ _ _ _ _ _ X0 hx hZ hby e0 One.u _ ?_
    refine st9 _ ?_
    refine s21y _ _ _ _ _ j ch cs X9 hx hZ hby e9 O9 A0' (by omega) hj (own_lt hjl (by omega)) (own_gt ch hg hch) _ ?_
    refine XS.iload X9.here hx rfl (hb hby d21_23) rfl ?_
    exact retI X9 hx Bd.returns (hb hby d21_25) hr
  · show QB (Int32.ofNat j) a3 (fun _ => True) h0 n0 _ T9.heap _
    rw [e9]; exact ⟨rfl, N9, K9, trivial⟩
def QC (Z : State) (cs : List Nat) (h0 : Heap) (n0 : Nat) (v : Option Value) (h : Heap) (L : List Loc) : Prop := ∃ (b : Addr) (ns : List Nat) (k : Int32), v = some (.ref b) ∧ Fr n0 L ∧ n0 ≤ b ∧ h0.size ≤ b ∧ Keep h0 h [] ∧ Av Z h b .byte b8 ns ∧ Rp k ns cs
theorem d20_0 : decode jdk_52_method_16_code 0 = .ok (.iload_n 2, 1) := by decide +kernel
theorem d20_1 : decode jdk_52_method_16_code 1 = .ok (.newarray .byte, 2) := by decide +kernel
theorem d20_3 : decode jdk_52_method_16_code 3 = .ok (.astore_n 3, 1) := by decide +kernel
theorem d20_4 : decode jdk_52_method_16_code 4 = .ok (.aload_n 0, 1) := by decide +kernel
theorem d20_5 : decode jdk_52_method_16_code 5 = .ok (.iload_n 1, 1) := by decide +kernel
theorem d20_6 : decode jdk_52_method_16_code 6 = .ok (.aload_n 3, 1) := by decide +kernel
theorem d20_7 : decode jdk_52_method_16_code 7 = .ok (.iconst 0, 1) := by decide +kernel
theorem d20_8 : decode jdk_52_method_16_code 8 = .ok (.iload_n 2, 1) := by decide +kernel
theorem d20_9 : decode jdk_52_method_16_code 9 = .ok (.invokestatic 115, 3) := by decide +kernel
theorem d20_12 : decode jdk_52_method_16_code 12 = .ok (.istore 4, 2) := by decide +kernel
theorem d20_14 : decode jdk_52_method_16_code 14 = .ok (.iload 4, 2) := by decide +kernel
theorem d20_16 : decode jdk_52_method_16_code 16 = .ok (.iload_n 2, 1) := by decide +kernel
theorem d20_17 : decode jdk_52_method_16_code 17 = .ok (.if_icmp .eq 40, 3) := by decide +kernel
theorem d20_57 : decode jdk_52_method_16_code 57 = .ok (.aload_n 3, 1) := by decide +kernel
theorem d20_58 : decode jdk_52_method_16_code 58 = .ok (.areturn, 1) := by decide +kernel
theorem pn_20 : plainName "java/lang/StringUTF16" = true := by first | (simp [plainName, overriddenIn]; done) | decide +kernel
theorem pd_20_19 : parseMethodDescriptor "([CI[BII)I" = some ⟨[(.array .char), .int, (.array .byte), .int, .int], some .int⟩ := by decide +kernel
theorem ef_20 (m : MethodId) (x0 : Addr) (x1 : Int32) (x2 : Int32) : entryFrame m #[(.ref x0), (.int x1), (.int x2)] 6 = mkF m 0 #[.val (.ref x0), .val (.int x1), .val (.int x2), .unset, .unset, .unset] [] := by first | (simp [entryFrame, mkF, argsToLocals, Value.category]; done) | rfl
set_option maxRecDepth 65536 in
set_option maxHeartbeats 40000000 in
theorem rm20y (l : Launch) (Z : State) (a0 : Array Value) (hw : ∀ d ∈ tables_1, d.before a0 Z = true) (ws : List Jvm.Cond) (a1 : Addr) (cs : List Nat) (h0 : Heap) (n0 : Nat) (Z0 : n0 ≤ h0.size) (D : Wd Z h0) (A0 : Av Z h0 a1 .char Int32.ofNat cs) (hn : cs.length ≤ 16) (hb9 : ∀ x ∈ cs, x < 256) :
    MetFree l (⟨"java/lang/StringUTF16", "compress", "([CII)[B"⟩ : MethodName) (head1 (Jvm.Cond.code (⟨"java/lang/StringUTF16", "compress", "([CII)[B"⟩ : MethodName) jdk_52_method_16_code 6 (some (.array .byte)) :: ws) ({ frames := 3, cells := 2, slots := 48, locals := 40 } : Room)) (fun a U => a = #[(.ref a1), (.int (0 : Int32)), (.int (Int32.ofNat cs.length))] ∧ Z.Warmed39 U.vm ∧ U.heap = h0) (fun _ _ _ _ _ => True) (fun _ U o U' => ∃ v L, o = .returned v ∧ QC Z cs h0 n0 v U'.heap L ∧ FrameEnd U o U' L ({ frames := 3, cells := 2, slots := 48, locals := 40 } : Room).cells ({ frames := 3, cells := 2, slots := 48, locals := 40 } : Room).slots) := by
  refine MetFree.of_bodySF (plainFor_of_name pn_20) hisR ?_
  intro p e s m args below meth c s₁ Bd hml0 hP hK
  obtain ⟨rfl, hZ, hh⟩ := hP
  have hx := Bd.exec
  have hby := Bd.bytes
  have hml : c.maxLocals = 6 := hml0
  have hown : s.vm.findClass "java/lang/StringUTF16" = some m.cls := findClass_of_methodNamed Bd.named
  have hnm := (name_of_methodNamed Bd.named Bd.method).1
  have X0 : Stand p l e ({ frames := 3, cells := 2, slots := 48, locals := 40 } : Room) s m #[(.ref a1), (.int (0 : Int32)), (.int (Int32.ofNat cs.length))] below meth c s₁ [] 0 0 := Stand.of_body Bd
  have e0 : s₁.heap = h0 := by rw [← hh, Bd.state]; rfl
  have N0 := Fr.nil n0
  have pre0 : ∀ t, Steps p.tables e below (s₁.setTop (mkF m 0 #[.val (.ref a1), .val (.int (0 : Int32)), .val (.int (Int32.ofNat cs.length)), .unset, .unset, .unset] [])) t → Steps p.tables e below (s₁.setTop (entryFrame m #[(.ref a1), (.int (0 : Int32)), (.int (Int32.ofNat cs.length))] 6)) t := fun t_ k_ => castTop (ef_20 m a1 (0 : Int32) (Int32.ofNat cs.length)) k_
  obtain ⟨T4, h4, b4, X4, e4, E4, g_b4, sz_b4, A4, st4⟩ := newPv (a0 := a0) X0 hx hZ e0 Z0 (g := (mkF m 1 #[.val (.ref a1), .val (.int (0 : Int32)), .val (.int (Int32.ofNat cs.length)), .unset, .unset, .unset] [(.int (Int32.ofNat cs.length))])) rfl (hb hby d20_1) rfl (hw _ (List.mem_of_getElem? (i := 1) rfl)) cs.length (by omega) b8 own_f8 rfl rfl (cap := 16) (by omega) (by decide) (by decide) (by decide)
  have K4 : Keep h0 h4 [] := (Keep.refl h0 []).ext E4
  have A04 := A0.keep K4 (by simp)
  obtain ⟨_, _, ⟨T5, L5, k5, n5⟩, -, X5, ⟨Lc5, hQ5, l5, y5, z5⟩, st5⟩ := Jvm.LawKit.callS X4 hx (y := (⟨"java/lang/StringUTF16", "compress", "([CI[BII)I"⟩ : MethodName)) hown (mvT hZ (hw _ (List.mem_of_getElem? (i := 96) rfl))) (mvT hZ (hw _ (List.mem_of_getElem? (i := 97) rfl))) (mvT hZ (hw _ (List.mem_of_getElem? (i := 94) rfl))) (mvT hZ (hw _ (List.mem_of_getElem? (i := 98) rfl))) (by decide) (backOf (W := 0) (rm21y l Z a0 hw [] a1 b4 cs h4 n0 (Nat.le_trans Z0 K4.1) A04 A4 hn g_b4 hb9) hZ (hw _ (List.mem_of_getElem? (i := 98) rfl)) (hw _ (List.mem_of_getElem? (i := 94) rfl)) (by decide) (by decide)) (g := (mkF m 9 #[.val (.ref a1), .val (.int (0 : Int32)), .val (.int (Int32.ofNat cs.length)), .val (.ref b4), .unset, .unset] [(.int (Int32.ofNat cs.length)), (.int (0 : Int32)), (.ref b4), (.int (0 : Int32)), (.ref a1)])) rfl (by rw [hml]; rfl) (argsL := [(.ref a1), (.int (0 : Int32)), (.ref b4), (.int (0 : Int32)), (.int (Int32.ofNat cs.length))]) (rest := []) (lenOf pd_20_19 rfl) rfl (by show 2 * 0 + _ ≤ _; exact Nat.le_of_eq rfl) (hb hby d20_9) (fun _ _ => ⟨rfl, e4, (by decide : 1 + 0 ≤ _), (by decide : 0 + 16 ≤ _)⟩)
  dsimp only [Pt.U, Pt.locs, Pt.cells, Pt.slots] at X5 l5 y5 z5 st5 hQ5
  subst l5 y5 z5
  obtain ⟨rfl, N5q, K5, A5⟩ := hQ5
  have N5 := Fr.app N0 N5q
  obtain ⟨fs, hr, hrun, hended, hW, hsame⟩ := X5.leave (v := some (.ref b4)) (fun h => by rw [Bd.returns] at h; cases h)
  refine ⟨_, _, pre0 _ ?_, hrun, hended, _, _, rfl, ?_, ⟨_, rfl⟩, hW, hsame.mono (by decide) (by decide)⟩
  -- 4. STEPS
  · show Steps p.tables e below (s₁.setTop (mkF m 0 #[.val (.ref a1), .val (.int (0 : Int32)), .val (.int (Int32.ofNat cs.length)), .unset, .unset, .unset] [])) _
    refine XS.iloadN X0.here hx rfl (hb hby d20_0) rfl ?_
    refine st4 _ ?_
    refine XS.astoreN X4.here hx rfl (hb hby d20_3) rfl rfl (l' := #[.val (.ref a1), .val (.int (0 : Int32)), .val (.int (Int32.ofNat cs.length)), .val (.ref b4), .unset, .unset]) rfl ?_
    refine XS.aloadN X4.here hx rfl (hb hby d20_4) rfl rfl ?_
    refine XS.iloadN X4.here hx rfl (hb hby d20_5) rfl ?_
    refine XS.aloadN X4.here hx rfl (hb hby d20_6) rfl rfl ?_
    refine XS.iconst X4.here hx rfl (hb hby d20_7) ?_
    show Steps p.tables e below (T4.setTop (mkF m 8 #[.val (.ref a1), .val (.int (0 : Int32)), .val (.int (Int32.ofNat cs.length)), .val (.ref b4), .unset, .unset] [(.int (0 : Int32)), (.ref b4), (.int (0 : Int32)), (.ref a1)])) _
    refine XS.iloadN X4.here hx rfl (hb hby d20_8) rfl ?_
    refine st5 _ ?_
    refine XS.istore X5.here hx rfl (hb hby d20_12) rfl (l' := #[.val (.ref a1), .val (.int (0 : Int32)), .val (.int (Int32.ofNat cs.length)), .val (.ref b4), .val (.int (Int32.ofNat cs.length)), .unset]) rfl ?_
    refine XS.iload X5.here hx rfl (hb hby d20_14) rfl ?_
    refine XS.iloadN X5.here hx rfl (hb hby d20_16) rfl ?_
    refine XS.icmpYes X5.here hx rfl (pc0 := 17) (pc' := 57) rfl (hb hby d20_17) rfl (teq (rfl : (Int32.ofNat cs.length) = (Int32.ofNat cs.length))).1 (by decide) (by decide) ?_
    refine XS.aloadN X5.here hx rfl (hb hby d20_57) rfl rfl ?_
    show Steps p.tables e below (T5.setTop (mkF m 58 #[.val (.ref a1), .val (.int (0 : Int32)), .val (.int (Int32.ofNat cs.length)), .val (.ref b4), .val (.int (Int32.ofNat cs.length)), .unset] [(.ref b4)])) _
    jvm_step X5.here [X5.here.top, hx, (hb hby d20_58), X5.method', Bd.returns, Value.isRef, FieldType.isReference]
    first | (intro acts; rw [hr _ acts rfl rfl rfl]) | rw [hr _ _ rfl rfl rfl]
    exact Steps.refl _
  · show QC Z cs h0 n0 _ T5.heap _
    exact ⟨b4, cs, 0, rfl, N5, g_b4, sz_b4, own_kn K4 K5 sz_b4, A5, Or.inl ⟨rfl, rfl, hb9⟩⟩
theorem d20_20 : decode jdk_52_method_16_code 20 = .ok (.aload_n 0, 1) := by decide +kernel
theorem d20_21 : decode jdk_52_method_16_code 21 = .ok (.iload_n 1, 1) := by decide +kernel
theorem d20_22 : decode jdk_52_method_16_code 22 = .ok (.iload_n 2, 1) := by decide +kernel
theorem d20_23 : decode jdk_52_method_16_code 23 = .ok (.invokestatic 119, 3) := by decide +kernel
theorem d20_26 : decode jdk_52_method_16_code 26 = .ok (.astore 5, 2) := by decide +kernel
theorem d20_28 : decode jdk_52_method_16_code 28 = .ok (.aload 5, 2) := by decide +kernel
theorem d20_30 : decode jdk_52_method_16_code 30 = .ok (.iload 4, 2) := by decide +kernel
theorem d20_32 : decode jdk_52_method_16_code 32 = .ok (.invokestatic 71, 3) := by decide +kernel
theorem d20_35 : decode jdk_52_method_16_code 35 = .ok (.sipush 255, 3) := by decide +kernel
theorem d20_38 : decode jdk_52_method_16_code 38 = .ok (.if_icmp .gt 16, 3) := by decide +kernel
theorem d20_54 : decode jdk_52_method_16_code 54 = .ok (.aload 5, 2) := by decide +kernel
theorem d20_56 : decode jdk_52_method_16_code 56 = .ok (.areturn, 1) := by decide +kernel
theorem pd_20_18 : parseMethodDescriptor "([CII)[B" = some ⟨[(.array .char), .int, .int], some (.array .byte)⟩ := by decide +kernel
theorem pd_20_21 : parseMethodDescriptor "([BI)C" = some ⟨[(.array .byte), .int], some .char⟩ := by decide +kernel
set_option maxRecDepth 65536 in
set_option maxHeartbeats 40000000 in
theorem rm20n (l : Launch) (Z : State) (a0 : Array Value) (hw : ∀ d ∈ tables_1, d.before a0 Z = true) (ws : List Jvm.Cond) (a1 : Addr) (cs : List Nat) (j ch : Nat) (h0 : Heap) (n0 : Nat) (Z0 : n0 ≤ h0.size) (D : Wd Z h0) (A0 : Av Z h0 a1 .char Int32.ofNat cs) (hn : cs.length ≤ 16) (hc16 : ∀ x ∈ cs, x < 65536) (hj : cs[j]? = some ch) (hg : 255 < ch) (hch : ch < 65536) (hb9 : ∀ i x : Nat, i < j → cs[i]? = some x → x < 256) :
    MetFree l (⟨"java/lang/StringUTF16", "compress", "([CII)[B"⟩ : MethodName) (head1 (Jvm.Cond.code (⟨"java/lang/StringUTF16", "compress", "([CII)[B"⟩ : MethodName) jdk_52_method_16_code 6 (some (.array .byte)) :: ws) ({ frames := 3, cells := 2, slots := 48, locals := 40 } : Room)) (fun a U => a = #[(.ref a1), (.int (0 : Int32)), (.int (Int32.ofNat cs.length))] ∧ Z.Warmed39 U.vm ∧ U.heap = h0) (fun _ _ _ _ _ => True) (fun _ U o U' => ∃ v L, o = .returned v ∧ QC Z cs h0 n0 v U'.heap L ∧ FrameEnd U o U' L ({ frames := 3, cells := 2, slots := 48, locals := 40 } : Room).cells ({ frames := 3, cells := 2, slots := 48, locals := 40 } : Room).slots) := by
  refine MetFree.of_bodySF (plainFor_of_name pn_20) hisR ?_
  intro p e s m args below meth c s₁ Bd hml0 hP hK
  obtain ⟨rfl, hZ, hh⟩ := hP
  have hx := Bd.exec
  have hby := Bd.bytes
  have hml : c.maxLocals = 6 := hml0
  have hown : s.vm.findClass "java/lang/StringUTF16" = some m.cls := findClass_of_methodNamed Bd.named
  have hnm := (name_of_methodNamed Bd.named Bd.method).1
  have X0 : Stand p l e ({ frames := 3, cells := 2, slots := 48, locals := 40 } : Room) s m #[(.ref a1), (.int (0 : Int32)), (.int (Int32.ofNat cs.length))] below meth c s₁ [] 0 0 := Stand.of_body Bd
  have e0 : s₁.heap = h0 := by rw [← hh, Bd.state]; rfl
  have N0 := Fr.nil n0
  have pre0 : ∀ t, Steps p.tables e below (s₁.setTop (mkF m 0 #[.val (.ref a1), .val (.int (0 : Int32)), .val (.int (Int32.ofNat cs.length)), .unset, .unset, .unset] [])) t → Steps p.tables e below (s₁.setTop (entryFrame m #[(.ref a1), (.int (0 : Int32)), (.int (Int32.ofNat cs.length))] 6)) t := fun t_ k_ => castTop (ef_20 m a1 (0 : Int32) (Int32.ofNat cs.length)) k_
  have hjl : j < cs.length := (List.getElem?_eq_some_iff.mp hj).1
  obtain ⟨T4, h4, b4, X4, e4, E4, g_b4, sz_b4, A4, st4⟩ := newPv (a0 := a0) X0 hx hZ e0 Z0 (g := (mkF m 1 #[.val (.ref a1), .val (.int (0 : Int32)), .val (.int (Int32.ofNat cs.length)), .unset, .unset, .unset] [(.int (Int32.ofNat cs.length))])) rfl (hb hby d20_1) rfl (hw _ (List.mem_of_getElem? (i := 1) rfl)) cs.length (by omega) b8 own_f8 rfl rfl (cap := 16) (by omega) (by decide) (by decide) (by decide)
  have K4 : Keep h0 h4 [] := (Keep.refl h0 []).ext E4
  have A04 := A0.keep K4 (by simp)
  obtain ⟨_, _, ⟨T5, L5, k5, n5⟩, -, X5, ⟨Lc5, hQ5, l5, y5, z5⟩, st5⟩ := Jvm.LawKit.callS X4 hx (y := (⟨"java/lang/StringUTF16", "compress", "([CI[BII)I"⟩ : MethodName)) hown (mvT hZ (hw _ (List.mem_of_getElem? (i := 96) rfl))) (mvT hZ (hw _ (List.mem_of_getElem? (i := 97) rfl))) (mvT hZ (hw _ (List.mem_of_getElem? (i := 94) rfl))) (mvT hZ (hw _ (List.mem_of_getElem? (i := 98) rfl))) (by decide) (backOf (W := 0) (rm21n l Z a0 hw [] a1 b4 cs j ch h4 n0 (Nat.le_trans Z0 K4.1) A04 A4 hn g_b4 hj hg hch hb9) hZ (hw _ (List.mem_of_getElem? (i := 98) rfl)) (hw _ (List.mem_of_getElem? (i := 94) rfl)) (by decide) (by decide)) (g := (mkF m 9 #[.val (.ref a1), .val (.int (0 : Int32)), .val (.int (Int32.ofNat cs.length)), .val (.ref b4), .unset, .unset] [(.int (Int32.ofNat cs.length)), (.int (0 : Int32)), (.ref b4), (.int (0 : Int32)), (.ref a1)])) rfl (by rw [hml]; rfl) (argsL := [(.ref a1), (.int (0 : Int32)), (.ref b4), (.int (0 : Int32)), (.int (Int32.ofNat cs.length))]) (rest := []) (lenOf pd_20_19 rfl) rfl (by show 2 * 0 + _ ≤ _; exact Nat.le_of_eq rfl) (hb hby d20_9) (fun _ _ => ⟨rfl, e4, (by decide : 1 + 0 ≤ _), (by decide : 0 + 16 ≤ _)⟩)
  dsimp only [Pt.U, Pt.locs, Pt.cells, Pt.slots] at X5 l5 y5 z5 st5 hQ5
  subst l5 y5 z5
  obtain ⟨rfl, N5q, K5, -⟩ := hQ5
  have K45 := own_kn K4 K5 sz_b4
  have D5 := D.keep K45 own_ns0
  obtain ⟨_, _, ⟨T6, L6, k6, n6⟩, -, X6, ⟨Lc6, hQ6, l6, y6, z6⟩, st6⟩ := Jvm.LawKit.callS X5 hx (y := (⟨"java/lang/StringUTF16", "toBytes", "([CII)[B"⟩ : MethodName)) hown (mvT hZ (hw _ (List.mem_of_getElem? (i := 116) rfl))) (mvT hZ (hw _ (List.mem_of_getElem? (i := 117) rfl))) (mvT hZ (hw _ (List.mem_of_getElem? (i := 94) rfl))) (mvT hZ (hw _ (List.mem_of_getElem? (i := 118) rfl))) (by decide) (backOf (W := 0) (rm27 l Z a0 hw [] a1 cs T5.heap n0 (Nat.le_trans Z0 K45.1) D5 (A0.keep K45 (by simp)) hn hc16) hZ (hw _ (List.mem_of_getElem? (i := 118) rfl)) (hw _ (List.mem_of_getElem? (i := 94) rfl)) (by decide) (by decide)) (g := (mkF m 23 #[.val (.ref a1), .val (.int (0 : Int32)), .val (.int (Int32.ofNat cs.length)), .val (.ref b4), .val (.int (Int32.ofNat j)), .unset] [(.int (Int32.ofNat cs.length)), (.int (0 : Int32)), (.ref a1)])) rfl (by rw [hml]; rfl) (argsL := [(.ref a1), (.int (0 : Int32)), (.int (Int32.ofNat cs.length))]) (rest := []) (lenOf pd_20_18 rfl) rfl (by show 2 * 0 + _ ≤ _; exact Nat.le_of_eq rfl) (hb hby d20_23) (fun _ _ => ⟨rfl, rfl, (by decide : 1 + 1 ≤ _), (by decide : 0 + 48 ≤ _)⟩)
  dsimp only [Pt.U, Pt.locs, Pt.cells, Pt.slots] at X6 l6 y6 z6 st6 hQ6
  subst l6 y6 z6
  obtain ⟨b6, rfl, N6q, g6, z6s, K6, A6⟩ := hQ6
  have gf := own_fmg cs j ch hj
  obtain ⟨_, _, ⟨T7, L7, k7, n7⟩, -, X7, ⟨Lc7, hQ7, l7, y7, z7⟩, st7⟩ := Jvm.LawKit.callS X6 hx (y := (⟨"java/lang/StringUTF16", "getChar", "([BI)C"⟩ : MethodName)) hown (mvT hZ (hw _ (List.mem_of_getElem? (i := 132) rfl))) (mvT hZ (hw _ (List.mem_of_getElem? (i := 133) rfl))) (mvT hZ (hw _ (List.mem_of_getElem? (i := 94) rfl))) (mvT hZ (hw _ (List.mem_of_getElem? (i := 134) rfl))) (by decide) (backOf (W := 0) (gc l Z a0 hw [] b6 (cs.flatMap (fun c => [c % 256, c / 256])) j (ch % 256) (ch / 256) T6.heap n0 (Nat.le_trans Z0 (Nat.le_trans K45.1 K6.1)) (D5.keep K6 own_ns0) A6 (by rw [own_fml]; omega) gf.1 gf.2 (Nat.mod_lt _ (by decide)) (Nat.div_lt_of_lt_mul hch)) hZ (hw _ (List.mem_of_getElem? (i := 134) rfl)) (hw _ (List.mem_of_getElem? (i := 94) rfl)) (by decide) (by decide)) (g := (mkF m 32 #[.val (.ref a1), .val (.int (0 : Int32)), .val (.int (Int32.ofNat cs.length)), .val (.ref b4), .val (.int (Int32.ofNat j)), .val (.ref b6)] [(.int (Int32.ofNat j)), (.ref b6)])) rfl (by rw [hml]; rfl) (argsL := [(.ref b6), (.int (Int32.ofNat j))]) (rest := []) (lenOf pd_20_21 rfl) rfl (by show 2 * 0 + _ ≤ _; exact Nat.le_of_eq rfl) (hb hby d20_32) (fun _ _ => ⟨rfl, rfl, (by decide : 1 + 1 ≤ _), (by decide : 0 + 48 ≤ _)⟩)
  dsimp only [Pt.U, Pt.locs, Pt.cells, Pt.slots] at X7 l7 y7 z7 st7 hQ7
  subst l7 y7 z7
  rw [own_dm] at hQ7
  obtain ⟨rfl, N7q, eq7⟩ := hQ7
  have N7 := Fr.app (Fr.app (Fr.app N0 N5q) N6q) N7q
  obtain ⟨fs, hr, hrun, hended, hW, hsame⟩ := X7.leave (v := some (.ref b6)) (fun h => by rw [Bd.returns] at h; cases h)
  refine ⟨_, _, pre0 _ ?_, hrun, hended, _, _, rfl, ?_, ⟨_, rfl⟩, hW, hsame.mono (by decide) (by decide)⟩
  -- 4. STEPS
  · show Steps p.tables e below (s₁.setTop (mkF m 0 #[.val (.ref a1), .val (.int (0 : Int32)), .val (.int (Int32.ofNat cs.length)), .unset, .unset, .unset] [])) _
    refine XS.iloadN X0.here hx rfl (hb hby d20_0) rfl ?_
    refine st4 _ ?_
    refine XS.astoreN X4.here hx rfl (hb hby d20_3) rfl rfl (l' := #[.val (.ref a1), .val (.int (0 : Int32)), .val (.int (Int32.ofNat cs.length)), .val (.ref b4), .unset, .unset]) rfl ?_
    refine XS.aloadN X4.here hx rfl (hb hby d20_4) rfl rfl ?_
    refine XS.iloadN X4.here hx rfl (hb hby d20_5) rfl ?_
    refine XS.aloadN X4.here hx rfl (hb hby d20_6) rfl rfl ?_
    refine XS.iconst X4.here hx rfl (hb hby d20_7) ?_
    show Steps p.tables e below (T4.setTop (mkF m 8 #[.val (.ref a1), .val (.int (0 : Int32)), .val (.int (Int32.ofNat cs.length)), .val (.ref b4), .unset, .unset] [(.int (0 : Int32)), (.ref b4), (.int (0 : Int32)), (.ref a1)])) _
    refine XS.iloadN X4.here hx rfl (hb hby d20_8) rfl ?_
    refine st5 _ ?_
    refine XS.istore X5.here hx rfl (hb hby d20_12) rfl (l' := #[.val (.ref a1), .val (.int (0 : Int32)), .val (.int (Int32.ofNat cs.length)), .val (.ref b4), .val (.int (Int32.ofNat j)), .unset]) rfl ?_
    refine XS.iload X5.here hx rfl (hb hby d20_14) rfl ?_
    refine XS.iloadN X5.here hx rfl (hb hby d20_16) rfl ?_
    refine XS.icmpNo X5.here hx rfl (hb hby d20_17) rfl (feq ((own_nei (Nat.ne_of_lt hjl) (by omega) (by omega)) : ¬ ((Int32.ofNat j) = (Int32.ofNat cs.length)))).1 ?_
    refine XS.aloadN X5.here hx rfl (hb hby d20_20) rfl rfl ?_
    show Steps p.tables e below (T5.setTop (mkF m 21 #[.val (.ref a1), .val (.int (0 : Int32)), .val (.int (Int32.ofNat cs.length)), .val (.ref b4), .val (.int (Int32.ofNat j)), .unset] [(.ref a1)])) _
    refine XS.iloadN X5.here hx rfl (hb hby d20_21) rfl ?_
    refine XS.iloadN X5.here hx rfl (hb hby d20_22) rfl ?_
    refine st6 _ ?_
    refine XS.astore X6.here hx rfl (hb hby d20_26) rfl rfl (l' := #[.val (.ref a1), .val (.int (0 : Int32)), .val (.int (Int32.ofNat cs.length)), .val (.ref b4), .val (.int (Int32.ofNat j)), .val (.ref b6)]) rfl ?_
    refine XS.aload X6.here hx rfl (hb hby d20_28) rfl rfl ?_
    refine XS.iload X6.here hx rfl (hb hby d20_30) rfl ?_
    refine st7 _ ?_
    show Steps p.tables e below (T7.setTop (mkF m 35 #[.val (.ref a1), .val (.int (0 : Int32)), .val (.int (Int32.ofNat cs.length)), .val (.ref b4), .val (.int (Int32.ofNat j)), .val (.ref b6)] [(.int (Int32.ofNat ch))])) _
    refine XS.sipush X7.here hx rfl (hb hby d20_35) ?_
    refine XS.icmpYes X7.here hx rfl (pc0 := 38) (pc' := 54) rfl (hb hby d20_38) rfl (tlt ((own_gt ch hg hch) : (255 : Int32) < (Int32.ofNat ch))).2.2.1 (by decide) (by decide) ?_
    refine XS.aload X7.here hx rfl (hb hby d20_54) rfl rfl ?_
    show Steps p.tables e below (T7.setTop (mkF m 56 #[.val (.ref a1), .val (.int (0 : Int32)), .val (.int (Int32.ofNat cs.length)), .val (.ref b4), .val (.int (Int32.ofNat j)), .val (.ref b6)] [(.ref b6)])) _
    jvm_step X7.here [X7.here.top, hx, (hb hby d20_56), X7.method', Bd.returns, Value.isRef, FieldType.isReference]
    first | (intro acts; rw [hr _ acts rfl rfl rfl]) | rw [hr _ _ rfl rfl rfl]
    exact Steps.refl _
  · show QC Z cs h0 n0 _ T7.heap _
    rw [eq7]; exact ⟨b6, _, 1, rfl, N7, g6, Nat.le_trans K45.1 z6s, own_k0 K45 K6, A6, Or.inr ⟨rfl, rfl, hc16, fun q => by rw [q] at hjl; cases hjl⟩⟩
theorem cpr (l : Launch) (Z : State) (a0 : Array Value) (hw : ∀ d ∈ tables_1, d.before a0 Z = true) (ws : List Jvm.Cond) (a1 : Addr) (cs : List Nat) (h0 : Heap) (n0 : Nat) (Z0 : n0 ≤ h0.size) (D : Wd Z h0) (A0 : Av Z h0 a1 .char Int32.ofNat cs) (hn : cs.length ≤ 16) (hc16 : ∀ x ∈ cs, x < 65536) :
    MetFree l (⟨"java/lang/StringUTF16", "compress", "([CII)[B"⟩ : MethodName) (head1 (Jvm.Cond.code (⟨"java/lang/StringUTF16", "compress", "([CII)[B"⟩ : MethodName) jdk_52_method_16_code 6 (some (.array .byte)) :: ws) ({ frames := 3, cells := 2, slots := 48, locals := 40 } : Room)) (fun a U => a = #[(.ref a1), (.int (0 : Int32)), (.int (Int32.ofNat cs.length))] ∧ Z.Warmed39 U.vm ∧ U.heap = h0) (fun _ _ _ _ _ => True) (fun _ U o U' => ∃ v L, o = .returned v ∧ QC Z cs h0 n0 v U'.heap L ∧ FrameEnd U o U' L ({ frames := 3, cells := 2, slots := 48, locals := 40 } : Room).cells ({ frames := 3, cells := 2, slots := 48, locals := 40 } : Room).slots) := by
  rcases own_first cs with h | ⟨j, ch, h1, h2, h3⟩
  · exact rm20y l Z a0 hw ws a1 cs h0 n0 Z0 D A0 hn h
  · exact rm20n l Z a0 hw ws a1 cs j ch h0 n0 Z0 D A0 hn hc16 h1 h2 (hc16 _ (List.mem_of_getElem? h1)) h3
theorem d22_0 : decode jdk_52_method_15_code 0 = .ok (.iload_n 1, 1) := by decide +kernel
theorem d22_1 : decode jdk_52_method_15_code 1 = .ok (.aload_n 0, 1) := by decide +kernel
theorem d22_2 : decode jdk_52_method_15_code 2 = .ok (.arraylength, 1) := by decide +kernel
theorem d22_3 : decode jdk_52_method_15_code 3 = .ok (.isub, 1) := by decide +kernel
theorem d22_4 : decode jdk_52_method_15_code 4 = .ok (.bipush 31, 2) := by decide +kernel
theorem d22_6 : decode jdk_52_method_15_code 6 = .ok (.iushr, 1) := by decide +kernel
theorem d22_7 : decode jdk_52_method_15_code 7 = .ok (.i2b, 1) := by decide +kernel
theorem d22_8 : decode jdk_52_method_15_code 8 = .ok (.ireturn, 1) := by decide +kernel
theorem pn_22 : plainName "java/lang/StringUTF16" = true := by first | (simp [plainName, overriddenIn]; done) | decide +kernel
theorem ef_22 (m : MethodId) (x0 : Addr) (x1 : Int32) : entryFrame m #[(.ref x0), (.int x1)] 2 = mkF m 0 #[.val (.ref x0), .val (.int x1)] [] := by first | (simp [entryFrame, mkF, argsToLocals, Value.category]; done) | rfl
set_option maxRecDepth 65536 in
set_option maxHeartbeats 40000000 in
theorem rm22 (l : Launch) (Z : State) (a0 : Array Value) (hw : ∀ d ∈ tables_1, d.before a0 Z = true) (ws : List Jvm.Cond) (a1 : Addr) (k n : Nat) (r : Int32) (cl_a1 : Cell) (h0 : Heap) (n0 : Nat) (Z0 : n0 ≤ h0.size) (Ar_a1 : Arr Z h0 a1 cl_a1 .byte) (S_a1 : cl_a1.slots.size = (Int32.ofNat n).toNatClampNeg) (N_a1 : ¬ (Int32.ofNat n) < 0) (hv : (((((Int32.ofNat k) - (Int32.ofNat n)).toUInt32 >>> ((31 : Int32) &&& 31).toUInt32).toInt32).toInt8.toInt32) = r) (hb2 : nar .byte (((((Int32.ofNat k) - (Int32.ofNat n)).toUInt32 >>> ((31 : Int32) &&& 31).toUInt32).toInt32).toInt8.toInt32) = (((((Int32.ofNat k) - (Int32.ofNat n)).toUInt32 >>> ((31 : Int32) &&& 31).toUInt32).toInt32).toInt8.toInt32)) :
    MetFree l (⟨"java/lang/StringUTF16", "coderFromArrayLen", "([BI)B"⟩ : MethodName) (head1 (Jvm.Cond.code (⟨"java/lang/StringUTF16", "coderFromArrayLen", "([BI)B"⟩ : MethodName) jdk_52_method_15_code 2 (some .byte) :: ws) ({ frames := 0, cells := 0, slots := 0, locals := 0 } : Room)) (fun a U => a = #[(.ref a1), (.int (Int32.ofNat k))] ∧ Z.Warmed39 U.vm ∧ U.heap = h0) (fun _ _ _ _ _ => True) (fun _ U o U' => ∃ v L, o = .returned v ∧ QI r h0 n0 v U'.heap L ∧ FrameEnd U o U' L ({ frames := 0, cells := 0, slots := 0, locals := 0 } : Room).cells ({ frames := 0, cells := 0, slots := 0, locals := 0 } : Room).slots) := by
  refine MetFree.of_bodySF (plainFor_of_name pn_22) hisR ?_
  intro p e s m args below meth c s₁ Bd hml0 hP hK
  obtain ⟨rfl, hZ, hh⟩ := hP
  have hx := Bd.exec
  have hby := Bd.bytes
  have hml : c.maxLocals = 2 := hml0
  have hown : s.vm.findClass "java/lang/StringUTF16" = some m.cls := findClass_of_methodNamed Bd.named
  have hnm := (name_of_methodNamed Bd.named Bd.method).1
  have X0 : Stand p l e ({ frames := 0, cells := 0, slots := 0, locals := 0 } : Room) s m #[(.ref a1), (.int (Int32.ofNat k))] below meth c s₁ [] 0 0 := Stand.of_body Bd
  have e0 : s₁.heap = h0 := by rw [← hh, Bd.state]; rfl
  have N0 := Fr.nil n0
  have pre0 : ∀ t, Steps p.tables e below (s₁.setTop (mkF m 0 #[.val (.ref a1), .val (.int (Int32.ofNat k))] [])) t → Steps p.tables e below (s₁.setTop (entryFrame m #[(.ref a1), (.int (Int32.ofNat k))] 2)) t := fun t_ k_ => castTop (ef_22 m a1 (Int32.ofNat k)) k_

  obtain ⟨fs, hr, hrun, hended, hW, hsame⟩ := X0.leave (v := some (.int (((((Int32.ofNat k) - (Int32.ofNat n)).toUInt32 >>> ((31 : Int32) &&& 31).toUInt32).toInt32).toInt8.toInt32))) (fun h => by rw [Bd.returns] at h; cases h)
  refine ⟨_, _, pre0 _ ?_, hrun, hended, _, _, rfl, ?_, ⟨_, rfl⟩, hW, hsame.mono (by decide) (by decide)⟩
  -- 4. STEPS
  · show Steps p.tables e below (s₁.setTop (mkF m 0 #[.val (.ref a1), .val (.int (Int32.ofNat k))] [])) _
    refine XS.iloadN X0.here hx rfl (hb hby d22_0) rfl ?_
    refine XS.aloadN X0.here hx rfl (hb hby d22_1) rfl rfl ?_
    show Steps p.tables e below (s₁.setTop (mkF m 2 #[.val (.ref a1), .val (.int (Int32.ofNat k))] [(.ref a1), (.int (Int32.ofNat k))])) _
    refine X0.arraylength hx (by rw [e0]; exact Ar_a1.1) (State.isArrayOf_alike hZ.alike Ar_a1.2.1) (g := (mkF m 2 #[.val (.ref a1), .val (.int (Int32.ofNat k))] [(.ref a1), (.int (Int32.ofNat k))])) rfl rfl (hb hby d22_2) _ ?_
    rw [len_of S_a1 N_a1]
    refine XS.isub X0.here hx rfl (hb hby d22_3) rfl ?_
    refine XS.bipush X0.here hx rfl (hb hby d22_4) ?_
    refine XS.iushr X0.here hx rfl (hb hby d22_6) rfl ?_
    refine XS.i2b X0.here hx rfl (hb hby d22_7) rfl ?_
    show Steps p.tables e below (s₁.setTop (mkF m 8 #[.val (.ref a1), .val (.int (Int32.ofNat k))] [(.int (((((Int32.ofNat k) - (Int32.ofNat n)).toUInt32 >>> ((31 : Int32) &&& 31).toUInt32).toInt32).toInt8.toInt32))])) _
    exact retN X0 hx (t := .byte) Bd.returns (by simp) (hb hby d22_8) (by rw [hb2]; exact hr)
  · show QI r h0 n0 _ s₁.heap _
    rw [e0]
    exact ⟨by rw [hv], N0, rfl⟩
theorem own_cd0 : ∀ k < 17, ((((((Int32.ofNat k) - (Int32.ofNat k)).toUInt32 >>> ((31 : Int32) &&& 31).toUInt32).toInt32).toInt8.toInt32) = 0 ∧ nar .byte (((((Int32.ofNat k) - (Int32.ofNat k)).toUInt32 >>> ((31 : Int32) &&& 31).toUInt32).toInt32).toInt8.toInt32) = (((((Int32.ofNat k) - (Int32.ofNat k)).toUInt32 >>> ((31 : Int32) &&& 31).toUInt32).toInt32).toInt8.toInt32)) := by decide +kernel
theorem own_cd1 : ∀ k < 17, k ≠ 0 → ((((((Int32.ofNat k) - (Int32.ofNat (2 * k))).toUInt32 >>> ((31 : Int32) &&& 31).toUInt32).toInt32).toInt8.toInt32) = 1 ∧ nar .byte (((((Int32.ofNat k) - (Int32.ofNat (2 * k))).toUInt32 >>> ((31 : Int32) &&& 31).toUInt32).toInt32).toInt8.toInt32) = (((((Int32.ofNat k) - (Int32.ofNat (2 * k))).toUInt32 >>> ((31 : Int32) &&& 31).toUInt32).toInt32).toInt8.toInt32)) := by decide +kernel
theorem cod (l : Launch) (Z : State) (a0 : Array Value) (hw : ∀ d ∈ tables_1, d.before a0 Z = true) (ws : List Jvm.Cond) (a1 : Addr) (cs ns : List Nat) (kk : Int32) (h0 : Heap) (n0 : Nat) (Z0 : n0 ≤ h0.size) (A0 : Av Z h0 a1 .byte b8 ns) (R : Rp kk ns cs) (hn : cs.length ≤ 16) :
    MetFree l (⟨"java/lang/StringUTF16", "coderFromArrayLen", "([BI)B"⟩ : MethodName) (head1 (Jvm.Cond.code (⟨"java/lang/StringUTF16", "coderFromArrayLen", "([BI)B"⟩ : MethodName) jdk_52_method_15_code 2 (some .byte) :: ws) ({ frames := 0, cells := 0, slots := 0, locals := 0 } : Room)) (fun a U => a = #[(.ref a1), (.int (Int32.ofNat cs.length))] ∧ Z.Warmed39 U.vm ∧ U.heap = h0) (fun _ _ _ _ _ => True) (fun _ U o U' => ∃ v L, o = .returned v ∧ QI kk h0 n0 v U'.heap L ∧ FrameEnd U o U' L ({ frames := 0, cells := 0, slots := 0, locals := 0 } : Room).cells ({ frames := 0, cells := 0, slots := 0, locals := 0 } : Room).slots) := by
  obtain ⟨cl, A, q⟩ := A0
  rcases R with ⟨rfl, rfl, -⟩ | ⟨rfl, rfl, -, hne⟩
  · have z := own_avz q (by omega)
    exact rm22 l Z a0 hw ws a1 ns.length ns.length 0 cl h0 n0 Z0 A z.1 z.2 (own_cd0 _ (by omega)).1 (own_cd0 _ (by omega)).2
  · have z := own_avz q (by rw [own_fml]; omega)
    rw [own_fml] at z
    have hp : cs.length ≠ 0 := fun h => hne (List.length_eq_zero_iff.mp h)
    exact rm22 l Z a0 hw ws a1 cs.length (2 * cs.length) 1 cl h0 n0 Z0 A z.1 z.2 (own_cd1 _ (by omega) hp).1 (own_cd1 _ (by omega) hp).2
def ELs : List (String × Nat) := [("java/lang/String", 7)]
theorem own_ew {Z : State} {a0 : Array Value} (hw : ∀ d ∈ tables_1, d.before a0 Z = true) : EW Z a0 ELs := EW.cons (hw _ (List.mem_of_getElem? (i := 20) rfl)) (by intro x hx; simp at hx) EW.nil
theorem own_wS {Z : State} {a0 : Array Value} (hw : ∀ d ∈ tables_1, d.before a0 Z = true) : ∀ d ∈ Bundle.stringAtoms, d.before a0 Z = true := by
  have wS : ∀ d ∈ Bundle.stringAtoms, d.before a0 Z = true := fun d hd => by
    simp only [Bundle.stringAtoms, List.mem_cons, List.not_mem_nil, or_false] at hd
    rcases hd with rfl | rfl | rfl | rfl | rfl | rfl | rfl
    · exact hw _ (List.mem_of_getElem? (i := 8) rfl)
    · exact hw _ (List.mem_of_getElem? (i := 7) rfl)
    · exact hw _ (List.mem_of_getElem? (i := 1) rfl)
    · exact hw _ (List.mem_of_getElem? (i := 21) rfl)
    · exact hw _ (List.mem_of_getElem? (i := 22) rfl)
    · exact hw _ (List.mem_of_getElem? (i := 23) rfl)
    · exact hw _ (List.mem_of_getElem? (i := 24) rfl)
  exact wS
theorem own_safe {Z : State} {EL : List (String × Nat)} {vm : Vm} {h : Heap} {a : Addr} (hal : Z.vm.Alike vm) (E : Exa Z h a "java/lang/String") (F : Fld Z h a "java/lang/String" "value" "[B" .null) : Safe Z EL vm h a := fun B => by
  obtain ⟨p, -, u, a', -, q, -, G, rfl | rfl⟩ := B
  · obtain ⟨cS, ⟨⟨s1, s2, s3, ⟨cv, kv, iv, s4, s4'⟩, ⟨cc, kc, ic, s5, s5'⟩, s6, s7, s8, s9, s10, s11, s12, s13, s14, s15, s16⟩, hfS, hcS⟩, hk, hB, hbyt⟩ := G
    obtain ⟨kv', z4⟩ := ff_back (U := Wst Z vm h) hal s4
    have F2 : Fld Z h q.sa "java/lang/String" "value" "[B" (.ref q.sd) := ⟨q.sC, cv, kv', iv, q.fSV, s1, z4, s6, s2, s3, by rw [← hal.assignable]; exact s4', s8⟩
    exact own_ne F F2 (fun z => nomatch z) rfl
  · obtain ⟨cell, k, e1, e2, e3, -, -⟩ := E
    have hd := G.hd
    cases (show h[q.sd]? = some q.SA from hd).symm.trans e1
    obtain ⟨cS, -, -, hB, -⟩ := G
    have f' : Z.vm.findClass "[B" = some q.SA.cls := by rw [← hal.findClass]; exact hB
    obtain ⟨k1, q1, q2⟩ := Vm.findClass_spec f'
    obtain ⟨k2, q3, q4⟩ := Vm.findClass_spec e2
    cases q1.symm.trans q3
    exact absurd (q2.symm.trans q4) (by decide)
theorem own_av0 {Z : State} {h : Heap} {a : Addr} {k : ClassId} {d : Value} (A : Arv Z h a k .byte 0 [] d) : Av Z h a .byte b8 [] := by
  obtain ⟨cl, A, -, S, -⟩ := A
  refine ⟨cl, A, ?_⟩
  rw [List.map_nil]
  exact List.eq_nil_of_length_eq_zero (by rw [Array.length_toList, S]; rfl)
theorem own_elt {Z : State} {h : Heap} {a : Addr} {C : String} (E : Exa Z h a C) : a < h.size := by
  obtain ⟨cell, k, e1, -⟩ := E
  exact (Array.getElem?_eq_some_iff.mp e1).1
def QT (Z : State) (a : Addr) (cs : List Nat) (h0 : Heap) (n0 : Nat) (v : Option Value) (h : Heap) (L : List Loc) : Prop := v = none ∧ Fr n0 L ∧ Keep h0 h [a] ∧ Str Z h a cs
theorem d3_0 : decode jdk_42_method_149_code 0 = .ok (.aload_n 0, 1) := by decide +kernel
theorem d3_1 : decode jdk_42_method_149_code 1 = .ok (.invokespecial 1, 3) := by decide +kernel
theorem d3_4 : decode jdk_42_method_149_code 4 = .ok (.iload_n 3, 1) := by decide +kernel
theorem d3_5 : decode jdk_42_method_149_code 5 = .ok (.ifCond .ne 22, 3) := by decide +kernel
theorem d3_8 : decode jdk_42_method_149_code 8 = .ok (.aload_n 0, 1) := by decide +kernel
theorem d3_9 : decode jdk_42_method_149_code 9 = .ok (.ldc 7, 2) := by decide +kernel
theorem d3_11 : decode jdk_42_method_149_code 11 = .ok (.getfield 9, 3) := by decide +kernel
theorem d3_14 : decode jdk_42_method_149_code 14 = .ok (.putfield 9, 3) := by decide +kernel
theorem d3_17 : decode jdk_42_method_149_code 17 = .ok (.aload_n 0, 1) := by decide +kernel
theorem d3_18 : decode jdk_42_method_149_code 18 = .ok (.ldc 7, 2) := by decide +kernel
theorem d3_20 : decode jdk_42_method_149_code 20 = .ok (.getfield 15, 3) := by decide +kernel
theorem d3_23 : decode jdk_42_method_149_code 23 = .ok (.putfield 15, 3) := by decide +kernel
theorem d3_26 : decode jdk_42_method_149_code 26 = .ok (.return_, 1) := by decide +kernel
theorem pn_3 : plainName "java/lang/String" = true := by first | (simp [plainName, overriddenIn]; done) | decide +kernel
theorem ef_3 (m : MethodId) (x0 : Addr) (x1 : Addr) (x2 : Int32) (x3 : Int32) : entryFrame m #[(.ref x0), (.ref x1), (.int x2), (.int x3), .null] 6 = mkF m 0 #[.val (.ref x0), .val (.ref x1), .val (.int x2), .val (.int x3), .val .null, .unset] [] := by first | (simp [entryFrame, mkF, argsToLocals, Value.category]; done) | rfl
set_option maxRecDepth 65536 in
set_option maxHeartbeats 40000000 in
theorem rm3e (l : Launch) (Z : State) (a0 : Array Value) (hw : ∀ d ∈ tables_1, d.before a0 Z = true) (ws : List Jvm.Cond) (a1 : Addr) (a2 : Addr) (u_coder_a1 : Value) (h0 : Heap) (n0 : Nat) (Z0 : n0 ≤ h0.size) (E_a1 : Exa Z h0 a1 "java/lang/String") (F_value_a1 : Fld Z h0 a1 "java/lang/String" "value" "[B" .null) (g_a1 : n0 ≤ a1) (F_coder_a1 : Fld Z h0 a1 "java/lang/String" "coder" "B" u_coder_a1) :
    MetFree l (⟨"java/lang/String", "<init>", "([CIILjava/lang/Void;)V"⟩ : MethodName) (head1 (Jvm.Cond.code (⟨"java/lang/String", "<init>", "([CIILjava/lang/Void;)V"⟩ : MethodName) jdk_42_method_149_code 6 none :: ws) ({ frames := 4, cells := 4, slots := 48, locals := 57 } : Room)) (fun a U => a = #[(.ref a1), (.ref a2), (.int (0 : Int32)), (.int (0 : Int32)), .null] ∧ Z.Warmed39 U.vm ∧ U.heap = h0 ∧ CHv Z ELs U.vm h0) (fun _ _ _ _ _ => True) (fun _ U o U' => ∃ v L, o = .returned v ∧ QT Z a1 [] h0 n0 v U'.heap L ∧ CHr Z ELs U.vm U.heap U'.vm U'.heap ∧ ReturnedEndW U o U' L ({ frames := 4, cells := 4, slots := 48, locals := 57 } : Room).cells ({ frames := 4, cells := 4, slots := 48, locals := 57 } : Room).slots) := by
  refine MetFree.of_bodySF (plainFor_of_name pn_3) hisR ?_
  intro p e s m args below meth c s₁ Bd hml0 hP hK
  obtain ⟨rfl, hZ, hh, hCH⟩ := hP
  have hEL := own_ew hw
  have hx := Bd.exec
  have hby := Bd.bytes
  have hml : c.maxLocals = 6 := hml0
  have hown : s.vm.findClass "java/lang/String" = some m.cls := findClass_of_methodNamed Bd.named
  have hnm := (name_of_methodNamed Bd.named Bd.method).1
  have X0 : Stand p l e ({ frames := 4, cells := 4, slots := 48, locals := 57 } : Room) s m #[(.ref a1), (.ref a2), (.int (0 : Int32)), (.int (0 : Int32)), .null] below meth c s₁ [] 0 0 := Stand.of_body Bd
  have e0 : s₁.heap = h0 := by rw [← hh, Bd.state]; rfl
  have N0 := Fr.nil n0
  have pre0 : ∀ t, Steps p.tables e below (s₁.setTop (mkF m 0 #[.val (.ref a1), .val (.ref a2), .val (.int (0 : Int32)), .val (.int (0 : Int32)), .val .null, .unset] [])) t → Steps p.tables e below (s₁.setTop (entryFrame m #[(.ref a1), (.ref a2), (.int (0 : Int32)), (.int (0 : Int32)), .null] 6)) t := fun t_ k_ => castTop (ef_3 m a1 a2 (0 : Int32) (0 : Int32)) k_
  obtain ⟨T5, X5, e5, st5⟩ := initO X0 hx hZ hown (hw _ (List.mem_of_getElem? (i := 17) rfl)) (hw _ (List.mem_of_getElem? (i := 18) rfl)) (hw _ (List.mem_of_getElem? (i := 19) rfl)) e0 (g := (mkF m 1 #[.val (.ref a1), .val (.ref a2), .val (.int (0 : Int32)), .val (.int (0 : Int32)), .val .null, .unset] [(.ref a1)])) rfl (by rw [hml]; rfl) rfl (hb hby d3_1) (by decide) (W := 0) (by show 2 * 0 + _ ≤ _; exact Nat.le_of_eq rfl) (by decide)
  obtain ⟨a6, T6, h6, j6, b6, kb6, X6, e6, E6, hS6, hk6, hZ, hown, Ex6, Fc6, Fv6, Av6, -, -, hC6, -, hsf6, st6⟩ := ldcCH (s := s) (vm0 := s.vm) (EL := ELs) X5 hx hZ hown (hw _ (List.mem_of_getElem? (i := 20) rfl)) (own_wS hw) e5 ((State.WarmedH.refl s).since 0) (Nat.zero_le _) hEL (List.mem_singleton.mpr rfl) hCH (vs := []) (z := 0) ⟨by intro x hx; simp at hx, by simp⟩ (by decide) rfl (g := (mkF m 9 #[.val (.ref a1), .val (.ref a2), .val (.int (0 : Int32)), .val (.int (0 : Int32)), .val .null, .unset] [(.ref a1)])) rfl (hb hby d3_9) (n := 0) (by decide) (by decide) (by decide) (by decide)
  obtain ⟨T8, X8, e8, st8⟩ := getF X6 hx hZ hown (host := "") (Or.inl (hw _ (List.mem_of_getElem? (i := 25) rfl))) Via.refl e6 Fv6 (g := (mkF m 11 #[.val (.ref a1), .val (.ref a2), .val (.int (0 : Int32)), .val (.int (0 : Int32)), .val .null, .unset] [(.ref a6), (.ref a1)])) rfl rfl (hb hby d3_11)
  obtain ⟨T9, h9, X9, e9, W9, st9⟩ := putF X8 hx hZ hown (host := "") (Or.inl (hw _ (List.mem_of_getElem? (i := 25) rfl))) Via.refl e8 (F_value_a1.ext E6) (E_a1.ext E6) (Or.inr ⟨(hw _ (List.mem_of_getElem? (i := 21) rfl)), rfl, hnm⟩) (hw _ (List.mem_of_getElem? (i := 7) rfl)) (ty := (.array .byte)) (by decide) rfl rfl (g := (mkF m 14 #[.val (.ref a1), .val (.ref a2), .val (.int (0 : Int32)), .val (.int (0 : Int32)), .val .null, .unset] [(.ref b6), (.ref a1)])) rfl rfl (hb hby d3_14)
  have hS9 : Safe Z ELs T6.vm h6 a1 := own_safe hZ.alike (E_a1.ext E6) (F_value_a1.ext E6)
  have hC9 : CHr Z ELs T6.vm h6 T6.vm h9 := CHr.wr W9 hS9 hC6.1
  have N9 := Fr.snoc X9 N0 g_a1
  have Fw9 := (F_value_a1.ext E6).same W9
  obtain ⟨a10, T10, h10, j10, b10, kb10, X10, e10, E10, hS10, hk10, hZ, hown, Ex10, Fc10, Fv10, Av10, -, -, hC10, -, hsf10, st10⟩ := ldcCH (s := s) (vm0 := T6.vm) (EL := ELs) X9 hx hZ hown (hw _ (List.mem_of_getElem? (i := 20) rfl)) (own_wS hw) e9 hS6 (Nat.le_trans hk6 hC9.2.1) hEL (List.mem_singleton.mpr rfl) hC9.1 (vs := []) (z := 0) ⟨by intro x hx; simp at hx, by simp⟩ (by decide) rfl (g := (mkF m 18 #[.val (.ref a1), .val (.ref a2), .val (.int (0 : Int32)), .val (.int (0 : Int32)), .val .null, .unset] [(.ref a1)])) rfl (hb hby d3_18) (n := 0) (by decide) (by decide) (by decide) (by decide)
  obtain ⟨T12, X12, e12, st12⟩ := getF X10 hx hZ hown (host := "") (Or.inl (hw _ (List.mem_of_getElem? (i := 26) rfl))) Via.refl e10 Fc10 (g := (mkF m 20 #[.val (.ref a1), .val (.ref a2), .val (.int (0 : Int32)), .val (.int (0 : Int32)), .val .null, .unset] [(.ref a10), (.ref a1)])) rfl rfl (hb hby d3_20)
  obtain ⟨T13, h13, X13, e13, W13, st13⟩ := putFN X12 hx hZ hown (hw _ (List.mem_of_getElem? (i := 26) rfl)) Via.refl e12 (((F_coder_a1.ext E6).other W9 (Or.inr (slot_ne (Or.inr (hw _ (List.mem_of_getElem? (i := 22) rfl))) (Or.inr (hw _ (List.mem_of_getElem? (i := 21) rfl))) (by decide) (t := .byte) (t' := (.array .byte)) (by decide) (by decide)))).ext E10) (((E_a1.ext E6).wr W9).ext E10) (Or.inr ⟨(hw _ (List.mem_of_getElem? (i := 22) rfl)), rfl, hnm⟩) (hw _ (List.mem_of_getElem? (i := 7) rfl)) (ty := .byte) (v' := (.int (nar .byte (0 : Int32)))) (by decide) rfl (fits_nar_byte _) (g := (mkF m 23 #[.val (.ref a1), .val (.ref a2), .val (.int (0 : Int32)), .val (.int (0 : Int32)), .val .null, .unset] [(.int (0 : Int32)), (.ref a1)])) rfl rfl (hb hby d3_23)
  have hS13 : Safe Z ELs T10.vm h10 a1 := hC10.safe (Nat.lt_of_lt_of_le (own_elt (E_a1.ext E6)) hC9.2.1) (Safe.wr W9 hS9 hC6.1 hS9)
  have hC13 : CHr Z ELs T10.vm h10 T10.vm h13 := CHr.wr W13 hS13 hC10.1
  have N13 := Fr.snoc X13 N9 g_a1
  have Fw13 := (((F_coder_a1.ext E6).other W9 (Or.inr (slot_ne (Or.inr (hw _ (List.mem_of_getElem? (i := 22) rfl))) (Or.inr (hw _ (List.mem_of_getElem? (i := 21) rfl))) (by decide) (t := .byte) (t' := (.array .byte)) (by decide) (by decide)))).ext E10).same W13
  obtain ⟨fs, hr, hrun, hended, hend⟩ := X13.leaveW hS10 (by rw [e13]; exact Nat.le_trans hk10 hC13.2.1) (v := none) (fun _ => rfl)
  refine ⟨_, _, pre0 _ ?_, hrun, hended, _, _, rfl, ?_, ?_, hend.1, hend.2.1, hend.2.2.1, hend.2.2.2.mono (by decide) (by decide)⟩
  -- 4. STEPS
  · show Steps p.tables e below (s₁.setTop (mkF m 0 #[.val (.ref a1), .val (.ref a2), .val (.int (0 : Int32)), .val (.int (0 : Int32)), .val .null, .unset] [])) _
    refine XS.aloadN X0.here hx rfl (hb hby d3_0) rfl rfl ?_
    refine st5 _ ?_
    refine XS.iloadN X5.here hx rfl (hb hby d3_4) rfl ?_
    refine XS.ifNo X5.here hx rfl (hb hby d3_5) rfl ((if0 _ _).trans (teq (rfl : (0 : Int32) = 0)).2) ?_
    refine XS.aloadN X5.here hx rfl (hb hby d3_8) rfl rfl ?_
    refine st6 _ ?_
    refine st8 _ ?_
    show Steps p.tables e below (T8.setTop (mkF m 14 #[.val (.ref a1), .val (.ref a2), .val (.int (0 : Int32)), .val (.int (0 : Int32)), .val .null, .unset] [(.ref b6), (.ref a1)])) _
    refine st9 _ ?_
    refine XS.aloadN X9.here hx rfl (hb hby d3_17) rfl rfl ?_
    refine st10 _ ?_
    refine st12 _ ?_
    refine st13 _ ?_
    show Steps p.tables e below (T13.setTop (mkF m 26 #[.val (.ref a1), .val (.ref a2), .val (.int (0 : Int32)), .val (.int (0 : Int32)), .val .null, .unset] [])) _
    exact X13.returnOut hx Bd.returns (hb hby d3_26) hr
  · show QT Z a1 [] h0 n0 _ T13.heap _
    rw [e13]
    have KK : Keep h6 h13 [a1] := ((((Keep.refl h6 [a1]).wr W9 (Or.inl (List.mem_singleton.mpr rfl))).ext E10).wr W13 (Or.inl (List.mem_singleton.mpr rfl)))
    exact ⟨rfl, N13, (((((Keep.refl h0 [a1]).ext E6).wr W9 (Or.inl (List.mem_singleton.mpr rfl))).ext E10).wr W13 (Or.inl (List.mem_singleton.mpr rfl))), ((((E_a1.ext E6).wr W9).ext E10).wr W13), by decide, b6, _, [], ((Fw9.ext E10).other W13 (Or.inr (slot_ne (Or.inr (hw _ (List.mem_of_getElem? (i := 21) rfl))) (Or.inr (hw _ (List.mem_of_getElem? (i := 22) rfl))) (by decide) (t := (.array .byte)) (t' := .byte) (by decide) (by decide)))), Fw13, (own_av0 Av6).keep KK (by simpa using (hsf6 a1 hS9).2.symm), Or.inl ⟨by decide, rfl, fun _ q => nomatch q⟩⟩
  · have qq := (((hC6.trans hC9).trans hC10).trans hC13).trans (CHv.at X13 hZ hEL hC13.1)
    rw [hh]
    show CHr Z ELs s.vm h0 T13.vm T13.heap
    rw [e13]
    exact qq
theorem d3_27 : decode jdk_42_method_149_code 27 = .ok (.getstatic 38, 3) := by decide +kernel
theorem d3_30 : decode jdk_42_method_149_code 30 = .ok (.ifCond .eq 28, 3) := by decide +kernel
theorem d3_33 : decode jdk_42_method_149_code 33 = .ok (.aload_n 1, 1) := by decide +kernel
theorem d3_34 : decode jdk_42_method_149_code 34 = .ok (.iload_n 2, 1) := by decide +kernel
theorem d3_35 : decode jdk_42_method_149_code 35 = .ok (.iload_n 3, 1) := by decide +kernel
theorem d3_36 : decode jdk_42_method_149_code 36 = .ok (.invokestatic 177, 3) := by decide +kernel
theorem d3_39 : decode jdk_42_method_149_code 39 = .ok (.astore 5, 2) := by decide +kernel
theorem d3_41 : decode jdk_42_method_149_code 41 = .ok (.aload_n 0, 1) := by decide +kernel
theorem d3_42 : decode jdk_42_method_149_code 42 = .ok (.aload 5, 2) := by decide +kernel
theorem d3_44 : decode jdk_42_method_149_code 44 = .ok (.iload_n 3, 1) := by decide +kernel
theorem d3_45 : decode jdk_42_method_149_code 45 = .ok (.invokestatic 47, 3) := by decide +kernel
theorem d3_48 : decode jdk_42_method_149_code 48 = .ok (.putfield 15, 3) := by decide +kernel
theorem d3_51 : decode jdk_42_method_149_code 51 = .ok (.aload_n 0, 1) := by decide +kernel
theorem d3_52 : decode jdk_42_method_149_code 52 = .ok (.aload 5, 2) := by decide +kernel
theorem d3_54 : decode jdk_42_method_149_code 54 = .ok (.putfield 9, 3) := by decide +kernel
theorem d3_57 : decode jdk_42_method_149_code 57 = .ok (.return_, 1) := by decide +kernel
theorem pd_3_18 : parseMethodDescriptor "([CII)[B" = some ⟨[(.array .char), .int, .int], some (.array .byte)⟩ := by decide +kernel
theorem pd_3_20 : parseMethodDescriptor "([BI)B" = some ⟨[(.array .byte), .int], some .byte⟩ := by decide +kernel
set_option maxRecDepth 65536 in
set_option maxHeartbeats 40000000 in
theorem rm3n (l : Launch) (Z : State) (a0 : Array Value) (hw : ∀ d ∈ tables_1, d.before a0 Z = true) (ws : List Jvm.Cond) (a1 : Addr) (a2 : Addr) (cs : List Nat) (u_coder_a1 : Value) (h0 : Heap) (n0 : Nat) (Z0 : n0 ≤ h0.size) (D : Wd Z h0) (E_a1 : Exa Z h0 a1 "java/lang/String") (F_value_a1 : Fld Z h0 a1 "java/lang/String" "value" "[B" .null) (g_a1 : n0 ≤ a1) (F_coder_a1 : Fld Z h0 a1 "java/lang/String" "coder" "B" u_coder_a1) (A2 : Av Z h0 a2 .char Int32.ofNat cs) (hn : cs.length ≤ 16) (hc16 : ∀ x ∈ cs, x < 65536) (hc5 : ¬ (Int32.ofNat cs.length = (0 : Int32))) :
    MetFree l (⟨"java/lang/String", "<init>", "([CIILjava/lang/Void;)V"⟩ : MethodName) (head1 (Jvm.Cond.code (⟨"java/lang/String", "<init>", "([CIILjava/lang/Void;)V"⟩ : MethodName) jdk_42_method_149_code 6 none :: ws) ({ frames := 4, cells := 4, slots := 48, locals := 57 } : Room)) (fun a U => a = #[(.ref a1), (.ref a2), (.int (0 : Int32)), (.int (Int32.ofNat cs.length)), .null] ∧ Z.Warmed39 U.vm ∧ U.heap = h0 ∧ CHv Z ELs U.vm h0) (fun _ _ _ _ _ => True) (fun _ U o U' => ∃ v L, o = .returned v ∧ QT Z a1 cs h0 n0 v U'.heap L ∧ CHr Z ELs U.vm U.heap U'.vm U'.heap ∧ ReturnedEndW U o U' L ({ frames := 4, cells := 4, slots := 48, locals := 57 } : Room).cells ({ frames := 4, cells := 4, slots := 48, locals := 57 } : Room).slots) := by
  refine MetFree.of_bodySF (plainFor_of_name pn_3) hisR ?_
  intro p e s m args below meth c s₁ Bd hml0 hP hK
  obtain ⟨rfl, hZ, hh, hCH⟩ := hP
  have hEL := own_ew hw
  have hx := Bd.exec
  have hby := Bd.bytes
  have hml : c.maxLocals = 6 := hml0
  have hown : s.vm.findClass "java/lang/String" = some m.cls := findClass_of_methodNamed Bd.named
  have hnm := (name_of_methodNamed Bd.named Bd.method).1
  have X0 : Stand p l e ({ frames := 4, cells := 4, slots := 48, locals := 57 } : Room) s m #[(.ref a1), (.ref a2), (.int (0 : Int32)), (.int (Int32.ofNat cs.length)), .null] below meth c s₁ [] 0 0 := Stand.of_body Bd
  have e0 : s₁.heap = h0 := by rw [← hh, Bd.state]; rfl
  have N0 := Fr.nil n0
  have pre0 : ∀ t, Steps p.tables e below (s₁.setTop (mkF m 0 #[.val (.ref a1), .val (.ref a2), .val (.int (0 : Int32)), .val (.int (Int32.ofNat cs.length)), .val .null, .unset] [])) t → Steps p.tables e below (s₁.setTop (entryFrame m #[(.ref a1), (.ref a2), (.int (0 : Int32)), (.int (Int32.ofNat cs.length)), .null] 6)) t := fun t_ k_ => castTop (ef_3 m a1 a2 (0 : Int32) (Int32.ofNat cs.length)) k_
  obtain ⟨T5, X5, e5, st5⟩ := initO X0 hx hZ hown (hw _ (List.mem_of_getElem? (i := 17) rfl)) (hw _ (List.mem_of_getElem? (i := 18) rfl)) (hw _ (List.mem_of_getElem? (i := 19) rfl)) e0 (g := (mkF m 1 #[.val (.ref a1), .val (.ref a2), .val (.int (0 : Int32)), .val (.int (Int32.ofNat cs.length)), .val .null, .unset] [(.ref a1)])) rfl (by rw [hml]; rfl) rfl (hb hby d3_1) (by decide) (W := 0) (by show 2 * 0 + _ ≤ _; exact Nat.le_of_eq rfl) (by decide)
  obtain ⟨w6, hc30, S_String_COMPACT_STRINGS⟩ := D.2.1
  obtain ⟨T7, X7, e7, st7⟩ := getS2 X5 hx hZ hown (host := "") (Or.inl (hw _ (List.mem_of_getElem? (i := 41) rfl))) Via.refl e5 S_String_COMPACT_STRINGS (g := (mkF m 27 #[.val (.ref a1), .val (.ref a2), .val (.int (0 : Int32)), .val (.int (Int32.ofNat cs.length)), .val .null, .unset] [])) rfl (hb hby d3_27)
  obtain ⟨_, _, ⟨T8, L8, k8, n8⟩, -, X8, ⟨Lc8, hQ8, l8, y8, z8⟩, st8⟩ := Jvm.LawKit.callS X7 hx (y := (⟨"java/lang/StringUTF16", "compress", "([CII)[B"⟩ : MethodName)) hown (mvT hZ (hw _ (List.mem_of_getElem? (i := 92) rfl))) (mvT hZ (hw _ (List.mem_of_getElem? (i := 93) rfl))) (mvT hZ (hw _ (List.mem_of_getElem? (i := 94) rfl))) (mvT hZ (hw _ (List.mem_of_getElem? (i := 95) rfl))) (by decide) (backOf (W := 0) (cpr l Z a0 hw [] a2 cs h0 n0 Z0 D A2 hn hc16) hZ (hw _ (List.mem_of_getElem? (i := 95) rfl)) (hw _ (List.mem_of_getElem? (i := 94) rfl)) (by decide) (by decide)) (g := (mkF m 36 #[.val (.ref a1), .val (.ref a2), .val (.int (0 : Int32)), .val (.int (Int32.ofNat cs.length)), .val .null, .unset] [(.int (Int32.ofNat cs.length)), (.int (0 : Int32)), (.ref a2)])) rfl (by rw [hml]; rfl) (argsL := [(.ref a2), (.int (0 : Int32)), (.int (Int32.ofNat cs.length))]) (rest := []) (lenOf pd_3_18 rfl) rfl (by show 2 * 0 + _ ≤ _; exact Nat.le_of_eq rfl) (hb hby d3_36) (fun _ _ => ⟨rfl, e7, (by decide : 0 + 2 ≤ _), (by decide : 0 + 48 ≤ _)⟩)
  dsimp only [Pt.U, Pt.locs, Pt.cells, Pt.slots] at X8 l8 y8 z8 st8 hQ8
  subst l8 y8 z8
  obtain ⟨b8_, ns, kk, rfl, N8q, g8, z8s, K8, A8, R8⟩ := hQ8
  obtain ⟨_, _, ⟨T9, L9, k9, n9⟩, -, X9, ⟨Lc9, hQ9, l9, y9, z9⟩, st9⟩ := Jvm.LawKit.callS X8 hx (y := (⟨"java/lang/StringUTF16", "coderFromArrayLen", "([BI)B"⟩ : MethodName)) hown (mvT hZ (hw _ (List.mem_of_getElem? (i := 99) rfl))) (mvT hZ (hw _ (List.mem_of_getElem? (i := 100) rfl))) (mvT hZ (hw _ (List.mem_of_getElem? (i := 94) rfl))) (mvT hZ (hw _ (List.mem_of_getElem? (i := 101) rfl))) (by decide) (backOf (W := 1) (cod l Z a0 hw [] b8_ cs ns kk T8.heap n0 (Nat.le_trans Z0 K8.1) A8 R8 hn) hZ (hw _ (List.mem_of_getElem? (i := 101) rfl)) (hw _ (List.mem_of_getElem? (i := 94) rfl)) (by decide) (by decide)) (g := (mkF m 45 #[.val (.ref a1), .val (.ref a2), .val (.int (0 : Int32)), .val (.int (Int32.ofNat cs.length)), .val .null, .val (.ref b8_)] [(.int (Int32.ofNat cs.length)), (.ref b8_), (.ref a1)])) rfl (by rw [hml]; rfl) (argsL := [(.ref b8_), (.int (Int32.ofNat cs.length))]) (rest := [(.ref a1)]) (lenOf pd_3_20 rfl) rfl (by show 2 * 0 + _ ≤ _; exact Nat.le_of_eq rfl) (hb hby d3_45) (fun _ _ => ⟨rfl, rfl, (by decide : 0 + 2 ≤ _), (by decide : 0 + 48 ≤ _)⟩)
  dsimp only [Pt.U, Pt.locs, Pt.cells, Pt.slots] at X9 l9 y9 z9 st9 hQ9
  subst l9 y9 z9
  obtain ⟨rfl, N9q, eq9⟩ := hQ9
  have K9 : Keep h0 T9.heap [] := own_eqK K8 eq9
  have A9 : Av Z T9.heap b8_ .byte b8 ns := eq9 ▸ A8
  have E9 := E_a1.keep K9
  have Fv9 := F_value_a1.keep K9 (by simp)
  have Fc9 := F_coder_a1.keep K9 (by simp)
  have hne := own_dis2 Fv9 (fun _ q => nomatch q) A9
  have N9 := Fr.app (Fr.app N0 N8q) N9q
  obtain ⟨T10, h10, X10, e10, W10, st10⟩ := putFN X9 hx hZ hown (hw _ (List.mem_of_getElem? (i := 26) rfl)) Via.refl rfl Fc9 E9 (Or.inr ⟨(hw _ (List.mem_of_getElem? (i := 22) rfl)), rfl, hnm⟩) (hw _ (List.mem_of_getElem? (i := 7) rfl)) (ty := .byte) (v' := (.int (nar .byte kk))) (by decide) rfl (fits_nar_byte _) (g := (mkF m 48 #[.val (.ref a1), .val (.ref a2), .val (.int (0 : Int32)), .val (.int (Int32.ofNat cs.length)), .val .null, .val (.ref b8_)] [(.int kk), (.ref a1)])) rfl rfl (hb hby d3_48)
  have N10 := Fr.snoc X10 N9 g_a1
  have Fc10 := Fc9.same W10
  have Fv10 := Fv9.other W10 (Or.inr (slot_ne (Or.inr (hw _ (List.mem_of_getElem? (i := 21) rfl))) (Or.inr (hw _ (List.mem_of_getElem? (i := 22) rfl))) (by decide) (t := (.array .byte)) (t' := .byte) (by decide) (by decide)))
  obtain ⟨T11, h11, X11, e11, W11, st11⟩ := putF X10 hx hZ hown (host := "") (Or.inl (hw _ (List.mem_of_getElem? (i := 25) rfl))) Via.refl e10 Fv10 (E9.wr W10) (Or.inr ⟨(hw _ (List.mem_of_getElem? (i := 21) rfl)), rfl, hnm⟩) (hw _ (List.mem_of_getElem? (i := 7) rfl)) (ty := (.array .byte)) (by decide) rfl rfl (g := (mkF m 54 #[.val (.ref a1), .val (.ref a2), .val (.int (0 : Int32)), .val (.int (Int32.ofNat cs.length)), .val .null, .val (.ref b8_)] [(.ref b8_), (.ref a1)])) rfl rfl (hb hby d3_54)
  have N11 := Fr.snoc X11 N10 g_a1
  have K911 : Keep T9.heap h11 [a1] := (((Keep.refl T9.heap [a1]).wr W10 (Or.inl (List.mem_singleton.mpr rfl))).wr W11 (Or.inl (List.mem_singleton.mpr rfl)))
  have K11 : Keep h0 h11 [a1] := (own_kw K9 a1).trans K911 (fun x hx => Or.inl hx)
  obtain ⟨fs, hr, hrun, hended, hend⟩ := X11.leaveW ((State.WarmedH.refl s).since 0) (Nat.zero_le _) (v := none) (fun _ => rfl)
  refine ⟨_, _, pre0 _ ?_, hrun, hended, _, _, rfl, ?_, ?_, hend.1, hend.2.1, hend.2.2.1, hend.2.2.2.mono (by decide) (by decide)⟩
  -- 4. STEPS
  · show Steps p.tables e below (s₁.setTop (mkF m 0 #[.val (.ref a1), .val (.ref a2), .val (.int (0 : Int32)), .val (.int (Int32.ofNat cs.length)), .val .null, .unset] [])) _
    refine XS.aloadN X0.here hx rfl (hb hby d3_0) rfl rfl ?_
    refine st5 _ ?_
    refine XS.iloadN X5.here hx rfl (hb hby d3_4) rfl ?_
    refine XS.ifYes X5.here hx rfl (pc0 := 5) (pc' := 27) rfl (hb hby d3_5) rfl ((if0 _ _).trans (feq hc5).2) (by decide) (by decide) ?_
    refine st7 _ ?_
    refine XS.ifNo X7.here hx rfl (hb hby d3_30) rfl ((if0 _ _).trans (feq hc30).1) ?_
    refine XS.aloadN X7.here hx rfl (hb hby d3_33) rfl rfl ?_
    show Steps p.tables e below (T7.setTop (mkF m 34 #[.val (.ref a1), .val (.ref a2), .val (.int (0 : Int32)), .val (.int (Int32.ofNat cs.length)), .val .null, .unset] [(.ref a2)])) _
    refine XS.iloadN X7.here hx rfl (hb hby d3_34) rfl ?_
    refine XS.iloadN X7.here hx rfl (hb hby d3_35) rfl ?_
    refine st8 _ ?_
    refine XS.astore X8.here hx rfl (hb hby d3_39) rfl rfl (l' := #[.val (.ref a1), .val (.ref a2), .val (.int (0 : Int32)), .val (.int (Int32.ofNat cs.length)), .val .null, .val (.ref b8_)]) rfl ?_
    refine XS.aloadN X8.here hx rfl (hb hby d3_41) rfl rfl ?_
    refine XS.aload X8.here hx rfl (hb hby d3_42) rfl rfl ?_
    refine XS.iloadN X8.here hx rfl (hb hby d3_44) rfl ?_
    show Steps p.tables e below (T8.setTop (mkF m 45 #[.val (.ref a1), .val (.ref a2), .val (.int (0 : Int32)), .val (.int (Int32.ofNat cs.length)), .val .null, .val (.ref b8_)] [(.int (Int32.ofNat cs.length)), (.ref b8_), (.ref a1)])) _
    refine st9 _ ?_
    refine st10 _ ?_
    refine XS.aloadN X10.here hx rfl (hb hby d3_51) rfl rfl ?_
    refine XS.aload X10.here hx rfl (hb hby d3_52) rfl rfl ?_
    refine st11 _ ?_
    show Steps p.tables e below (T11.setTop (mkF m 57 #[.val (.ref a1), .val (.ref a2), .val (.int (0 : Int32)), .val (.int (Int32.ofNat cs.length)), .val .null, .val (.ref b8_)] [])) _
    exact X11.returnOut hx Bd.returns (hb hby d3_57) hr
  · show QT Z a1 cs h0 n0 _ T11.heap _
    rw [e11]
    exact ⟨rfl, N11, K11, (E9.wr W10).wr W11, by omega, b8_, _, ns, Fv10.same W11, Fc10.other W11 (Or.inr (slot_ne (Or.inr (hw _ (List.mem_of_getElem? (i := 22) rfl))) (Or.inr (hw _ (List.mem_of_getElem? (i := 21) rfl))) (by decide) (t := .byte) (t' := (.array .byte)) (by decide) (by decide))), A9.keep K911 (by simpa using hne.symm), own_rpn R8⟩
  · have q1 : CHr Z ELs s.vm h0 s.vm h11 := CHr.keep K11 (fun x hx => by cases List.mem_singleton.mp hx; exact own_safe hZ.alike E_a1 F_value_a1) hCH
    have qq := q1.trans (CHv.at (s := s) (vm0 := s.vm) X11 hZ hEL q1.1)
    rw [hh]
    show CHr Z ELs s.vm h0 T11.vm T11.heap
    rw [e11]
    exact qq
theorem mk3 (l : Launch) (Z : State) (a0 : Array Value) (hw : ∀ d ∈ tables_1, d.before a0 Z = true) (ws : List Jvm.Cond) (a1 : Addr) (a2 : Addr) (cs : List Nat) (u_coder_a1 : Value) (h0 : Heap) (n0 : Nat) (Z0 : n0 ≤ h0.size) (D : Wd Z h0) (E_a1 : Exa Z h0 a1 "java/lang/String") (F_value_a1 : Fld Z h0 a1 "java/lang/String" "value" "[B" .null) (g_a1 : n0 ≤ a1) (F_coder_a1 : Fld Z h0 a1 "java/lang/String" "coder" "B" u_coder_a1) (A2 : Av Z h0 a2 .char Int32.ofNat cs) (hn : cs.length ≤ 16) (hc16 : ∀ x ∈ cs, x < 65536) :
    MetFree l (⟨"java/lang/String", "<init>", "([CIILjava/lang/Void;)V"⟩ : MethodName) (head1 (Jvm.Cond.code (⟨"java/lang/String", "<init>", "([CIILjava/lang/Void;)V"⟩ : MethodName) jdk_42_method_149_code 6 none :: ws) ({ frames := 4, cells := 4, slots := 48, locals := 57 } : Room)) (fun a U => a = #[(.ref a1), (.ref a2), (.int (0 : Int32)), (.int (Int32.ofNat cs.length)), .null] ∧ Z.Warmed39 U.vm ∧ U.heap = h0 ∧ CHv Z ELs U.vm h0) (fun _ _ _ _ _ => True) (fun _ U o U' => ∃ v L, o = .returned v ∧ QT Z a1 cs h0 n0 v U'.heap L ∧ CHr Z ELs U.vm U.heap U'.vm U'.heap ∧ ReturnedEndW U o U' L ({ frames := 4, cells := 4, slots := 48, locals := 57 } : Room).cells ({ frames := 4, cells := 4, slots := 48, locals := 57 } : Room).slots) := by
  cases cs with
  | nil => exact rm3e l Z a0 hw ws a1 a2 u_coder_a1 h0 n0 Z0 E_a1 F_value_a1 g_a1 F_coder_a1
  | cons ch r => exact rm3n l Z a0 hw ws a1 a2 (ch :: r) u_coder_a1 h0 n0 Z0 D E_a1 F_value_a1 g_a1 F_coder_a1 A2 hn hc16 (own_nei (n := 0) (by simp) (by omega) (by decide))
theorem d2_0 : decode jdk_42_method_3_code 0 = .ok (.aload_n 0, 1) := by decide +kernel
theorem d2_1 : decode jdk_42_method_3_code 1 = .ok (.aload_n 1, 1) := by decide +kernel
theorem d2_2 : decode jdk_42_method_3_code 2 = .ok (.iconst 0, 1) := by decide +kernel
theorem d2_3 : decode jdk_42_method_3_code 3 = .ok (.aload_n 1, 1) := by decide +kernel
theorem d2_4 : decode jdk_42_method_3_code 4 = .ok (.arraylength, 1) := by decide +kernel
theorem d2_5 : decode jdk_42_method_3_code 5 = .ok (.aconst_null, 1) := by decide +kernel
theorem d2_6 : decode jdk_42_method_3_code 6 = .ok (.invokespecial 27, 3) := by decide +kernel
theorem d2_9 : decode jdk_42_method_3_code 9 = .ok (.return_, 1) := by decide +kernel
theorem pn_2 : plainName "java/lang/String" = true := by first | (simp [plainName, overriddenIn]; done) | decide +kernel
theorem pd_2_2 : parseMethodDescriptor "([CIILjava/lang/Void;)V" = some ⟨[(.array .char), .int, .int, (.object "java/lang/Void")], none⟩ := by decide +kernel
theorem ef_2 (m : MethodId) (x0 : Addr) (x1 : Addr) : entryFrame m #[(.ref x0), (.ref x1)] 2 = mkF m 0 #[.val (.ref x0), .val (.ref x1)] [] := by first | (simp [entryFrame, mkF, argsToLocals, Value.category]; done) | rfl
set_option maxRecDepth 65536 in
set_option maxHeartbeats 40000000 in
theorem rm2 (l : Launch) (Z : State) (a0 : Array Value) (hw : ∀ d ∈ tables_1, d.before a0 Z = true) (ws : List Jvm.Cond) (a1 : Addr) (a2 : Addr) (cs : List Nat) (u_coder_a1 : Value) (h0 : Heap) (n0 : Nat) (Z0 : n0 ≤ h0.size) (D : Wd Z h0) (E_a1 : Exa Z h0 a1 "java/lang/String") (F_value_a1 : Fld Z h0 a1 "java/lang/String" "value" "[B" .null) (g_a1 : n0 ≤ a1) (F_coder_a1 : Fld Z h0 a1 "java/lang/String" "coder" "B" u_coder_a1) (A2 : Av Z h0 a2 .char Int32.ofNat cs) (hn : cs.length ≤ 16) (hc16 : ∀ x ∈ cs, x < 65536) :
    MetFree l (⟨"java/lang/String", "<init>", "([C)V"⟩ : MethodName) (head1 (Jvm.Cond.code (⟨"java/lang/String", "<init>", "([C)V"⟩ : MethodName) jdk_42_method_3_code 2 none :: ws) ({ frames := 5, cells := 4, slots := 48, locals := 74 } : Room)) (fun a U => a = #[(.ref a1), (.ref a2)] ∧ Z.Warmed39 U.vm ∧ U.heap = h0 ∧ CHv Z ELs U.vm h0) (fun _ _ _ _ _ => True) (fun _ U o U' => ∃ v L, o = .returned v ∧ QT Z a1 cs h0 n0 v U'.heap L ∧ CHr Z ELs U.vm U.heap U'.vm U'.heap ∧ ReturnedEndW U o U' L ({ frames := 5, cells := 4, slots := 48, locals := 74 } : Room).cells ({ frames := 5, cells := 4, slots := 48, locals := 74 } : Room).slots) := by
  refine MetFree.of_bodySF (plainFor_of_name pn_2) hisR ?_
  intro p e s m args below meth c s₁ Bd hml0 hP hK
  obtain ⟨rfl, hZ, hh, hCH⟩ := hP
  have hEL := own_ew hw
  have hx := Bd.exec
  have hby := Bd.bytes
  have hml : c.maxLocals = 2 := hml0
  have hown : s.vm.findClass "java/lang/String" = some m.cls := findClass_of_methodNamed Bd.named
  have hnm := (name_of_methodNamed Bd.named Bd.method).1
  have X0 : Stand p l e ({ frames := 5, cells := 4, slots := 48, locals := 74 } : Room) s m #[(.ref a1), (.ref a2)] below meth c s₁ [] 0 0 := Stand.of_body Bd
  have e0 : s₁.heap = h0 := by rw [← hh, Bd.state]; rfl
  have N0 := Fr.nil n0
  have pre0 : ∀ t, Steps p.tables e below (s₁.setTop (mkF m 0 #[.val (.ref a1), .val (.ref a2)] [])) t → Steps p.tables e below (s₁.setTop (entryFrame m #[(.ref a1), (.ref a2)] 2)) t := fun t_ k_ => castTop (ef_2 m a1 a2) k_
  have A2c := A2
  obtain ⟨cl_a2, Ar_a2, q_a2⟩ := A2c
  have S_a2 := (own_avz q_a2 (by omega)).1
  have N_a2 := (own_avz q_a2 (by omega)).2
  obtain ⟨_, _, ⟨T3, L3, k3, n3⟩, -, X3, hS3, hg3, ⟨Lc3, hQ3, l3, y3, z3, hC3⟩, st3⟩ := X0.specialBackS hx (y := (⟨"java/lang/String", "<init>", "([CIILjava/lang/Void;)V"⟩ : MethodName)) rfl hown (mvT hZ (hw _ (List.mem_of_getElem? (i := 13) rfl))) (mvT hZ (hw _ (List.mem_of_getElem? (i := 14) rfl))) (mvT hZ (hw _ (List.mem_of_getElem? (i := 16) rfl))) (by decide) (backOfSH (s := s) (vm0 := s.vm) (W := 0) (mk3 l Z a0 hw [] a1 a2 cs u_coder_a1 h0 n0 Z0 D E_a1 F_value_a1 g_a1 F_coder_a1 A2 hn hc16) hZ (hw _ (List.mem_of_getElem? (i := 16) rfl)) (hw _ (List.mem_of_getElem? (i := 8) rfl)) (by decide) (by decide) hEL hCH) (g := (mkF m 6 #[.val (.ref a1), .val (.ref a2)] [.null, (.int (Int32.ofNat cs.length)), (.int (0 : Int32)), (.ref a2), (.ref a1)])) rfl (by rw [hml]; rfl) (Steps.refl _) (a := a1) (argsL := [(.ref a2), (.int (0 : Int32)), (.int (Int32.ofNat cs.length)), .null]) (rest := []) (lenOf pd_2_2 rfl) rfl (by show 2 * 0 + _ ≤ _; exact Nat.le_of_eq rfl) (hb hby d2_6) (fun _ _ => ⟨rfl, e0, (by decide : 0 + 4 ≤ _), (by decide : 0 + 48 ≤ _)⟩)
  dsimp only [Pt.U, Pt.locs, Pt.cells, Pt.slots] at X3 hS3 hg3 hC3 l3 y3 z3 st3 hQ3
  subst l3 y3 z3
  obtain ⟨rfl, N3q, K3, S3⟩ := hQ3
  have N3 := Fr.app N0 N3q
  obtain ⟨fs, hr, hrun, hended, hend⟩ := X3.leaveW hS3 (Nat.le_refl _) (v := none) (fun _ => rfl)
  refine ⟨_, _, pre0 _ ?_, hrun, hended, _, _, rfl, ?_, ?_, hend.1, hend.2.1, hend.2.2.1, hend.2.2.2.mono (by decide) (by decide)⟩
  -- 4. STEPS
  · show Steps p.tables e below (s₁.setTop (mkF m 0 #[.val (.ref a1), .val (.ref a2)] [])) _
    refine XS.aloadN X0.here hx rfl (hb hby d2_0) rfl rfl ?_
    refine XS.aloadN X0.here hx rfl (hb hby d2_1) rfl rfl ?_
    refine XS.iconst X0.here hx rfl (hb hby d2_2) ?_
    refine XS.aloadN X0.here hx rfl (hb hby d2_3) rfl rfl ?_
    show Steps p.tables e below (s₁.setTop (mkF m 4 #[.val (.ref a1), .val (.ref a2)] [(.ref a2), (.int (0 : Int32)), (.ref a2), (.ref a1)])) _
    refine X0.arraylength hx (by rw [e0]; exact Ar_a2.1) (State.isArrayOf_alike hZ.alike Ar_a2.2.1) (g := (mkF m 4 #[.val (.ref a1), .val (.ref a2)] [(.ref a2), (.int (0 : Int32)), (.ref a2), (.ref a1)])) rfl rfl (hb hby d2_4) _ ?_
    rw [len_of S_a2 N_a2]
    refine XS.aconstNull X0.here hx rfl (hb hby d2_5) ?_
    refine st3.trans ?_
    show Steps p.tables e below (T3.setTop (mkF m 9 #[.val (.ref a1), .val (.ref a2)] [])) _
    exact X3.returnOut hx Bd.returns (hb hby d2_9) hr
  · show QT Z a1 cs h0 n0 _ T3.heap _
    exact ⟨rfl, N3, K3, S3⟩
  · rw [hh]
    exact hC3
theorem d1_0 : decode method_4_code 0 = .ok (.iload_n 0, 1) := by decide +kernel
theorem d1_1 : decode method_4_code 1 = .ok (.ifCond .ne 14, 3) := by decide +kernel
theorem d1_4 : decode method_4_code 4 = .ok (.new 13, 3) := by decide +kernel
theorem d1_7 : decode method_4_code 7 = .ok (.dup, 1) := by decide +kernel
theorem d1_8 : decode method_4_code 8 = .ok (.iconst 0, 1) := by decide +kernel
theorem d1_9 : decode method_4_code 9 = .ok (.newarray .char, 2) := by decide +kernel
theorem d1_11 : decode method_4_code 11 = .ok (.invokespecial 15, 3) := by decide +kernel
theorem d1_14 : decode method_4_code 14 = .ok (.areturn, 1) := by decide +kernel
theorem pn_1 : plainName "com/example/gumzo/gumzo/core/TaggedBase64EncodePinLaw" = true := by first | (simp [plainName, overriddenIn]; done) | decide +kernel
theorem pd_1_1 : parseMethodDescriptor "([C)V" = some ⟨[(.array .char)], none⟩ := by decide +kernel
theorem ef_1 (m : MethodId) (x0 : Int32) (x1 : Int32) (x2 : Int32) : entryFrame m #[(.int x0), (.int x1), (.int x2)] 3 = mkF m 0 #[.val (.int x0), .val (.int x1), .val (.int x2)] [] := by first | (simp [entryFrame, mkF, argsToLocals, Value.category]; done) | rfl
set_option maxRecDepth 65536 in
set_option maxHeartbeats 40000000 in
theorem rm1z (l : Launch) (Z : State) (a0 : Array Value) (hw : ∀ d ∈ tables_1, d.before a0 Z = true) (ws : List Jvm.Cond) (x y : Nat) (h0 : Heap) (n0 : Nat) (Z0 : n0 ≤ h0.size) (D : Wd Z h0) :
    MetFree l (⟨"com/example/gumzo/gumzo/core/TaggedBase64EncodePinLaw", "str", "(ICC)Ljava/lang/String;"⟩ : MethodName) (head1 (Jvm.Cond.code (⟨"com/example/gumzo/gumzo/core/TaggedBase64EncodePinLaw", "str", "(ICC)Ljava/lang/String;"⟩ : MethodName) method_4_code 3 (some (.object "java/lang/String")) :: ws) ({ frames := 6, cells := 6, slots := 54, locals := 88 } : Room)) (fun a U => a = #[(.int (0 : Int32)), (.int (Int32.ofNat x)), (.int (Int32.ofNat y))] ∧ Z.Warmed39 U.vm ∧ U.heap = h0 ∧ CHv Z ELs U.vm h0) (fun _ _ _ _ _ => True) (fun _ U o U' => ∃ v L, o = .returned v ∧ QS Z [] h0 n0 v U'.heap L ∧ CHr Z ELs U.vm U.heap U'.vm U'.heap ∧ ReturnedEndW U o U' L ({ frames := 6, cells := 6, slots := 54, locals := 88 } : Room).cells ({ frames := 6, cells := 6, slots := 54, locals := 88 } : Room).slots) := by
  refine MetFree.of_bodySF (plainFor_of_name pn_1) hisR ?_
  intro p e s m args below meth c s₁ Bd hml0 hP hK
  obtain ⟨rfl, hZ, hh, hCH⟩ := hP
  have hEL := own_ew hw
  have hx := Bd.exec
  have hby := Bd.bytes
  have hml : c.maxLocals = 3 := hml0
  have hown : s.vm.findClass "com/example/gumzo/gumzo/core/TaggedBase64EncodePinLaw" = some m.cls := findClass_of_methodNamed Bd.named
  have hnm := (name_of_methodNamed Bd.named Bd.method).1
  have X0 : Stand p l e ({ frames := 6, cells := 6, slots := 54, locals := 88 } : Room) s m #[(.int (0 : Int32)), (.int (Int32.ofNat x)), (.int (Int32.ofNat y))] below meth c s₁ [] 0 0 := Stand.of_body Bd
  have e0 : s₁.heap = h0 := by rw [← hh, Bd.state]; rfl
  have N0 := Fr.nil n0
  have pre0 : ∀ t, Steps p.tables e below (s₁.setTop (mkF m 0 #[.val (.int (0 : Int32)), .val (.int (Int32.ofNat x)), .val (.int (Int32.ofNat y))] [])) t → Steps p.tables e below (s₁.setTop (entryFrame m #[(.int (0 : Int32)), (.int (Int32.ofNat x)), (.int (Int32.ofNat y))] 3)) t := fun t_ k_ => castTop (ef_1 m (0 : Int32) (Int32.ofNat x) (Int32.ofNat y)) k_
  obtain ⟨T4, h4, X4, e4, E4, A4, D4, -, st4⟩ := newO X0 hx hZ hown (hw _ (List.mem_of_getElem? (i := 6) rfl)) (hw _ (List.mem_of_getElem? (i := 7) rfl)) (hw _ (List.mem_of_getElem? (i := 8) rfl)) e0 (g := (mkF m 4 #[.val (.int (0 : Int32)), .val (.int (Int32.ofNat x)), .val (.int (Int32.ofNat y))] [])) rfl (hb hby d1_4) (by decide) (by decide)
  obtain ⟨b4, g4⟩ : ∃ z, z = h0.size := ⟨_, rfl⟩
  rw [← g4] at A4 D4 st4
  have F_value_b4 : Fld Z h4 b4 "java/lang/String" "value" "[B" .null := D4 (Or.inr (hw _ (List.mem_of_getElem? (i := 21) rfl))) (ty := (.array .byte)) (by decide)
  have F_coder_b4 : Fld Z h4 b4 "java/lang/String" "coder" "B" (.int (0 : Int32)) := D4 (Or.inr (hw _ (List.mem_of_getElem? (i := 22) rfl))) (ty := .byte) (by decide)
  have E_b4 := A4
  have K4 : Keep h0 h4 [] := (Keep.refl h0 []).ext E4
  have g_b4 : n0 ≤ b4 := by rw [g4]; exact Z0
  have sz4 : h0.size ≤ b4 := by rw [g4]; exact Nat.le_refl _
  obtain ⟨T5, h5, b5, X5, e5, E5, g_b5, sz_b5, A5, st5⟩ := newPv (a0 := a0) X4 hx hZ e4 (Nat.le_trans Z0 K4.1) (g := (mkF m 9 #[.val (.int (0 : Int32)), .val (.int (Int32.ofNat x)), .val (.int (Int32.ofNat y))] [(.int (0 : Int32)), (.ref b4), (.ref b4)])) rfl (hb hby d1_9) rfl (hw _ (List.mem_of_getElem? (i := 9) rfl)) 0 (by decide) Int32.ofNat own_fc rfl rfl (cap := 0) (by decide) (by decide) (by decide) (by decide)
  have K5 : Keep h0 h5 [] := K4.ext E5
  obtain ⟨_, _, ⟨T6, L6, k6, n6⟩, -, X6, hS6, hg6, ⟨Lc6, hQ6, l6, y6, z6, hC6⟩, st6⟩ := X5.specialBackS hx (y := (⟨"java/lang/String", "<init>", "([C)V"⟩ : MethodName)) rfl hown (mvT hZ (hw _ (List.mem_of_getElem? (i := 10) rfl))) (mvT hZ (hw _ (List.mem_of_getElem? (i := 11) rfl))) (mvT hZ (hw _ (List.mem_of_getElem? (i := 12) rfl))) (by decide) (backOfSH (s := s) (vm0 := s.vm) (W := 1) (rm2 l Z a0 hw [] b4 b5 [] _ h5 n0 (Nat.le_trans Z0 K5.1) (D.keep K5 own_ns0) (E_b4.ext E5) (F_value_b4.ext E5) g_b4 (F_coder_b4.ext E5) A5 (by decide) (fun _ q => nomatch q)) hZ (hw _ (List.mem_of_getElem? (i := 12) rfl)) (hw _ (List.mem_of_getElem? (i := 8) rfl)) (by decide) (by decide) hEL (CHv.keep K5 (fun _ q => nomatch q) hCH)) (g := (mkF m 11 #[.val (.int (0 : Int32)), .val (.int (Int32.ofNat x)), .val (.int (Int32.ofNat y))] [(.ref b5), (.ref b4), (.ref b4)])) rfl (by rw [hml]; rfl) (Steps.refl _) (a := b4) (argsL := [(.ref b5)]) (rest := [(.ref b4)]) (lenOf pd_1_1 rfl) rfl (by show 2 * 0 + _ ≤ _; exact Nat.le_of_eq rfl) (hb hby d1_11) (fun _ _ => ⟨rfl, e5, (by decide : 2 + 4 ≤ _), (by decide : 4 + 48 ≤ _)⟩)
  dsimp only [Pt.U, Pt.locs, Pt.cells, Pt.slots] at X6 hS6 hg6 hC6 l6 y6 z6 st6 hQ6
  subst l6 y6 z6
  obtain ⟨rfl, N6q, K6, S6⟩ := hQ6
  have N6 := Fr.app N0 N6q
  obtain ⟨fs, hr, hrun, hended, hend⟩ := X6.leaveW hS6 (Nat.le_refl _) (v := some (.ref b4)) (fun h => by rw [Bd.returns] at h; cases h)
  refine ⟨_, _, pre0 _ ?_, hrun, hended, _, _, rfl, ?_, ?_, hend.1, hend.2.1, hend.2.2.1, hend.2.2.2.mono (by decide) (by decide)⟩
  -- 4. STEPS
  · show Steps p.tables e below (s₁.setTop (mkF m 0 #[.val (.int (0 : Int32)), .val (.int (Int32.ofNat x)), .val (.int (Int32.ofNat y))] [])) _
    refine XS.iloadN X0.here hx rfl (hb hby d1_0) rfl ?_
    refine XS.ifNo X0.here hx rfl (hb hby d1_1) rfl ((if0 _ _).trans (teq (rfl : (0 : Int32) = 0)).2) ?_
    refine st4 _ ?_
    refine XS.dup X4.here hx rfl (hb hby d1_7) rfl rfl ?_
    refine XS.iconst X4.here hx rfl (hb hby d1_8) ?_
    refine st5 _ ?_
    refine st6.trans ?_
    show Steps p.tables e below (T6.setTop (mkF m 14 #[.val (.int (0 : Int32)), .val (.int (Int32.ofNat x)), .val (.int (Int32.ofNat y))] [(.ref b4)])) _
    jvm_step X6.here [X6.here.top, hx, (hb hby d1_14), X6.method', Bd.returns, Value.isRef, FieldType.isReference]
    first | (intro acts; rw [hr _ acts rfl rfl rfl]) | rw [hr _ _ rfl rfl rfl]
    exact Steps.refl _
  · show QS Z [] h0 n0 _ T6.heap _
    exact ⟨b4, rfl, N6, g_b4, sz4, own_kn K5 K6 sz4, S6⟩
  · rw [hh]
    exact (CHr.keep K5 (fun _ q => nomatch q) hCH).trans hC6
theorem d1_15 : decode method_4_code 15 = .ok (.iload_n 0, 1) := by decide +kernel
theorem d1_16 : decode method_4_code 16 = .ok (.iconst 1, 1) := by decide +kernel
theorem d1_17 : decode method_4_code 17 = .ok (.if_icmp .ne 8, 3) := by decide +kernel
theorem d1_20 : decode method_4_code 20 = .ok (.iload_n 1, 1) := by decide +kernel
theorem d1_21 : decode method_4_code 21 = .ok (.invokestatic 18, 3) := by decide +kernel
theorem d1_24 : decode method_4_code 24 = .ok (.areturn, 1) := by decide +kernel
theorem pd_1_30 : parseMethodDescriptor "(C)Ljava/lang/String;" = some ⟨[.char], some (.object "java/lang/String")⟩ := by decide +kernel
set_option maxRecDepth 65536 in
set_option maxHeartbeats 40000000 in
theorem rm1o (l : Launch) (Z : State) (a0 : Array Value) (hw : ∀ d ∈ tables_1, d.before a0 Z = true) (ws : List Jvm.Cond) (x y : Nat) (h0 : Heap) (n0 : Nat) (Z0 : n0 ≤ h0.size) (D : Wd Z h0) (hx16 : x < 65536) :
    MetFree l (⟨"com/example/gumzo/gumzo/core/TaggedBase64EncodePinLaw", "str", "(ICC)Ljava/lang/String;"⟩ : MethodName) (head1 (Jvm.Cond.code (⟨"com/example/gumzo/gumzo/core/TaggedBase64EncodePinLaw", "str", "(ICC)Ljava/lang/String;"⟩ : MethodName) method_4_code 3 (some (.object "java/lang/String")) :: ws) ({ frames := 6, cells := 6, slots := 54, locals := 88 } : Room)) (fun a U => a = #[(.int (1 : Int32)), (.int (Int32.ofNat x)), (.int (Int32.ofNat y))] ∧ Z.Warmed39 U.vm ∧ U.heap = h0 ∧ CHv Z ELs U.vm h0) (fun _ _ _ _ _ => True) (fun _ U o U' => ∃ v L, o = .returned v ∧ QS Z [x] h0 n0 v U'.heap L ∧ CHr Z ELs U.vm U.heap U'.vm U'.heap ∧ ReturnedEndW U o U' L ({ frames := 6, cells := 6, slots := 54, locals := 88 } : Room).cells ({ frames := 6, cells := 6, slots := 54, locals := 88 } : Room).slots) := by
  refine MetFree.of_bodySF (plainFor_of_name pn_1) hisR ?_
  intro p e s m args below meth c s₁ Bd hml0 hP hK
  obtain ⟨rfl, hZ, hh, hCH⟩ := hP
  have hEL := own_ew hw
  have hx := Bd.exec
  have hby := Bd.bytes
  have hml : c.maxLocals = 3 := hml0
  have hown : s.vm.findClass "com/example/gumzo/gumzo/core/TaggedBase64EncodePinLaw" = some m.cls := findClass_of_methodNamed Bd.named
  have hnm := (name_of_methodNamed Bd.named Bd.method).1
  have X0 : Stand p l e ({ frames := 6, cells := 6, slots := 54, locals := 88 } : Room) s m #[(.int (1 : Int32)), (.int (Int32.ofNat x)), (.int (Int32.ofNat y))] below meth c s₁ [] 0 0 := Stand.of_body Bd
  have e0 : s₁.heap = h0 := by rw [← hh, Bd.state]; rfl
  have N0 := Fr.nil n0
  have pre0 : ∀ t, Steps p.tables e below (s₁.setTop (mkF m 0 #[.val (.int (1 : Int32)), .val (.int (Int32.ofNat x)), .val (.int (Int32.ofNat y))] [])) t → Steps p.tables e below (s₁.setTop (entryFrame m #[(.int (1 : Int32)), (.int (Int32.ofNat x)), (.int (Int32.ofNat y))] 3)) t := fun t_ k_ => castTop (ef_1 m (1 : Int32) (Int32.ofNat x) (Int32.ofNat y)) k_
  obtain ⟨_, _, ⟨T4, L4, k4, n4⟩, -, X4, ⟨Lc4, hQ4, l4, y4, z4⟩, st4⟩ := Jvm.LawKit.callS X0 hx (y := (⟨"java/lang/String", "valueOf", "(C)Ljava/lang/String;"⟩ : MethodName)) hown (mvT hZ (hw _ (List.mem_of_getElem? (i := 152) rfl))) (mvT hZ (hw _ (List.mem_of_getElem? (i := 153) rfl))) (mvT hZ (hw _ (List.mem_of_getElem? (i := 8) rfl))) (mvT hZ (hw _ (List.mem_of_getElem? (i := 154) rfl))) (by decide) (backOf (W := 0) (vof l Z a0 hw [] x h0 n0 Z0 D hx16) hZ (hw _ (List.mem_of_getElem? (i := 154) rfl)) (hw _ (List.mem_of_getElem? (i := 8) rfl)) (by decide) (by decide)) (g := (mkF m 21 #[.val (.int (1 : Int32)), .val (.int (Int32.ofNat x)), .val (.int (Int32.ofNat y))] [(.int (Int32.ofNat x))])) rfl (by rw [hml]; rfl) (argsL := [(.int (Int32.ofNat x))]) (rest := []) (lenOf pd_1_30 rfl) rfl (by show 2 * 0 + _ ≤ _; exact Nat.le_of_eq rfl) (hb hby d1_21) (fun _ _ => ⟨rfl, e0, (by decide : 0 + 2 ≤ _), (by decide : 0 + 6 ≤ _)⟩)
  dsimp only [Pt.U, Pt.locs, Pt.cells, Pt.slots] at X4 l4 y4 z4 st4 hQ4
  subst l4 y4 z4
  obtain ⟨b4, rfl, N4q, g4, z4s, K4, S4⟩ := hQ4
  have N4 := Fr.app N0 N4q
  obtain ⟨fs, hr, hrun, hended, hend⟩ := X4.leaveW ((State.WarmedH.refl s).since 0) (Nat.zero_le _) (v := some (.ref b4)) (fun h => by rw [Bd.returns] at h; cases h)
  refine ⟨_, _, pre0 _ ?_, hrun, hended, _, _, rfl, ?_, ?_, hend.1, hend.2.1, hend.2.2.1, hend.2.2.2.mono (by decide) (by decide)⟩
  -- 4. STEPS
  · show Steps p.tables e below (s₁.setTop (mkF m 0 #[.val (.int (1 : Int32)), .val (.int (Int32.ofNat x)), .val (.int (Int32.ofNat y))] [])) _
    refine XS.iloadN X0.here hx rfl (hb hby d1_0) rfl ?_
    refine XS.ifYes X0.here hx rfl (pc0 := 1) (pc' := 15) rfl (hb hby d1_1) rfl ((if0 _ _).trans (feq (by decide : ¬ ((1 : Int32) = 0))).2) (by decide) (by decide) ?_
    refine XS.iloadN X0.here hx rfl (hb hby d1_15) rfl ?_
    refine XS.iconst X0.here hx rfl (hb hby d1_16) ?_
    refine XS.icmpNo X0.here hx rfl (hb hby d1_17) rfl (teq (rfl : (1 : Int32) = 1)).2 ?_
    refine XS.iloadN X0.here hx rfl (hb hby d1_20) rfl ?_
    refine st4 _ ?_
    show Steps p.tables e below (T4.setTop (mkF m 24 #[.val (.int (1 : Int32)), .val (.int (Int32.ofNat x)), .val (.int (Int32.ofNat y))] [(.ref b4)])) _
    jvm_step X4.here [X4.here.top, hx, (hb hby d1_24), X4.method', Bd.returns, Value.isRef, FieldType.isReference]
    first | (intro acts; rw [hr _ acts rfl rfl rfl]) | rw [hr _ _ rfl rfl rfl]
    exact Steps.refl _
  · show QS Z [x] h0 n0 _ T4.heap _
    exact ⟨b4, rfl, N4, g4, z4s, K4, S4⟩
  · have q1 : CHr Z ELs s.vm h0 s.vm T4.heap := CHr.keep K4 (fun _ q => nomatch q) hCH
    have q2 := q1.trans (CHv.at (s := s) (vm0 := s.vm) X4 hZ hEL q1.1)
    rw [hh]
    exact q2
theorem d1_25 : decode method_4_code 25 = .ok (.new 13, 3) := by decide +kernel
theorem d1_28 : decode method_4_code 28 = .ok (.dup, 1) := by decide +kernel
theorem d1_29 : decode method_4_code 29 = .ok (.iconst 2, 1) := by decide +kernel
theorem d1_30 : decode method_4_code 30 = .ok (.newarray .char, 2) := by decide +kernel
theorem d1_32 : decode method_4_code 32 = .ok (.dup, 1) := by decide +kernel
theorem d1_33 : decode method_4_code 33 = .ok (.iconst 0, 1) := by decide +kernel
theorem d1_34 : decode method_4_code 34 = .ok (.iload_n 1, 1) := by decide +kernel
theorem d1_35 : decode method_4_code 35 = .ok (.castore, 1) := by decide +kernel
theorem d1_36 : decode method_4_code 36 = .ok (.dup, 1) := by decide +kernel
theorem d1_37 : decode method_4_code 37 = .ok (.iconst 1, 1) := by decide +kernel
theorem d1_38 : decode method_4_code 38 = .ok (.iload_n 2, 1) := by decide +kernel
theorem d1_39 : decode method_4_code 39 = .ok (.castore, 1) := by decide +kernel
theorem d1_40 : decode method_4_code 40 = .ok (.invokespecial 15, 3) := by decide +kernel
theorem d1_43 : decode method_4_code 43 = .ok (.areturn, 1) := by decide +kernel
set_option maxRecDepth 65536 in
set_option maxHeartbeats 40000000 in
theorem rm1t (l : Launch) (Z : State) (a0 : Array Value) (hw : ∀ d ∈ tables_1, d.before a0 Z = true) (ws : List Jvm.Cond) (x y : Nat) (h0 : Heap) (n0 : Nat) (Z0 : n0 ≤ h0.size) (D : Wd Z h0) (hx16 : x < 65536) (hy16 : y < 65536) :
    MetFree l (⟨"com/example/gumzo/gumzo/core/TaggedBase64EncodePinLaw", "str", "(ICC)Ljava/lang/String;"⟩ : MethodName) (head1 (Jvm.Cond.code (⟨"com/example/gumzo/gumzo/core/TaggedBase64EncodePinLaw", "str", "(ICC)Ljava/lang/String;"⟩ : MethodName) method_4_code 3 (some (.object "java/lang/String")) :: ws) ({ frames := 6, cells := 6, slots := 54, locals := 88 } : Room)) (fun a U => a = #[(.int (2 : Int32)), (.int (Int32.ofNat x)), (.int (Int32.ofNat y))] ∧ Z.Warmed39 U.vm ∧ U.heap = h0 ∧ CHv Z ELs U.vm h0) (fun _ _ _ _ _ => True) (fun _ U o U' => ∃ v L, o = .returned v ∧ QS Z [x, y] h0 n0 v U'.heap L ∧ CHr Z ELs U.vm U.heap U'.vm U'.heap ∧ ReturnedEndW U o U' L ({ frames := 6, cells := 6, slots := 54, locals := 88 } : Room).cells ({ frames := 6, cells := 6, slots := 54, locals := 88 } : Room).slots) := by
  refine MetFree.of_bodySF (plainFor_of_name pn_1) hisR ?_
  intro p e s m args below meth c s₁ Bd hml0 hP hK
  obtain ⟨rfl, hZ, hh, hCH⟩ := hP
  have hEL := own_ew hw
  have hx := Bd.exec
  have hby := Bd.bytes
  have hml : c.maxLocals = 3 := hml0
  have hown : s.vm.findClass "com/example/gumzo/gumzo/core/TaggedBase64EncodePinLaw" = some m.cls := findClass_of_methodNamed Bd.named
  have hnm := (name_of_methodNamed Bd.named Bd.method).1
  have X0 : Stand p l e ({ frames := 6, cells := 6, slots := 54, locals := 88 } : Room) s m #[(.int (2 : Int32)), (.int (Int32.ofNat x)), (.int (Int32.ofNat y))] below meth c s₁ [] 0 0 := Stand.of_body Bd
  have e0 : s₁.heap = h0 := by rw [← hh, Bd.state]; rfl
  have N0 := Fr.nil n0
  have pre0 : ∀ t, Steps p.tables e below (s₁.setTop (mkF m 0 #[.val (.int (2 : Int32)), .val (.int (Int32.ofNat x)), .val (.int (Int32.ofNat y))] [])) t → Steps p.tables e below (s₁.setTop (entryFrame m #[(.int (2 : Int32)), (.int (Int32.ofNat x)), (.int (Int32.ofNat y))] 3)) t := fun t_ k_ => castTop (ef_1 m (2 : Int32) (Int32.ofNat x) (Int32.ofNat y)) k_
  obtain ⟨T4, h4, X4, e4, E4, A4, D4, -, st4⟩ := newO X0 hx hZ hown (hw _ (List.mem_of_getElem? (i := 6) rfl)) (hw _ (List.mem_of_getElem? (i := 7) rfl)) (hw _ (List.mem_of_getElem? (i := 8) rfl)) e0 (g := (mkF m 25 #[.val (.int (2 : Int32)), .val (.int (Int32.ofNat x)), .val (.int (Int32.ofNat y))] [])) rfl (hb hby d1_25) (by decide) (by decide)
  obtain ⟨b4, g4⟩ : ∃ z, z = h0.size := ⟨_, rfl⟩
  rw [← g4] at A4 D4 st4
  have F_value_b4 : Fld Z h4 b4 "java/lang/String" "value" "[B" .null := D4 (Or.inr (hw _ (List.mem_of_getElem? (i := 21) rfl))) (ty := (.array .byte)) (by decide)
  have F_coder_b4 : Fld Z h4 b4 "java/lang/String" "coder" "B" (.int (0 : Int32)) := D4 (Or.inr (hw _ (List.mem_of_getElem? (i := 22) rfl))) (ty := .byte) (by decide)
  have E_b4 := A4
  have K4 : Keep h0 h4 [] := (Keep.refl h0 []).ext E4
  have g_b4 : n0 ≤ b4 := by rw [g4]; exact Z0
  have sz4 : h0.size ≤ b4 := by rw [g4]; exact Nat.le_refl _
  obtain ⟨T5, h5, b5, X5, e5, E5, g_b5, sz_b5, A5, st5⟩ := newPv (a0 := a0) X4 hx hZ e4 (Nat.le_trans Z0 K4.1) (g := (mkF m 30 #[.val (.int (2 : Int32)), .val (.int (Int32.ofNat x)), .val (.int (Int32.ofNat y))] [(.int (2 : Int32)), (.ref b4), (.ref b4)])) rfl (hb hby d1_30) rfl (hw _ (List.mem_of_getElem? (i := 9) rfl)) 2 (by decide) Int32.ofNat own_fc rfl rfl (cap := 2) (by decide) (by decide) (by decide) (by decide)
  obtain ⟨T6, h6, L6, X6, e6, N6, K6, A6, st6⟩ := stCv X5 hx hZ e5 N0 g_b5 A5 (by decide) 0 (by decide) x hx16 rfl rfl (g := (mkF m 35 #[.val (.int (2 : Int32)), .val (.int (Int32.ofNat x)), .val (.int (Int32.ofNat y))] [(.int (Int32.ofNat x)), (.int (0 : Int32)), (.ref b5), (.ref b5), (.ref b4), (.ref b4)])) rfl rfl (hb hby d1_35)
  obtain ⟨T7, h7, L7, X7, e7, N7, K7, A7, st7⟩ := stCv X6 hx hZ e6 N6 g_b5 A6 (by simp) 1 (by simp) y hy16 rfl rfl (g := (mkF m 39 #[.val (.int (2 : Int32)), .val (.int (Int32.ofNat x)), .val (.int (Int32.ofNat y))] [(.int (Int32.ofNat y)), (.int (1 : Int32)), (.ref b5), (.ref b5), (.ref b4), (.ref b4)])) rfl rfl (hb hby d1_39)
  have K47 : Keep h4 h7 [] := own_kn (own_kn ((Keep.refl h4 []).ext E5) K6 sz_b5) K7 sz_b5
  have K7a : Keep h0 h7 [] := own_k0 K4 K47
  obtain ⟨_, _, ⟨T8, L8, k8, n8⟩, -, X8, hS8, hg8, ⟨Lc8, hQ8, l8, y8, z8, hC8⟩, st8⟩ := X7.specialBackS hx (y := (⟨"java/lang/String", "<init>", "([C)V"⟩ : MethodName)) rfl hown (mvT hZ (hw _ (List.mem_of_getElem? (i := 10) rfl))) (mvT hZ (hw _ (List.mem_of_getElem? (i := 11) rfl))) (mvT hZ (hw _ (List.mem_of_getElem? (i := 12) rfl))) (by decide) (backOfSH (s := s) (vm0 := s.vm) (W := 1) (rm2 l Z a0 hw [] b4 b5 [x, y] _ h7 n0 (Nat.le_trans Z0 K7a.1) (D.keep K7a own_ns0) (E_b4.keep K47) (F_value_b4.keep K47 (by simp)) g_b4 (F_coder_b4.keep K47 (by simp)) A7 (by simp) (by simp [hx16, hy16])) hZ (hw _ (List.mem_of_getElem? (i := 12) rfl)) (hw _ (List.mem_of_getElem? (i := 8) rfl)) (by decide) (by decide) hEL (CHv.keep K7a (fun _ q => nomatch q) hCH)) (g := (mkF m 40 #[.val (.int (2 : Int32)), .val (.int (Int32.ofNat x)), .val (.int (Int32.ofNat y))] [(.ref b5), (.ref b4), (.ref b4)])) rfl (by rw [hml]; rfl) (Steps.refl _) (a := b4) (argsL := [(.ref b5)]) (rest := [(.ref b4)]) (lenOf pd_1_1 rfl) rfl (by show 2 * 0 + _ ≤ _; exact Nat.le_of_eq rfl) (hb hby d1_40) (fun _ _ => ⟨rfl, e7, (by decide : 2 + 4 ≤ _), (by decide : 6 + 48 ≤ _)⟩)
  dsimp only [Pt.U, Pt.locs, Pt.cells, Pt.slots] at X8 hS8 hg8 hC8 l8 y8 z8 st8 hQ8
  subst l8 y8 z8
  obtain ⟨rfl, N8q, K8, S8⟩ := hQ8
  have N8 := Fr.app N7 N8q
  obtain ⟨fs, hr, hrun, hended, hend⟩ := X8.leaveW hS8 (Nat.le_refl _) (v := some (.ref b4)) (fun h => by rw [Bd.returns] at h; cases h)
  refine ⟨_, _, pre0 _ ?_, hrun, hended, _, _, rfl, ?_, ?_, hend.1, hend.2.1, hend.2.2.1, hend.2.2.2.mono (by decide) (by decide)⟩
  -- 4. STEPS
  · show Steps p.tables e below (s₁.setTop (mkF m 0 #[.val (.int (2 : Int32)), .val (.int (Int32.ofNat x)), .val (.int (Int32.ofNat y))] [])) _
    refine XS.iloadN X0.here hx rfl (hb hby d1_0) rfl ?_
    refine XS.ifYes X0.here hx rfl (pc0 := 1) (pc' := 15) rfl (hb hby d1_1) rfl ((if0 _ _).trans (feq (by decide : ¬ ((2 : Int32) = 0))).2) (by decide) (by decide) ?_
    refine XS.iloadN X0.here hx rfl (hb hby d1_15) rfl ?_
    refine XS.iconst X0.here hx rfl (hb hby d1_16) ?_
    refine XS.icmpYes X0.here hx rfl (pc0 := 17) (pc' := 25) rfl (hb hby d1_17) rfl (feq (by decide : ¬ ((2 : Int32) = 1))).2 (by decide) (by decide) ?_
    refine st4 _ ?_
    refine XS.dup X4.here hx rfl (hb hby d1_28) rfl rfl ?_
    show Steps p.tables e below (T4.setTop (mkF m 29 #[.val (.int (2 : Int32)), .val (.int (Int32.ofNat x)), .val (.int (Int32.ofNat y))] [(.ref b4), (.ref b4)])) _
    refine XS.iconst X4.here hx rfl (hb hby d1_29) ?_
    refine st5 _ ?_
    refine XS.dup X5.here hx rfl (hb hby d1_32) rfl rfl ?_
    refine XS.iconst X5.here hx rfl (hb hby d1_33) ?_
    refine XS.iloadN X5.here hx rfl (hb hby d1_34) rfl ?_
    refine st6 _ ?_
    refine XS.dup X6.here hx rfl (hb hby d1_36) rfl rfl ?_
    show Steps p.tables e below (T6.setTop (mkF m 37 #[.val (.int (2 : Int32)), .val (.int (Int32.ofNat x)), .val (.int (Int32.ofNat y))] [(.ref b5), (.ref b5), (.ref b4), (.ref b4)])) _
    refine XS.iconst X6.here hx rfl (hb hby d1_37) ?_
    refine XS.iloadN X6.here hx rfl (hb hby d1_38) rfl ?_
    refine st7 _ ?_
    refine st8.trans ?_
    show Steps p.tables e below (T8.setTop (mkF m 43 #[.val (.int (2 : Int32)), .val (.int (Int32.ofNat x)), .val (.int (Int32.ofNat y))] [(.ref b4)])) _
    jvm_step X8.here [X8.here.top, hx, (hb hby d1_43), X8.method', Bd.returns, Value.isRef, FieldType.isReference]
    first | (intro acts; rw [hr _ acts rfl rfl rfl]) | rw [hr _ _ rfl rfl rfl]
    exact Steps.refl _
  · show QS Z [x, y] h0 n0 _ T8.heap _
    exact ⟨b4, rfl, N8, g_b4, sz4, own_kn K7a K8 sz4, S8⟩
  · rw [hh]
    exact (CHr.keep K7a (fun _ q => nomatch q) hCH).trans hC8
theorem strw (l : Launch) (Z : State) (a0 : Array Value) (hw : ∀ d ∈ tables_1, d.before a0 Z = true) (ws : List Jvm.Cond) (k x y : Nat) (h0 : Heap) (n0 : Nat) (Z0 : n0 ≤ h0.size) (D : Wd Z h0) (hk : k < 3) (hx16 : x < 65536) (hy16 : y < 65536) :
    MetFree l (⟨"com/example/gumzo/gumzo/core/TaggedBase64EncodePinLaw", "str", "(ICC)Ljava/lang/String;"⟩ : MethodName) (head1 (Jvm.Cond.code (⟨"com/example/gumzo/gumzo/core/TaggedBase64EncodePinLaw", "str", "(ICC)Ljava/lang/String;"⟩ : MethodName) method_4_code 3 (some (.object "java/lang/String")) :: ws) ({ frames := 6, cells := 6, slots := 54, locals := 88 } : Room)) (fun a U => a = #[(.int (Int32.ofNat k)), (.int (Int32.ofNat x)), (.int (Int32.ofNat y))] ∧ Z.Warmed39 U.vm ∧ U.heap = h0 ∧ CHv Z ELs U.vm h0) (fun _ _ _ _ _ => True) (fun _ U o U' => ∃ v L, o = .returned v ∧ QS Z ([x, y].take k) h0 n0 v U'.heap L ∧ CHr Z ELs U.vm U.heap U'.vm U'.heap ∧ ReturnedEndW U o U' L ({ frames := 6, cells := 6, slots := 54, locals := 88 } : Room).cells ({ frames := 6, cells := 6, slots := 54, locals := 88 } : Room).slots) := by
  have c3 : k = 0 ∨ k = 1 ∨ k = 2 := by omega
  rcases c3 with rfl | rfl | rfl
  · exact rm1z l Z a0 hw ws x y h0 n0 Z0 D
  · exact rm1o l Z a0 hw ws x y h0 n0 Z0 D hx16
  · exact rm1t l Z a0 hw ws x y h0 n0 Z0 D hx16 hy16
theorem d19_0 : decode method_2_code 0 = .ok (.iload_n 0, 1) := by decide +kernel
theorem d19_1 : decode method_2_code 1 = .ok (.bipush 26, 2) := by decide +kernel
theorem d19_3 : decode method_2_code 3 = .ok (.if_icmp .ge 9, 3) := by decide +kernel
theorem d19_6 : decode method_2_code 6 = .ok (.bipush 65, 2) := by decide +kernel
theorem d19_8 : decode method_2_code 8 = .ok (.iload_n 0, 1) := by decide +kernel
theorem d19_9 : decode method_2_code 9 = .ok (.iadd, 1) := by decide +kernel
theorem d19_10 : decode method_2_code 10 = .ok (.i2c, 1) := by decide +kernel
theorem d19_11 : decode method_2_code 11 = .ok (.ireturn, 1) := by decide +kernel
theorem pn_19 : plainName "com/example/gumzo/gumzo/core/TaggedBase64EncodePinLaw" = true := by first | (simp [plainName, overriddenIn]; done) | decide +kernel
theorem ef_19 (m : MethodId) (x0 : Int32) : entryFrame m #[(.int x0)] 1 = mkF m 0 #[.val (.int x0)] [] := by first | (simp [entryFrame, mkF, argsToLocals, Value.category]; done) | rfl
set_option maxRecDepth 65536 in
set_option maxHeartbeats 40000000 in
theorem rm19a (l : Launch) (Z : State) (a0 : Array Value) (hw : ∀ d ∈ tables_1, d.before a0 Z = true) (ws : List Jvm.Cond) (k : Nat) (r : Int32) (h0 : Heap) (n0 : Nat) (Z0 : n0 ≤ h0.size) (hc3 : (Int32.ofNat k < (26 : Int32))) (hv : (((65 : Int32) + (Int32.ofNat k)).toUInt32.toUInt16.toUInt32.toInt32) = r) :
    MetFree l (⟨"com/example/gumzo/gumzo/core/TaggedBase64EncodePinLaw", "sym", "(I)C"⟩ : MethodName) (head1 (Jvm.Cond.code (⟨"com/example/gumzo/gumzo/core/TaggedBase64EncodePinLaw", "sym", "(I)C"⟩ : MethodName) method_2_code 1 (some .char) :: ws) ({ frames := 0, cells := 0, slots := 0, locals := 0 } : Room)) (fun a U => a = #[(.int (Int32.ofNat k))] ∧ Z.Warmed39 U.vm ∧ U.heap = h0) (fun _ _ _ _ _ => True) (fun _ U o U' => ∃ v L, o = .returned v ∧ QI r h0 n0 v U'.heap L ∧ FrameEnd U o U' L ({ frames := 0, cells := 0, slots := 0, locals := 0 } : Room).cells ({ frames := 0, cells := 0, slots := 0, locals := 0 } : Room).slots) := by
  refine MetFree.of_bodySF (plainFor_of_name pn_19) hisR ?_
  intro p e s m args below meth c s₁ Bd hml0 hP hK
  obtain ⟨rfl, hZ, hh⟩ := hP
  have hx := Bd.exec
  have hby := Bd.bytes
  have hml : c.maxLocals = 1 := hml0
  have hown : s.vm.findClass "com/example/gumzo/gumzo/core/TaggedBase64EncodePinLaw" = some m.cls := findClass_of_methodNamed Bd.named
  have hnm := (name_of_methodNamed Bd.named Bd.method).1
  have X0 : Stand p l e ({ frames := 0, cells := 0, slots := 0, locals := 0 } : Room) s m #[(.int (Int32.ofNat k))] below meth c s₁ [] 0 0 := Stand.of_body Bd
  have e0 : s₁.heap = h0 := by rw [← hh, Bd.state]; rfl
  have N0 := Fr.nil n0
  have pre0 : ∀ t, Steps p.tables e below (s₁.setTop (mkF m 0 #[.val (.int (Int32.ofNat k))] [])) t → Steps p.tables e below (s₁.setTop (entryFrame m #[(.int (Int32.ofNat k))] 1)) t := fun t_ k_ => castTop (ef_19 m (Int32.ofNat k)) k_

  obtain ⟨fs, hr, hrun, hended, hW, hsame⟩ := X0.leave (v := some (.int (((65 : Int32) + (Int32.ofNat k)).toUInt32.toUInt16.toUInt32.toInt32))) (fun h => by rw [Bd.returns] at h; cases h)
  refine ⟨_, _, pre0 _ ?_, hrun, hended, _, _, rfl, ?_, ⟨_, rfl⟩, hW, hsame.mono (by decide) (by decide)⟩
  -- 4. STEPS
  · show Steps p.tables e below (s₁.setTop (mkF m 0 #[.val (.int (Int32.ofNat k))] [])) _
    refine XS.iloadN X0.here hx rfl (hb hby d19_0) rfl ?_
    refine XS.bipush X0.here hx rfl (hb hby d19_1) ?_
    refine XS.icmpNo X0.here hx rfl (hb hby d19_3) rfl (tlt hc3).2.1 ?_
    refine XS.bipush X0.here hx rfl (hb hby d19_6) ?_
    refine XS.iloadN X0.here hx rfl (hb hby d19_8) rfl ?_
    refine XS.iadd X0.here hx rfl (hb hby d19_9) rfl ?_
    refine XS.i2c X0.here hx rfl (hb hby d19_10) rfl ?_
    show Steps p.tables e below (s₁.setTop (mkF m 11 #[.val (.int (Int32.ofNat k))] [(.int (((65 : Int32) + (Int32.ofNat k)).toUInt32.toUInt16.toUInt32.toInt32))])) _
    exact retN X0 hx (t := .char) Bd.returns (by simp) (hb hby d19_11) (by rw [own_narc]; exact hr)
  · show QI r h0 n0 _ s₁.heap _
    rw [e0]
    exact ⟨by rw [hv], N0, rfl⟩
theorem d19_12 : decode method_2_code 12 = .ok (.iload_n 0, 1) := by decide +kernel
theorem d19_13 : decode method_2_code 13 = .ok (.bipush 52, 2) := by decide +kernel
theorem d19_15 : decode method_2_code 15 = .ok (.if_icmp .ge 12, 3) := by decide +kernel
theorem d19_18 : decode method_2_code 18 = .ok (.bipush 97, 2) := by decide +kernel
theorem d19_20 : decode method_2_code 20 = .ok (.iload_n 0, 1) := by decide +kernel
theorem d19_21 : decode method_2_code 21 = .ok (.bipush 26, 2) := by decide +kernel
theorem d19_23 : decode method_2_code 23 = .ok (.isub, 1) := by decide +kernel
theorem d19_24 : decode method_2_code 24 = .ok (.iadd, 1) := by decide +kernel
theorem d19_25 : decode method_2_code 25 = .ok (.i2c, 1) := by decide +kernel
theorem d19_26 : decode method_2_code 26 = .ok (.ireturn, 1) := by decide +kernel
set_option maxRecDepth 65536 in
set_option maxHeartbeats 40000000 in
theorem rm19b (l : Launch) (Z : State) (a0 : Array Value) (hw : ∀ d ∈ tables_1, d.before a0 Z = true) (ws : List Jvm.Cond) (k : Nat) (r : Int32) (h0 : Heap) (n0 : Nat) (Z0 : n0 ≤ h0.size) (hc3 : ¬ (Int32.ofNat k < (26 : Int32))) (hc15 : (Int32.ofNat k < (52 : Int32))) (hv : (((97 : Int32) + ((Int32.ofNat k) - (26 : Int32))).toUInt32.toUInt16.toUInt32.toInt32) = r) :
    MetFree l (⟨"com/example/gumzo/gumzo/core/TaggedBase64EncodePinLaw", "sym", "(I)C"⟩ : MethodName) (head1 (Jvm.Cond.code (⟨"com/example/gumzo/gumzo/core/TaggedBase64EncodePinLaw", "sym", "(I)C"⟩ : MethodName) method_2_code 1 (some .char) :: ws) ({ frames := 0, cells := 0, slots := 0, locals := 0 } : Room)) (fun a U => a = #[(.int (Int32.ofNat k))] ∧ Z.Warmed39 U.vm ∧ U.heap = h0) (fun _ _ _ _ _ => True) (fun _ U o U' => ∃ v L, o = .returned v ∧ QI r h0 n0 v U'.heap L ∧ FrameEnd U o U' L ({ frames := 0, cells := 0, slots := 0, locals := 0 } : Room).cells ({ frames := 0, cells := 0, slots := 0, locals := 0 } : Room).slots) := by
  refine MetFree.of_bodySF (plainFor_of_name pn_19) hisR ?_
  intro p e s m args below meth c s₁ Bd hml0 hP hK
  obtain ⟨rfl, hZ, hh⟩ := hP
  have hx := Bd.exec
  have hby := Bd.bytes
  have hml : c.maxLocals = 1 := hml0
  have hown : s.vm.findClass "com/example/gumzo/gumzo/core/TaggedBase64EncodePinLaw" = some m.cls := findClass_of_methodNamed Bd.named
  have hnm := (name_of_methodNamed Bd.named Bd.method).1
  have X0 : Stand p l e ({ frames := 0, cells := 0, slots := 0, locals := 0 } : Room) s m #[(.int (Int32.ofNat k))] below meth c s₁ [] 0 0 := Stand.of_body Bd
  have e0 : s₁.heap = h0 := by rw [← hh, Bd.state]; rfl
  have N0 := Fr.nil n0
  have pre0 : ∀ t, Steps p.tables e below (s₁.setTop (mkF m 0 #[.val (.int (Int32.ofNat k))] [])) t → Steps p.tables e below (s₁.setTop (entryFrame m #[(.int (Int32.ofNat k))] 1)) t := fun t_ k_ => castTop (ef_19 m (Int32.ofNat k)) k_

  obtain ⟨fs, hr, hrun, hended, hW, hsame⟩ := X0.leave (v := some (.int (((97 : Int32) + ((Int32.ofNat k) - (26 : Int32))).toUInt32.toUInt16.toUInt32.toInt32))) (fun h => by rw [Bd.returns] at h; cases h)
  refine ⟨_, _, pre0 _ ?_, hrun, hended, _, _, rfl, ?_, ⟨_, rfl⟩, hW, hsame.mono (by decide) (by decide)⟩
  -- 4. STEPS
  · show Steps p.tables e below (s₁.setTop (mkF m 0 #[.val (.int (Int32.ofNat k))] [])) _
    refine XS.iloadN X0.here hx rfl (hb hby d19_0) rfl ?_
    refine XS.bipush X0.here hx rfl (hb hby d19_1) ?_
    refine XS.icmpYes X0.here hx rfl (pc0 := 3) (pc' := 12) rfl (hb hby d19_3) rfl (flt hc3).2.1 (by decide) (by decide) ?_
    refine XS.iloadN X0.here hx rfl (hb hby d19_12) rfl ?_
    refine XS.bipush X0.here hx rfl (hb hby d19_13) ?_
    refine XS.icmpNo X0.here hx rfl (hb hby d19_15) rfl (tlt hc15).2.1 ?_
    refine XS.bipush X0.here hx rfl (hb hby d19_18) ?_
    show Steps p.tables e below (s₁.setTop (mkF m 20 #[.val (.int (Int32.ofNat k))] [(.int (97 : Int32))])) _
    refine XS.iloadN X0.here hx rfl (hb hby d19_20) rfl ?_
    refine XS.bipush X0.here hx rfl (hb hby d19_21) ?_
    refine XS.isub X0.here hx rfl (hb hby d19_23) rfl ?_
    refine XS.iadd X0.here hx rfl (hb hby d19_24) rfl ?_
    refine XS.i2c X0.here hx rfl (hb hby d19_25) rfl ?_
    show Steps p.tables e below (s₁.setTop (mkF m 26 #[.val (.int (Int32.ofNat k))] [(.int (((97 : Int32) + ((Int32.ofNat k) - (26 : Int32))).toUInt32.toUInt16.toUInt32.toInt32))])) _
    exact retN X0 hx (t := .char) Bd.returns (by simp) (hb hby d19_26) (by rw [own_narc]; exact hr)
  · show QI r h0 n0 _ s₁.heap _
    rw [e0]
    exact ⟨by rw [hv], N0, rfl⟩
theorem d19_27 : decode method_2_code 27 = .ok (.iload_n 0, 1) := by decide +kernel
theorem d19_28 : decode method_2_code 28 = .ok (.bipush 62, 2) := by decide +kernel
theorem d19_30 : decode method_2_code 30 = .ok (.if_icmp .ge 12, 3) := by decide +kernel
theorem d19_33 : decode method_2_code 33 = .ok (.bipush 48, 2) := by decide +kernel
theorem d19_35 : decode method_2_code 35 = .ok (.iload_n 0, 1) := by decide +kernel
theorem d19_36 : decode method_2_code 36 = .ok (.bipush 52, 2) := by decide +kernel
theorem d19_38 : decode method_2_code 38 = .ok (.isub, 1) := by decide +kernel
theorem d19_39 : decode method_2_code 39 = .ok (.iadd, 1) := by decide +kernel
theorem d19_40 : decode method_2_code 40 = .ok (.i2c, 1) := by decide +kernel
theorem d19_41 : decode method_2_code 41 = .ok (.ireturn, 1) := by decide +kernel
set_option maxRecDepth 65536 in
set_option maxHeartbeats 40000000 in
theorem rm19c (l : Launch) (Z : State) (a0 : Array Value) (hw : ∀ d ∈ tables_1, d.before a0 Z = true) (ws : List Jvm.Cond) (k : Nat) (r : Int32) (h0 : Heap) (n0 : Nat) (Z0 : n0 ≤ h0.size) (hc3 : ¬ (Int32.ofNat k < (26 : Int32))) (hc15 : ¬ (Int32.ofNat k < (52 : Int32))) (hc30 : (Int32.ofNat k < (62 : Int32))) (hv : (((48 : Int32) + ((Int32.ofNat k) - (52 : Int32))).toUInt32.toUInt16.toUInt32.toInt32) = r) :
    MetFree l (⟨"com/example/gumzo/gumzo/core/TaggedBase64EncodePinLaw", "sym", "(I)C"⟩ : MethodName) (head1 (Jvm.Cond.code (⟨"com/example/gumzo/gumzo/core/TaggedBase64EncodePinLaw", "sym", "(I)C"⟩ : MethodName) method_2_code 1 (some .char) :: ws) ({ frames := 0, cells := 0, slots := 0, locals := 0 } : Room)) (fun a U => a = #[(.int (Int32.ofNat k))] ∧ Z.Warmed39 U.vm ∧ U.heap = h0) (fun _ _ _ _ _ => True) (fun _ U o U' => ∃ v L, o = .returned v ∧ QI r h0 n0 v U'.heap L ∧ FrameEnd U o U' L ({ frames := 0, cells := 0, slots := 0, locals := 0 } : Room).cells ({ frames := 0, cells := 0, slots := 0, locals := 0 } : Room).slots) := by
  refine MetFree.of_bodySF (plainFor_of_name pn_19) hisR ?_
  intro p e s m args below meth c s₁ Bd hml0 hP hK
  obtain ⟨rfl, hZ, hh⟩ := hP
  have hx := Bd.exec
  have hby := Bd.bytes
  have hml : c.maxLocals = 1 := hml0
  have hown : s.vm.findClass "com/example/gumzo/gumzo/core/TaggedBase64EncodePinLaw" = some m.cls := findClass_of_methodNamed Bd.named
  have hnm := (name_of_methodNamed Bd.named Bd.method).1
  have X0 : Stand p l e ({ frames := 0, cells := 0, slots := 0, locals := 0 } : Room) s m #[(.int (Int32.ofNat k))] below meth c s₁ [] 0 0 := Stand.of_body Bd
  have e0 : s₁.heap = h0 := by rw [← hh, Bd.state]; rfl
  have N0 := Fr.nil n0
  have pre0 : ∀ t, Steps p.tables e below (s₁.setTop (mkF m 0 #[.val (.int (Int32.ofNat k))] [])) t → Steps p.tables e below (s₁.setTop (entryFrame m #[(.int (Int32.ofNat k))] 1)) t := fun t_ k_ => castTop (ef_19 m (Int32.ofNat k)) k_

  obtain ⟨fs, hr, hrun, hended, hW, hsame⟩ := X0.leave (v := some (.int (((48 : Int32) + ((Int32.ofNat k) - (52 : Int32))).toUInt32.toUInt16.toUInt32.toInt32))) (fun h => by rw [Bd.returns] at h; cases h)
  refine ⟨_, _, pre0 _ ?_, hrun, hended, _, _, rfl, ?_, ⟨_, rfl⟩, hW, hsame.mono (by decide) (by decide)⟩
  -- 4. STEPS
  · show Steps p.tables e below (s₁.setTop (mkF m 0 #[.val (.int (Int32.ofNat k))] [])) _
    refine XS.iloadN X0.here hx rfl (hb hby d19_0) rfl ?_
    refine XS.bipush X0.here hx rfl (hb hby d19_1) ?_
    refine XS.icmpYes X0.here hx rfl (pc0 := 3) (pc' := 12) rfl (hb hby d19_3) rfl (flt hc3).2.1 (by decide) (by decide) ?_
    refine XS.iloadN X0.here hx rfl (hb hby d19_12) rfl ?_
    refine XS.bipush X0.here hx rfl (hb hby d19_13) ?_
    refine XS.icmpYes X0.here hx rfl (pc0 := 15) (pc' := 27) rfl (hb hby d19_15) rfl (flt hc15).2.1 (by decide) (by decide) ?_
    refine XS.iloadN X0.here hx rfl (hb hby d19_27) rfl ?_
    show Steps p.tables e below (s₁.setTop (mkF m 28 #[.val (.int (Int32.ofNat k))] [(.int (Int32.ofNat k))])) _
    refine XS.bipush X0.here hx rfl (hb hby d19_28) ?_
    refine XS.icmpNo X0.here hx rfl (hb hby d19_30) rfl (tlt hc30).2.1 ?_
    refine XS.bipush X0.here hx rfl (hb hby d19_33) ?_
    refine XS.iloadN X0.here hx rfl (hb hby d19_35) rfl ?_
    refine XS.bipush X0.here hx rfl (hb hby d19_36) ?_
    refine XS.isub X0.here hx rfl (hb hby d19_38) rfl ?_
    refine XS.iadd X0.here hx rfl (hb hby d19_39) rfl ?_
    show Steps p.tables e below (s₁.setTop (mkF m 40 #[.val (.int (Int32.ofNat k))] [(.int ((48 : Int32) + ((Int32.ofNat k) - (52 : Int32))))])) _
    refine XS.i2c X0.here hx rfl (hb hby d19_40) rfl ?_
    show Steps p.tables e below (s₁.setTop (mkF m 41 #[.val (.int (Int32.ofNat k))] [(.int (((48 : Int32) + ((Int32.ofNat k) - (52 : Int32))).toUInt32.toUInt16.toUInt32.toInt32))])) _
    exact retN X0 hx (t := .char) Bd.returns (by simp) (hb hby d19_41) (by rw [own_narc]; exact hr)
  · show QI r h0 n0 _ s₁.heap _
    rw [e0]
    exact ⟨by rw [hv], N0, rfl⟩
theorem d19_42 : decode method_2_code 42 = .ok (.iload_n 0, 1) := by decide +kernel
theorem d19_43 : decode method_2_code 43 = .ok (.bipush 62, 2) := by decide +kernel
theorem d19_45 : decode method_2_code 45 = .ok (.if_icmp .ne 6, 3) := by decide +kernel
theorem d19_48 : decode method_2_code 48 = .ok (.bipush 43, 2) := by decide +kernel
theorem d19_50 : decode method_2_code 50 = .ok (.ireturn, 1) := by decide +kernel
set_option maxRecDepth 65536 in
set_option maxHeartbeats 40000000 in
theorem rm19d (l : Launch) (Z : State) (a0 : Array Value) (hw : ∀ d ∈ tables_1, d.before a0 Z = true) (ws : List Jvm.Cond) (k : Nat) (r : Int32) (h0 : Heap) (n0 : Nat) (Z0 : n0 ≤ h0.size) (hc3 : ¬ (Int32.ofNat k < (26 : Int32))) (hc15 : ¬ (Int32.ofNat k < (52 : Int32))) (hc30 : ¬ (Int32.ofNat k < (62 : Int32))) (hc45 : (Int32.ofNat k = (62 : Int32))) (hv : (43 : Int32) = r) :
    MetFree l (⟨"com/example/gumzo/gumzo/core/TaggedBase64EncodePinLaw", "sym", "(I)C"⟩ : MethodName) (head1 (Jvm.Cond.code (⟨"com/example/gumzo/gumzo/core/TaggedBase64EncodePinLaw", "sym", "(I)C"⟩ : MethodName) method_2_code 1 (some .char) :: ws) ({ frames := 0, cells := 0, slots := 0, locals := 0 } : Room)) (fun a U => a = #[(.int (Int32.ofNat k))] ∧ Z.Warmed39 U.vm ∧ U.heap = h0) (fun _ _ _ _ _ => True) (fun _ U o U' => ∃ v L, o = .returned v ∧ QI r h0 n0 v U'.heap L ∧ FrameEnd U o U' L ({ frames := 0, cells := 0, slots := 0, locals := 0 } : Room).cells ({ frames := 0, cells := 0, slots := 0, locals := 0 } : Room).slots) := by
  refine MetFree.of_bodySF (plainFor_of_name pn_19) hisR ?_
  intro p e s m args below meth c s₁ Bd hml0 hP hK
  obtain ⟨rfl, hZ, hh⟩ := hP
  have hx := Bd.exec
  have hby := Bd.bytes
  have hml : c.maxLocals = 1 := hml0
  have hown : s.vm.findClass "com/example/gumzo/gumzo/core/TaggedBase64EncodePinLaw" = some m.cls := findClass_of_methodNamed Bd.named
  have hnm := (name_of_methodNamed Bd.named Bd.method).1
  have X0 : Stand p l e ({ frames := 0, cells := 0, slots := 0, locals := 0 } : Room) s m #[(.int (Int32.ofNat k))] below meth c s₁ [] 0 0 := Stand.of_body Bd
  have e0 : s₁.heap = h0 := by rw [← hh, Bd.state]; rfl
  have N0 := Fr.nil n0
  have pre0 : ∀ t, Steps p.tables e below (s₁.setTop (mkF m 0 #[.val (.int (Int32.ofNat k))] [])) t → Steps p.tables e below (s₁.setTop (entryFrame m #[(.int (Int32.ofNat k))] 1)) t := fun t_ k_ => castTop (ef_19 m (Int32.ofNat k)) k_

  obtain ⟨fs, hr, hrun, hended, hW, hsame⟩ := X0.leave (v := some (.int (43 : Int32))) (fun h => by rw [Bd.returns] at h; cases h)
  refine ⟨_, _, pre0 _ ?_, hrun, hended, _, _, rfl, ?_, ⟨_, rfl⟩, hW, hsame.mono (by decide) (by decide)⟩
  -- 4. STEPS
  · show Steps p.tables e below (s₁.setTop (mkF m 0 #[.val (.int (Int32.ofNat k))] [])) _
    refine XS.iloadN X0.here hx rfl (hb hby d19_0) rfl ?_
    refine XS.bipush X0.here hx rfl (hb hby d19_1) ?_
    refine XS.icmpYes X0.here hx rfl (pc0 := 3) (pc' := 12) rfl (hb hby d19_3) rfl (flt hc3).2.1 (by decide) (by decide) ?_
    refine XS.iloadN X0.here hx rfl (hb hby d19_12) rfl ?_
    refine XS.bipush X0.here hx rfl (hb hby d19_13) ?_
    refine XS.icmpYes X0.here hx rfl (pc0 := 15) (pc' := 27) rfl (hb hby d19_15) rfl (flt hc15).2.1 (by decide) (by decide) ?_
    refine XS.iloadN X0.here hx rfl (hb hby d19_27) rfl ?_
    show Steps p.tables e below (s₁.setTop (mkF m 28 #[.val (.int (Int32.ofNat k))] [(.int (Int32.ofNat k))])) _
    refine XS.bipush X0.here hx rfl (hb hby d19_28) ?_
    refine XS.icmpYes X0.here hx rfl (pc0 := 30) (pc' := 42) rfl (hb hby d19_30) rfl (flt hc30).2.1 (by decide) (by decide) ?_
    refine XS.iloadN X0.here hx rfl (hb hby d19_42) rfl ?_
    refine XS.bipush X0.here hx rfl (hb hby d19_43) ?_
    refine XS.icmpNo X0.here hx rfl (hb hby d19_45) rfl (teq hc45).2 ?_
    refine XS.bipush X0.here hx rfl (hb hby d19_48) ?_
    show Steps p.tables e below (s₁.setTop (mkF m 50 #[.val (.int (Int32.ofNat k))] [(.int (43 : Int32))])) _
    exact retN X0 hx (t := .char) Bd.returns (by simp) (hb hby d19_50) (by rw [show nar .char (43 : Int32) = 43 from by decide]; exact hr)
  · show QI r h0 n0 _ s₁.heap _
    rw [e0]
    exact ⟨by rw [hv], N0, rfl⟩
theorem d19_51 : decode method_2_code 51 = .ok (.bipush 47, 2) := by decide +kernel
theorem d19_53 : decode method_2_code 53 = .ok (.ireturn, 1) := by decide +kernel
set_option maxRecDepth 65536 in
set_option maxHeartbeats 40000000 in
theorem rm19e (l : Launch) (Z : State) (a0 : Array Value) (hw : ∀ d ∈ tables_1, d.before a0 Z = true) (ws : List Jvm.Cond) (k : Nat) (r : Int32) (h0 : Heap) (n0 : Nat) (Z0 : n0 ≤ h0.size) (hc3 : ¬ (Int32.ofNat k < (26 : Int32))) (hc15 : ¬ (Int32.ofNat k < (52 : Int32))) (hc30 : ¬ (Int32.ofNat k < (62 : Int32))) (hc45 : ¬ (Int32.ofNat k = (62 : Int32))) (hv : (47 : Int32) = r) :
    MetFree l (⟨"com/example/gumzo/gumzo/core/TaggedBase64EncodePinLaw", "sym", "(I)C"⟩ : MethodName) (head1 (Jvm.Cond.code (⟨"com/example/gumzo/gumzo/core/TaggedBase64EncodePinLaw", "sym", "(I)C"⟩ : MethodName) method_2_code 1 (some .char) :: ws) ({ frames := 0, cells := 0, slots := 0, locals := 0 } : Room)) (fun a U => a = #[(.int (Int32.ofNat k))] ∧ Z.Warmed39 U.vm ∧ U.heap = h0) (fun _ _ _ _ _ => True) (fun _ U o U' => ∃ v L, o = .returned v ∧ QI r h0 n0 v U'.heap L ∧ FrameEnd U o U' L ({ frames := 0, cells := 0, slots := 0, locals := 0 } : Room).cells ({ frames := 0, cells := 0, slots := 0, locals := 0 } : Room).slots) := by
  refine MetFree.of_bodySF (plainFor_of_name pn_19) hisR ?_
  intro p e s m args below meth c s₁ Bd hml0 hP hK
  obtain ⟨rfl, hZ, hh⟩ := hP
  have hx := Bd.exec
  have hby := Bd.bytes
  have hml : c.maxLocals = 1 := hml0
  have hown : s.vm.findClass "com/example/gumzo/gumzo/core/TaggedBase64EncodePinLaw" = some m.cls := findClass_of_methodNamed Bd.named
  have hnm := (name_of_methodNamed Bd.named Bd.method).1
  have X0 : Stand p l e ({ frames := 0, cells := 0, slots := 0, locals := 0 } : Room) s m #[(.int (Int32.ofNat k))] below meth c s₁ [] 0 0 := Stand.of_body Bd
  have e0 : s₁.heap = h0 := by rw [← hh, Bd.state]; rfl
  have N0 := Fr.nil n0
  have pre0 : ∀ t, Steps p.tables e below (s₁.setTop (mkF m 0 #[.val (.int (Int32.ofNat k))] [])) t → Steps p.tables e below (s₁.setTop (entryFrame m #[(.int (Int32.ofNat k))] 1)) t := fun t_ k_ => castTop (ef_19 m (Int32.ofNat k)) k_

  obtain ⟨fs, hr, hrun, hended, hW, hsame⟩ := X0.leave (v := some (.int (47 : Int32))) (fun h => by rw [Bd.returns] at h; cases h)
  refine ⟨_, _, pre0 _ ?_, hrun, hended, _, _, rfl, ?_, ⟨_, rfl⟩, hW, hsame.mono (by decide) (by decide)⟩
  -- 4. STEPS
  · show Steps p.tables e below (s₁.setTop (mkF m 0 #[.val (.int (Int32.ofNat k))] [])) _
    refine XS.iloadN X0.here hx rfl (hb hby d19_0) rfl ?_
    refine XS.bipush X0.here hx rfl (hb hby d19_1) ?_
    refine XS.icmpYes X0.here hx rfl (pc0 := 3) (pc' := 12) rfl (hb hby d19_3) rfl (flt hc3).2.1 (by decide) (by decide) ?_
    refine XS.iloadN X0.here hx rfl (hb hby d19_12) rfl ?_
    refine XS.bipush X0.here hx rfl (hb hby d19_13) ?_
    refine XS.icmpYes X0.here hx rfl (pc0 := 15) (pc' := 27) rfl (hb hby d19_15) rfl (flt hc15).2.1 (by decide) (by decide) ?_
    refine XS.iloadN X0.here hx rfl (hb hby d19_27) rfl ?_
    show Steps p.tables e below (s₁.setTop (mkF m 28 #[.val (.int (Int32.ofNat k))] [(.int (Int32.ofNat k))])) _
    refine XS.bipush X0.here hx rfl (hb hby d19_28) ?_
    refine XS.icmpYes X0.here hx rfl (pc0 := 30) (pc' := 42) rfl (hb hby d19_30) rfl (flt hc30).2.1 (by decide) (by decide) ?_
    refine XS.iloadN X0.here hx rfl (hb hby d19_42) rfl ?_
    refine XS.bipush X0.here hx rfl (hb hby d19_43) ?_
    refine XS.icmpYes X0.here hx rfl (pc0 := 45) (pc' := 51) rfl (hb hby d19_45) rfl (feq hc45).2 (by decide) (by decide) ?_
    refine XS.bipush X0.here hx rfl (hb hby d19_51) ?_
    show Steps p.tables e below (s₁.setTop (mkF m 53 #[.val (.int (Int32.ofNat k))] [(.int (47 : Int32))])) _
    exact retN X0 hx (t := .char) Bd.returns (by simp) (hb hby d19_53) (by rw [show nar .char (47 : Int32) = 47 from by decide]; exact hr)
  · show QI r h0 n0 _ s₁.heap _
    rw [e0]
    exact ⟨by rw [hv], N0, rfl⟩
theorem own_s1 : ∀ k < 26, (((65 : Int32) + (Int32.ofNat k)).toUInt32.toUInt16.toUInt32.toInt32) = Int32.ofNat (k + 65) := by decide +kernel
theorem own_s2 : ∀ k < 52, ¬ k < 26 → (((97 : Int32) + ((Int32.ofNat k) - (26 : Int32))).toUInt32.toUInt16.toUInt32.toInt32) = Int32.ofNat (k + 71) := by decide +kernel
theorem own_s3 : ∀ k < 62, ¬ k < 52 → (((48 : Int32) + ((Int32.ofNat k) - (52 : Int32))).toUInt32.toUInt16.toUInt32.toInt32) = Int32.ofNat (k - 4) := by decide +kernel
theorem symw (l : Launch) (Z : State) (a0 : Array Value) (hw : ∀ d ∈ tables_1, d.before a0 Z = true) (ws : List Jvm.Cond) (k : Nat) (h0 : Heap) (n0 : Nat) (Z0 : n0 ≤ h0.size) (hk : k < 64) :
    MetFree l (⟨"com/example/gumzo/gumzo/core/TaggedBase64EncodePinLaw", "sym", "(I)C"⟩ : MethodName) (head1 (Jvm.Cond.code (⟨"com/example/gumzo/gumzo/core/TaggedBase64EncodePinLaw", "sym", "(I)C"⟩ : MethodName) method_2_code 1 (some .char) :: ws) ({ frames := 0, cells := 0, slots := 0, locals := 0 } : Room)) (fun a U => a = #[(.int (Int32.ofNat k))] ∧ Z.Warmed39 U.vm ∧ U.heap = h0) (fun _ _ _ _ _ => True) (fun _ U o U' => ∃ v L, o = .returned v ∧ QI (Int32.ofNat (al k)) h0 n0 v U'.heap L ∧ FrameEnd U o U' L ({ frames := 0, cells := 0, slots := 0, locals := 0 } : Room).cells ({ frames := 0, cells := 0, slots := 0, locals := 0 } : Room).slots) := by
  by_cases c1 : k < 26
  · exact rm19a l Z a0 hw ws k _ h0 n0 Z0 (own_lt c1 (by decide)) (by rw [show al k = k + 65 by unfold al; rw [if_pos c1]]; exact own_s1 k c1)
  by_cases c2 : k < 52
  · exact rm19b l Z a0 hw ws k _ h0 n0 Z0 (own_nlt (n := 26) (by omega) (by omega)) (own_lt c2 (by decide)) (by rw [show al k = k + 71 by unfold al; rw [if_neg c1, if_pos c2]]; exact own_s2 k c2 c1)
  by_cases c3 : k < 62
  · exact rm19c l Z a0 hw ws k _ h0 n0 Z0 (own_nlt (n := 26) (by omega) (by omega)) (own_nlt (n := 52) (by omega) (by omega)) (own_lt c3 (by decide)) (by rw [show al k = k - 4 by unfold al; rw [if_neg c1, if_neg c2, if_pos c3]]; exact own_s3 k c3 c2)
  by_cases c4 : k = 62
  · subst c4
    exact rm19d l Z a0 hw ws 62 _ h0 n0 Z0 (by decide) (by decide) (by decide) (by decide) (by decide)
  · have c5 : k = 63 := by omega
    subst c5
    exact rm19e l Z a0 hw ws 63 _ h0 n0 Z0 (by decide) (by decide) (by decide) (by decide) (by decide)
theorem own_ad2 (a : Nat) : Int32.ofNat a + (2 : Int32) = Int32.ofNat (a + 2) := by rw [Int32.ofNat_add]; rfl
theorem own_ad3 (a : Nat) : Int32.ofNat a + (3 : Int32) = Int32.ofNat (a + 3) := by rw [Int32.ofNat_add]; rfl
theorem own_ad4 (a : Nat) : Int32.ofNat a + (4 : Int32) = Int32.ofNat (a + 4) := by rw [Int32.ofNat_add]; rfl
theorem d18_0 : decode method_3_code 0 = .ok (.iload 5, 2) := by decide +kernel
theorem d18_2 : decode method_3_code 2 = .ok (.iconst 1, 1) := by decide +kernel
theorem d18_3 : decode method_3_code 3 = .ok (.if_icmp .le 7, 3) := by decide +kernel
theorem d18_10 : decode method_3_code 10 = .ok (.iconst 0, 1) := by decide +kernel
theorem d18_11 : decode method_3_code 11 = .ok (.istore 6, 2) := by decide +kernel
theorem d18_13 : decode method_3_code 13 = .ok (.iload 5, 2) := by decide +kernel
theorem d18_15 : decode method_3_code 15 = .ok (.iconst 2, 1) := by decide +kernel
theorem d18_16 : decode method_3_code 16 = .ok (.if_icmp .le 8, 3) := by decide +kernel
theorem d18_24 : decode method_3_code 24 = .ok (.iconst 0, 1) := by decide +kernel
theorem d18_25 : decode method_3_code 25 = .ok (.istore 7, 2) := by decide +kernel
theorem d18_27 : decode method_3_code 27 = .ok (.aload_n 0, 1) := by decide +kernel
theorem d18_28 : decode method_3_code 28 = .ok (.iload_n 1, 1) := by decide +kernel
theorem d18_29 : decode method_3_code 29 = .ok (.iload_n 2, 1) := by decide +kernel
theorem d18_30 : decode method_3_code 30 = .ok (.iconst 2, 1) := by decide +kernel
theorem d18_31 : decode method_3_code 31 = .ok (.ishr, 1) := by decide +kernel
theorem d18_32 : decode method_3_code 32 = .ok (.invokestatic 7, 3) := by decide +kernel
theorem d18_35 : decode method_3_code 35 = .ok (.castore, 1) := by decide +kernel
theorem d18_36 : decode method_3_code 36 = .ok (.aload_n 0, 1) := by decide +kernel
theorem d18_37 : decode method_3_code 37 = .ok (.iload_n 1, 1) := by decide +kernel
theorem d18_38 : decode method_3_code 38 = .ok (.iconst 1, 1) := by decide +kernel
theorem d18_39 : decode method_3_code 39 = .ok (.iadd, 1) := by decide +kernel
theorem d18_40 : decode method_3_code 40 = .ok (.iload_n 2, 1) := by decide +kernel
theorem d18_41 : decode method_3_code 41 = .ok (.iconst 3, 1) := by decide +kernel
theorem d18_42 : decode method_3_code 42 = .ok (.iand, 1) := by decide +kernel
theorem d18_43 : decode method_3_code 43 = .ok (.iconst 4, 1) := by decide +kernel
theorem d18_44 : decode method_3_code 44 = .ok (.ishl, 1) := by decide +kernel
theorem d18_45 : decode method_3_code 45 = .ok (.iload 6, 2) := by decide +kernel
theorem d18_47 : decode method_3_code 47 = .ok (.iconst 4, 1) := by decide +kernel
theorem d18_48 : decode method_3_code 48 = .ok (.ishr, 1) := by decide +kernel
theorem d18_49 : decode method_3_code 49 = .ok (.ior, 1) := by decide +kernel
theorem d18_50 : decode method_3_code 50 = .ok (.invokestatic 7, 3) := by decide +kernel
theorem d18_53 : decode method_3_code 53 = .ok (.castore, 1) := by decide +kernel
theorem d18_54 : decode method_3_code 54 = .ok (.aload_n 0, 1) := by decide +kernel
theorem d18_55 : decode method_3_code 55 = .ok (.iload_n 1, 1) := by decide +kernel
theorem d18_56 : decode method_3_code 56 = .ok (.iconst 2, 1) := by decide +kernel
theorem d18_57 : decode method_3_code 57 = .ok (.iadd, 1) := by decide +kernel
theorem d18_58 : decode method_3_code 58 = .ok (.iload 5, 2) := by decide +kernel
theorem d18_60 : decode method_3_code 60 = .ok (.iconst 1, 1) := by decide +kernel
theorem d18_61 : decode method_3_code 61 = .ok (.if_icmp .le 22, 3) := by decide +kernel
theorem d18_83 : decode method_3_code 83 = .ok (.bipush 61, 2) := by decide +kernel
theorem d18_85 : decode method_3_code 85 = .ok (.castore, 1) := by decide +kernel
theorem d18_86 : decode method_3_code 86 = .ok (.aload_n 0, 1) := by decide +kernel
theorem d18_87 : decode method_3_code 87 = .ok (.iload_n 1, 1) := by decide +kernel
theorem d18_88 : decode method_3_code 88 = .ok (.iconst 3, 1) := by decide +kernel
theorem d18_89 : decode method_3_code 89 = .ok (.iadd, 1) := by decide +kernel
theorem d18_90 : decode method_3_code 90 = .ok (.iload 5, 2) := by decide +kernel
theorem d18_92 : decode method_3_code 92 = .ok (.iconst 2, 1) := by decide +kernel
theorem d18_93 : decode method_3_code 93 = .ok (.if_icmp .le 14, 3) := by decide +kernel
theorem d18_107 : decode method_3_code 107 = .ok (.bipush 61, 2) := by decide +kernel
theorem d18_109 : decode method_3_code 109 = .ok (.castore, 1) := by decide +kernel
theorem d18_110 : decode method_3_code 110 = .ok (.return_, 1) := by decide +kernel
theorem pn_18 : plainName "com/example/gumzo/gumzo/core/TaggedBase64EncodePinLaw" = true := by first | (simp [plainName, overriddenIn]; done) | decide +kernel
theorem pd_18_17 : parseMethodDescriptor "(I)C" = some ⟨[.int], some .char⟩ := by decide +kernel
theorem ef_18 (m : MethodId) (x0 : Addr) (x1 : Int32) (x2 : Int32) (x3 : Int32) (x4 : Int32) (x5 : Int32) : entryFrame m #[(.ref x0), (.int x1), (.int x2), (.int x3), (.int x4), (.int x5)] 8 = mkF m 0 #[.val (.ref x0), .val (.int x1), .val (.int x2), .val (.int x3), .val (.int x4), .val (.int x5), .unset, .unset] [] := by first | (simp [entryFrame, mkF, argsToLocals, Value.category]; done) | rfl
set_option maxRecDepth 65536 in
set_option maxHeartbeats 40000000 in
theorem rm18i (l : Launch) (Z : State) (a0 : Array Value) (hw : ∀ d ∈ tables_1, d.before a0 Z = true) (ws : List Jvm.Cond) (a1 : Addr) (pp x y z : Nat) (ds : List Nat) (h0 : Heap) (n0 : Nat) (Z0 : n0 ≤ h0.size) (A : Av Z h0 a1 .char Int32.ofNat ds) (hd : ds.length < 128) (hp : pp + 3 < ds.length) (hx1 : x < 256) (hy1 : y < 256) (hz1 : z < 256) (g_a1 : n0 ≤ a1) :
    MetFree l (⟨"com/example/gumzo/gumzo/core/TaggedBase64EncodePinLaw", "quad", "([CIIIII)V"⟩ : MethodName) (head1 (Jvm.Cond.code (⟨"com/example/gumzo/gumzo/core/TaggedBase64EncodePinLaw", "quad", "([CIIIII)V"⟩ : MethodName) method_3_code 8 none :: ws) ({ frames := 1, cells := 0, slots := 0, locals := 14 } : Room)) (fun a U => a = #[(.ref a1), (.int (Int32.ofNat pp)), (.int (Int32.ofNat x)), (.int (Int32.ofNat y)), (.int (Int32.ofNat z)), (.int (1 : Int32))] ∧ Z.Warmed39 U.vm ∧ U.heap = h0) (fun _ _ _ _ _ => True) (fun _ U o U' => ∃ v L, o = .returned v ∧ QW Z a1 .char Int32.ofNat (qd ds pp x y z 1) h0 n0 v U'.heap L ∧ FrameEnd U o U' L ({ frames := 1, cells := 0, slots := 0, locals := 14 } : Room).cells ({ frames := 1, cells := 0, slots := 0, locals := 14 } : Room).slots) := by
  refine MetFree.of_bodySF (plainFor_of_name pn_18) hisR ?_
  intro p e s m args below meth c s₁ Bd hml0 hP hK
  obtain ⟨rfl, hZ, hh⟩ := hP
  have hx := Bd.exec
  have hby := Bd.bytes
  have hml : c.maxLocals = 8 := hml0
  have hown : s.vm.findClass "com/example/gumzo/gumzo/core/TaggedBase64EncodePinLaw" = some m.cls := findClass_of_methodNamed Bd.named
  have hnm := (name_of_methodNamed Bd.named Bd.method).1
  have X0 : Stand p l e ({ frames := 1, cells := 0, slots := 0, locals := 14 } : Room) s m #[(.ref a1), (.int (Int32.ofNat pp)), (.int (Int32.ofNat x)), (.int (Int32.ofNat y)), (.int (Int32.ofNat z)), (.int (1 : Int32))] below meth c s₁ [] 0 0 := Stand.of_body Bd
  have e0 : s₁.heap = h0 := by rw [← hh, Bd.state]; rfl
  have N0 := Fr.nil n0
  have pre0 : ∀ t, Steps p.tables e below (s₁.setTop (mkF m 0 #[.val (.ref a1), .val (.int (Int32.ofNat pp)), .val (.int (Int32.ofNat x)), .val (.int (Int32.ofNat y)), .val (.int (Int32.ofNat z)), .val (.int (1 : Int32)), .unset, .unset] [])) t → Steps p.tables e below (s₁.setTop (entryFrame m #[(.ref a1), (.int (Int32.ofNat pp)), (.int (Int32.ofNat x)), (.int (Int32.ofNat y)), (.int (Int32.ofNat z)), (.int (1 : Int32))] 8)) t := fun t_ k_ => castTop (ef_18 m a1 (Int32.ofNat pp) (Int32.ofNat x) (Int32.ofNat y) (Int32.ofNat z) (1 : Int32)) k_
  obtain ⟨_, _, ⟨T7, L7, k7, n7⟩, -, X7, ⟨Lc7, hQ7, l7, y7, z7⟩, st7⟩ := Jvm.LawKit.callS X0 hx (y := (⟨"com/example/gumzo/gumzo/core/TaggedBase64EncodePinLaw", "sym", "(I)C"⟩ : MethodName)) hown (mvT hZ (hw _ (List.mem_of_getElem? (i := 87) rfl))) (mvT hZ (hw _ (List.mem_of_getElem? (i := 88) rfl))) (mvT hZ (hw _ (List.mem_of_getElem? (i := 4) rfl))) (mvT hZ (hw _ (List.mem_of_getElem? (i := 89) rfl))) (by decide) (backOf (W := 2) (symw l Z a0 hw [] (x / 4) h0 n0 Z0 (by omega)) hZ (hw _ (List.mem_of_getElem? (i := 89) rfl)) (hw _ (List.mem_of_getElem? (i := 4) rfl)) (by decide) (by decide)) (g := (mkF m 32 #[.val (.ref a1), .val (.int (Int32.ofNat pp)), .val (.int (Int32.ofNat x)), .val (.int (Int32.ofNat y)), .val (.int (Int32.ofNat z)), .val (.int (1 : Int32)), .val (.int (0 : Int32)), .val (.int (0 : Int32))] [(.int ((Int32.ofNat x) >>> ((2 : Int32) &&& 31))), (.int (Int32.ofNat pp)), (.ref a1)])) rfl (by rw [hml]; rfl) (argsL := [(.int ((Int32.ofNat x) >>> ((2 : Int32) &&& 31)))]) (rest := [(.int (Int32.ofNat pp)), (.ref a1)]) (lenOf pd_18_17 rfl) rfl (by show 2 * 0 + _ ≤ _; exact Nat.le_of_eq rfl) (hb hby d18_32) (fun _ _ => ⟨congrArg (fun z => #[Value.int z]) ((own_r2 x (by omega))), e0, (by decide : 0 + 0 ≤ _), (by decide : 0 + 0 ≤ _)⟩)
  dsimp only [Pt.U, Pt.locs, Pt.cells, Pt.slots] at X7 l7 y7 z7 st7 hQ7
  subst l7 y7 z7
  obtain ⟨rfl, N7q, eq7⟩ := hQ7
  have N7 := Fr.app N0 N7q
  obtain ⟨T8, h8, L8, X8, e8, N8, K8, A8, st8⟩ := stCv X7 hx hZ eq7 N7 g_a1 A (by omega) (pp + 0) (by omega) (al (x / 4)) (Nat.lt_trans (own_al _ (by omega)) (by decide)) rfl rfl (g := (mkF m 35 #[.val (.ref a1), .val (.int (Int32.ofNat pp)), .val (.int (Int32.ofNat x)), .val (.int (Int32.ofNat y)), .val (.int (Int32.ofNat z)), .val (.int (1 : Int32)), .val (.int (0 : Int32)), .val (.int (0 : Int32))] [(.int (Int32.ofNat (al (x / 4)))), (.int (Int32.ofNat pp)), (.ref a1)])) rfl rfl (hb hby d18_35)
  obtain ⟨_, _, ⟨T9, L9, k9, n9⟩, -, X9, ⟨Lc9, hQ9, l9, y9, z9⟩, st9⟩ := Jvm.LawKit.callS X8 hx (y := (⟨"com/example/gumzo/gumzo/core/TaggedBase64EncodePinLaw", "sym", "(I)C"⟩ : MethodName)) hown (mvT hZ (hw _ (List.mem_of_getElem? (i := 87) rfl))) (mvT hZ (hw _ (List.mem_of_getElem? (i := 88) rfl))) (mvT hZ (hw _ (List.mem_of_getElem? (i := 4) rfl))) (mvT hZ (hw _ (List.mem_of_getElem? (i := 89) rfl))) (by decide) (backOf (W := 2) (symw l Z a0 hw [] (x % 4 * 16 + 0 / 16) h8 n0 (Nat.le_trans Z0 (K8).1) (by omega)) hZ (hw _ (List.mem_of_getElem? (i := 89) rfl)) (hw _ (List.mem_of_getElem? (i := 4) rfl)) (by decide) (by decide)) (g := (mkF m 50 #[.val (.ref a1), .val (.int (Int32.ofNat pp)), .val (.int (Int32.ofNat x)), .val (.int (Int32.ofNat y)), .val (.int (Int32.ofNat z)), .val (.int (1 : Int32)), .val (.int (0 : Int32)), .val (.int (0 : Int32))] [(.int ((((Int32.ofNat x) &&& (3 : Int32)) <<< ((4 : Int32) &&& 31)) ||| ((0 : Int32) >>> ((4 : Int32) &&& 31)))), (.int ((Int32.ofNat pp) + (1 : Int32))), (.ref a1)])) rfl (by rw [hml]; rfl) (argsL := [(.int ((((Int32.ofNat x) &&& (3 : Int32)) <<< ((4 : Int32) &&& 31)) ||| ((0 : Int32) >>> ((4 : Int32) &&& 31))))]) (rest := [(.int ((Int32.ofNat pp) + (1 : Int32))), (.ref a1)]) (lenOf pd_18_17 rfl) rfl (by show 2 * 0 + _ ≤ _; exact Nat.le_of_eq rfl) (hb hby d18_50) (fun _ _ => ⟨congrArg (fun z => #[Value.int z]) ((own_m4 x 0 hx1 (by omega))), e8, (by decide : 0 + 0 ≤ _), (by decide : 0 + 0 ≤ _)⟩)
  dsimp only [Pt.U, Pt.locs, Pt.cells, Pt.slots] at X9 l9 y9 z9 st9 hQ9
  subst l9 y9 z9
  obtain ⟨rfl, N9q, eq9⟩ := hQ9
  have N9 := Fr.app N8 N9q
  obtain ⟨T10, h10, L10, X10, e10, N10, K10, A10, st10⟩ := stCv X9 hx hZ eq9 N9 g_a1 A8 (by simp only [List.length_set]; omega) (pp + 1) (by simp only [List.length_set]; omega) (al (x % 4 * 16 + 0 / 16)) (Nat.lt_trans (own_al _ (by omega)) (by decide)) (own_suc pp) rfl (g := (mkF m 53 #[.val (.ref a1), .val (.int (Int32.ofNat pp)), .val (.int (Int32.ofNat x)), .val (.int (Int32.ofNat y)), .val (.int (Int32.ofNat z)), .val (.int (1 : Int32)), .val (.int (0 : Int32)), .val (.int (0 : Int32))] [(.int (Int32.ofNat (al (x % 4 * 16 + 0 / 16)))), (.int ((Int32.ofNat pp) + (1 : Int32))), (.ref a1)])) rfl rfl (hb hby d18_53)
  obtain ⟨T11, h11, L11, X11, e11, N11, K11, A11, st11⟩ := stCv X10 hx hZ e10 N10 g_a1 A10 (by simp only [List.length_set]; omega) (pp + 2) (by simp only [List.length_set]; omega) 61 (by decide) (own_ad2 pp) rfl (g := (mkF m 85 #[.val (.ref a1), .val (.int (Int32.ofNat pp)), .val (.int (Int32.ofNat x)), .val (.int (Int32.ofNat y)), .val (.int (Int32.ofNat z)), .val (.int (1 : Int32)), .val (.int (0 : Int32)), .val (.int (0 : Int32))] [(.int (61 : Int32)), (.int ((Int32.ofNat pp) + (2 : Int32))), (.ref a1)])) rfl rfl (hb hby d18_85)
  obtain ⟨T12, h12, L12, X12, e12, N12, K12, A12, st12⟩ := stCv X11 hx hZ e11 N11 g_a1 A11 (by simp only [List.length_set]; omega) (pp + 3) (by simp only [List.length_set]; omega) 61 (by decide) (own_ad3 pp) rfl (g := (mkF m 109 #[.val (.ref a1), .val (.int (Int32.ofNat pp)), .val (.int (Int32.ofNat x)), .val (.int (Int32.ofNat y)), .val (.int (Int32.ofNat z)), .val (.int (1 : Int32)), .val (.int (0 : Int32)), .val (.int (0 : Int32))] [(.int (61 : Int32)), (.int ((Int32.ofNat pp) + (3 : Int32))), (.ref a1)])) rfl rfl (hb hby d18_109)
  obtain ⟨fs, hr, hrun, hended, hW, hsame⟩ := X12.leave (v := none) (fun _ => rfl)
  refine ⟨_, _, pre0 _ ?_, hrun, hended, _, _, rfl, ?_, ⟨_, rfl⟩, hW, hsame.mono (by decide) (by decide)⟩
  -- 4. STEPS
  · show Steps p.tables e below (s₁.setTop (mkF m 0 #[.val (.ref a1), .val (.int (Int32.ofNat pp)), .val (.int (Int32.ofNat x)), .val (.int (Int32.ofNat y)), .val (.int (Int32.ofNat z)), .val (.int (1 : Int32)), .unset, .unset] [])) _
    refine XS.iload X0.here hx rfl (hb hby d18_0) rfl ?_
    refine XS.iconst X0.here hx rfl (hb hby d18_2) ?_
    refine XS.icmpYes X0.here hx rfl (pc0 := 3) (pc' := 10) rfl (hb hby d18_3) rfl (flt (by decide : ¬ ((1 : Int32) < (1 : Int32)))).2.2.2 (by decide) (by decide) ?_
    refine XS.iconst X0.here hx rfl (hb hby d18_10) ?_
    refine XS.istore X0.here hx rfl (hb hby d18_11) rfl (l' := #[.val (.ref a1), .val (.int (Int32.ofNat pp)), .val (.int (Int32.ofNat x)), .val (.int (Int32.ofNat y)), .val (.int (Int32.ofNat z)), .val (.int (1 : Int32)), .val (.int (0 : Int32)), .unset]) rfl ?_
    refine XS.iload X0.here hx rfl (hb hby d18_13) rfl ?_
    refine XS.iconst X0.here hx rfl (hb hby d18_15) ?_
    show Steps p.tables e below (s₁.setTop (mkF m 16 #[.val (.ref a1), .val (.int (Int32.ofNat pp)), .val (.int (Int32.ofNat x)), .val (.int (Int32.ofNat y)), .val (.int (Int32.ofNat z)), .val (.int (1 : Int32)), .val (.int (0 : Int32)), .unset] [(.int (2 : Int32)), (.int (1 : Int32))])) _
    refine XS.icmpYes X0.here hx rfl (pc0 := 16) (pc' := 24) rfl (hb hby d18_16) rfl (flt (by decide : ¬ ((2 : Int32) < (1 : Int32)))).2.2.2 (by decide) (by decide) ?_
    refine XS.iconst X0.here hx rfl (hb hby d18_24) ?_
    refine XS.istore X0.here hx rfl (hb hby d18_25) rfl (l' := #[.val (.ref a1), .val (.int (Int32.ofNat pp)), .val (.int (Int32.ofNat x)), .val (.int (Int32.ofNat y)), .val (.int (Int32.ofNat z)), .val (.int (1 : Int32)), .val (.int (0 : Int32)), .val (.int (0 : Int32))]) rfl ?_
    refine XS.aloadN X0.here hx rfl (hb hby d18_27) rfl rfl ?_
    refine XS.iloadN X0.here hx rfl (hb hby d18_28) rfl ?_
    refine XS.iloadN X0.here hx rfl (hb hby d18_29) rfl ?_
    refine XS.iconst X0.here hx rfl (hb hby d18_30) ?_
    show Steps p.tables e below (s₁.setTop (mkF m 31 #[.val (.ref a1), .val (.int (Int32.ofNat pp)), .val (.int (Int32.ofNat x)), .val (.int (Int32.ofNat y)), .val (.int (Int32.ofNat z)), .val (.int (1 : Int32)), .val (.int (0 : Int32)), .val (.int (0 : Int32))] [(.int (2 : Int32)), (.int (Int32.ofNat x)), (.int (Int32.ofNat pp)), (.ref a1)])) _
    refine XS.ishr X0.here hx rfl (hb hby d18_31) rfl ?_
    refine st7 _ ?_
    refine st8 _ ?_
    refine XS.aloadN X8.here hx rfl (hb hby d18_36) rfl rfl ?_
    refine XS.iloadN X8.here hx rfl (hb hby d18_37) rfl ?_
    refine XS.iconst X8.here hx rfl (hb hby d18_38) ?_
    refine XS.iadd X8.here hx rfl (hb hby d18_39) rfl ?_
    show Steps p.tables e below (T8.setTop (mkF m 40 #[.val (.ref a1), .val (.int (Int32.ofNat pp)), .val (.int (Int32.ofNat x)), .val (.int (Int32.ofNat y)), .val (.int (Int32.ofNat z)), .val (.int (1 : Int32)), .val (.int (0 : Int32)), .val (.int (0 : Int32))] [(.int ((Int32.ofNat pp) + (1 : Int32))), (.ref a1)])) _
    refine XS.iloadN X8.here hx rfl (hb hby d18_40) rfl ?_
    refine XS.iconst X8.here hx rfl (hb hby d18_41) ?_
    refine XS.iand X8.here hx rfl (hb hby d18_42) rfl ?_
    refine XS.iconst X8.here hx rfl (hb hby d18_43) ?_
    refine XS.ishl X8.here hx rfl (hb hby d18_44) rfl ?_
    refine XS.iload X8.here hx rfl (hb hby d18_45) rfl ?_
    refine XS.iconst X8.here hx rfl (hb hby d18_47) ?_
    show Steps p.tables e below (T8.setTop (mkF m 48 #[.val (.ref a1), .val (.int (Int32.ofNat pp)), .val (.int (Int32.ofNat x)), .val (.int (Int32.ofNat y)), .val (.int (Int32.ofNat z)), .val (.int (1 : Int32)), .val (.int (0 : Int32)), .val (.int (0 : Int32))] [(.int (4 : Int32)), (.int (0 : Int32)), (.int (((Int32.ofNat x) &&& (3 : Int32)) <<< ((4 : Int32) &&& 31))), (.int ((Int32.ofNat pp) + (1 : Int32))), (.ref a1)])) _
    refine XS.ishr X8.here hx rfl (hb hby d18_48) rfl ?_
    refine XS.ior X8.here hx rfl (hb hby d18_49) rfl ?_
    refine st9 _ ?_
    refine st10 _ ?_
    refine XS.aloadN X10.here hx rfl (hb hby d18_54) rfl rfl ?_
    refine XS.iloadN X10.here hx rfl (hb hby d18_55) rfl ?_
    refine XS.iconst X10.here hx rfl (hb hby d18_56) ?_
    show Steps p.tables e below (T10.setTop (mkF m 57 #[.val (.ref a1), .val (.int (Int32.ofNat pp)), .val (.int (Int32.ofNat x)), .val (.int (Int32.ofNat y)), .val (.int (Int32.ofNat z)), .val (.int (1 : Int32)), .val (.int (0 : Int32)), .val (.int (0 : Int32))] [(.int (2 : Int32)), (.int (Int32.ofNat pp)), (.ref a1)])) _
    refine XS.iadd X10.here hx rfl (hb hby d18_57) rfl ?_
    refine XS.iload X10.here hx rfl (hb hby d18_58) rfl ?_
    refine XS.iconst X10.here hx rfl (hb hby d18_60) ?_
    refine XS.icmpYes X10.here hx rfl (pc0 := 61) (pc' := 83) rfl (hb hby d18_61) rfl (flt (by decide : ¬ ((1 : Int32) < (1 : Int32)))).2.2.2 (by decide) (by decide) ?_
    refine XS.bipush X10.here hx rfl (hb hby d18_83) ?_
    refine st11 _ ?_
    refine XS.aloadN X11.here hx rfl (hb hby d18_86) rfl rfl ?_
    show Steps p.tables e below (T11.setTop (mkF m 87 #[.val (.ref a1), .val (.int (Int32.ofNat pp)), .val (.int (Int32.ofNat x)), .val (.int (Int32.ofNat y)), .val (.int (Int32.ofNat z)), .val (.int (1 : Int32)), .val (.int (0 : Int32)), .val (.int (0 : Int32))] [(.ref a1)])) _
    refine XS.iloadN X11.here hx rfl (hb hby d18_87) rfl ?_
    refine XS.iconst X11.here hx rfl (hb hby d18_88) ?_
    refine XS.iadd X11.here hx rfl (hb hby d18_89) rfl ?_
    refine XS.iload X11.here hx rfl (hb hby d18_90) rfl ?_
    refine XS.iconst X11.here hx rfl (hb hby d18_92) ?_
    refine XS.icmpYes X11.here hx rfl (pc0 := 93) (pc' := 107) rfl (hb hby d18_93) rfl (flt (by decide : ¬ ((2 : Int32) < (1 : Int32)))).2.2.2 (by decide) (by decide) ?_
    refine XS.bipush X11.here hx rfl (hb hby d18_107) ?_
    show Steps p.tables e below (T11.setTop (mkF m 109 #[.val (.ref a1), .val (.int (Int32.ofNat pp)), .val (.int (Int32.ofNat x)), .val (.int (Int32.ofNat y)), .val (.int (Int32.ofNat z)), .val (.int (1 : Int32)), .val (.int (0 : Int32)), .val (.int (0 : Int32))] [(.int (61 : Int32)), (.int ((Int32.ofNat pp) + (3 : Int32))), (.ref a1)])) _
    refine st12 _ ?_
    show Steps p.tables e below (T12.setTop (mkF m 110 #[.val (.ref a1), .val (.int (Int32.ofNat pp)), .val (.int (Int32.ofNat x)), .val (.int (Int32.ofNat y)), .val (.int (Int32.ofNat z)), .val (.int (1 : Int32)), .val (.int (0 : Int32)), .val (.int (0 : Int32))] [])) _
    exact X12.returnOut hx Bd.returns (hb hby d18_110) hr
  · show QW Z a1 .char Int32.ofNat (qd ds pp x y z 1) h0 n0 _ T12.heap _
    rw [e12]
    rw [show qd ds pp x y z 1 = ((((ds.set (pp + 0) (al (x / 4))).set (pp + 1) (al (x % 4 * 16 + 0 / 16))).set (pp + 2) 61).set (pp + 3) 61) by simp [qd]]; exact ⟨rfl, N12, (own_kt (own_kt (own_kt K8 K10) K11) K12), A12⟩
theorem d18_6 : decode method_3_code 6 = .ok (.iload_n 3, 1) := by decide +kernel
theorem d18_7 : decode method_3_code 7 = .ok (.goto 4, 3) := by decide +kernel
theorem d18_64 : decode method_3_code 64 = .ok (.iload 6, 2) := by decide +kernel
theorem d18_66 : decode method_3_code 66 = .ok (.bipush 15, 2) := by decide +kernel
theorem d18_68 : decode method_3_code 68 = .ok (.iand, 1) := by decide +kernel
theorem d18_69 : decode method_3_code 69 = .ok (.iconst 2, 1) := by decide +kernel
theorem d18_70 : decode method_3_code 70 = .ok (.ishl, 1) := by decide +kernel
theorem d18_71 : decode method_3_code 71 = .ok (.iload 7, 2) := by decide +kernel
theorem d18_73 : decode method_3_code 73 = .ok (.bipush 6, 2) := by decide +kernel
theorem d18_75 : decode method_3_code 75 = .ok (.ishr, 1) := by decide +kernel
theorem d18_76 : decode method_3_code 76 = .ok (.ior, 1) := by decide +kernel
theorem d18_77 : decode method_3_code 77 = .ok (.invokestatic 7, 3) := by decide +kernel
theorem d18_80 : decode method_3_code 80 = .ok (.goto 5, 3) := by decide +kernel
set_option maxRecDepth 65536 in
set_option maxHeartbeats 40000000 in
theorem rm18j (l : Launch) (Z : State) (a0 : Array Value) (hw : ∀ d ∈ tables_1, d.before a0 Z = true) (ws : List Jvm.Cond) (a1 : Addr) (pp x y z : Nat) (ds : List Nat) (h0 : Heap) (n0 : Nat) (Z0 : n0 ≤ h0.size) (A : Av Z h0 a1 .char Int32.ofNat ds) (hd : ds.length < 128) (hp : pp + 3 < ds.length) (hx1 : x < 256) (hy1 : y < 256) (hz1 : z < 256) (g_a1 : n0 ≤ a1) :
    MetFree l (⟨"com/example/gumzo/gumzo/core/TaggedBase64EncodePinLaw", "quad", "([CIIIII)V"⟩ : MethodName) (head1 (Jvm.Cond.code (⟨"com/example/gumzo/gumzo/core/TaggedBase64EncodePinLaw", "quad", "([CIIIII)V"⟩ : MethodName) method_3_code 8 none :: ws) ({ frames := 1, cells := 0, slots := 0, locals := 14 } : Room)) (fun a U => a = #[(.ref a1), (.int (Int32.ofNat pp)), (.int (Int32.ofNat x)), (.int (Int32.ofNat y)), (.int (Int32.ofNat z)), (.int (2 : Int32))] ∧ Z.Warmed39 U.vm ∧ U.heap = h0) (fun _ _ _ _ _ => True) (fun _ U o U' => ∃ v L, o = .returned v ∧ QW Z a1 .char Int32.ofNat (qd ds pp x y z 2) h0 n0 v U'.heap L ∧ FrameEnd U o U' L ({ frames := 1, cells := 0, slots := 0, locals := 14 } : Room).cells ({ frames := 1, cells := 0, slots := 0, locals := 14 } : Room).slots) := by
  refine MetFree.of_bodySF (plainFor_of_name pn_18) hisR ?_
  intro p e s m args below meth c s₁ Bd hml0 hP hK
  obtain ⟨rfl, hZ, hh⟩ := hP
  have hx := Bd.exec
  have hby := Bd.bytes
  have hml : c.maxLocals = 8 := hml0
  have hown : s.vm.findClass "com/example/gumzo/gumzo/core/TaggedBase64EncodePinLaw" = some m.cls := findClass_of_methodNamed Bd.named
  have hnm := (name_of_methodNamed Bd.named Bd.method).1
  have X0 : Stand p l e ({ frames := 1, cells := 0, slots := 0, locals := 14 } : Room) s m #[(.ref a1), (.int (Int32.ofNat pp)), (.int (Int32.ofNat x)), (.int (Int32.ofNat y)), (.int (Int32.ofNat z)), (.int (2 : Int32))] below meth c s₁ [] 0 0 := Stand.of_body Bd
  have e0 : s₁.heap = h0 := by rw [← hh, Bd.state]; rfl
  have N0 := Fr.nil n0
  have pre0 : ∀ t, Steps p.tables e below (s₁.setTop (mkF m 0 #[.val (.ref a1), .val (.int (Int32.ofNat pp)), .val (.int (Int32.ofNat x)), .val (.int (Int32.ofNat y)), .val (.int (Int32.ofNat z)), .val (.int (2 : Int32)), .unset, .unset] [])) t → Steps p.tables e below (s₁.setTop (entryFrame m #[(.ref a1), (.int (Int32.ofNat pp)), (.int (Int32.ofNat x)), (.int (Int32.ofNat y)), (.int (Int32.ofNat z)), (.int (2 : Int32))] 8)) t := fun t_ k_ => castTop (ef_18 m a1 (Int32.ofNat pp) (Int32.ofNat x) (Int32.ofNat y) (Int32.ofNat z) (2 : Int32)) k_
  obtain ⟨_, _, ⟨T7, L7, k7, n7⟩, -, X7, ⟨Lc7, hQ7, l7, y7, z7⟩, st7⟩ := Jvm.LawKit.callS X0 hx (y := (⟨"com/example/gumzo/gumzo/core/TaggedBase64EncodePinLaw", "sym", "(I)C"⟩ : MethodName)) hown (mvT hZ (hw _ (List.mem_of_getElem? (i := 87) rfl))) (mvT hZ (hw _ (List.mem_of_getElem? (i := 88) rfl))) (mvT hZ (hw _ (List.mem_of_getElem? (i := 4) rfl))) (mvT hZ (hw _ (List.mem_of_getElem? (i := 89) rfl))) (by decide) (backOf (W := 2) (symw l Z a0 hw [] (x / 4) h0 n0 Z0 (by omega)) hZ (hw _ (List.mem_of_getElem? (i := 89) rfl)) (hw _ (List.mem_of_getElem? (i := 4) rfl)) (by decide) (by decide)) (g := (mkF m 32 #[.val (.ref a1), .val (.int (Int32.ofNat pp)), .val (.int (Int32.ofNat x)), .val (.int (Int32.ofNat y)), .val (.int (Int32.ofNat z)), .val (.int (2 : Int32)), .val (.int (Int32.ofNat y)), .val (.int (0 : Int32))] [(.int ((Int32.ofNat x) >>> ((2 : Int32) &&& 31))), (.int (Int32.ofNat pp)), (.ref a1)])) rfl (by rw [hml]; rfl) (argsL := [(.int ((Int32.ofNat x) >>> ((2 : Int32) &&& 31)))]) (rest := [(.int (Int32.ofNat pp)), (.ref a1)]) (lenOf pd_18_17 rfl) rfl (by show 2 * 0 + _ ≤ _; exact Nat.le_of_eq rfl) (hb hby d18_32) (fun _ _ => ⟨congrArg (fun z => #[Value.int z]) ((own_r2 x (by omega))), e0, (by decide : 0 + 0 ≤ _), (by decide : 0 + 0 ≤ _)⟩)
  dsimp only [Pt.U, Pt.locs, Pt.cells, Pt.slots] at X7 l7 y7 z7 st7 hQ7
  subst l7 y7 z7
  obtain ⟨rfl, N7q, eq7⟩ := hQ7
  have N7 := Fr.app N0 N7q
  obtain ⟨T8, h8, L8, X8, e8, N8, K8, A8, st8⟩ := stCv X7 hx hZ eq7 N7 g_a1 A (by omega) (pp + 0) (by omega) (al (x / 4)) (Nat.lt_trans (own_al _ (by omega)) (by decide)) rfl rfl (g := (mkF m 35 #[.val (.ref a1), .val (.int (Int32.ofNat pp)), .val (.int (Int32.ofNat x)), .val (.int (Int32.ofNat y)), .val (.int (Int32.ofNat z)), .val (.int (2 : Int32)), .val (.int (Int32.ofNat y)), .val (.int (0 : Int32))] [(.int (Int32.ofNat (al (x / 4)))), (.int (Int32.ofNat pp)), (.ref a1)])) rfl rfl (hb hby d18_35)
  obtain ⟨_, _, ⟨T9, L9, k9, n9⟩, -, X9, ⟨Lc9, hQ9, l9, y9, z9⟩, st9⟩ := Jvm.LawKit.callS X8 hx (y := (⟨"com/example/gumzo/gumzo/core/TaggedBase64EncodePinLaw", "sym", "(I)C"⟩ : MethodName)) hown (mvT hZ (hw _ (List.mem_of_getElem? (i := 87) rfl))) (mvT hZ (hw _ (List.mem_of_getElem? (i := 88) rfl))) (mvT hZ (hw _ (List.mem_of_getElem? (i := 4) rfl))) (mvT hZ (hw _ (List.mem_of_getElem? (i := 89) rfl))) (by decide) (backOf (W := 2) (symw l Z a0 hw [] (x % 4 * 16 + y / 16) h8 n0 (Nat.le_trans Z0 (K8).1) (by omega)) hZ (hw _ (List.mem_of_getElem? (i := 89) rfl)) (hw _ (List.mem_of_getElem? (i := 4) rfl)) (by decide) (by decide)) (g := (mkF m 50 #[.val (.ref a1), .val (.int (Int32.ofNat pp)), .val (.int (Int32.ofNat x)), .val (.int (Int32.ofNat y)), .val (.int (Int32.ofNat z)), .val (.int (2 : Int32)), .val (.int (Int32.ofNat y)), .val (.int (0 : Int32))] [(.int ((((Int32.ofNat x) &&& (3 : Int32)) <<< ((4 : Int32) &&& 31)) ||| ((Int32.ofNat y) >>> ((4 : Int32) &&& 31)))), (.int ((Int32.ofNat pp) + (1 : Int32))), (.ref a1)])) rfl (by rw [hml]; rfl) (argsL := [(.int ((((Int32.ofNat x) &&& (3 : Int32)) <<< ((4 : Int32) &&& 31)) ||| ((Int32.ofNat y) >>> ((4 : Int32) &&& 31))))]) (rest := [(.int ((Int32.ofNat pp) + (1 : Int32))), (.ref a1)]) (lenOf pd_18_17 rfl) rfl (by show 2 * 0 + _ ≤ _; exact Nat.le_of_eq rfl) (hb hby d18_50) (fun _ _ => ⟨congrArg (fun z => #[Value.int z]) ((own_m4 x y hx1 (by omega))), e8, (by decide : 0 + 0 ≤ _), (by decide : 0 + 0 ≤ _)⟩)
  dsimp only [Pt.U, Pt.locs, Pt.cells, Pt.slots] at X9 l9 y9 z9 st9 hQ9
  subst l9 y9 z9
  obtain ⟨rfl, N9q, eq9⟩ := hQ9
  have N9 := Fr.app N8 N9q
  obtain ⟨T10, h10, L10, X10, e10, N10, K10, A10, st10⟩ := stCv X9 hx hZ eq9 N9 g_a1 A8 (by simp only [List.length_set]; omega) (pp + 1) (by simp only [List.length_set]; omega) (al (x % 4 * 16 + y / 16)) (Nat.lt_trans (own_al _ (by omega)) (by decide)) (own_suc pp) rfl (g := (mkF m 53 #[.val (.ref a1), .val (.int (Int32.ofNat pp)), .val (.int (Int32.ofNat x)), .val (.int (Int32.ofNat y)), .val (.int (Int32.ofNat z)), .val (.int (2 : Int32)), .val (.int (Int32.ofNat y)), .val (.int (0 : Int32))] [(.int (Int32.ofNat (al (x % 4 * 16 + y / 16)))), (.int ((Int32.ofNat pp) + (1 : Int32))), (.ref a1)])) rfl rfl (hb hby d18_53)
  obtain ⟨_, _, ⟨T11, L11, k11, n11⟩, -, X11, ⟨Lc11, hQ11, l11, y11, z11⟩, st11⟩ := Jvm.LawKit.callS X10 hx (y := (⟨"com/example/gumzo/gumzo/core/TaggedBase64EncodePinLaw", "sym", "(I)C"⟩ : MethodName)) hown (mvT hZ (hw _ (List.mem_of_getElem? (i := 87) rfl))) (mvT hZ (hw _ (List.mem_of_getElem? (i := 88) rfl))) (mvT hZ (hw _ (List.mem_of_getElem? (i := 4) rfl))) (mvT hZ (hw _ (List.mem_of_getElem? (i := 89) rfl))) (by decide) (backOf (W := 2) (symw l Z a0 hw [] (y % 16 * 4 + 0 / 64) h10 n0 (Nat.le_trans Z0 ((own_kt K8 K10)).1) (by omega)) hZ (hw _ (List.mem_of_getElem? (i := 89) rfl)) (hw _ (List.mem_of_getElem? (i := 4) rfl)) (by decide) (by decide)) (g := (mkF m 77 #[.val (.ref a1), .val (.int (Int32.ofNat pp)), .val (.int (Int32.ofNat x)), .val (.int (Int32.ofNat y)), .val (.int (Int32.ofNat z)), .val (.int (2 : Int32)), .val (.int (Int32.ofNat y)), .val (.int (0 : Int32))] [(.int ((((Int32.ofNat y) &&& (15 : Int32)) <<< ((2 : Int32) &&& 31)) ||| ((0 : Int32) >>> ((6 : Int32) &&& 31)))), (.int ((Int32.ofNat pp) + (2 : Int32))), (.ref a1)])) rfl (by rw [hml]; rfl) (argsL := [(.int ((((Int32.ofNat y) &&& (15 : Int32)) <<< ((2 : Int32) &&& 31)) ||| ((0 : Int32) >>> ((6 : Int32) &&& 31))))]) (rest := [(.int ((Int32.ofNat pp) + (2 : Int32))), (.ref a1)]) (lenOf pd_18_17 rfl) rfl (by show 2 * 0 + _ ≤ _; exact Nat.le_of_eq rfl) (hb hby d18_77) (fun _ _ => ⟨congrArg (fun z => #[Value.int z]) ((own_m2 y 0 hy1 (by omega))), e10, (by decide : 0 + 0 ≤ _), (by decide : 0 + 0 ≤ _)⟩)
  dsimp only [Pt.U, Pt.locs, Pt.cells, Pt.slots] at X11 l11 y11 z11 st11 hQ11
  subst l11 y11 z11
  obtain ⟨rfl, N11q, eq11⟩ := hQ11
  have N11 := Fr.app N10 N11q
  obtain ⟨T12, h12, L12, X12, e12, N12, K12, A12, st12⟩ := stCv X11 hx hZ eq11 N11 g_a1 A10 (by simp only [List.length_set]; omega) (pp + 2) (by simp only [List.length_set]; omega) (al (y % 16 * 4 + 0 / 64)) (Nat.lt_trans (own_al _ (by omega)) (by decide)) (own_ad2 pp) rfl (g := (mkF m 85 #[.val (.ref a1), .val (.int (Int32.ofNat pp)), .val (.int (Int32.ofNat x)), .val (.int (Int32.ofNat y)), .val (.int (Int32.ofNat z)), .val (.int (2 : Int32)), .val (.int (Int32.ofNat y)), .val (.int (0 : Int32))] [(.int (Int32.ofNat (al (y % 16 * 4 + 0 / 64)))), (.int ((Int32.ofNat pp) + (2 : Int32))), (.ref a1)])) rfl rfl (hb hby d18_85)
  obtain ⟨T13, h13, L13, X13, e13, N13, K13, A13, st13⟩ := stCv X12 hx hZ e12 N12 g_a1 A12 (by simp only [List.length_set]; omega) (pp + 3) (by simp only [List.length_set]; omega) 61 (by decide) (own_ad3 pp) rfl (g := (mkF m 109 #[.val (.ref a1), .val (.int (Int32.ofNat pp)), .val (.int (Int32.ofNat x)), .val (.int (Int32.ofNat y)), .val (.int (Int32.ofNat z)), .val (.int (2 : Int32)), .val (.int (Int32.ofNat y)), .val (.int (0 : Int32))] [(.int (61 : Int32)), (.int ((Int32.ofNat pp) + (3 : Int32))), (.ref a1)])) rfl rfl (hb hby d18_109)
  obtain ⟨fs, hr, hrun, hended, hW, hsame⟩ := X13.leave (v := none) (fun _ => rfl)
  refine ⟨_, _, pre0 _ ?_, hrun, hended, _, _, rfl, ?_, ⟨_, rfl⟩, hW, hsame.mono (by decide) (by decide)⟩
  -- 4. STEPS
  · show Steps p.tables e below (s₁.setTop (mkF m 0 #[.val (.ref a1), .val (.int (Int32.ofNat pp)), .val (.int (Int32.ofNat x)), .val (.int (Int32.ofNat y)), .val (.int (Int32.ofNat z)), .val (.int (2 : Int32)), .unset, .unset] [])) _
    refine XS.iload X0.here hx rfl (hb hby d18_0) rfl ?_
    refine XS.iconst X0.here hx rfl (hb hby d18_2) ?_
    refine XS.icmpNo X0.here hx rfl (hb hby d18_3) rfl (tlt (by decide : ((1 : Int32) < (2 : Int32)))).2.2.2 ?_
    refine XS.iloadN X0.here hx rfl (hb hby d18_6) rfl ?_
    refine XS.goto X0.here hx rfl (pc0 := 7) (pc' := 11) rfl (hb hby d18_7) (by decide) (by decide) ?_
    refine XS.istore X0.here hx rfl (hb hby d18_11) rfl (l' := #[.val (.ref a1), .val (.int (Int32.ofNat pp)), .val (.int (Int32.ofNat x)), .val (.int (Int32.ofNat y)), .val (.int (Int32.ofNat z)), .val (.int (2 : Int32)), .val (.int (Int32.ofNat y)), .unset]) rfl ?_
    refine XS.iload X0.here hx rfl (hb hby d18_13) rfl ?_
    show Steps p.tables e below (s₁.setTop (mkF m 15 #[.val (.ref a1), .val (.int (Int32.ofNat pp)), .val (.int (Int32.ofNat x)), .val (.int (Int32.ofNat y)), .val (.int (Int32.ofNat z)), .val (.int (2 : Int32)), .val (.int (Int32.ofNat y)), .unset] [(.int (2 : Int32))])) _
    refine XS.iconst X0.here hx rfl (hb hby d18_15) ?_
    refine XS.icmpYes X0.here hx rfl (pc0 := 16) (pc' := 24) rfl (hb hby d18_16) rfl (flt (by decide : ¬ ((2 : Int32) < (2 : Int32)))).2.2.2 (by decide) (by decide) ?_
    refine XS.iconst X0.here hx rfl (hb hby d18_24) ?_
    refine XS.istore X0.here hx rfl (hb hby d18_25) rfl (l' := #[.val (.ref a1), .val (.int (Int32.ofNat pp)), .val (.int (Int32.ofNat x)), .val (.int (Int32.ofNat y)), .val (.int (Int32.ofNat z)), .val (.int (2 : Int32)), .val (.int (Int32.ofNat y)), .val (.int (0 : Int32))]) rfl ?_
    refine XS.aloadN X0.here hx rfl (hb hby d18_27) rfl rfl ?_
    refine XS.iloadN X0.here hx rfl (hb hby d18_28) rfl ?_
    refine XS.iloadN X0.here hx rfl (hb hby d18_29) rfl ?_
    show Steps p.tables e below (s₁.setTop (mkF m 30 #[.val (.ref a1), .val (.int (Int32.ofNat pp)), .val (.int (Int32.ofNat x)), .val (.int (Int32.ofNat y)), .val (.int (Int32.ofNat z)), .val (.int (2 : Int32)), .val (.int (Int32.ofNat y)), .val (.int (0 : Int32))] [(.int (Int32.ofNat x)), (.int (Int32.ofNat pp)), (.ref a1)])) _
    refine XS.iconst X0.here hx rfl (hb hby d18_30) ?_
    refine XS.ishr X0.here hx rfl (hb hby d18_31) rfl ?_
    refine st7 _ ?_
    refine st8 _ ?_
    refine XS.aloadN X8.here hx rfl (hb hby d18_36) rfl rfl ?_
    refine XS.iloadN X8.here hx rfl (hb hby d18_37) rfl ?_
    refine XS.iconst X8.here hx rfl (hb hby d18_38) ?_
    show Steps p.tables e below (T8.setTop (mkF m 39 #[.val (.ref a1), .val (.int (Int32.ofNat pp)), .val (.int (Int32.ofNat x)), .val (.int (Int32.ofNat y)), .val (.int (Int32.ofNat z)), .val (.int (2 : Int32)), .val (.int (Int32.ofNat y)), .val (.int (0 : Int32))] [(.int (1 : Int32)), (.int (Int32.ofNat pp)), (.ref a1)])) _
    refine XS.iadd X8.here hx rfl (hb hby d18_39) rfl ?_
    refine XS.iloadN X8.here hx rfl (hb hby d18_40) rfl ?_
    refine XS.iconst X8.here hx rfl (hb hby d18_41) ?_
    refine XS.iand X8.here hx rfl (hb hby d18_42) rfl ?_
    refine XS.iconst X8.here hx rfl (hb hby d18_43) ?_
    refine XS.ishl X8.here hx rfl (hb hby d18_44) rfl ?_
    refine XS.iload X8.here hx rfl (hb hby d18_45) rfl ?_
    show Steps p.tables e below (T8.setTop (mkF m 47 #[.val (.ref a1), .val (.int (Int32.ofNat pp)), .val (.int (Int32.ofNat x)), .val (.int (Int32.ofNat y)), .val (.int (Int32.ofNat z)), .val (.int (2 : Int32)), .val (.int (Int32.ofNat y)), .val (.int (0 : Int32))] [(.int (Int32.ofNat y)), (.int (((Int32.ofNat x) &&& (3 : Int32)) <<< ((4 : Int32) &&& 31))), (.int ((Int32.ofNat pp) + (1 : Int32))), (.ref a1)])) _
    refine XS.iconst X8.here hx rfl (hb hby d18_47) ?_
    refine XS.ishr X8.here hx rfl (hb hby d18_48) rfl ?_
    refine XS.ior X8.here hx rfl (hb hby d18_49) rfl ?_
    refine st9 _ ?_
    refine st10 _ ?_
    refine XS.aloadN X10.here hx rfl (hb hby d18_54) rfl rfl ?_
    refine XS.iloadN X10.here hx rfl (hb hby d18_55) rfl ?_
    show Steps p.tables e below (T10.setTop (mkF m 56 #[.val (.ref a1), .val (.int (Int32.ofNat pp)), .val (.int (Int32.ofNat x)), .val (.int (Int32.ofNat y)), .val (.int (Int32.ofNat z)), .val (.int (2 : Int32)), .val (.int (Int32.ofNat y)), .val (.int (0 : Int32))] [(.int (Int32.ofNat pp)), (.ref a1)])) _
    refine XS.iconst X10.here hx rfl (hb hby d18_56) ?_
    refine XS.iadd X10.here hx rfl (hb hby d18_57) rfl ?_
    refine XS.iload X10.here hx rfl (hb hby d18_58) rfl ?_
    refine XS.iconst X10.here hx rfl (hb hby d18_60) ?_
    refine XS.icmpNo X10.here hx rfl (hb hby d18_61) rfl (tlt (by decide : ((1 : Int32) < (2 : Int32)))).2.2.2 ?_
    refine XS.iload X10.here hx rfl (hb hby d18_64) rfl ?_
    refine XS.bipush X10.here hx rfl (hb hby d18_66) ?_
    show Steps p.tables e below (T10.setTop (mkF m 68 #[.val (.ref a1), .val (.int (Int32.ofNat pp)), .val (.int (Int32.ofNat x)), .val (.int (Int32.ofNat y)), .val (.int (Int32.ofNat z)), .val (.int (2 : Int32)), .val (.int (Int32.ofNat y)), .val (.int (0 : Int32))] [(.int (15 : Int32)), (.int (Int32.ofNat y)), (.int ((Int32.ofNat pp) + (2 : Int32))), (.ref a1)])) _
    refine XS.iand X10.here hx rfl (hb hby d18_68) rfl ?_
    refine XS.iconst X10.here hx rfl (hb hby d18_69) ?_
    refine XS.ishl X10.here hx rfl (hb hby d18_70) rfl ?_
    refine XS.iload X10.here hx rfl (hb hby d18_71) rfl ?_
    refine XS.bipush X10.here hx rfl (hb hby d18_73) ?_
    refine XS.ishr X10.here hx rfl (hb hby d18_75) rfl ?_
    refine XS.ior X10.here hx rfl (hb hby d18_76) rfl ?_
    show Steps p.tables e below (T10.setTop (mkF m 77 #[.val (.ref a1), .val (.int (Int32.ofNat pp)), .val (.int (Int32.ofNat x)), .val (.int (Int32.ofNat y)), .val (.int (Int32.ofNat z)), .val (.int (2 : Int32)), .val (.int (Int32.ofNat y)), .val (.int (0 : Int32))] [(.int ((((Int32.ofNat y) &&& (15 : Int32)) <<< ((2 : Int32) &&& 31)) ||| ((0 : Int32) >>> ((6 : Int32) &&& 31)))), (.int ((Int32.ofNat pp) + (2 : Int32))), (.ref a1)])) _
    refine st11 _ ?_
    refine XS.goto X11.here hx rfl (pc0 := 80) (pc' := 85) rfl (hb hby d18_80) (by decide) (by decide) ?_
    refine st12 _ ?_
    refine XS.aloadN X12.here hx rfl (hb hby d18_86) rfl rfl ?_
    refine XS.iloadN X12.here hx rfl (hb hby d18_87) rfl ?_
    refine XS.iconst X12.here hx rfl (hb hby d18_88) ?_
    refine XS.iadd X12.here hx rfl (hb hby d18_89) rfl ?_
    show Steps p.tables e below (T12.setTop (mkF m 90 #[.val (.ref a1), .val (.int (Int32.ofNat pp)), .val (.int (Int32.ofNat x)), .val (.int (Int32.ofNat y)), .val (.int (Int32.ofNat z)), .val (.int (2 : Int32)), .val (.int (Int32.ofNat y)), .val (.int (0 : Int32))] [(.int ((Int32.ofNat pp) + (3 : Int32))), (.ref a1)])) _
    refine XS.iload X12.here hx rfl (hb hby d18_90) rfl ?_
    refine XS.iconst X12.here hx rfl (hb hby d18_92) ?_
    refine XS.icmpYes X12.here hx rfl (pc0 := 93) (pc' := 107) rfl (hb hby d18_93) rfl (flt (by decide : ¬ ((2 : Int32) < (2 : Int32)))).2.2.2 (by decide) (by decide) ?_
    refine XS.bipush X12.here hx rfl (hb hby d18_107) ?_
    refine st13 _ ?_
    show Steps p.tables e below (T13.setTop (mkF m 110 #[.val (.ref a1), .val (.int (Int32.ofNat pp)), .val (.int (Int32.ofNat x)), .val (.int (Int32.ofNat y)), .val (.int (Int32.ofNat z)), .val (.int (2 : Int32)), .val (.int (Int32.ofNat y)), .val (.int (0 : Int32))] [])) _
    exact X13.returnOut hx Bd.returns (hb hby d18_110) hr
  · show QW Z a1 .char Int32.ofNat (qd ds pp x y z 2) h0 n0 _ T13.heap _
    rw [e13]
    rw [show qd ds pp x y z 2 = ((((ds.set (pp + 0) (al (x / 4))).set (pp + 1) (al (x % 4 * 16 + y / 16))).set (pp + 2) (al (y % 16 * 4 + 0 / 64))).set (pp + 3) 61) by simp [qd]]; exact ⟨rfl, N13, (own_kt (own_kt (own_kt K8 K10) K12) K13), A13⟩
theorem d18_19 : decode method_3_code 19 = .ok (.iload 4, 2) := by decide +kernel
theorem d18_21 : decode method_3_code 21 = .ok (.goto 4, 3) := by decide +kernel
theorem d18_96 : decode method_3_code 96 = .ok (.iload 7, 2) := by decide +kernel
theorem d18_98 : decode method_3_code 98 = .ok (.bipush 63, 2) := by decide +kernel
theorem d18_100 : decode method_3_code 100 = .ok (.iand, 1) := by decide +kernel
theorem d18_101 : decode method_3_code 101 = .ok (.invokestatic 7, 3) := by decide +kernel
theorem d18_104 : decode method_3_code 104 = .ok (.goto 5, 3) := by decide +kernel
set_option maxRecDepth 65536 in
set_option maxHeartbeats 40000000 in
theorem rm18k (l : Launch) (Z : State) (a0 : Array Value) (hw : ∀ d ∈ tables_1, d.before a0 Z = true) (ws : List Jvm.Cond) (a1 : Addr) (pp x y z : Nat) (ds : List Nat) (h0 : Heap) (n0 : Nat) (Z0 : n0 ≤ h0.size) (A : Av Z h0 a1 .char Int32.ofNat ds) (hd : ds.length < 128) (hp : pp + 3 < ds.length) (hx1 : x < 256) (hy1 : y < 256) (hz1 : z < 256) (g_a1 : n0 ≤ a1) :
    MetFree l (⟨"com/example/gumzo/gumzo/core/TaggedBase64EncodePinLaw", "quad", "([CIIIII)V"⟩ : MethodName) (head1 (Jvm.Cond.code (⟨"com/example/gumzo/gumzo/core/TaggedBase64EncodePinLaw", "quad", "([CIIIII)V"⟩ : MethodName) method_3_code 8 none :: ws) ({ frames := 1, cells := 0, slots := 0, locals := 14 } : Room)) (fun a U => a = #[(.ref a1), (.int (Int32.ofNat pp)), (.int (Int32.ofNat x)), (.int (Int32.ofNat y)), (.int (Int32.ofNat z)), (.int (3 : Int32))] ∧ Z.Warmed39 U.vm ∧ U.heap = h0) (fun _ _ _ _ _ => True) (fun _ U o U' => ∃ v L, o = .returned v ∧ QW Z a1 .char Int32.ofNat (qd ds pp x y z 3) h0 n0 v U'.heap L ∧ FrameEnd U o U' L ({ frames := 1, cells := 0, slots := 0, locals := 14 } : Room).cells ({ frames := 1, cells := 0, slots := 0, locals := 14 } : Room).slots) := by
  refine MetFree.of_bodySF (plainFor_of_name pn_18) hisR ?_
  intro p e s m args below meth c s₁ Bd hml0 hP hK
  obtain ⟨rfl, hZ, hh⟩ := hP
  have hx := Bd.exec
  have hby := Bd.bytes
  have hml : c.maxLocals = 8 := hml0
  have hown : s.vm.findClass "com/example/gumzo/gumzo/core/TaggedBase64EncodePinLaw" = some m.cls := findClass_of_methodNamed Bd.named
  have hnm := (name_of_methodNamed Bd.named Bd.method).1
  have X0 : Stand p l e ({ frames := 1, cells := 0, slots := 0, locals := 14 } : Room) s m #[(.ref a1), (.int (Int32.ofNat pp)), (.int (Int32.ofNat x)), (.int (Int32.ofNat y)), (.int (Int32.ofNat z)), (.int (3 : Int32))] below meth c s₁ [] 0 0 := Stand.of_body Bd
  have e0 : s₁.heap = h0 := by rw [← hh, Bd.state]; rfl
  have N0 := Fr.nil n0
  have pre0 : ∀ t, Steps p.tables e below (s₁.setTop (mkF m 0 #[.val (.ref a1), .val (.int (Int32.ofNat pp)), .val (.int (Int32.ofNat x)), .val (.int (Int32.ofNat y)), .val (.int (Int32.ofNat z)), .val (.int (3 : Int32)), .unset, .unset] [])) t → Steps p.tables e below (s₁.setTop (entryFrame m #[(.ref a1), (.int (Int32.ofNat pp)), (.int (Int32.ofNat x)), (.int (Int32.ofNat y)), (.int (Int32.ofNat z)), (.int (3 : Int32))] 8)) t := fun t_ k_ => castTop (ef_18 m a1 (Int32.ofNat pp) (Int32.ofNat x) (Int32.ofNat y) (Int32.ofNat z) (3 : Int32)) k_
  obtain ⟨_, _, ⟨T7, L7, k7, n7⟩, -, X7, ⟨Lc7, hQ7, l7, y7, z7⟩, st7⟩ := Jvm.LawKit.callS X0 hx (y := (⟨"com/example/gumzo/gumzo/core/TaggedBase64EncodePinLaw", "sym", "(I)C"⟩ : MethodName)) hown (mvT hZ (hw _ (List.mem_of_getElem? (i := 87) rfl))) (mvT hZ (hw _ (List.mem_of_getElem? (i := 88) rfl))) (mvT hZ (hw _ (List.mem_of_getElem? (i := 4) rfl))) (mvT hZ (hw _ (List.mem_of_getElem? (i := 89) rfl))) (by decide) (backOf (W := 2) (symw l Z a0 hw [] (x / 4) h0 n0 Z0 (by omega)) hZ (hw _ (List.mem_of_getElem? (i := 89) rfl)) (hw _ (List.mem_of_getElem? (i := 4) rfl)) (by decide) (by decide)) (g := (mkF m 32 #[.val (.ref a1), .val (.int (Int32.ofNat pp)), .val (.int (Int32.ofNat x)), .val (.int (Int32.ofNat y)), .val (.int (Int32.ofNat z)), .val (.int (3 : Int32)), .val (.int (Int32.ofNat y)), .val (.int (Int32.ofNat z))] [(.int ((Int32.ofNat x) >>> ((2 : Int32) &&& 31))), (.int (Int32.ofNat pp)), (.ref a1)])) rfl (by rw [hml]; rfl) (argsL := [(.int ((Int32.ofNat x) >>> ((2 : Int32) &&& 31)))]) (rest := [(.int (Int32.ofNat pp)), (.ref a1)]) (lenOf pd_18_17 rfl) rfl (by show 2 * 0 + _ ≤ _; exact Nat.le_of_eq rfl) (hb hby d18_32) (fun _ _ => ⟨congrArg (fun z => #[Value.int z]) ((own_r2 x (by omega))), e0, (by decide : 0 + 0 ≤ _), (by decide : 0 + 0 ≤ _)⟩)
  dsimp only [Pt.U, Pt.locs, Pt.cells, Pt.slots] at X7 l7 y7 z7 st7 hQ7
  subst l7 y7 z7
  obtain ⟨rfl, N7q, eq7⟩ := hQ7
  have N7 := Fr.app N0 N7q
  obtain ⟨T8, h8, L8, X8, e8, N8, K8, A8, st8⟩ := stCv X7 hx hZ eq7 N7 g_a1 A (by omega) (pp + 0) (by omega) (al (x / 4)) (Nat.lt_trans (own_al _ (by omega)) (by decide)) rfl rfl (g := (mkF m 35 #[.val (.ref a1), .val (.int (Int32.ofNat pp)), .val (.int (Int32.ofNat x)), .val (.int (Int32.ofNat y)), .val (.int (Int32.ofNat z)), .val (.int (3 : Int32)), .val (.int (Int32.ofNat y)), .val (.int (Int32.ofNat z))] [(.int (Int32.ofNat (al (x / 4)))), (.int (Int32.ofNat pp)), (.ref a1)])) rfl rfl (hb hby d18_35)
  obtain ⟨_, _, ⟨T9, L9, k9, n9⟩, -, X9, ⟨Lc9, hQ9, l9, y9, z9⟩, st9⟩ := Jvm.LawKit.callS X8 hx (y := (⟨"com/example/gumzo/gumzo/core/TaggedBase64EncodePinLaw", "sym", "(I)C"⟩ : MethodName)) hown (mvT hZ (hw _ (List.mem_of_getElem? (i := 87) rfl))) (mvT hZ (hw _ (List.mem_of_getElem? (i := 88) rfl))) (mvT hZ (hw _ (List.mem_of_getElem? (i := 4) rfl))) (mvT hZ (hw _ (List.mem_of_getElem? (i := 89) rfl))) (by decide) (backOf (W := 2) (symw l Z a0 hw [] (x % 4 * 16 + y / 16) h8 n0 (Nat.le_trans Z0 (K8).1) (by omega)) hZ (hw _ (List.mem_of_getElem? (i := 89) rfl)) (hw _ (List.mem_of_getElem? (i := 4) rfl)) (by decide) (by decide)) (g := (mkF m 50 #[.val (.ref a1), .val (.int (Int32.ofNat pp)), .val (.int (Int32.ofNat x)), .val (.int (Int32.ofNat y)), .val (.int (Int32.ofNat z)), .val (.int (3 : Int32)), .val (.int (Int32.ofNat y)), .val (.int (Int32.ofNat z))] [(.int ((((Int32.ofNat x) &&& (3 : Int32)) <<< ((4 : Int32) &&& 31)) ||| ((Int32.ofNat y) >>> ((4 : Int32) &&& 31)))), (.int ((Int32.ofNat pp) + (1 : Int32))), (.ref a1)])) rfl (by rw [hml]; rfl) (argsL := [(.int ((((Int32.ofNat x) &&& (3 : Int32)) <<< ((4 : Int32) &&& 31)) ||| ((Int32.ofNat y) >>> ((4 : Int32) &&& 31))))]) (rest := [(.int ((Int32.ofNat pp) + (1 : Int32))), (.ref a1)]) (lenOf pd_18_17 rfl) rfl (by show 2 * 0 + _ ≤ _; exact Nat.le_of_eq rfl) (hb hby d18_50) (fun _ _ => ⟨congrArg (fun z => #[Value.int z]) ((own_m4 x y hx1 (by omega))), e8, (by decide : 0 + 0 ≤ _), (by decide : 0 + 0 ≤ _)⟩)
  dsimp only [Pt.U, Pt.locs, Pt.cells, Pt.slots] at X9 l9 y9 z9 st9 hQ9
  subst l9 y9 z9
  obtain ⟨rfl, N9q, eq9⟩ := hQ9
  have N9 := Fr.app N8 N9q
  obtain ⟨T10, h10, L10, X10, e10, N10, K10, A10, st10⟩ := stCv X9 hx hZ eq9 N9 g_a1 A8 (by simp only [List.length_set]; omega) (pp + 1) (by simp only [List.length_set]; omega) (al (x % 4 * 16 + y / 16)) (Nat.lt_trans (own_al _ (by omega)) (by decide)) (own_suc pp) rfl (g := (mkF m 53 #[.val (.ref a1), .val (.int (Int32.ofNat pp)), .val (.int (Int32.ofNat x)), .val (.int (Int32.ofNat y)), .val (.int (Int32.ofNat z)), .val (.int (3 : Int32)), .val (.int (Int32.ofNat y)), .val (.int (Int32.ofNat z))] [(.int (Int32.ofNat (al (x % 4 * 16 + y / 16)))), (.int ((Int32.ofNat pp) + (1 : Int32))), (.ref a1)])) rfl rfl (hb hby d18_53)
  obtain ⟨_, _, ⟨T11, L11, k11, n11⟩, -, X11, ⟨Lc11, hQ11, l11, y11, z11⟩, st11⟩ := Jvm.LawKit.callS X10 hx (y := (⟨"com/example/gumzo/gumzo/core/TaggedBase64EncodePinLaw", "sym", "(I)C"⟩ : MethodName)) hown (mvT hZ (hw _ (List.mem_of_getElem? (i := 87) rfl))) (mvT hZ (hw _ (List.mem_of_getElem? (i := 88) rfl))) (mvT hZ (hw _ (List.mem_of_getElem? (i := 4) rfl))) (mvT hZ (hw _ (List.mem_of_getElem? (i := 89) rfl))) (by decide) (backOf (W := 2) (symw l Z a0 hw [] (y % 16 * 4 + z / 64) h10 n0 (Nat.le_trans Z0 ((own_kt K8 K10)).1) (by omega)) hZ (hw _ (List.mem_of_getElem? (i := 89) rfl)) (hw _ (List.mem_of_getElem? (i := 4) rfl)) (by decide) (by decide)) (g := (mkF m 77 #[.val (.ref a1), .val (.int (Int32.ofNat pp)), .val (.int (Int32.ofNat x)), .val (.int (Int32.ofNat y)), .val (.int (Int32.ofNat z)), .val (.int (3 : Int32)), .val (.int (Int32.ofNat y)), .val (.int (Int32.ofNat z))] [(.int ((((Int32.ofNat y) &&& (15 : Int32)) <<< ((2 : Int32) &&& 31)) ||| ((Int32.ofNat z) >>> ((6 : Int32) &&& 31)))), (.int ((Int32.ofNat pp) + (2 : Int32))), (.ref a1)])) rfl (by rw [hml]; rfl) (argsL := [(.int ((((Int32.ofNat y) &&& (15 : Int32)) <<< ((2 : Int32) &&& 31)) ||| ((Int32.ofNat z) >>> ((6 : Int32) &&& 31))))]) (rest := [(.int ((Int32.ofNat pp) + (2 : Int32))), (.ref a1)]) (lenOf pd_18_17 rfl) rfl (by show 2 * 0 + _ ≤ _; exact Nat.le_of_eq rfl) (hb hby d18_77) (fun _ _ => ⟨congrArg (fun z => #[Value.int z]) ((own_m2 y z hy1 (by omega))), e10, (by decide : 0 + 0 ≤ _), (by decide : 0 + 0 ≤ _)⟩)
  dsimp only [Pt.U, Pt.locs, Pt.cells, Pt.slots] at X11 l11 y11 z11 st11 hQ11
  subst l11 y11 z11
  obtain ⟨rfl, N11q, eq11⟩ := hQ11
  have N11 := Fr.app N10 N11q
  obtain ⟨T12, h12, L12, X12, e12, N12, K12, A12, st12⟩ := stCv X11 hx hZ eq11 N11 g_a1 A10 (by simp only [List.length_set]; omega) (pp + 2) (by simp only [List.length_set]; omega) (al (y % 16 * 4 + z / 64)) (Nat.lt_trans (own_al _ (by omega)) (by decide)) (own_ad2 pp) rfl (g := (mkF m 85 #[.val (.ref a1), .val (.int (Int32.ofNat pp)), .val (.int (Int32.ofNat x)), .val (.int (Int32.ofNat y)), .val (.int (Int32.ofNat z)), .val (.int (3 : Int32)), .val (.int (Int32.ofNat y)), .val (.int (Int32.ofNat z))] [(.int (Int32.ofNat (al (y % 16 * 4 + z / 64)))), (.int ((Int32.ofNat pp) + (2 : Int32))), (.ref a1)])) rfl rfl (hb hby d18_85)
  obtain ⟨_, _, ⟨T13, L13, k13, n13⟩, -, X13, ⟨Lc13, hQ13, l13, y13, z13⟩, st13⟩ := Jvm.LawKit.callS X12 hx (y := (⟨"com/example/gumzo/gumzo/core/TaggedBase64EncodePinLaw", "sym", "(I)C"⟩ : MethodName)) hown (mvT hZ (hw _ (List.mem_of_getElem? (i := 87) rfl))) (mvT hZ (hw _ (List.mem_of_getElem? (i := 88) rfl))) (mvT hZ (hw _ (List.mem_of_getElem? (i := 4) rfl))) (mvT hZ (hw _ (List.mem_of_getElem? (i := 89) rfl))) (by decide) (backOf (W := 2) (symw l Z a0 hw [] (z % 64) h12 n0 (Nat.le_trans Z0 ((own_kt (own_kt K8 K10) K12)).1) (by omega)) hZ (hw _ (List.mem_of_getElem? (i := 89) rfl)) (hw _ (List.mem_of_getElem? (i := 4) rfl)) (by decide) (by decide)) (g := (mkF m 101 #[.val (.ref a1), .val (.int (Int32.ofNat pp)), .val (.int (Int32.ofNat x)), .val (.int (Int32.ofNat y)), .val (.int (Int32.ofNat z)), .val (.int (3 : Int32)), .val (.int (Int32.ofNat y)), .val (.int (Int32.ofNat z))] [(.int ((Int32.ofNat z) &&& (63 : Int32))), (.int ((Int32.ofNat pp) + (3 : Int32))), (.ref a1)])) rfl (by rw [hml]; rfl) (argsL := [(.int ((Int32.ofNat z) &&& (63 : Int32)))]) (rest := [(.int ((Int32.ofNat pp) + (3 : Int32))), (.ref a1)]) (lenOf pd_18_17 rfl) rfl (by show 2 * 0 + _ ≤ _; exact Nat.le_of_eq rfl) (hb hby d18_101) (fun _ _ => ⟨congrArg (fun z => #[Value.int z]) ((own_a63 z (by omega))), e12, (by decide : 0 + 0 ≤ _), (by decide : 0 + 0 ≤ _)⟩)
  dsimp only [Pt.U, Pt.locs, Pt.cells, Pt.slots] at X13 l13 y13 z13 st13 hQ13
  subst l13 y13 z13
  obtain ⟨rfl, N13q, eq13⟩ := hQ13
  have N13 := Fr.app N12 N13q
  obtain ⟨T14, h14, L14, X14, e14, N14, K14, A14, st14⟩ := stCv X13 hx hZ eq13 N13 g_a1 A12 (by simp only [List.length_set]; omega) (pp + 3) (by simp only [List.length_set]; omega) (al (z % 64)) (Nat.lt_trans (own_al _ (by omega)) (by decide)) (own_ad3 pp) rfl (g := (mkF m 109 #[.val (.ref a1), .val (.int (Int32.ofNat pp)), .val (.int (Int32.ofNat x)), .val (.int (Int32.ofNat y)), .val (.int (Int32.ofNat z)), .val (.int (3 : Int32)), .val (.int (Int32.ofNat y)), .val (.int (Int32.ofNat z))] [(.int (Int32.ofNat (al (z % 64)))), (.int ((Int32.ofNat pp) + (3 : Int32))), (.ref a1)])) rfl rfl (hb hby d18_109)
  obtain ⟨fs, hr, hrun, hended, hW, hsame⟩ := X14.leave (v := none) (fun _ => rfl)
  refine ⟨_, _, pre0 _ ?_, hrun, hended, _, _, rfl, ?_, ⟨_, rfl⟩, hW, hsame.mono (by decide) (by decide)⟩
  -- 4. STEPS
  · show Steps p.tables e below (s₁.setTop (mkF m 0 #[.val (.ref a1), .val (.int (Int32.ofNat pp)), .val (.int (Int32.ofNat x)), .val (.int (Int32.ofNat y)), .val (.int (Int32.ofNat z)), .val (.int (3 : Int32)), .unset, .unset] [])) _
    refine XS.iload X0.here hx rfl (hb hby d18_0) rfl ?_
    refine XS.iconst X0.here hx rfl (hb hby d18_2) ?_
    refine XS.icmpNo X0.here hx rfl (hb hby d18_3) rfl (tlt (by decide : ((1 : Int32) < (3 : Int32)))).2.2.2 ?_
    refine XS.iloadN X0.here hx rfl (hb hby d18_6) rfl ?_
    refine XS.goto X0.here hx rfl (pc0 := 7) (pc' := 11) rfl (hb hby d18_7) (by decide) (by decide) ?_
    refine XS.istore X0.here hx rfl (hb hby d18_11) rfl (l' := #[.val (.ref a1), .val (.int (Int32.ofNat pp)), .val (.int (Int32.ofNat x)), .val (.int (Int32.ofNat y)), .val (.int (Int32.ofNat z)), .val (.int (3 : Int32)), .val (.int (Int32.ofNat y)), .unset]) rfl ?_
    refine XS.iload X0.here hx rfl (hb hby d18_13) rfl ?_
    show Steps p.tables e below (s₁.setTop (mkF m 15 #[.val (.ref a1), .val (.int (Int32.ofNat pp)), .val (.int (Int32.ofNat x)), .val (.int (Int32.ofNat y)), .val (.int (Int32.ofNat z)), .val (.int (3 : Int32)), .val (.int (Int32.ofNat y)), .unset] [(.int (3 : Int32))])) _
    refine XS.iconst X0.here hx rfl (hb hby d18_15) ?_
    refine XS.icmpNo X0.here hx rfl (hb hby d18_16) rfl (tlt (by decide : ((2 : Int32) < (3 : Int32)))).2.2.2 ?_
    refine XS.iload X0.here hx rfl (hb hby d18_19) rfl ?_
    refine XS.goto X0.here hx rfl (pc0 := 21) (pc' := 25) rfl (hb hby d18_21) (by decide) (by decide) ?_
    refine XS.istore X0.here hx rfl (hb hby d18_25) rfl (l' := #[.val (.ref a1), .val (.int (Int32.ofNat pp)), .val (.int (Int32.ofNat x)), .val (.int (Int32.ofNat y)), .val (.int (Int32.ofNat z)), .val (.int (3 : Int32)), .val (.int (Int32.ofNat y)), .val (.int (Int32.ofNat z))]) rfl ?_
    refine XS.aloadN X0.here hx rfl (hb hby d18_27) rfl rfl ?_
    refine XS.iloadN X0.here hx rfl (hb hby d18_28) rfl ?_
    show Steps p.tables e below (s₁.setTop (mkF m 29 #[.val (.ref a1), .val (.int (Int32.ofNat pp)), .val (.int (Int32.ofNat x)), .val (.int (Int32.ofNat y)), .val (.int (Int32.ofNat z)), .val (.int (3 : Int32)), .val (.int (Int32.ofNat y)), .val (.int (Int32.ofNat z))] [(.int (Int32.ofNat pp)), (.ref a1)])) _
    refine XS.iloadN X0.here hx rfl (hb hby d18_29) rfl ?_
    refine XS.iconst X0.here hx rfl (hb hby d18_30) ?_
    refine XS.ishr X0.here hx rfl (hb hby d18_31) rfl ?_
    refine st7 _ ?_
    refine st8 _ ?_
    refine XS.aloadN X8.here hx rfl (hb hby d18_36) rfl rfl ?_
    refine XS.iloadN X8.here hx rfl (hb hby d18_37) rfl ?_
    show Steps p.tables e below (T8.setTop (mkF m 38 #[.val (.ref a1), .val (.int (Int32.ofNat pp)), .val (.int (Int32.ofNat x)), .val (.int (Int32.ofNat y)), .val (.int (Int32.ofNat z)), .val (.int (3 : Int32)), .val (.int (Int32.ofNat y)), .val (.int (Int32.ofNat z))] [(.int (Int32.ofNat pp)), (.ref a1)])) _
    refine XS.iconst X8.here hx rfl (hb hby d18_38) ?_
    refine XS.iadd X8.here hx rfl (hb hby d18_39) rfl ?_
    refine XS.iloadN X8.here hx rfl (hb hby d18_40) rfl ?_
    refine XS.iconst X8.here hx rfl (hb hby d18_41) ?_
    refine XS.iand X8.here hx rfl (hb hby d18_42) rfl ?_
    refine XS.iconst X8.here hx rfl (hb hby d18_43) ?_
    refine XS.ishl X8.here hx rfl (hb hby d18_44) rfl ?_
    show Steps p.tables e below (T8.setTop (mkF m 45 #[.val (.ref a1), .val (.int (Int32.ofNat pp)), .val (.int (Int32.ofNat x)), .val (.int (Int32.ofNat y)), .val (.int (Int32.ofNat z)), .val (.int (3 : Int32)), .val (.int (Int32.ofNat y)), .val (.int (Int32.ofNat z))] [(.int (((Int32.ofNat x) &&& (3 : Int32)) <<< ((4 : Int32) &&& 31))), (.int ((Int32.ofNat pp) + (1 : Int32))), (.ref a1)])) _
    refine XS.iload X8.here hx rfl (hb hby d18_45) rfl ?_
    refine XS.iconst X8.here hx rfl (hb hby d18_47) ?_
    refine XS.ishr X8.here hx rfl (hb hby d18_48) rfl ?_
    refine XS.ior X8.here hx rfl (hb hby d18_49) rfl ?_
    refine st9 _ ?_
    refine st10 _ ?_
    refine XS.aloadN X10.here hx rfl (hb hby d18_54) rfl rfl ?_
    show Steps p.tables e below (T10.setTop (mkF m 55 #[.val (.ref a1), .val (.int (Int32.ofNat pp)), .val (.int (Int32.ofNat x)), .val (.int (Int32.ofNat y)), .val (.int (Int32.ofNat z)), .val (.int (3 : Int32)), .val (.int (Int32.ofNat y)), .val (.int (Int32.ofNat z))] [(.ref a1)])) _
    refine XS.iloadN X10.here hx rfl (hb hby d18_55) rfl ?_
    refine XS.iconst X10.here hx rfl (hb hby d18_56) ?_
    refine XS.iadd X10.here hx rfl (hb hby d18_57) rfl ?_
    refine XS.iload X10.here hx rfl (hb hby d18_58) rfl ?_
    refine XS.iconst X10.here hx rfl (hb hby d18_60) ?_
    refine XS.icmpNo X10.here hx rfl (hb hby d18_61) rfl (tlt (by decide : ((1 : Int32) < (3 : Int32)))).2.2.2 ?_
    refine XS.iload X10.here hx rfl (hb hby d18_64) rfl ?_
    show Steps p.tables e below (T10.setTop (mkF m 66 #[.val (.ref a1), .val (.int (Int32.ofNat pp)), .val (.int (Int32.ofNat x)), .val (.int (Int32.ofNat y)), .val (.int (Int32.ofNat z)), .val (.int (3 : Int32)), .val (.int (Int32.ofNat y)), .val (.int (Int32.ofNat z))] [(.int (Int32.ofNat y)), (.int ((Int32.ofNat pp) + (2 : Int32))), (.ref a1)])) _
    refine XS.bipush X10.here hx rfl (hb hby d18_66) ?_
    refine XS.iand X10.here hx rfl (hb hby d18_68) rfl ?_
    refine XS.iconst X10.here hx rfl (hb hby d18_69) ?_
    refine XS.ishl X10.here hx rfl (hb hby d18_70) rfl ?_
    refine XS.iload X10.here hx rfl (hb hby d18_71) rfl ?_
    refine XS.bipush X10.here hx rfl (hb hby d18_73) ?_
    refine XS.ishr X10.here hx rfl (hb hby d18_75) rfl ?_
    show Steps p.tables e below (T10.setTop (mkF m 76 #[.val (.ref a1), .val (.int (Int32.ofNat pp)), .val (.int (Int32.ofNat x)), .val (.int (Int32.ofNat y)), .val (.int (Int32.ofNat z)), .val (.int (3 : Int32)), .val (.int (Int32.ofNat y)), .val (.int (Int32.ofNat z))] [(.int ((Int32.ofNat z) >>> ((6 : Int32) &&& 31))), (.int (((Int32.ofNat y) &&& (15 : Int32)) <<< ((2 : Int32) &&& 31))), (.int ((Int32.ofNat pp) + (2 : Int32))), (.ref a1)])) _
    refine XS.ior X10.here hx rfl (hb hby d18_76) rfl ?_
    refine st11 _ ?_
    refine XS.goto X11.here hx rfl (pc0 := 80) (pc' := 85) rfl (hb hby d18_80) (by decide) (by decide) ?_
    refine st12 _ ?_
    refine XS.aloadN X12.here hx rfl (hb hby d18_86) rfl rfl ?_
    refine XS.iloadN X12.here hx rfl (hb hby d18_87) rfl ?_
    refine XS.iconst X12.here hx rfl (hb hby d18_88) ?_
    show Steps p.tables e below (T12.setTop (mkF m 89 #[.val (.ref a1), .val (.int (Int32.ofNat pp)), .val (.int (Int32.ofNat x)), .val (.int (Int32.ofNat y)), .val (.int (Int32.ofNat z)), .val (.int (3 : Int32)), .val (.int (Int32.ofNat y)), .val (.int (Int32.ofNat z))] [(.int (3 : Int32)), (.int (Int32.ofNat pp)), (.ref a1)])) _
    refine XS.iadd X12.here hx rfl (hb hby d18_89) rfl ?_
    refine XS.iload X12.here hx rfl (hb hby d18_90) rfl ?_
    refine XS.iconst X12.here hx rfl (hb hby d18_92) ?_
    refine XS.icmpNo X12.here hx rfl (hb hby d18_93) rfl (tlt (by decide : ((2 : Int32) < (3 : Int32)))).2.2.2 ?_
    refine XS.iload X12.here hx rfl (hb hby d18_96) rfl ?_
    refine XS.bipush X12.here hx rfl (hb hby d18_98) ?_
    refine XS.iand X12.here hx rfl (hb hby d18_100) rfl ?_
    show Steps p.tables e below (T12.setTop (mkF m 101 #[.val (.ref a1), .val (.int (Int32.ofNat pp)), .val (.int (Int32.ofNat x)), .val (.int (Int32.ofNat y)), .val (.int (Int32.ofNat z)), .val (.int (3 : Int32)), .val (.int (Int32.ofNat y)), .val (.int (Int32.ofNat z))] [(.int ((Int32.ofNat z) &&& (63 : Int32))), (.int ((Int32.ofNat pp) + (3 : Int32))), (.ref a1)])) _
    refine st13 _ ?_
    refine XS.goto X13.here hx rfl (pc0 := 104) (pc' := 109) rfl (hb hby d18_104) (by decide) (by decide) ?_
    refine st14 _ ?_
    show Steps p.tables e below (T14.setTop (mkF m 110 #[.val (.ref a1), .val (.int (Int32.ofNat pp)), .val (.int (Int32.ofNat x)), .val (.int (Int32.ofNat y)), .val (.int (Int32.ofNat z)), .val (.int (3 : Int32)), .val (.int (Int32.ofNat y)), .val (.int (Int32.ofNat z))] [])) _
    exact X14.returnOut hx Bd.returns (hb hby d18_110) hr
  · show QW Z a1 .char Int32.ofNat (qd ds pp x y z 3) h0 n0 _ T14.heap _
    rw [e14]
    rw [show qd ds pp x y z 3 = ((((ds.set (pp + 0) (al (x / 4))).set (pp + 1) (al (x % 4 * 16 + y / 16))).set (pp + 2) (al (y % 16 * 4 + z / 64))).set (pp + 3) (al (z % 64))) by simp [qd]]; exact ⟨rfl, N14, (own_kt (own_kt (own_kt K8 K10) K12) K14), A14⟩
theorem quadw (l : Launch) (Z : State) (a0 : Array Value) (hw : ∀ d ∈ tables_1, d.before a0 Z = true) (ws : List Jvm.Cond) (a1 : Addr) (pp x y z n : Nat) (ds : List Nat) (h0 : Heap) (n0 : Nat) (Z0 : n0 ≤ h0.size) (A : Av Z h0 a1 .char Int32.ofNat ds) (hd : ds.length < 128) (hp : pp + 3 < ds.length) (hx1 : x < 256) (hy1 : y < 256) (hz1 : z < 256) (g_a1 : n0 ≤ a1) (hn1 : 0 < n) (hn : n < 4) :
    MetFree l (⟨"com/example/gumzo/gumzo/core/TaggedBase64EncodePinLaw", "quad", "([CIIIII)V"⟩ : MethodName) (head1 (Jvm.Cond.code (⟨"com/example/gumzo/gumzo/core/TaggedBase64EncodePinLaw", "quad", "([CIIIII)V"⟩ : MethodName) method_3_code 8 none :: ws) ({ frames := 1, cells := 0, slots := 0, locals := 14 } : Room)) (fun a U => a = #[(.ref a1), (.int (Int32.ofNat pp)), (.int (Int32.ofNat x)), (.int (Int32.ofNat y)), (.int (Int32.ofNat z)), (.int (Int32.ofNat n))] ∧ Z.Warmed39 U.vm ∧ U.heap = h0) (fun _ _ _ _ _ => True) (fun _ U o U' => ∃ v L, o = .returned v ∧ QW Z a1 .char Int32.ofNat (qd ds pp x y z n) h0 n0 v U'.heap L ∧ FrameEnd U o U' L ({ frames := 1, cells := 0, slots := 0, locals := 14 } : Room).cells ({ frames := 1, cells := 0, slots := 0, locals := 14 } : Room).slots) := by
  have c3 : n = 1 ∨ n = 2 ∨ n = 3 := by omega
  rcases c3 with rfl | rfl | rfl
  · exact rm18i l Z a0 hw ws a1 pp x y z ds h0 n0 Z0 A hd hp hx1 hy1 hz1 g_a1
  · exact rm18j l Z a0 hw ws a1 pp x y z ds h0 n0 Z0 A hd hp hx1 hy1 hz1 g_a1
  · exact rm18k l Z a0 hw ws a1 pp x y z ds h0 n0 Z0 A hd hp hx1 hy1 hz1 g_a1
theorem d17_0 : decode jdk_29_method_69_code 0 = .ok (.iload_n 0, 1) := by decide +kernel
theorem d17_1 : decode jdk_29_method_69_code 1 = .ok (.iload_n 1, 1) := by decide +kernel
theorem d17_2 : decode jdk_29_method_69_code 2 = .ok (.if_icmp .gt 7, 3) := by decide +kernel
theorem d17_5 : decode jdk_29_method_69_code 5 = .ok (.iload_n 0, 1) := by decide +kernel
theorem d17_6 : decode jdk_29_method_69_code 6 = .ok (.goto 4, 3) := by decide +kernel
theorem d17_10 : decode jdk_29_method_69_code 10 = .ok (.ireturn, 1) := by decide +kernel
theorem ef_17 (m : MethodId) (x0 : Int32) (x1 : Int32) : entryFrame m #[(.int x0), (.int x1)] 2 = mkF m 0 #[.val (.int x0), .val (.int x1)] [] := by first | (simp [entryFrame, mkF, argsToLocals, Value.category]; done) | rfl
set_option maxRecDepth 65536 in
set_option maxHeartbeats 40000000 in
theorem rm17l (l : Launch) (Z : State) (a0 : Array Value) (hw : ∀ d ∈ tables_1, d.before a0 Z = true) (ws : List Jvm.Cond) (p1 p2 : Int32) (h0 : Heap) (n0 : Nat) (Z0 : n0 ≤ h0.size) (hc2 : ¬ (p2 < p1)) :
    MetFree l (⟨"java/lang/Math", "min", "(II)I"⟩ : MethodName) (head1 (Jvm.Cond.code (⟨"java/lang/Math", "min", "(II)I"⟩ : MethodName) jdk_29_method_69_code 2 (some .int) :: ws) ({ frames := 0, cells := 0, slots := 0, locals := 0 } : Room)) (fun a U => a = #[(.int p1), (.int p2)] ∧ Z.Warmed39 U.vm ∧ U.heap = h0) (fun _ _ _ _ _ => True) (fun _ U o U' => ∃ v L, o = .returned v ∧ QI p1 h0 n0 v U'.heap L ∧ FrameEnd U o U' L ({ frames := 0, cells := 0, slots := 0, locals := 0 } : Room).cells ({ frames := 0, cells := 0, slots := 0, locals := 0 } : Room).slots) := by
  refine MetFree.of_bodySF (Jvm.Free.JP.mathPlain rfl (by decide +kernel)) hisR ?_
  intro p e s m args below meth c s₁ Bd hml0 hP hK
  obtain ⟨rfl, hZ, hh⟩ := hP
  have hx := Bd.exec
  have hby := Bd.bytes
  have hml : c.maxLocals = 2 := hml0
  have hown : s.vm.findClass "java/lang/Math" = some m.cls := findClass_of_methodNamed Bd.named
  have hnm := (name_of_methodNamed Bd.named Bd.method).1
  have X0 : Stand p l e ({ frames := 0, cells := 0, slots := 0, locals := 0 } : Room) s m #[(.int p1), (.int p2)] below meth c s₁ [] 0 0 := Stand.of_body Bd
  have e0 : s₁.heap = h0 := by rw [← hh, Bd.state]; rfl
  have N0 := Fr.nil n0
  have pre0 : ∀ t, Steps p.tables e below (s₁.setTop (mkF m 0 #[.val (.int p1), .val (.int p2)] [])) t → Steps p.tables e below (s₁.setTop (entryFrame m #[(.int p1), (.int p2)] 2)) t := fun t_ k_ => castTop (ef_17 m p1 p2) k_

  obtain ⟨fs, hr, hrun, hended, hW, hsame⟩ := X0.leave (v := some (.int p1)) (fun h => by rw [Bd.returns] at h; cases h)
  refine ⟨_, _, pre0 _ ?_, hrun, hended, _, _, rfl, ?_, ⟨_, rfl⟩, hW, hsame.mono (by decide) (by decide)⟩
  -- 4. STEPS
  · show Steps p.tables e below (s₁.setTop (mkF m 0 #[.val (.int p1), .val (.int p2)] [])) _
    refine XS.iloadN X0.here hx rfl (hb hby d17_0) rfl ?_
    refine XS.iloadN X0.here hx rfl (hb hby d17_1) rfl ?_
    refine XS.icmpNo X0.here hx rfl (hb hby d17_2) rfl (flt hc2).2.2.1 ?_
    refine XS.iloadN X0.here hx rfl (hb hby d17_5) rfl ?_
    refine XS.goto X0.here hx rfl (pc0 := 6) (pc' := 10) rfl (hb hby d17_6) (by decide) (by decide) ?_
    show Steps p.tables e below (s₁.setTop (mkF m 10 #[.val (.int p1), .val (.int p2)] [(.int p1)])) _
    exact retI X0 hx Bd.returns (hb hby d17_10) hr      -- retI stands in the head ('lawwalk <made dir>' prints it)
  · show QI p1 h0 n0 _ s₁.heap _
    rw [e0]
    exact ⟨rfl, N0, rfl⟩
theorem d17_9 : decode jdk_29_method_69_code 9 = .ok (.iload_n 1, 1) := by decide +kernel
set_option maxRecDepth 65536 in
set_option maxHeartbeats 40000000 in
theorem rm17r (l : Launch) (Z : State) (a0 : Array Value) (hw : ∀ d ∈ tables_1, d.before a0 Z = true) (ws : List Jvm.Cond) (p1 p2 : Int32) (h0 : Heap) (n0 : Nat) (Z0 : n0 ≤ h0.size) (hc2 : p2 < p1) :
    MetFree l (⟨"java/lang/Math", "min", "(II)I"⟩ : MethodName) (head1 (Jvm.Cond.code (⟨"java/lang/Math", "min", "(II)I"⟩ : MethodName) jdk_29_method_69_code 2 (some .int) :: ws) ({ frames := 0, cells := 0, slots := 0, locals := 0 } : Room)) (fun a U => a = #[(.int p1), (.int p2)] ∧ Z.Warmed39 U.vm ∧ U.heap = h0) (fun _ _ _ _ _ => True) (fun _ U o U' => ∃ v L, o = .returned v ∧ QI p2 h0 n0 v U'.heap L ∧ FrameEnd U o U' L ({ frames := 0, cells := 0, slots := 0, locals := 0 } : Room).cells ({ frames := 0, cells := 0, slots := 0, locals := 0 } : Room).slots) := by
  refine MetFree.of_bodySF (Jvm.Free.JP.mathPlain rfl (by decide +kernel)) hisR ?_
  intro p e s m args below meth c s₁ Bd hml0 hP hK
  obtain ⟨rfl, hZ, hh⟩ := hP
  have hx := Bd.exec
  have hby := Bd.bytes
  have hml : c.maxLocals = 2 := hml0
  have hown : s.vm.findClass "java/lang/Math" = some m.cls := findClass_of_methodNamed Bd.named
  have hnm := (name_of_methodNamed Bd.named Bd.method).1
  have X0 : Stand p l e ({ frames := 0, cells := 0, slots := 0, locals := 0 } : Room) s m #[(.int p1), (.int p2)] below meth c s₁ [] 0 0 := Stand.of_body Bd
  have e0 : s₁.heap = h0 := by rw [← hh, Bd.state]; rfl
  have N0 := Fr.nil n0
  have pre0 : ∀ t, Steps p.tables e below (s₁.setTop (mkF m 0 #[.val (.int p1), .val (.int p2)] [])) t → Steps p.tables e below (s₁.setTop (entryFrame m #[(.int p1), (.int p2)] 2)) t := fun t_ k_ => castTop (ef_17 m p1 p2) k_

  obtain ⟨fs, hr, hrun, hended, hW, hsame⟩ := X0.leave (v := some (.int p2)) (fun h => by rw [Bd.returns] at h; cases h)
  refine ⟨_, _, pre0 _ ?_, hrun, hended, _, _, rfl, ?_, ⟨_, rfl⟩, hW, hsame.mono (by decide) (by decide)⟩
  -- 4. STEPS
  · show Steps p.tables e below (s₁.setTop (mkF m 0 #[.val (.int p1), .val (.int p2)] [])) _
    refine XS.iloadN X0.here hx rfl (hb hby d17_0) rfl ?_
    refine XS.iloadN X0.here hx rfl (hb hby d17_1) rfl ?_
    refine XS.icmpYes X0.here hx rfl (pc0 := 2) (pc' := 9) rfl (hb hby d17_2) rfl (tlt hc2).2.2.1 (by decide) (by decide) ?_
    refine XS.iloadN X0.here hx rfl (hb hby d17_9) rfl ?_
    show Steps p.tables e below (s₁.setTop (mkF m 10 #[.val (.int p1), .val (.int p2)] [(.int p2)])) _
    exact retI X0 hx Bd.returns (hb hby d17_10) hr      -- retI stands in the head ('lawwalk <made dir>' prints it)
  · show QI p2 h0 n0 _ s₁.heap _
    rw [e0]
    exact ⟨rfl, N0, rfl⟩
theorem minw (l : Launch) (Z : State) (a0 : Array Value) (hw : ∀ d ∈ tables_1, d.before a0 Z = true) (ws : List Jvm.Cond) (n : Nat) (h0 : Heap) (n0 : Nat) (Z0 : n0 ≤ h0.size) (hn : n < 128) :
    MetFree l (⟨"java/lang/Math", "min", "(II)I"⟩ : MethodName) (head1 (Jvm.Cond.code (⟨"java/lang/Math", "min", "(II)I"⟩ : MethodName) jdk_29_method_69_code 2 (some .int) :: ws) ({ frames := 0, cells := 0, slots := 0, locals := 0 } : Room)) (fun a U => a = #[(.int (Int32.ofNat n)), (.int (3 : Int32))] ∧ Z.Warmed39 U.vm ∧ U.heap = h0) (fun _ _ _ _ _ => True) (fun _ U o U' => ∃ v L, o = .returned v ∧ QI (Int32.ofNat (min n 3)) h0 n0 v U'.heap L ∧ FrameEnd U o U' L ({ frames := 0, cells := 0, slots := 0, locals := 0 } : Room).cells ({ frames := 0, cells := 0, slots := 0, locals := 0 } : Room).slots) := by
  by_cases c1 : n ≤ 3
  · rw [Nat.min_eq_left c1]; exact rm17l l Z a0 hw ws _ _ h0 n0 Z0 (own_nlt (i := 3) c1 (by decide))
  · rw [Nat.min_eq_right (by omega)]; exact rm17r l Z a0 hw ws _ _ h0 n0 Z0 (own_lt (i := 3) (by omega) (by omega))
theorem d16_0 : decode method_5_code 0 = .ok (.iload_n 3, 1) := by decide +kernel
theorem d16_1 : decode method_5_code 1 = .ok (.iload_n 2, 1) := by decide +kernel
theorem d16_2 : decode method_5_code 2 = .ok (.if_icmp .ge 14, 3) := by decide +kernel
theorem d16_16 : decode method_5_code 16 = .ok (.iconst 1, 1) := by decide +kernel
theorem d16_17 : decode method_5_code 17 = .ok (.goto 4, 3) := by decide +kernel
theorem d16_21 : decode method_5_code 21 = .ok (.ireturn, 1) := by decide +kernel
theorem pn_16 : plainName "com/example/gumzo/gumzo/core/TaggedBase64EncodePinLaw" = true := by first | (simp [plainName, overriddenIn]; done) | decide +kernel
theorem ef_16 (m : MethodId) (x0 : Addr) (x1 : Addr) (x2 : Int32) (x3 : Int32) : entryFrame m #[(.ref x0), (.ref x1), (.int x2), (.int x3)] 4 = mkF m 0 #[.val (.ref x0), .val (.ref x1), .val (.int x2), .val (.int x3)] [] := by first | (simp [entryFrame, mkF, argsToLocals, Value.category]; done) | rfl
set_option maxRecDepth 65536 in
set_option maxHeartbeats 40000000 in
theorem rm16o (l : Launch) (Z : State) (a0 : Array Value) (hw : ∀ d ∈ tables_1, d.before a0 Z = true) (ws : List Jvm.Cond) (a1 : Addr) (a2 : Addr) (p3 p4 : Int32) (h0 : Heap) (n0 : Nat) (Z0 : n0 ≤ h0.size) (hc2 : ¬ (p4 < p3)) :
    MetFree l (⟨"com/example/gumzo/gumzo/core/TaggedBase64EncodePinLaw", "same", "(Ljava/lang/String;[CII)Z"⟩ : MethodName) (head1 (Jvm.Cond.code (⟨"com/example/gumzo/gumzo/core/TaggedBase64EncodePinLaw", "same", "(Ljava/lang/String;[CII)Z"⟩ : MethodName) method_5_code 4 (some .boolean) :: ws) ({ frames := 5, cells := 0, slots := 0, locals := 66 } : Room)) (fun a U => a = #[(.ref a1), (.ref a2), (.int p3), (.int p4)] ∧ Z.Warmed39 U.vm ∧ U.heap = h0) (fun _ _ _ _ _ => True) (fun _ U o U' => ∃ v L, o = .returned v ∧ QI 1 h0 n0 v U'.heap L ∧ FrameEnd U o U' L ({ frames := 5, cells := 0, slots := 0, locals := 66 } : Room).cells ({ frames := 5, cells := 0, slots := 0, locals := 66 } : Room).slots) := by
  refine MetFree.of_bodySF (plainFor_of_name pn_16) hisR ?_
  intro p e s m args below meth c s₁ Bd hml0 hP hK
  obtain ⟨rfl, hZ, hh⟩ := hP
  have hx := Bd.exec
  have hby := Bd.bytes
  have hml : c.maxLocals = 4 := hml0
  have hown : s.vm.findClass "com/example/gumzo/gumzo/core/TaggedBase64EncodePinLaw" = some m.cls := findClass_of_methodNamed Bd.named
  have hnm := (name_of_methodNamed Bd.named Bd.method).1
  have X0 : Stand p l e ({ frames := 5, cells := 0, slots := 0, locals := 66 } : Room) s m #[(.ref a1), (.ref a2), (.int p3), (.int p4)] below meth c s₁ [] 0 0 := Stand.of_body Bd
  have e0 : s₁.heap = h0 := by rw [← hh, Bd.state]; rfl
  have N0 := Fr.nil n0
  have pre0 : ∀ t, Steps p.tables e below (s₁.setTop (mkF m 0 #[.val (.ref a1), .val (.ref a2), .val (.int p3), .val (.int p4)] [])) t → Steps p.tables e below (s₁.setTop (entryFrame m #[(.ref a1), (.ref a2), (.int p3), (.int p4)] 4)) t := fun t_ k_ => castTop (ef_16 m a1 a2 p3 p4) k_

  obtain ⟨fs, hr, hrun, hended, hW, hsame⟩ := X0.leave (v := some (.int (1 : Int32))) (fun h => by rw [Bd.returns] at h; cases h)
  refine ⟨_, _, pre0 _ ?_, hrun, hended, _, _, rfl, ?_, ⟨_, rfl⟩, hW, hsame.mono (by decide) (by decide)⟩
  -- 4. STEPS
  · show Steps p.tables e below (s₁.setTop (mkF m 0 #[.val (.ref a1), .val (.ref a2), .val (.int p3), .val (.int p4)] [])) _
    refine XS.iloadN X0.here hx rfl (hb hby d16_0) rfl ?_
    refine XS.iloadN X0.here hx rfl (hb hby d16_1) rfl ?_
    refine XS.icmpYes X0.here hx rfl (pc0 := 2) (pc' := 16) rfl (hb hby d16_2) rfl (flt hc2).2.1 (by decide) (by decide) ?_
    refine XS.iconst X0.here hx rfl (hb hby d16_16) ?_
    refine XS.goto X0.here hx rfl (pc0 := 17) (pc' := 21) rfl (hb hby d16_17) (by decide) (by decide) ?_
    show Steps p.tables e below (s₁.setTop (mkF m 21 #[.val (.ref a1), .val (.ref a2), .val (.int p3), .val (.int p4)] [(.int (1 : Int32))])) _
    exact retN X0 hx (t := .boolean) Bd.returns (by simp) (hb hby d16_21) hr
  · show QI 1 h0 n0 _ s₁.heap _
    rw [e0]
    exact ⟨rfl, N0, rfl⟩
theorem d16_5 : decode method_5_code 5 = .ok (.aload_n 0, 1) := by decide +kernel
theorem d16_6 : decode method_5_code 6 = .ok (.iload_n 3, 1) := by decide +kernel
theorem d16_7 : decode method_5_code 7 = .ok (.invokevirtual 22, 3) := by decide +kernel
theorem d16_10 : decode method_5_code 10 = .ok (.aload_n 1, 1) := by decide +kernel
theorem d16_11 : decode method_5_code 11 = .ok (.iload_n 3, 1) := by decide +kernel
theorem d16_12 : decode method_5_code 12 = .ok (.caload, 1) := by decide +kernel
theorem d16_13 : decode method_5_code 13 = .ok (.if_icmp .ne 7, 3) := by decide +kernel
theorem pd_16_17 : parseMethodDescriptor "(I)C" = some ⟨[.int], some .char⟩ := by decide +kernel
set_option maxRecDepth 65536 in
set_option maxHeartbeats 40000000 in
theorem rm16i (l : Launch) (Z : State) (a0 : Array Value) (hw : ∀ d ∈ tables_1, d.before a0 Z = true) (ws : List Jvm.Cond) (a1 : Addr) (a2 : Addr) (i ch : Nat) (cs es : List Nat) (h0 : Heap) (n0 : Nat) (Z0 : n0 ≤ h0.size) (D : Wd Z h0) (S : Str Z h0 a1 cs) (A2 : Av Z h0 a2 .char Int32.ofNat es) (hl : es.length < 128) (hq1 : cs[i]? = some ch) (hq2 : es[i]? = some ch) (hc2 : Int32.ofNat i < Int32.ofNat cs.length) :
    MetFree l (⟨"com/example/gumzo/gumzo/core/TaggedBase64EncodePinLaw", "same", "(Ljava/lang/String;[CII)Z"⟩ : MethodName) (head1 (Jvm.Cond.code (⟨"com/example/gumzo/gumzo/core/TaggedBase64EncodePinLaw", "same", "(Ljava/lang/String;[CII)Z"⟩ : MethodName) method_5_code 4 (some .boolean) :: ws) ({ frames := 5, cells := 0, slots := 0, locals := 66 } : Room)) (fun a U => a = #[(.ref a1), (.ref a2), (.int (Int32.ofNat cs.length)), (.int (Int32.ofNat i))] ∧ Z.Warmed39 U.vm ∧ U.heap = h0) (fun _ _ _ _ _ => True) (fun _ U o U' => ∃ v L, o = .returned v ∧ QI 1 h0 n0 v U'.heap L ∧ FrameEnd U o U' L ({ frames := 5, cells := 0, slots := 0, locals := 66 } : Room).cells ({ frames := 5, cells := 0, slots := 0, locals := 66 } : Room).slots) := by
  refine MetFree.of_bodySF (plainFor_of_name pn_16) hisR ?_
  intro p e s m args below meth c s₁ Bd hml0 hP hK
  obtain ⟨rfl, hZ, hh⟩ := hP
  have hx := Bd.exec
  have hby := Bd.bytes
  have hml : c.maxLocals = 4 := hml0
  have hown : s.vm.findClass "com/example/gumzo/gumzo/core/TaggedBase64EncodePinLaw" = some m.cls := findClass_of_methodNamed Bd.named
  have hnm := (name_of_methodNamed Bd.named Bd.method).1
  have X0 : Stand p l e ({ frames := 5, cells := 0, slots := 0, locals := 66 } : Room) s m #[(.ref a1), (.ref a2), (.int (Int32.ofNat cs.length)), (.int (Int32.ofNat i))] below meth c s₁ [] 0 0 := Stand.of_body Bd
  have e0 : s₁.heap = h0 := by rw [← hh, Bd.state]; rfl
  have N0 := Fr.nil n0
  have pre0 : ∀ t, Steps p.tables e below (s₁.setTop (mkF m 0 #[.val (.ref a1), .val (.ref a2), .val (.int (Int32.ofNat cs.length)), .val (.int (Int32.ofNat i))] [])) t → Steps p.tables e below (s₁.setTop (entryFrame m #[(.ref a1), (.ref a2), (.int (Int32.ofNat cs.length)), (.int (Int32.ofNat i))] 4)) t := fun t_ k_ => castTop (ef_16 m a1 a2 (Int32.ofNat cs.length) (Int32.ofNat i)) k_
  obtain ⟨cq5, kq5, q5a, q5b, q5c⟩ := isOf hZ e0 S.1
  obtain ⟨cl_a2, Ar_a2, q_a2⟩ := A2
  have hin12 := own_avi q_a2 (List.getElem?_eq_some_iff.mp hq2).1 (by omega)
  have hat12 := own_avn q_a2 hq2 (by omega)
  obtain ⟨_, _, ⟨T5, L5, k5, n5⟩, -, X5, ⟨Lc5, hQ5, l5, y5, z5⟩, st5⟩ := X0.virtualBack hx (y := (⟨"java/lang/String", "charAt", "(I)C"⟩ : MethodName)) (z := (⟨"java/lang/String", "charAt", "(I)C"⟩ : MethodName)) hown (mvT hZ (hw _ (List.mem_of_getElem? (i := 102) rfl))) (mvT hZ (hw _ (List.mem_of_getElem? (i := 103) rfl))) (notFace_of_selects (args := #[]) (mvT hZ (hw _ (List.mem_of_getElem? (i := 105) rfl)))) (mvT hZ (hw _ (List.mem_of_getElem? (i := 105) rfl))) (mvT hZ (hw _ (List.mem_of_getElem? (i := 104) rfl))) (by decide) (backOf (W := 0) (chat l Z a0 hw [] a1 i ch cs h0 n0 Z0 D S hq1) hZ (hw _ (List.mem_of_getElem? (i := 106) rfl)) (hw _ (List.mem_of_getElem? (i := 8) rfl)) (by decide) (by decide)) q5a q5c (g := (mkF m 7 #[.val (.ref a1), .val (.ref a2), .val (.int (Int32.ofNat cs.length)), .val (.int (Int32.ofNat i))] [(.int (Int32.ofNat i)), (.ref a1)])) rfl (by rw [hml]; rfl) (Steps.refl _) (argsL := [(.int (Int32.ofNat i))]) (rest := []) (lenOf pd_16_17 rfl) rfl (by show 2 * 0 + _ ≤ _; exact Nat.le_of_eq rfl) (hb hby d16_7) (fun _ _ => ⟨rfl, e0, (by decide : 0 + 0 ≤ _), (by decide : 0 + 0 ≤ _)⟩)
  dsimp only [Pt.U, Pt.locs, Pt.cells, Pt.slots] at X5 l5 y5 z5 st5 hQ5
  subst l5 y5 z5
  obtain ⟨rfl, N5q, eq5⟩ := hQ5
  have N5 := Fr.app N0 N5q
  obtain ⟨fs, hr, hrun, hended, hW, hsame⟩ := X5.leave (v := some (.int (1 : Int32))) (fun h => by rw [Bd.returns] at h; cases h)
  refine ⟨_, _, pre0 _ ?_, hrun, hended, _, _, rfl, ?_, ⟨_, rfl⟩, hW, hsame.mono (by decide) (by decide)⟩
  -- 4. STEPS
  · show Steps p.tables e below (s₁.setTop (mkF m 0 #[.val (.ref a1), .val (.ref a2), .val (.int (Int32.ofNat cs.length)), .val (.int (Int32.ofNat i))] [])) _
    refine XS.iloadN X0.here hx rfl (hb hby d16_0) rfl ?_
    refine XS.iloadN X0.here hx rfl (hb hby d16_1) rfl ?_
    refine XS.icmpNo X0.here hx rfl (hb hby d16_2) rfl (tlt hc2).2.1 ?_
    refine XS.aloadN X0.here hx rfl (hb hby d16_5) rfl rfl ?_
    refine XS.iloadN X0.here hx rfl (hb hby d16_6) rfl ?_
    refine st5.trans ?_
    refine XS.aloadN X5.here hx rfl (hb hby d16_10) rfl rfl ?_
    show Steps p.tables e below (T5.setTop (mkF m 11 #[.val (.ref a1), .val (.ref a2), .val (.int (Int32.ofNat cs.length)), .val (.int (Int32.ofNat i))] [(.ref a2), (.int (Int32.ofNat ch))])) _
    refine XS.iloadN X5.here hx rfl (hb hby d16_11) rfl ?_
    show Steps p.tables e below (T5.setTop (mkF m 12 #[.val (.ref a1), .val (.ref a2), .val (.int (Int32.ofNat cs.length)), .val (.int (Int32.ofNat i))] [(.int (Int32.ofNat i)), (.ref a2), (.int (Int32.ofNat ch))])) _
    refine X5.caload hx (j := (Int32.ofNat i)) (v := (.int (Int32.ofNat ch))) (by rw [eq5]; exact Ar_a2.1) (State.isArrayOf_alike hZ.alike Ar_a2.2.1) Ar_a2.2.2 hin12 hat12 (g := (mkF m 12 #[.val (.ref a1), .val (.ref a2), .val (.int (Int32.ofNat cs.length)), .val (.int (Int32.ofNat i))] [(.int (Int32.ofNat i)), (.ref a2), (.int (Int32.ofNat ch))])) rfl rfl (hb hby d16_12) _ ?_
    refine XS.icmpNo X5.here hx rfl (hb hby d16_13) rfl (teq (rfl : (Int32.ofNat ch) = (Int32.ofNat ch))).2 ?_
    refine XS.iconst X5.here hx rfl (hb hby d16_16) ?_
    refine XS.goto X5.here hx rfl (pc0 := 17) (pc' := 21) rfl (hb hby d16_17) (by decide) (by decide) ?_
    show Steps p.tables e below (T5.setTop (mkF m 21 #[.val (.ref a1), .val (.ref a2), .val (.int (Int32.ofNat cs.length)), .val (.int (Int32.ofNat i))] [(.int (1 : Int32))])) _
    exact retN X5 hx (t := .boolean) Bd.returns (by simp) (hb hby d16_21) hr
  · show QI 1 h0 n0 _ T5.heap _
    exact ⟨rfl, N5, eq5⟩
theorem samew (l : Launch) (Z : State) (a0 : Array Value) (hw : ∀ d ∈ tables_1, d.before a0 Z = true) (ws : List Jvm.Cond) (a1 : Addr) (a2 : Addr) (i : Nat) (cs es : List Nat) (h0 : Heap) (n0 : Nat) (Z0 : n0 ≤ h0.size) (D : Wd Z h0) (S : Str Z h0 a1 cs) (A2 : Av Z h0 a2 .char Int32.ofNat es) (hl : es.length < 128) (hi : i < 128) (hq : i < cs.length → cs[i]? = es[i]?) :
    MetFree l (⟨"com/example/gumzo/gumzo/core/TaggedBase64EncodePinLaw", "same", "(Ljava/lang/String;[CII)Z"⟩ : MethodName) (head1 (Jvm.Cond.code (⟨"com/example/gumzo/gumzo/core/TaggedBase64EncodePinLaw", "same", "(Ljava/lang/String;[CII)Z"⟩ : MethodName) method_5_code 4 (some .boolean) :: ws) ({ frames := 5, cells := 0, slots := 0, locals := 66 } : Room)) (fun a U => a = #[(.ref a1), (.ref a2), (.int (Int32.ofNat cs.length)), (.int (Int32.ofNat i))] ∧ Z.Warmed39 U.vm ∧ U.heap = h0) (fun _ _ _ _ _ => True) (fun _ U o U' => ∃ v L, o = .returned v ∧ QI 1 h0 n0 v U'.heap L ∧ FrameEnd U o U' L ({ frames := 5, cells := 0, slots := 0, locals := 66 } : Room).cells ({ frames := 5, cells := 0, slots := 0, locals := 66 } : Room).slots) := by
  by_cases c1 : i < cs.length
  · have q := hq c1
    rw [List.getElem?_eq_getElem c1] at q
    exact rm16i l Z a0 hw ws a1 a2 i _ cs es h0 n0 Z0 D S A2 hl (List.getElem?_eq_getElem c1) q.symm (own_lt c1 (by have := S.2.1; omega))
  · exact rm16o l Z a0 hw ws a1 a2 _ _ h0 n0 Z0 (own_nlt (by omega) (by omega))
def ALs : List Nat := (List.range 64).map al
theorem own_als (k : Nat) (h : k < 64) : ALs[k]? = some (al k) := by
  unfold ALs
  rw [List.getElem?_map, List.getElem?_range h]; rfl
theorem own_all : ALs.length = 64 := by simp [ALs]
theorem own_d3 : ∀ n < 8, Int32.ofNat n / (3 : Int32) = Int32.ofNat (n / 3) ∧ Int32.ofNat n - ((3 : Int32) * Int32.ofNat (n / 3)) = Int32.ofNat (n - 3 * (n / 3)) ∧ (3 : Int32) * Int32.ofNat (n / 3) = Int32.ofNat (3 * (n / 3)) ∧ (4 : Int32) * ((Int32.ofNat n + (2 : Int32)) / (3 : Int32)) = Int32.ofNat (4 * ((n + 2) / 3)) := by decide +kernel
theorem own_m3 : ∀ n < 8, (3 : Int32) * Int32.ofNat n = Int32.ofNat (3 * n) := by decide +kernel
theorem own_add (a b : Nat) : Int32.ofNat a + Int32.ofNat b = Int32.ofNat (a + b) := (Int32.ofNat_add a b).symm
theorem d5_0 : decode prog_5_method_2_code 0 = .ok (.aload_n 1, 1) := by decide +kernel
theorem d5_1 : decode prog_5_method_2_code 1 = .ok (.arraylength, 1) := by decide +kernel
theorem d5_2 : decode prog_5_method_2_code 2 = .ok (.iconst 3, 1) := by decide +kernel
theorem d5_3 : decode prog_5_method_2_code 3 = .ok (.idiv, 1) := by decide +kernel
theorem d5_4 : decode prog_5_method_2_code 4 = .ok (.istore_n 3, 1) := by decide +kernel
theorem d5_5 : decode prog_5_method_2_code 5 = .ok (.aload_n 1, 1) := by decide +kernel
theorem d5_6 : decode prog_5_method_2_code 6 = .ok (.arraylength, 1) := by decide +kernel
theorem d5_7 : decode prog_5_method_2_code 7 = .ok (.iconst 3, 1) := by decide +kernel
theorem d5_8 : decode prog_5_method_2_code 8 = .ok (.iload_n 3, 1) := by decide +kernel
theorem d5_9 : decode prog_5_method_2_code 9 = .ok (.imul, 1) := by decide +kernel
theorem d5_10 : decode prog_5_method_2_code 10 = .ok (.isub, 1) := by decide +kernel
theorem d5_11 : decode prog_5_method_2_code 11 = .ok (.istore 4, 2) := by decide +kernel
theorem os5_4 {s0 : Slot} {z1 : Value} {s2 : Slot} {s3 : Slot} {s4 : Slot} {s5 : Slot} {s6 : Slot} {s7 : Slot} {s8 : Slot} {v : Int32} (h : One s3) : storeLocals #[s0, .val z1, s2, s3, s4, s5, s6, s7, s8] 3 (.int v) = some #[s0, .val z1, s2, .val (.int v), s4, s5, s6, s7, s8] := by
  rcases h with rfl | ⟨w, rfl, hw⟩
  · rfl
  · cases w <;> first | rfl | (simp [Value.category] at hw)
theorem os5_11 {s0 : Slot} {z1 : Value} {s2 : Slot} {z3 : Value} {s4 : Slot} {s5 : Slot} {s6 : Slot} {s7 : Slot} {s8 : Slot} {v : Int32} (h : One s4) : storeLocals #[s0, .val z1, s2, .val z3, s4, s5, s6, s7, s8] 4 (.int v) = some #[s0, .val z1, s2, .val z3, .val (.int v), s5, s6, s7, s8] := by
  rcases h with rfl | ⟨w, rfl, hw⟩
  · rfl
  · cases w <;> first | rfl | (simp [Value.category] at hw)
set_option maxRecDepth 65536 in
set_option maxHeartbeats 40000000 in
theorem s5a {p : Program} {l : Launch} {e : Env} {R : Room} {s : State} {m : MethodId} {args : Array Value} {below : List Frame} {meth : Method} {c : Code} {T0 : State} {locs : List Loc} {cells slots : Nat} {Z : State} {h0 : Heap} (s0 : Slot) (o1 : Addr) (s2 : Slot) (s3 : Slot) (s4 : Slot) (s5 : Slot) (s6 : Slot) (s7 : Slot) (s8 : Slot) (bs : List Nat)
    (X0 : Stand p l e R s m args below meth c T0 locs cells slots) (hx : p.tables.exec = Jvm.exec) (hZ : Z.Warmed39 s.vm) (hby : c.code = prog_5_method_2_code) (e0 : T0.heap = h0) (hs3 : One s3) (hs4 : One s4) (Abs : Av Z h0 o1 .byte b8 bs) (hbl : bs.length < 128) :
    ∀ target, Steps p.tables e below (T0.setTop (mkF m 13 #[s0, .val (.ref o1), s2, .val (.int ((Int32.ofNat bs.length) / (3 : Int32))), .val (.int ((Int32.ofNat bs.length) - ((3 : Int32) * ((Int32.ofNat bs.length) / (3 : Int32))))), s5, s6, s7, s8] [])) target → Steps p.tables e below (T0.setTop (mkF m 0 #[s0, .val (.ref o1), s2, s3, s4, s5, s6, s7, s8] [])) target := by
  intro target kt
  obtain ⟨cl_o1, Ar_o1, q_o1⟩ := Abs
  have S_o1 := (own_avz q_o1 (by omega)).1
  have N_o1 := (own_avz q_o1 (by omega)).2
  have hnz3 : ¬ ((3 : Int32) = (0 : Int32)) := by decide
  show Steps p.tables e below (T0.setTop (mkF m 0 #[s0, .val (.ref o1), s2, s3, s4, s5, s6, s7, s8] [])) _
  refine XS.aloadN X0.here hx rfl (hb hby d5_0) rfl rfl ?_
  show Steps p.tables e below (T0.setTop (mkF m 1 #[s0, .val (.ref o1), s2, s3, s4, s5, s6, s7, s8] [(.ref o1)])) _
  refine X0.arraylength hx (by rw [e0]; exact Ar_o1.1) (State.isArrayOf_alike hZ.alike Ar_o1.2.1) (g := (mkF m 1 #[s0, .val (.ref o1), s2, s3, s4, s5, s6, s7, s8] [(.ref o1)])) rfl rfl (hb hby d5_1) _ ?_
  rw [len_of S_o1 N_o1]
  refine XS.iconst X0.here hx rfl (hb hby d5_2) ?_
  refine XS.idiv X0.here hx rfl (hb hby d5_3) rfl hnz3 ?_
  refine XS.istoreN X0.here hx rfl (hb hby d5_4) rfl (l' := #[s0, .val (.ref o1), s2, .val (.int ((Int32.ofNat bs.length) / (3 : Int32))), s4, s5, s6, s7, s8]) (os5_4 hs3) ?_
  refine XS.aloadN X0.here hx rfl (hb hby d5_5) rfl rfl ?_
  show Steps p.tables e below (T0.setTop (mkF m 6 #[s0, .val (.ref o1), s2, .val (.int ((Int32.ofNat bs.length) / (3 : Int32))), s4, s5, s6, s7, s8] [(.ref o1)])) _
  refine X0.arraylength hx (by rw [e0]; exact Ar_o1.1) (State.isArrayOf_alike hZ.alike Ar_o1.2.1) (g := (mkF m 6 #[s0, .val (.ref o1), s2, .val (.int ((Int32.ofNat bs.length) / (3 : Int32))), s4, s5, s6, s7, s8] [(.ref o1)])) rfl rfl (hb hby d5_6) _ ?_
  rw [len_of S_o1 N_o1]
  refine XS.iconst X0.here hx rfl (hb hby d5_7) ?_
  refine XS.iloadN X0.here hx rfl (hb hby d5_8) rfl ?_
  refine XS.imul X0.here hx rfl (hb hby d5_9) rfl ?_
  refine XS.isub X0.here hx rfl (hb hby d5_10) rfl ?_
  refine XS.istore X0.here hx rfl (hb hby d5_11) rfl (l' := #[s0, .val (.ref o1), s2, .val (.int ((Int32.ofNat bs.length) / (3 : Int32))), .val (.int ((Int32.ofNat bs.length) - ((3 : Int32) * ((Int32.ofNat bs.length) / (3 : Int32))))), s5, s6, s7, s8]) (os5_11 hs4) ?_
  exact kt
theorem d5_13 : decode prog_5_method_2_code 13 = .ok (.aload_n 0, 1) := by decide +kernel
theorem d5_14 : decode prog_5_method_2_code 14 = .ok (.invokevirtual 7, 3) := by decide +kernel
theorem d5_17 : decode prog_5_method_2_code 17 = .ok (.iconst 4, 1) := by decide +kernel
theorem d5_18 : decode prog_5_method_2_code 18 = .ok (.aload_n 1, 1) := by decide +kernel
theorem d5_19 : decode prog_5_method_2_code 19 = .ok (.arraylength, 1) := by decide +kernel
theorem d5_20 : decode prog_5_method_2_code 20 = .ok (.iconst 2, 1) := by decide +kernel
theorem d5_21 : decode prog_5_method_2_code 21 = .ok (.iadd, 1) := by decide +kernel
theorem d5_22 : decode prog_5_method_2_code 22 = .ok (.iconst 3, 1) := by decide +kernel
theorem d5_23 : decode prog_5_method_2_code 23 = .ok (.idiv, 1) := by decide +kernel
theorem d5_24 : decode prog_5_method_2_code 24 = .ok (.imul, 1) := by decide +kernel
theorem d5_25 : decode prog_5_method_2_code 25 = .ok (.iadd, 1) := by decide +kernel
theorem d5_26 : decode prog_5_method_2_code 26 = .ok (.aload_n 2, 1) := by decide +kernel
theorem d5_27 : decode prog_5_method_2_code 27 = .ok (.invokevirtual 7, 3) := by decide +kernel
theorem d5_30 : decode prog_5_method_2_code 30 = .ok (.iadd, 1) := by decide +kernel
theorem d5_31 : decode prog_5_method_2_code 31 = .ok (.newarray .char, 2) := by decide +kernel
theorem d5_33 : decode prog_5_method_2_code 33 = .ok (.astore 5, 2) := by decide +kernel
theorem pd_5_5 : parseMethodDescriptor "()I" = some ⟨[], some .int⟩ := by decide +kernel
theorem os5_33 {z0 : Value} {z1 : Value} {z2 : Value} {s3 : Slot} {s4 : Slot} {s5 : Slot} {s6 : Slot} {s7 : Slot} {s8 : Slot} {v : Addr} (h : One s5) : storeLocals #[.val z0, .val z1, .val z2, s3, s4, s5, s6, s7, s8] 5 (.ref v) = some #[.val z0, .val z1, .val z2, s3, s4, .val (.ref v), s6, s7, s8] := by
  rcases h with rfl | ⟨w, rfl, hw⟩
  · rfl
  · cases w <;> first | rfl | (simp [Value.category] at hw)
set_option maxRecDepth 65536 in
set_option maxHeartbeats 40000000 in
theorem t5b {p : Program} {l : Launch} {e : Env} {s : State} {m : MethodId} {args : Array Value} {below : List Frame} {meth : Method} {c : Code} {T0 : State} {locs : List Loc} {Z : State} {a0 : Array Value} {h0 : Heap} (o0 : Addr) (o1 : Addr) (o2 : Addr) (s3 : Slot) (s4 : Slot) (s5 : Slot) (s6 : Slot) (s7 : Slot) (s8 : Slot) (bs sig suf : List Nat) (n0 : Nat)
    (X0 : Stand p l e ({ frames := 6, cells := 6, slots := 64, locals := 88 } : Room) s m args below meth c T0 locs 0 0) (hx : p.tables.exec = Jvm.exec) (hZ : Z.Warmed39 s.vm) (hw : ∀ d ∈ tables_1, d.before a0 Z = true) (hby : c.code = prog_5_method_2_code) (hml : c.maxLocals = 9) (hown : s.vm.findClass "com/example/gumzo/gumzo/core/TaggedBase64" = some m.cls) (e0 : T0.heap = h0) (hs5 : One s5) (N0 : Fr n0 locs) (Z0 : n0 ≤ h0.size) (D : Wd Z h0) (S0 : Str Z h0 o0 sig) (S2 : Str Z h0 o2 suf) (Abs : Av Z h0 o1 .byte b8 bs) (hbl : bs.length < 7) (hl0 : sig.length < 3) (hl2 : suf.length < 3) :
    ∃ (T' : State) (h' : Heap) (L' : List Loc) (b6 : Addr), Stand p l e ({ frames := 6, cells := 6, slots := 64, locals := 88 } : Room) s m args below meth c T' L' 1 12 ∧ T'.heap = h' ∧ Fr n0 L' ∧ n0 ≤ b6 ∧ h0.size ≤ b6 ∧ Keep h0 h' [] ∧ Av Z h' b6 .char Int32.ofNat (List.replicate (sig.length + 4 * ((bs.length + 2) / 3) + suf.length) 0) ∧
      ∀ target, Steps p.tables e below (T'.setTop (mkF m 35 #[.val (.ref o0), .val (.ref o1), .val (.ref o2), s3, s4, .val (.ref b6), s6, s7, s8] [])) target → Steps p.tables e below (T0.setTop (mkF m 13 #[.val (.ref o0), .val (.ref o1), .val (.ref o2), s3, s4, s5, s6, s7, s8] [])) target := by
  obtain ⟨cq4, kq4, q4a, q4b, q4c⟩ := isOf hZ e0 S0.1
  obtain ⟨cl_o1, Ar_o1, q_o1⟩ := Abs
  have S_o1 := (own_avz q_o1 (by omega)).1
  have N_o1 := (own_avz q_o1 (by omega)).2
  have hnz23 : ¬ ((3 : Int32) = (0 : Int32)) := by decide
  obtain ⟨_, _, ⟨T4, L4, k4, n4⟩, -, X4, ⟨Lc4, hQ4, l4, y4, z4⟩, st4⟩ := X0.virtualBack hx (y := (⟨"java/lang/String", "length", "()I"⟩ : MethodName)) (z := (⟨"java/lang/String", "length", "()I"⟩ : MethodName)) hown (mvT hZ (hw _ (List.mem_of_getElem? (i := 31) rfl))) (mvT hZ (hw _ (List.mem_of_getElem? (i := 32) rfl))) (notFace_of_selects (args := #[]) (mvT hZ (hw _ (List.mem_of_getElem? (i := 34) rfl)))) (mvT hZ (hw _ (List.mem_of_getElem? (i := 34) rfl))) (mvT hZ (hw _ (List.mem_of_getElem? (i := 33) rfl))) (by decide) (backOf (W := 0) (len l Z a0 hw [] o0 sig h0 n0 Z0 D S0) hZ (hw _ (List.mem_of_getElem? (i := 35) rfl)) (hw _ (List.mem_of_getElem? (i := 8) rfl)) (by decide) (by decide)) q4a q4c (g := (mkF m 14 #[.val (.ref o0), .val (.ref o1), .val (.ref o2), s3, s4, s5, s6, s7, s8] [(.ref o0)])) rfl (by rw [hml]; rfl) (Steps.refl _) (argsL := []) (rest := []) (lenOf pd_5_5 rfl) rfl (by show 2 * 0 + _ ≤ _; exact Nat.le_of_eq rfl) (hb hby d5_14) (fun _ _ => ⟨rfl, e0, (by decide : 0 + 0 + 0 ≤ _), (by decide : 0 + 0 + 0 ≤ _)⟩)
  dsimp only [Pt.U, Pt.locs, Pt.cells, Pt.slots] at X4 l4 y4 z4 st4 hQ4
  subst l4 y4 z4
  obtain ⟨rfl, N4q, eq4⟩ := hQ4
  obtain ⟨cq5, kq5, q5a, q5b, q5c⟩ := isOf hZ eq4 S2.1
  obtain ⟨_, _, ⟨T5, L5, k5, n5⟩, -, X5, ⟨Lc5, hQ5, l5, y5, z5⟩, st5⟩ := X4.virtualBack hx (y := (⟨"java/lang/String", "length", "()I"⟩ : MethodName)) (z := (⟨"java/lang/String", "length", "()I"⟩ : MethodName)) hown (mvT hZ (hw _ (List.mem_of_getElem? (i := 31) rfl))) (mvT hZ (hw _ (List.mem_of_getElem? (i := 32) rfl))) (notFace_of_selects (args := #[]) (mvT hZ (hw _ (List.mem_of_getElem? (i := 34) rfl)))) (mvT hZ (hw _ (List.mem_of_getElem? (i := 34) rfl))) (mvT hZ (hw _ (List.mem_of_getElem? (i := 33) rfl))) (by decide) (backOf (W := 1) (len l Z a0 hw [] o2 suf T4.heap n0 (eq4 ▸ Z0) (eq4 ▸ D) (eq4 ▸ S2)) hZ (hw _ (List.mem_of_getElem? (i := 35) rfl)) (hw _ (List.mem_of_getElem? (i := 8) rfl)) (by decide) (by decide)) q5a q5c (g := (mkF m 27 #[.val (.ref o0), .val (.ref o1), .val (.ref o2), s3, s4, s5, s6, s7, s8] [(.ref o2), (.int ((Int32.ofNat sig.length) + ((4 : Int32) * (((Int32.ofNat bs.length) + (2 : Int32)) / (3 : Int32)))))])) rfl (by rw [hml]; rfl) (Steps.refl _) (argsL := []) (rest := [(.int ((Int32.ofNat sig.length) + ((4 : Int32) * (((Int32.ofNat bs.length) + (2 : Int32)) / (3 : Int32)))))]) (lenOf pd_5_5 rfl) rfl (by show 2 * 0 + _ ≤ _; exact Nat.le_of_eq rfl) (hb hby d5_27) (fun _ _ => ⟨rfl, rfl, (by decide : 0 + 0 + 0 ≤ _), (by decide : 0 + 0 + 0 ≤ _)⟩)
  dsimp only [Pt.U, Pt.locs, Pt.cells, Pt.slots] at X5 l5 y5 z5 st5 hQ5
  subst l5 y5 z5
  obtain ⟨rfl, N5q, eq5⟩ := hQ5
  have eq5 := eq5.trans eq4
  have N5 := Fr.app (Fr.app N0 N4q) N5q
  obtain ⟨T6, h6, b6, X6, e6, E6, g_b6, sz_b6, A6, st6⟩ := newPv (a0 := a0) X5 hx hZ rfl (by rw [eq5]; exact Z0) (g := (mkF m 31 #[.val (.ref o0), .val (.ref o1), .val (.ref o2), s3, s4, s5, s6, s7, s8] [(.int (((Int32.ofNat sig.length) + ((4 : Int32) * (((Int32.ofNat bs.length) + (2 : Int32)) / (3 : Int32)))) + (Int32.ofNat suf.length)))])) rfl (hb hby d5_31) rfl (hw _ (List.mem_of_getElem? (i := 9) rfl)) (sig.length + 4 * ((bs.length + 2) / 3) + suf.length) (by omega) Int32.ofNat own_fc (by rw [(own_d3 _ (by omega)).2.2.2, own_add, own_add]) rfl (cap := 12) (by omega) (by decide) (by decide) (by decide)
  refine ⟨T6, _, _, b6, X6, e6, N5, g_b6, by rw [eq5] at sz_b6; exact sz_b6, (own_same eq5).ext E6, A6, fun target kt => ?_⟩
  show Steps p.tables e below (T0.setTop (mkF m 13 #[.val (.ref o0), .val (.ref o1), .val (.ref o2), s3, s4, s5, s6, s7, s8] [])) _
  refine XS.aloadN X0.here hx rfl (hb hby d5_13) rfl rfl ?_
  refine st4.trans ?_
  refine XS.iconst X4.here hx rfl (hb hby d5_17) ?_
  refine XS.aloadN X4.here hx rfl (hb hby d5_18) rfl rfl ?_
  show Steps p.tables e below (T4.setTop (mkF m 19 #[.val (.ref o0), .val (.ref o1), .val (.ref o2), s3, s4, s5, s6, s7, s8] [(.ref o1), (.int (4 : Int32)), (.int (Int32.ofNat sig.length))])) _
  refine X4.arraylength hx (by rw [eq4]; exact Ar_o1.1) (State.isArrayOf_alike hZ.alike Ar_o1.2.1) (g := (mkF m 19 #[.val (.ref o0), .val (.ref o1), .val (.ref o2), s3, s4, s5, s6, s7, s8] [(.ref o1), (.int (4 : Int32)), (.int (Int32.ofNat sig.length))])) rfl rfl (hb hby d5_19) _ ?_
  rw [len_of S_o1 N_o1]
  refine XS.iconst X4.here hx rfl (hb hby d5_20) ?_
  refine XS.iadd X4.here hx rfl (hb hby d5_21) rfl ?_
  refine XS.iconst X4.here hx rfl (hb hby d5_22) ?_
  refine XS.idiv X4.here hx rfl (hb hby d5_23) rfl hnz23 ?_
  refine XS.imul X4.here hx rfl (hb hby d5_24) rfl ?_
  refine XS.iadd X4.here hx rfl (hb hby d5_25) rfl ?_
  show Steps p.tables e below (T4.setTop (mkF m 26 #[.val (.ref o0), .val (.ref o1), .val (.ref o2), s3, s4, s5, s6, s7, s8] [(.int ((Int32.ofNat sig.length) + ((4 : Int32) * (((Int32.ofNat bs.length) + (2 : Int32)) / (3 : Int32)))))])) _
  refine XS.aloadN X4.here hx rfl (hb hby d5_26) rfl rfl ?_
  refine st5.trans ?_
  refine XS.iadd X5.here hx rfl (hb hby d5_30) rfl ?_
  refine st6 _ ?_
  refine XS.astore X6.here hx rfl (hb hby d5_33) rfl rfl (l' := #[.val (.ref o0), .val (.ref o1), .val (.ref o2), s3, s4, .val (.ref b6), s6, s7, s8]) (os5_33 hs5) ?_
  exact kt
theorem d5_35 : decode prog_5_method_2_code 35 = .ok (.aload_n 0, 1) := by decide +kernel
theorem d5_36 : decode prog_5_method_2_code 36 = .ok (.iconst 0, 1) := by decide +kernel
theorem d5_37 : decode prog_5_method_2_code 37 = .ok (.aload_n 0, 1) := by decide +kernel
theorem d5_38 : decode prog_5_method_2_code 38 = .ok (.invokevirtual 7, 3) := by decide +kernel
theorem d5_41 : decode prog_5_method_2_code 41 = .ok (.aload 5, 2) := by decide +kernel
theorem d5_43 : decode prog_5_method_2_code 43 = .ok (.iconst 0, 1) := by decide +kernel
theorem d5_44 : decode prog_5_method_2_code 44 = .ok (.invokevirtual 13, 3) := by decide +kernel
theorem d5_47 : decode prog_5_method_2_code 47 = .ok (.aload_n 0, 1) := by decide +kernel
theorem d5_48 : decode prog_5_method_2_code 48 = .ok (.invokevirtual 7, 3) := by decide +kernel
theorem d5_51 : decode prog_5_method_2_code 51 = .ok (.istore 6, 2) := by decide +kernel
theorem d5_53 : decode prog_5_method_2_code 53 = .ok (.iconst 0, 1) := by decide +kernel
theorem d5_54 : decode prog_5_method_2_code 54 = .ok (.istore 7, 2) := by decide +kernel
theorem pd_5_7 : parseMethodDescriptor "(II[CI)V" = some ⟨[.int, .int, (.array .char), .int], none⟩ := by decide +kernel
theorem os5_51 {z0 : Value} {s1 : Slot} {s2 : Slot} {s3 : Slot} {s4 : Slot} {z5 : Value} {s6 : Slot} {s7 : Slot} {s8 : Slot} {v : Int32} (h : One s6) : storeLocals #[.val z0, s1, s2, s3, s4, .val z5, s6, s7, s8] 6 (.int v) = some #[.val z0, s1, s2, s3, s4, .val z5, .val (.int v), s7, s8] := by
  rcases h with rfl | ⟨w, rfl, hw⟩
  · rfl
  · cases w <;> first | rfl | (simp [Value.category] at hw)
theorem os5_54 {z0 : Value} {s1 : Slot} {s2 : Slot} {s3 : Slot} {s4 : Slot} {z5 : Value} {z6 : Value} {s7 : Slot} {s8 : Slot} {v : Int32} (h : One s7) : storeLocals #[.val z0, s1, s2, s3, s4, .val z5, .val z6, s7, s8] 7 (.int v) = some #[.val z0, s1, s2, s3, s4, .val z5, .val z6, .val (.int v), s8] := by
  rcases h with rfl | ⟨w, rfl, hw⟩
  · rfl
  · cases w <;> first | rfl | (simp [Value.category] at hw)
set_option maxRecDepth 65536 in
set_option maxHeartbeats 40000000 in
theorem t5c {p : Program} {l : Launch} {e : Env} {s : State} {m : MethodId} {args : Array Value} {below : List Frame} {meth : Method} {c : Code} {T0 : State} {locs : List Loc} {Z : State} {a0 : Array Value} {h0 : Heap} (o0 : Addr) (s1 : Slot) (s2 : Slot) (s3 : Slot) (s4 : Slot) (o5 : Addr) (s6 : Slot) (s7 : Slot) (s8 : Slot) (sig ds : List Nat) (n0 : Nat)
    (X0 : Stand p l e ({ frames := 6, cells := 6, slots := 64, locals := 88 } : Room) s m args below meth c T0 locs 1 12) (hx : p.tables.exec = Jvm.exec) (hZ : Z.Warmed39 s.vm) (hw : ∀ d ∈ tables_1, d.before a0 Z = true) (hby : c.code = prog_5_method_2_code) (hml : c.maxLocals = 9) (hown : s.vm.findClass "com/example/gumzo/gumzo/core/TaggedBase64" = some m.cls) (e0 : T0.heap = h0) (hs6 : One s6) (hs7 : One s7) (N0 : Fr n0 locs) (Z0 : n0 ≤ h0.size) (D : Wd Z h0) (S0 : Str Z h0 o0 sig) (A5 : Av Z h0 o5 .char Int32.ofNat ds) (hl0 : sig.length < 3) (hd : ds.length < 16) (hdl : 0 + sig.length ≤ ds.length) (g_o5 : n0 ≤ o5) :
    ∃ (T' : State) (h' : Heap) (L' : List Loc), Stand p l e ({ frames := 6, cells := 6, slots := 64, locals := 88 } : Room) s m args below meth c T' L' 1 12 ∧ T'.heap = h' ∧ Fr n0 L' ∧ Keep h0 h' [o5] ∧ Av Z h' o5 .char Int32.ofNat (blit ds 0 sig) ∧
      ∀ target, Steps p.tables e below (T'.setTop (mkF m 56 #[.val (.ref o0), s1, s2, s3, s4, .val (.ref o5), .val (.int (Int32.ofNat sig.length)), .val (.int (0 : Int32)), s8] [])) target → Steps p.tables e below (T0.setTop (mkF m 35 #[.val (.ref o0), s1, s2, s3, s4, .val (.ref o5), s6, s7, s8] [])) target := by
  obtain ⟨cq4, kq4, q4a, q4b, q4c⟩ := isOf hZ e0 S0.1
  obtain ⟨_, _, ⟨T4, L4, k4, n4⟩, -, X4, ⟨Lc4, hQ4, l4, y4, z4⟩, st4⟩ := X0.virtualBack hx (y := (⟨"java/lang/String", "length", "()I"⟩ : MethodName)) (z := (⟨"java/lang/String", "length", "()I"⟩ : MethodName)) hown (mvT hZ (hw _ (List.mem_of_getElem? (i := 31) rfl))) (mvT hZ (hw _ (List.mem_of_getElem? (i := 32) rfl))) (notFace_of_selects (args := #[]) (mvT hZ (hw _ (List.mem_of_getElem? (i := 34) rfl)))) (mvT hZ (hw _ (List.mem_of_getElem? (i := 34) rfl))) (mvT hZ (hw _ (List.mem_of_getElem? (i := 33) rfl))) (by decide) (backOf (W := 2) (len l Z a0 hw [] o0 sig h0 n0 Z0 D S0) hZ (hw _ (List.mem_of_getElem? (i := 35) rfl)) (hw _ (List.mem_of_getElem? (i := 8) rfl)) (by decide) (by decide)) q4a q4c (g := (mkF m 38 #[.val (.ref o0), s1, s2, s3, s4, .val (.ref o5), s6, s7, s8] [(.ref o0), (.int (0 : Int32)), (.ref o0)])) rfl (by rw [hml]; rfl) (Steps.refl _) (argsL := []) (rest := [(.int (0 : Int32)), (.ref o0)]) (lenOf pd_5_5 rfl) rfl (by show 2 * 0 + _ ≤ _; exact Nat.le_of_eq rfl) (hb hby d5_38) (fun _ _ => ⟨rfl, e0, (by decide : 1 + 0 + 0 ≤ _), (by decide : 12 + 0 + 0 ≤ _)⟩)
  dsimp only [Pt.U, Pt.locs, Pt.cells, Pt.slots] at X4 l4 y4 z4 st4 hQ4
  subst l4 y4 z4
  obtain ⟨rfl, N4q, eq4⟩ := hQ4
  obtain ⟨cq5, kq5, q5a, q5b, q5c⟩ := isOf hZ eq4 S0.1
  obtain ⟨_, _, ⟨T5, L5, k5, n5⟩, -, X5, ⟨Lc5, hQ5, l5, y5, z5⟩, st5⟩ := X4.virtualBack hx (y := (⟨"java/lang/String", "getChars", "(II[CI)V"⟩ : MethodName)) (z := (⟨"java/lang/String", "getChars", "(II[CI)V"⟩ : MethodName)) hown (mvT hZ (hw _ (List.mem_of_getElem? (i := 42) rfl))) (mvT hZ (hw _ (List.mem_of_getElem? (i := 43) rfl))) (notFace_of_selects (args := #[]) (mvT hZ (hw _ (List.mem_of_getElem? (i := 45) rfl)))) (mvT hZ (hw _ (List.mem_of_getElem? (i := 45) rfl))) (mvT hZ (hw _ (List.mem_of_getElem? (i := 44) rfl))) (by decide) (backOf (W := 0) (gch l Z a0 hw [] o0 o5 0 sig ds h0 n0 Z0 D S0 A5 (by omega) hd hdl g_o5) hZ (hw _ (List.mem_of_getElem? (i := 46) rfl)) (hw _ (List.mem_of_getElem? (i := 8) rfl)) (by decide) (by decide)) q5a q5c (g := (mkF m 44 #[.val (.ref o0), s1, s2, s3, s4, .val (.ref o5), s6, s7, s8] [(.int (0 : Int32)), (.ref o5), (.int (Int32.ofNat sig.length)), (.int (0 : Int32)), (.ref o0)])) rfl (by rw [hml]; rfl) (Steps.refl _) (argsL := [(.int (0 : Int32)), (.int (Int32.ofNat sig.length)), (.ref o5), (.int (0 : Int32))]) (rest := []) (lenOf pd_5_7 rfl) rfl (by show 2 * 0 + _ ≤ _; exact Nat.le_of_eq rfl) (hb hby d5_44) (fun _ _ => ⟨rfl, eq4, (by decide : 1 + 0 + 0 ≤ _), (by decide : 12 + 0 + 0 ≤ _)⟩)
  dsimp only [Pt.U, Pt.locs, Pt.cells, Pt.slots] at X5 l5 y5 z5 st5 hQ5
  subst l5 y5 z5
  obtain ⟨rfl, N5q, K5, A5c⟩ := hQ5
  obtain ⟨cq6, kq6, q6a, q6b, q6c⟩ := isOf hZ rfl (S0.keepc K5 A5).1
  obtain ⟨_, _, ⟨T6, L6, k6, n6⟩, -, X6, ⟨Lc6, hQ6, l6, y6, z6⟩, st6⟩ := X5.virtualBack hx (y := (⟨"java/lang/String", "length", "()I"⟩ : MethodName)) (z := (⟨"java/lang/String", "length", "()I"⟩ : MethodName)) hown (mvT hZ (hw _ (List.mem_of_getElem? (i := 31) rfl))) (mvT hZ (hw _ (List.mem_of_getElem? (i := 32) rfl))) (notFace_of_selects (args := #[]) (mvT hZ (hw _ (List.mem_of_getElem? (i := 34) rfl)))) (mvT hZ (hw _ (List.mem_of_getElem? (i := 34) rfl))) (mvT hZ (hw _ (List.mem_of_getElem? (i := 33) rfl))) (by decide) (backOf (W := 0) (len l Z a0 hw [] o0 sig T5.heap n0 (Nat.le_trans Z0 K5.1) (D.keep K5 A5.nost) (S0.keepc K5 A5)) hZ (hw _ (List.mem_of_getElem? (i := 35) rfl)) (hw _ (List.mem_of_getElem? (i := 8) rfl)) (by decide) (by decide)) q6a q6c (g := (mkF m 48 #[.val (.ref o0), s1, s2, s3, s4, .val (.ref o5), s6, s7, s8] [(.ref o0)])) rfl (by rw [hml]; rfl) (Steps.refl _) (argsL := []) (rest := []) (lenOf pd_5_5 rfl) rfl (by show 2 * 0 + _ ≤ _; exact Nat.le_of_eq rfl) (hb hby d5_48) (fun _ _ => ⟨rfl, rfl, (by decide : 1 + 0 + 0 ≤ _), (by decide : 12 + 0 + 0 ≤ _)⟩)
  dsimp only [Pt.U, Pt.locs, Pt.cells, Pt.slots] at X6 l6 y6 z6 st6 hQ6
  subst l6 y6 z6
  obtain ⟨rfl, N6q, eq6⟩ := hQ6
  have N6 := Fr.app (Fr.app (Fr.app N0 N4q) N5q) N6q
  refine ⟨T6, _, _, X6, eq6, N6, K5, A5c, fun target kt => ?_⟩
  show Steps p.tables e below (T0.setTop (mkF m 35 #[.val (.ref o0), s1, s2, s3, s4, .val (.ref o5), s6, s7, s8] [])) _
  refine XS.aloadN X0.here hx rfl (hb hby d5_35) rfl rfl ?_
  refine XS.iconst X0.here hx rfl (hb hby d5_36) ?_
  refine XS.aloadN X0.here hx rfl (hb hby d5_37) rfl rfl ?_
  refine st4.trans ?_
  refine XS.aload X4.here hx rfl (hb hby d5_41) rfl rfl ?_
  refine XS.iconst X4.here hx rfl (hb hby d5_43) ?_
  refine st5.trans ?_
  show Steps p.tables e below (T5.setTop (mkF m 47 #[.val (.ref o0), s1, s2, s3, s4, .val (.ref o5), s6, s7, s8] [])) _
  refine XS.aloadN X5.here hx rfl (hb hby d5_47) rfl rfl ?_
  refine st6.trans ?_
  refine XS.istore X6.here hx rfl (hb hby d5_51) rfl (l' := #[.val (.ref o0), s1, s2, s3, s4, .val (.ref o5), .val (.int (Int32.ofNat sig.length)), s7, s8]) (os5_51 hs6) ?_
  refine XS.iconst X6.here hx rfl (hb hby d5_53) ?_
  refine XS.istore X6.here hx rfl (hb hby d5_54) rfl (l' := #[.val (.ref o0), s1, s2, s3, s4, .val (.ref o5), .val (.int (Int32.ofNat sig.length)), .val (.int (0 : Int32)), s8]) (os5_54 hs7) ?_
  exact kt
theorem d5_56 : decode prog_5_method_2_code 56 = .ok (.iload 7, 2) := by decide +kernel
theorem d5_58 : decode prog_5_method_2_code 58 = .ok (.iconst 3, 1) := by decide +kernel
theorem d5_59 : decode prog_5_method_2_code 59 = .ok (.iload_n 3, 1) := by decide +kernel
theorem d5_60 : decode prog_5_method_2_code 60 = .ok (.imul, 1) := by decide +kernel
theorem d5_61 : decode prog_5_method_2_code 61 = .ok (.if_icmp .ge 118, 3) := by decide +kernel
theorem d5_64 : decode prog_5_method_2_code 64 = .ok (.aload_n 1, 1) := by decide +kernel
theorem d5_65 : decode prog_5_method_2_code 65 = .ok (.iload 7, 2) := by decide +kernel
theorem d5_67 : decode prog_5_method_2_code 67 = .ok (.baload, 1) := by decide +kernel
theorem d5_68 : decode prog_5_method_2_code 68 = .ok (.sipush 255, 3) := by decide +kernel
theorem d5_71 : decode prog_5_method_2_code 71 = .ok (.iand, 1) := by decide +kernel
theorem d5_72 : decode prog_5_method_2_code 72 = .ok (.bipush 16, 2) := by decide +kernel
theorem d5_74 : decode prog_5_method_2_code 74 = .ok (.ishl, 1) := by decide +kernel
theorem d5_75 : decode prog_5_method_2_code 75 = .ok (.aload_n 1, 1) := by decide +kernel
theorem d5_76 : decode prog_5_method_2_code 76 = .ok (.iload 7, 2) := by decide +kernel
theorem d5_78 : decode prog_5_method_2_code 78 = .ok (.iconst 1, 1) := by decide +kernel
theorem d5_79 : decode prog_5_method_2_code 79 = .ok (.iadd, 1) := by decide +kernel
theorem d5_80 : decode prog_5_method_2_code 80 = .ok (.baload, 1) := by decide +kernel
theorem d5_81 : decode prog_5_method_2_code 81 = .ok (.sipush 255, 3) := by decide +kernel
theorem d5_84 : decode prog_5_method_2_code 84 = .ok (.iand, 1) := by decide +kernel
theorem d5_85 : decode prog_5_method_2_code 85 = .ok (.bipush 8, 2) := by decide +kernel
theorem d5_87 : decode prog_5_method_2_code 87 = .ok (.ishl, 1) := by decide +kernel
theorem d5_88 : decode prog_5_method_2_code 88 = .ok (.ior, 1) := by decide +kernel
theorem d5_89 : decode prog_5_method_2_code 89 = .ok (.aload_n 1, 1) := by decide +kernel
theorem d5_90 : decode prog_5_method_2_code 90 = .ok (.iload 7, 2) := by decide +kernel
theorem d5_92 : decode prog_5_method_2_code 92 = .ok (.iconst 2, 1) := by decide +kernel
theorem d5_93 : decode prog_5_method_2_code 93 = .ok (.iadd, 1) := by decide +kernel
theorem d5_94 : decode prog_5_method_2_code 94 = .ok (.baload, 1) := by decide +kernel
theorem d5_95 : decode prog_5_method_2_code 95 = .ok (.sipush 255, 3) := by decide +kernel
theorem d5_98 : decode prog_5_method_2_code 98 = .ok (.iand, 1) := by decide +kernel
theorem d5_99 : decode prog_5_method_2_code 99 = .ok (.ior, 1) := by decide +kernel
theorem d5_100 : decode prog_5_method_2_code 100 = .ok (.istore 8, 2) := by decide +kernel
theorem os5_100 {s0 : Slot} {z1 : Value} {s2 : Slot} {z3 : Value} {s4 : Slot} {s5 : Slot} {s6 : Slot} {z7 : Value} {s8 : Slot} {v : Int32} (h : One s8) : storeLocals #[s0, .val z1, s2, .val z3, s4, s5, s6, .val z7, s8] 8 (.int v) = some #[s0, .val z1, s2, .val z3, s4, s5, s6, .val z7, .val (.int v)] := by
  rcases h with rfl | ⟨w, rfl, hw⟩
  · rfl
  · cases w <;> first | rfl | (simp [Value.category] at hw)
set_option maxRecDepth 65536 in
set_option maxHeartbeats 40000000 in
theorem s5d {p : Program} {l : Launch} {e : Env} {R : Room} {s : State} {m : MethodId} {args : Array Value} {below : List Frame} {meth : Method} {c : Code} {T0 : State} {locs : List Loc} {cells slots : Nat} {Z : State} {h0 : Heap} (s0 : Slot) (o1 : Addr) (s2 : Slot) (s4 : Slot) (s5 : Slot) (s6 : Slot) (s8 : Slot) (f3 i x y z : Nat) (bs : List Nat)
    (X0 : Stand p l e R s m args below meth c T0 locs cells slots) (hx : p.tables.exec = Jvm.exec) (hZ : Z.Warmed39 s.vm) (hby : c.code = prog_5_method_2_code) (e0 : T0.heap = h0) (hs8 : One s8) (Abs : Av Z h0 o1 .byte b8 bs) (hbl : bs.length < 128) (hq0 : bs[i]? = some x) (hq1 : bs[i + 1]? = some y) (hq2 : bs[i + 2]? = some z) (hc61 : Int32.ofNat i < ((3 : Int32) * Int32.ofNat f3)) :
    ∀ target, Steps p.tables e below (T0.setTop (mkF m 102 #[s0, .val (.ref o1), s2, .val (.int (Int32.ofNat f3)), s4, s5, s6, .val (.int (Int32.ofNat i)), .val (.int (((((b8 x) &&& (255 : Int32)) <<< ((16 : Int32) &&& 31)) ||| (((b8 y) &&& (255 : Int32)) <<< ((8 : Int32) &&& 31))) ||| ((b8 z) &&& (255 : Int32))))] [])) target → Steps p.tables e below (T0.setTop (mkF m 56 #[s0, .val (.ref o1), s2, .val (.int (Int32.ofNat f3)), s4, s5, s6, .val (.int (Int32.ofNat i)), s8] [])) target := by
  intro target kt
  obtain ⟨cl_o1, Ar_o1, q_o1⟩ := Abs
  have hin67 := own_avi q_o1 (List.getElem?_eq_some_iff.mp hq0).1 (by omega)
  have hat67 := own_avn q_o1 hq0 (by omega)
  have hin80 : ¬ (Int32.ofNat i + (1 : Int32) < 0 ∨ cl_o1.slots.size ≤ (Int32.ofNat i + (1 : Int32)).toNatClampNeg) := by rw [own_suc i]; exact own_avi q_o1 (List.getElem?_eq_some_iff.mp hq1).1 (by omega)
  have hat80 : cl_o1.slots[(Int32.ofNat i + (1 : Int32)).toNatClampNeg]? = some (.int (b8 y)) := by rw [own_suc i]; exact own_avn q_o1 hq1 (by omega)
  have hin94 : ¬ (Int32.ofNat i + (2 : Int32) < 0 ∨ cl_o1.slots.size ≤ (Int32.ofNat i + (2 : Int32)).toNatClampNeg) := by rw [own_ad2 i]; exact own_avi q_o1 (List.getElem?_eq_some_iff.mp hq2).1 (by omega)
  have hat94 : cl_o1.slots[(Int32.ofNat i + (2 : Int32)).toNatClampNeg]? = some (.int (b8 z)) := by rw [own_ad2 i]; exact own_avn q_o1 hq2 (by omega)
  show Steps p.tables e below (T0.setTop (mkF m 56 #[s0, .val (.ref o1), s2, .val (.int (Int32.ofNat f3)), s4, s5, s6, .val (.int (Int32.ofNat i)), s8] [])) _
  refine XS.iload X0.here hx rfl (hb hby d5_56) rfl ?_
  refine XS.iconst X0.here hx rfl (hb hby d5_58) ?_
  refine XS.iloadN X0.here hx rfl (hb hby d5_59) rfl ?_
  refine XS.imul X0.here hx rfl (hb hby d5_60) rfl ?_
  refine XS.icmpNo X0.here hx rfl (hb hby d5_61) rfl (tlt hc61).2.1 ?_
  refine XS.aloadN X0.here hx rfl (hb hby d5_64) rfl rfl ?_
  refine XS.iload X0.here hx rfl (hb hby d5_65) rfl ?_
  show Steps p.tables e below (T0.setTop (mkF m 67 #[s0, .val (.ref o1), s2, .val (.int (Int32.ofNat f3)), s4, s5, s6, .val (.int (Int32.ofNat i)), s8] [(.int (Int32.ofNat i)), (.ref o1)])) _
  refine X0.baloadBytes hx (j := (Int32.ofNat i)) (v := (.int (b8 x))) (by rw [e0]; exact Ar_o1.1) (State.isArrayOf_alike hZ.alike Ar_o1.2.1) Ar_o1.2.2 hin67 hat67 (g := (mkF m 67 #[s0, .val (.ref o1), s2, .val (.int (Int32.ofNat f3)), s4, s5, s6, .val (.int (Int32.ofNat i)), s8] [(.int (Int32.ofNat i)), (.ref o1)])) rfl rfl (hb hby d5_67) _ ?_
  refine XS.sipush X0.here hx rfl (hb hby d5_68) ?_
  refine XS.iand X0.here hx rfl (hb hby d5_71) rfl ?_
  refine XS.bipush X0.here hx rfl (hb hby d5_72) ?_
  refine XS.ishl X0.here hx rfl (hb hby d5_74) rfl ?_
  refine XS.aloadN X0.here hx rfl (hb hby d5_75) rfl rfl ?_
  refine XS.iload X0.here hx rfl (hb hby d5_76) rfl ?_
  show Steps p.tables e below (T0.setTop (mkF m 78 #[s0, .val (.ref o1), s2, .val (.int (Int32.ofNat f3)), s4, s5, s6, .val (.int (Int32.ofNat i)), s8] [(.int (Int32.ofNat i)), (.ref o1), (.int (((b8 x) &&& (255 : Int32)) <<< ((16 : Int32) &&& 31)))])) _
  refine XS.iconst X0.here hx rfl (hb hby d5_78) ?_
  refine XS.iadd X0.here hx rfl (hb hby d5_79) rfl ?_
  show Steps p.tables e below (T0.setTop (mkF m 80 #[s0, .val (.ref o1), s2, .val (.int (Int32.ofNat f3)), s4, s5, s6, .val (.int (Int32.ofNat i)), s8] [(.int ((Int32.ofNat i) + (1 : Int32))), (.ref o1), (.int (((b8 x) &&& (255 : Int32)) <<< ((16 : Int32) &&& 31)))])) _
  refine X0.baloadBytes hx (j := ((Int32.ofNat i) + (1 : Int32))) (v := (.int (b8 y))) (by rw [e0]; exact Ar_o1.1) (State.isArrayOf_alike hZ.alike Ar_o1.2.1) Ar_o1.2.2 hin80 hat80 (g := (mkF m 80 #[s0, .val (.ref o1), s2, .val (.int (Int32.ofNat f3)), s4, s5, s6, .val (.int (Int32.ofNat i)), s8] [(.int ((Int32.ofNat i) + (1 : Int32))), (.ref o1), (.int (((b8 x) &&& (255 : Int32)) <<< ((16 : Int32) &&& 31)))])) rfl rfl (hb hby d5_80) _ ?_
  refine XS.sipush X0.here hx rfl (hb hby d5_81) ?_
  refine XS.iand X0.here hx rfl (hb hby d5_84) rfl ?_
  refine XS.bipush X0.here hx rfl (hb hby d5_85) ?_
  refine XS.ishl X0.here hx rfl (hb hby d5_87) rfl ?_
  refine XS.ior X0.here hx rfl (hb hby d5_88) rfl ?_
  refine XS.aloadN X0.here hx rfl (hb hby d5_89) rfl rfl ?_
  show Steps p.tables e below (T0.setTop (mkF m 90 #[s0, .val (.ref o1), s2, .val (.int (Int32.ofNat f3)), s4, s5, s6, .val (.int (Int32.ofNat i)), s8] [(.ref o1), (.int ((((b8 x) &&& (255 : Int32)) <<< ((16 : Int32) &&& 31)) ||| (((b8 y) &&& (255 : Int32)) <<< ((8 : Int32) &&& 31))))])) _
  refine XS.iload X0.here hx rfl (hb hby d5_90) rfl ?_
  refine XS.iconst X0.here hx rfl (hb hby d5_92) ?_
  refine XS.iadd X0.here hx rfl (hb hby d5_93) rfl ?_
  show Steps p.tables e below (T0.setTop (mkF m 94 #[s0, .val (.ref o1), s2, .val (.int (Int32.ofNat f3)), s4, s5, s6, .val (.int (Int32.ofNat i)), s8] [(.int ((Int32.ofNat i) + (2 : Int32))), (.ref o1), (.int ((((b8 x) &&& (255 : Int32)) <<< ((16 : Int32) &&& 31)) ||| (((b8 y) &&& (255 : Int32)) <<< ((8 : Int32) &&& 31))))])) _
  refine X0.baloadBytes hx (j := ((Int32.ofNat i) + (2 : Int32))) (v := (.int (b8 z))) (by rw [e0]; exact Ar_o1.1) (State.isArrayOf_alike hZ.alike Ar_o1.2.1) Ar_o1.2.2 hin94 hat94 (g := (mkF m 94 #[s0, .val (.ref o1), s2, .val (.int (Int32.ofNat f3)), s4, s5, s6, .val (.int (Int32.ofNat i)), s8] [(.int ((Int32.ofNat i) + (2 : Int32))), (.ref o1), (.int ((((b8 x) &&& (255 : Int32)) <<< ((16 : Int32) &&& 31)) ||| (((b8 y) &&& (255 : Int32)) <<< ((8 : Int32) &&& 31))))])) rfl rfl (hb hby d5_94) _ ?_
  refine XS.sipush X0.here hx rfl (hb hby d5_95) ?_
  refine XS.iand X0.here hx rfl (hb hby d5_98) rfl ?_
  refine XS.ior X0.here hx rfl (hb hby d5_99) rfl ?_
  refine XS.istore X0.here hx rfl (hb hby d5_100) rfl (l' := #[s0, .val (.ref o1), s2, .val (.int (Int32.ofNat f3)), s4, s5, s6, .val (.int (Int32.ofNat i)), .val (.int (((((b8 x) &&& (255 : Int32)) <<< ((16 : Int32) &&& 31)) ||| (((b8 y) &&& (255 : Int32)) <<< ((8 : Int32) &&& 31))) ||| ((b8 z) &&& (255 : Int32))))]) (os5_100 hs8) ?_
  exact kt
set_option maxRecDepth 65536 in
set_option maxHeartbeats 40000000 in
theorem s5x {p : Program} {l : Launch} {e : Env} {R : Room} {s : State} {m : MethodId} {args : Array Value} {below : List Frame} {meth : Method} {c : Code} {T0 : State} {locs : List Loc} {cells slots : Nat} {Z : State} {h0 : Heap} (s0 : Slot) (s1 : Slot) (s2 : Slot) (i3 : Int32) (s4 : Slot) (s5 : Slot) (s6 : Slot) (i7 : Int32) (s8 : Slot) 
    (X0 : Stand p l e R s m args below meth c T0 locs cells slots) (hx : p.tables.exec = Jvm.exec) (hZ : Z.Warmed39 s.vm) (hby : c.code = prog_5_method_2_code) (e0 : T0.heap = h0) (hc61 : ¬ (i7 < ((3 : Int32) * i3)))  :
    ∀ target, Steps p.tables e below (T0.setTop (mkF m 179 #[s0, s1, s2, .val (.int i3), s4, s5, s6, .val (.int i7), s8] [])) target → Steps p.tables e below (T0.setTop (mkF m 56 #[s0, s1, s2, .val (.int i3), s4, s5, s6, .val (.int i7), s8] [])) target := by
  intro target kt
  show Steps p.tables e below (T0.setTop (mkF m 56 #[s0, s1, s2, .val (.int i3), s4, s5, s6, .val (.int i7), s8] [])) _
  refine XS.iload X0.here hx rfl (hb hby d5_56) rfl ?_
  refine XS.iconst X0.here hx rfl (hb hby d5_58) ?_
  refine XS.iloadN X0.here hx rfl (hb hby d5_59) rfl ?_
  refine XS.imul X0.here hx rfl (hb hby d5_60) rfl ?_
  refine XS.icmpYes X0.here hx rfl (pc0 := 61) (pc' := 179) rfl (hb hby d5_61) rfl (flt hc61).2.1 (by decide) (by decide) ?_
  exact kt
theorem d5_179 : decode prog_5_method_2_code 179 = .ok (.iload 4, 2) := by decide +kernel
theorem d5_181 : decode prog_5_method_2_code 181 = .ok (.ifCond .le 117, 3) := by decide +kernel
set_option maxRecDepth 65536 in
set_option maxHeartbeats 40000000 in
theorem s5r0 {p : Program} {l : Launch} {e : Env} {R : Room} {s : State} {m : MethodId} {args : Array Value} {below : List Frame} {meth : Method} {c : Code} {T0 : State} {locs : List Loc} {cells slots : Nat} {Z : State} {h0 : Heap} (s0 : Slot) (s1 : Slot) (s2 : Slot) (s3 : Slot) (i4 : Int32) (s5 : Slot) (s6 : Slot) (s7 : Slot) (s8 : Slot) 
    (X0 : Stand p l e R s m args below meth c T0 locs cells slots) (hx : p.tables.exec = Jvm.exec) (hZ : Z.Warmed39 s.vm) (hby : c.code = prog_5_method_2_code) (e0 : T0.heap = h0) (hc181 : ¬ ((0 : Int32) < i4))  :
    ∀ target, Steps p.tables e below (T0.setTop (mkF m 298 #[s0, s1, s2, s3, .val (.int i4), s5, s6, s7, s8] [])) target → Steps p.tables e below (T0.setTop (mkF m 179 #[s0, s1, s2, s3, .val (.int i4), s5, s6, s7, s8] [])) target := by
  intro target kt
  show Steps p.tables e below (T0.setTop (mkF m 179 #[s0, s1, s2, s3, .val (.int i4), s5, s6, s7, s8] [])) _
  refine XS.iload X0.here hx rfl (hb hby d5_179) rfl ?_
  refine XS.ifYes X0.here hx rfl (pc0 := 181) (pc' := 298) rfl (hb hby d5_181) rfl ((if0 _ _).trans (flt hc181).2.2.2) (by decide) (by decide) ?_
  exact kt
theorem d5_184 : decode prog_5_method_2_code 184 = .ok (.aload_n 1, 1) := by decide +kernel
theorem d5_185 : decode prog_5_method_2_code 185 = .ok (.iconst 3, 1) := by decide +kernel
theorem d5_186 : decode prog_5_method_2_code 186 = .ok (.iload_n 3, 1) := by decide +kernel
theorem d5_187 : decode prog_5_method_2_code 187 = .ok (.imul, 1) := by decide +kernel
theorem d5_188 : decode prog_5_method_2_code 188 = .ok (.baload, 1) := by decide +kernel
theorem d5_189 : decode prog_5_method_2_code 189 = .ok (.sipush 255, 3) := by decide +kernel
theorem d5_192 : decode prog_5_method_2_code 192 = .ok (.iand, 1) := by decide +kernel
theorem d5_193 : decode prog_5_method_2_code 193 = .ok (.bipush 16, 2) := by decide +kernel
theorem d5_195 : decode prog_5_method_2_code 195 = .ok (.ishl, 1) := by decide +kernel
theorem d5_196 : decode prog_5_method_2_code 196 = .ok (.iload 4, 2) := by decide +kernel
theorem d5_198 : decode prog_5_method_2_code 198 = .ok (.iconst 1, 1) := by decide +kernel
theorem d5_199 : decode prog_5_method_2_code 199 = .ok (.if_icmp .le 20, 3) := by decide +kernel
theorem d5_219 : decode prog_5_method_2_code 219 = .ok (.iconst 0, 1) := by decide +kernel
theorem d5_220 : decode prog_5_method_2_code 220 = .ok (.ior, 1) := by decide +kernel
theorem d5_221 : decode prog_5_method_2_code 221 = .ok (.istore 7, 2) := by decide +kernel
theorem os5_221 {s0 : Slot} {z1 : Value} {s2 : Slot} {z3 : Value} {z4 : Value} {s5 : Slot} {s6 : Slot} {s7 : Slot} {s8 : Slot} {v : Int32} (h : One s7) : storeLocals #[s0, .val z1, s2, .val z3, .val z4, s5, s6, s7, s8] 7 (.int v) = some #[s0, .val z1, s2, .val z3, .val z4, s5, s6, .val (.int v), s8] := by
  rcases h with rfl | ⟨w, rfl, hw⟩
  · rfl
  · cases w <;> first | rfl | (simp [Value.category] at hw)
set_option maxRecDepth 65536 in
set_option maxHeartbeats 40000000 in
theorem s5r1 {p : Program} {l : Launch} {e : Env} {R : Room} {s : State} {m : MethodId} {args : Array Value} {below : List Frame} {meth : Method} {c : Code} {T0 : State} {locs : List Loc} {cells slots : Nat} {Z : State} {h0 : Heap} (s0 : Slot) (o1 : Addr) (s2 : Slot) (s5 : Slot) (s6 : Slot) (s7 : Slot) (s8 : Slot) (f3 x : Nat) (bs : List Nat)
    (X0 : Stand p l e R s m args below meth c T0 locs cells slots) (hx : p.tables.exec = Jvm.exec) (hZ : Z.Warmed39 s.vm) (hby : c.code = prog_5_method_2_code) (e0 : T0.heap = h0) (hs7 : One s7) (Abs : Av Z h0 o1 .byte b8 bs) (hbl : bs.length < 128) (hf3 : f3 < 8) (hq0 : bs[3 * f3]? = some x) :
    ∀ target, Steps p.tables e below (T0.setTop (mkF m 223 #[s0, .val (.ref o1), s2, .val (.int (Int32.ofNat f3)), .val (.int (1 : Int32)), s5, s6, .val (.int ((((b8 x) &&& (255 : Int32)) <<< ((16 : Int32) &&& 31)) ||| (0 : Int32))), s8] [])) target → Steps p.tables e below (T0.setTop (mkF m 179 #[s0, .val (.ref o1), s2, .val (.int (Int32.ofNat f3)), .val (.int (1 : Int32)), s5, s6, s7, s8] [])) target := by
  intro target kt
  obtain ⟨cl_o1, Ar_o1, q_o1⟩ := Abs
  have hin188 : ¬ ((3 : Int32) * Int32.ofNat f3 < 0 ∨ cl_o1.slots.size ≤ ((3 : Int32) * Int32.ofNat f3).toNatClampNeg) := by rw [own_m3 f3 hf3]; exact own_avi q_o1 (List.getElem?_eq_some_iff.mp hq0).1 (by omega)
  have hat188 : cl_o1.slots[((3 : Int32) * Int32.ofNat f3).toNatClampNeg]? = some (.int (b8 x)) := by rw [own_m3 f3 hf3]; exact own_avn q_o1 hq0 (by omega)
  show Steps p.tables e below (T0.setTop (mkF m 179 #[s0, .val (.ref o1), s2, .val (.int (Int32.ofNat f3)), .val (.int (1 : Int32)), s5, s6, s7, s8] [])) _
  refine XS.iload X0.here hx rfl (hb hby d5_179) rfl ?_
  refine XS.ifNo X0.here hx rfl (hb hby d5_181) rfl ((if0 _ _).trans (tlt (by decide : (0 : Int32) < 1)).2.2.2) ?_
  refine XS.aloadN X0.here hx rfl (hb hby d5_184) rfl rfl ?_
  refine XS.iconst X0.here hx rfl (hb hby d5_185) ?_
  refine XS.iloadN X0.here hx rfl (hb hby d5_186) rfl ?_
  refine XS.imul X0.here hx rfl (hb hby d5_187) rfl ?_
  show Steps p.tables e below (T0.setTop (mkF m 188 #[s0, .val (.ref o1), s2, .val (.int (Int32.ofNat f3)), .val (.int (1 : Int32)), s5, s6, s7, s8] [(.int ((3 : Int32) * (Int32.ofNat f3))), (.ref o1)])) _
  refine X0.baloadBytes hx (j := ((3 : Int32) * (Int32.ofNat f3))) (v := (.int (b8 x))) (by rw [e0]; exact Ar_o1.1) (State.isArrayOf_alike hZ.alike Ar_o1.2.1) Ar_o1.2.2 hin188 hat188 (g := (mkF m 188 #[s0, .val (.ref o1), s2, .val (.int (Int32.ofNat f3)), .val (.int (1 : Int32)), s5, s6, s7, s8] [(.int ((3 : Int32) * (Int32.ofNat f3))), (.ref o1)])) rfl rfl (hb hby d5_188) _ ?_
  refine XS.sipush X0.here hx rfl (hb hby d5_189) ?_
  refine XS.iand X0.here hx rfl (hb hby d5_192) rfl ?_
  refine XS.bipush X0.here hx rfl (hb hby d5_193) ?_
  refine XS.ishl X0.here hx rfl (hb hby d5_195) rfl ?_
  refine XS.iload X0.here hx rfl (hb hby d5_196) rfl ?_
  refine XS.iconst X0.here hx rfl (hb hby d5_198) ?_
  show Steps p.tables e below (T0.setTop (mkF m 199 #[s0, .val (.ref o1), s2, .val (.int (Int32.ofNat f3)), .val (.int (1 : Int32)), s5, s6, s7, s8] [(.int (1 : Int32)), (.int (1 : Int32)), (.int (((b8 x) &&& (255 : Int32)) <<< ((16 : Int32) &&& 31)))])) _
  refine XS.icmpYes X0.here hx rfl (pc0 := 199) (pc' := 219) rfl (hb hby d5_199) rfl (flt (by decide : ¬ ((1 : Int32) < 1))).2.2.2 (by decide) (by decide) ?_
  refine XS.iconst X0.here hx rfl (hb hby d5_219) ?_
  refine XS.ior X0.here hx rfl (hb hby d5_220) rfl ?_
  refine XS.istore X0.here hx rfl (hb hby d5_221) rfl (l' := #[s0, .val (.ref o1), s2, .val (.int (Int32.ofNat f3)), .val (.int (1 : Int32)), s5, s6, .val (.int ((((b8 x) &&& (255 : Int32)) <<< ((16 : Int32) &&& 31)) ||| (0 : Int32))), s8]) (os5_221 hs7) ?_
  exact kt
theorem d5_202 : decode prog_5_method_2_code 202 = .ok (.aload_n 1, 1) := by decide +kernel
theorem d5_203 : decode prog_5_method_2_code 203 = .ok (.iconst 3, 1) := by decide +kernel
theorem d5_204 : decode prog_5_method_2_code 204 = .ok (.iload_n 3, 1) := by decide +kernel
theorem d5_205 : decode prog_5_method_2_code 205 = .ok (.imul, 1) := by decide +kernel
theorem d5_206 : decode prog_5_method_2_code 206 = .ok (.iconst 1, 1) := by decide +kernel
theorem d5_207 : decode prog_5_method_2_code 207 = .ok (.iadd, 1) := by decide +kernel
theorem d5_208 : decode prog_5_method_2_code 208 = .ok (.baload, 1) := by decide +kernel
theorem d5_209 : decode prog_5_method_2_code 209 = .ok (.sipush 255, 3) := by decide +kernel
theorem d5_212 : decode prog_5_method_2_code 212 = .ok (.iand, 1) := by decide +kernel
theorem d5_213 : decode prog_5_method_2_code 213 = .ok (.bipush 8, 2) := by decide +kernel
theorem d5_215 : decode prog_5_method_2_code 215 = .ok (.ishl, 1) := by decide +kernel
theorem d5_216 : decode prog_5_method_2_code 216 = .ok (.goto 4, 3) := by decide +kernel
set_option maxRecDepth 65536 in
set_option maxHeartbeats 40000000 in
theorem s5r2 {p : Program} {l : Launch} {e : Env} {R : Room} {s : State} {m : MethodId} {args : Array Value} {below : List Frame} {meth : Method} {c : Code} {T0 : State} {locs : List Loc} {cells slots : Nat} {Z : State} {h0 : Heap} (s0 : Slot) (o1 : Addr) (s2 : Slot) (s5 : Slot) (s6 : Slot) (s7 : Slot) (s8 : Slot) (f3 x y : Nat) (bs : List Nat)
    (X0 : Stand p l e R s m args below meth c T0 locs cells slots) (hx : p.tables.exec = Jvm.exec) (hZ : Z.Warmed39 s.vm) (hby : c.code = prog_5_method_2_code) (e0 : T0.heap = h0) (hs7 : One s7) (Abs : Av Z h0 o1 .byte b8 bs) (hbl : bs.length < 128) (hf3 : f3 < 8) (hq0 : bs[3 * f3]? = some x) (hq1 : bs[3 * f3 + 1]? = some y) :
    ∀ target, Steps p.tables e below (T0.setTop (mkF m 223 #[s0, .val (.ref o1), s2, .val (.int (Int32.ofNat f3)), .val (.int (2 : Int32)), s5, s6, .val (.int ((((b8 x) &&& (255 : Int32)) <<< ((16 : Int32) &&& 31)) ||| (((b8 y) &&& (255 : Int32)) <<< ((8 : Int32) &&& 31)))), s8] [])) target → Steps p.tables e below (T0.setTop (mkF m 179 #[s0, .val (.ref o1), s2, .val (.int (Int32.ofNat f3)), .val (.int (2 : Int32)), s5, s6, s7, s8] [])) target := by
  intro target kt
  obtain ⟨cl_o1, Ar_o1, q_o1⟩ := Abs
  have hin188 : ¬ ((3 : Int32) * Int32.ofNat f3 < 0 ∨ cl_o1.slots.size ≤ ((3 : Int32) * Int32.ofNat f3).toNatClampNeg) := by rw [own_m3 f3 hf3]; exact own_avi q_o1 (List.getElem?_eq_some_iff.mp hq0).1 (by omega)
  have hat188 : cl_o1.slots[((3 : Int32) * Int32.ofNat f3).toNatClampNeg]? = some (.int (b8 x)) := by rw [own_m3 f3 hf3]; exact own_avn q_o1 hq0 (by omega)
  have hin208 : ¬ (((3 : Int32) * Int32.ofNat f3) + (1 : Int32) < 0 ∨ cl_o1.slots.size ≤ (((3 : Int32) * Int32.ofNat f3) + (1 : Int32)).toNatClampNeg) := by rw [own_m3 f3 hf3, own_suc]; exact own_avi q_o1 (List.getElem?_eq_some_iff.mp hq1).1 (by omega)
  have hat208 : cl_o1.slots[(((3 : Int32) * Int32.ofNat f3) + (1 : Int32)).toNatClampNeg]? = some (.int (b8 y)) := by rw [own_m3 f3 hf3, own_suc]; exact own_avn q_o1 hq1 (by omega)
  show Steps p.tables e below (T0.setTop (mkF m 179 #[s0, .val (.ref o1), s2, .val (.int (Int32.ofNat f3)), .val (.int (2 : Int32)), s5, s6, s7, s8] [])) _
  refine XS.iload X0.here hx rfl (hb hby d5_179) rfl ?_
  refine XS.ifNo X0.here hx rfl (hb hby d5_181) rfl ((if0 _ _).trans (tlt (by decide : (0 : Int32) < 2)).2.2.2) ?_
  refine XS.aloadN X0.here hx rfl (hb hby d5_184) rfl rfl ?_
  refine XS.iconst X0.here hx rfl (hb hby d5_185) ?_
  refine XS.iloadN X0.here hx rfl (hb hby d5_186) rfl ?_
  refine XS.imul X0.here hx rfl (hb hby d5_187) rfl ?_
  show Steps p.tables e below (T0.setTop (mkF m 188 #[s0, .val (.ref o1), s2, .val (.int (Int32.ofNat f3)), .val (.int (2 : Int32)), s5, s6, s7, s8] [(.int ((3 : Int32) * (Int32.ofNat f3))), (.ref o1)])) _
  refine X0.baloadBytes hx (j := ((3 : Int32) * (Int32.ofNat f3))) (v := (.int (b8 x))) (by rw [e0]; exact Ar_o1.1) (State.isArrayOf_alike hZ.alike Ar_o1.2.1) Ar_o1.2.2 hin188 hat188 (g := (mkF m 188 #[s0, .val (.ref o1), s2, .val (.int (Int32.ofNat f3)), .val (.int (2 : Int32)), s5, s6, s7, s8] [(.int ((3 : Int32) * (Int32.ofNat f3))), (.ref o1)])) rfl rfl (hb hby d5_188) _ ?_
  refine XS.sipush X0.here hx rfl (hb hby d5_189) ?_
  refine XS.iand X0.here hx rfl (hb hby d5_192) rfl ?_
  refine XS.bipush X0.here hx rfl (hb hby d5_193) ?_
  refine XS.ishl X0.here hx rfl (hb hby d5_195) rfl ?_
  refine XS.iload X0.here hx rfl (hb hby d5_196) rfl ?_
  refine XS.iconst X0.here hx rfl (hb hby d5_198) ?_
  show Steps p.tables e below (T0.setTop (mkF m 199 #[s0, .val (.ref o1), s2, .val (.int (Int32.ofNat f3)), .val (.int (2 : Int32)), s5, s6, s7, s8] [(.int (1 : Int32)), (.int (2 : Int32)), (.int (((b8 x) &&& (255 : Int32)) <<< ((16 : Int32) &&& 31)))])) _
  refine XS.icmpNo X0.here hx rfl (hb hby d5_199) rfl (tlt (by decide : (1 : Int32) < 2)).2.2.2 ?_
  refine XS.aloadN X0.here hx rfl (hb hby d5_202) rfl rfl ?_
  refine XS.iconst X0.here hx rfl (hb hby d5_203) ?_
  refine XS.iloadN X0.here hx rfl (hb hby d5_204) rfl ?_
  refine XS.imul X0.here hx rfl (hb hby d5_205) rfl ?_
  refine XS.iconst X0.here hx rfl (hb hby d5_206) ?_
  refine XS.iadd X0.here hx rfl (hb hby d5_207) rfl ?_
  show Steps p.tables e below (T0.setTop (mkF m 208 #[s0, .val (.ref o1), s2, .val (.int (Int32.ofNat f3)), .val (.int (2 : Int32)), s5, s6, s7, s8] [(.int (((3 : Int32) * (Int32.ofNat f3)) + (1 : Int32))), (.ref o1), (.int (((b8 x) &&& (255 : Int32)) <<< ((16 : Int32) &&& 31)))])) _
  refine X0.baloadBytes hx (j := (((3 : Int32) * (Int32.ofNat f3)) + (1 : Int32))) (v := (.int (b8 y))) (by rw [e0]; exact Ar_o1.1) (State.isArrayOf_alike hZ.alike Ar_o1.2.1) Ar_o1.2.2 hin208 hat208 (g := (mkF m 208 #[s0, .val (.ref o1), s2, .val (.int (Int32.ofNat f3)), .val (.int (2 : Int32)), s5, s6, s7, s8] [(.int (((3 : Int32) * (Int32.ofNat f3)) + (1 : Int32))), (.ref o1), (.int (((b8 x) &&& (255 : Int32)) <<< ((16 : Int32) &&& 31)))])) rfl rfl (hb hby d5_208) _ ?_
  refine XS.sipush X0.here hx rfl (hb hby d5_209) ?_
  refine XS.iand X0.here hx rfl (hb hby d5_212) rfl ?_
  refine XS.bipush X0.here hx rfl (hb hby d5_213) ?_
  refine XS.ishl X0.here hx rfl (hb hby d5_215) rfl ?_
  refine XS.goto X0.here hx rfl (pc0 := 216) (pc' := 220) rfl (hb hby d5_216) (by decide) (by decide) ?_
  refine XS.ior X0.here hx rfl (hb hby d5_220) rfl ?_
  show Steps p.tables e below (T0.setTop (mkF m 221 #[s0, .val (.ref o1), s2, .val (.int (Int32.ofNat f3)), .val (.int (2 : Int32)), s5, s6, s7, s8] [(.int ((((b8 x) &&& (255 : Int32)) <<< ((16 : Int32) &&& 31)) ||| (((b8 y) &&& (255 : Int32)) <<< ((8 : Int32) &&& 31))))])) _
  refine XS.istore X0.here hx rfl (hb hby d5_221) rfl (l' := #[s0, .val (.ref o1), s2, .val (.int (Int32.ofNat f3)), .val (.int (2 : Int32)), s5, s6, .val (.int ((((b8 x) &&& (255 : Int32)) <<< ((16 : Int32) &&& 31)) ||| (((b8 y) &&& (255 : Int32)) <<< ((8 : Int32) &&& 31)))), s8]) (os5_221 hs7) ?_
  exact kt
theorem d5_102 : decode prog_5_method_2_code 102 = .ok (.aload 5, 2) := by decide +kernel
theorem d5_104 : decode prog_5_method_2_code 104 = .ok (.iload 6, 2) := by decide +kernel
theorem d5_106 : decode prog_5_method_2_code 106 = .ok (.getstatic 17, 3) := by decide +kernel
theorem d5_109 : decode prog_5_method_2_code 109 = .ok (.iload 8, 2) := by decide +kernel
theorem d5_111 : decode prog_5_method_2_code 111 = .ok (.bipush 18, 2) := by decide +kernel
theorem d5_113 : decode prog_5_method_2_code 113 = .ok (.ishr, 1) := by decide +kernel
theorem d5_114 : decode prog_5_method_2_code 114 = .ok (.caload, 1) := by decide +kernel
theorem d5_115 : decode prog_5_method_2_code 115 = .ok (.castore, 1) := by decide +kernel
theorem d5_116 : decode prog_5_method_2_code 116 = .ok (.aload 5, 2) := by decide +kernel
theorem d5_118 : decode prog_5_method_2_code 118 = .ok (.iload 6, 2) := by decide +kernel
theorem d5_120 : decode prog_5_method_2_code 120 = .ok (.iconst 1, 1) := by decide +kernel
theorem d5_121 : decode prog_5_method_2_code 121 = .ok (.iadd, 1) := by decide +kernel
theorem d5_122 : decode prog_5_method_2_code 122 = .ok (.getstatic 17, 3) := by decide +kernel
theorem d5_125 : decode prog_5_method_2_code 125 = .ok (.iload 8, 2) := by decide +kernel
theorem d5_127 : decode prog_5_method_2_code 127 = .ok (.bipush 12, 2) := by decide +kernel
theorem d5_129 : decode prog_5_method_2_code 129 = .ok (.ishr, 1) := by decide +kernel
theorem d5_130 : decode prog_5_method_2_code 130 = .ok (.bipush 63, 2) := by decide +kernel
theorem d5_132 : decode prog_5_method_2_code 132 = .ok (.iand, 1) := by decide +kernel
theorem d5_133 : decode prog_5_method_2_code 133 = .ok (.caload, 1) := by decide +kernel
theorem d5_134 : decode prog_5_method_2_code 134 = .ok (.castore, 1) := by decide +kernel
theorem d5_135 : decode prog_5_method_2_code 135 = .ok (.aload 5, 2) := by decide +kernel
theorem d5_137 : decode prog_5_method_2_code 137 = .ok (.iload 6, 2) := by decide +kernel
theorem d5_139 : decode prog_5_method_2_code 139 = .ok (.iconst 2, 1) := by decide +kernel
theorem d5_140 : decode prog_5_method_2_code 140 = .ok (.iadd, 1) := by decide +kernel
theorem d5_141 : decode prog_5_method_2_code 141 = .ok (.getstatic 17, 3) := by decide +kernel
theorem d5_144 : decode prog_5_method_2_code 144 = .ok (.iload 8, 2) := by decide +kernel
theorem d5_146 : decode prog_5_method_2_code 146 = .ok (.bipush 6, 2) := by decide +kernel
theorem d5_148 : decode prog_5_method_2_code 148 = .ok (.ishr, 1) := by decide +kernel
theorem d5_149 : decode prog_5_method_2_code 149 = .ok (.bipush 63, 2) := by decide +kernel
theorem d5_151 : decode prog_5_method_2_code 151 = .ok (.iand, 1) := by decide +kernel
theorem d5_152 : decode prog_5_method_2_code 152 = .ok (.caload, 1) := by decide +kernel
theorem d5_153 : decode prog_5_method_2_code 153 = .ok (.castore, 1) := by decide +kernel
theorem d5_154 : decode prog_5_method_2_code 154 = .ok (.aload 5, 2) := by decide +kernel
theorem d5_156 : decode prog_5_method_2_code 156 = .ok (.iload 6, 2) := by decide +kernel
theorem d5_158 : decode prog_5_method_2_code 158 = .ok (.iconst 3, 1) := by decide +kernel
theorem d5_159 : decode prog_5_method_2_code 159 = .ok (.iadd, 1) := by decide +kernel
theorem d5_160 : decode prog_5_method_2_code 160 = .ok (.getstatic 17, 3) := by decide +kernel
theorem d5_163 : decode prog_5_method_2_code 163 = .ok (.iload 8, 2) := by decide +kernel
theorem d5_165 : decode prog_5_method_2_code 165 = .ok (.bipush 63, 2) := by decide +kernel
theorem d5_167 : decode prog_5_method_2_code 167 = .ok (.iand, 1) := by decide +kernel
theorem d5_168 : decode prog_5_method_2_code 168 = .ok (.caload, 1) := by decide +kernel
theorem d5_169 : decode prog_5_method_2_code 169 = .ok (.castore, 1) := by decide +kernel
theorem d5_170 : decode prog_5_method_2_code 170 = .ok (.iinc 6 4, 3) := by decide +kernel
theorem d5_173 : decode prog_5_method_2_code 173 = .ok (.iinc 7 3, 3) := by decide +kernel
theorem d5_176 : decode prog_5_method_2_code 176 = .ok (.goto (-120), 3) := by decide +kernel
set_option maxRecDepth 65536 in
set_option maxHeartbeats 40000000 in
theorem t5e {p : Program} {l : Launch} {e : Env} {R : Room} {s : State} {m : MethodId} {args : Array Value} {below : List Frame} {meth : Method} {c : Code} {T0 : State} {locs : List Loc} {cells slots : Nat} {Z : State} {a0 : Array Value} {h0 : Heap} (s0 : Slot) (s1 : Slot) (s2 : Slot) (s3 : Slot) (s4 : Slot) (o5 : Addr) (i7 : Int32) (q v : Nat) (w : Addr) (ds : List Nat) (n0 : Nat)
    (X0 : Stand p l e R s m args below meth c T0 locs cells slots) (hx : p.tables.exec = Jvm.exec) (hZ : Z.Warmed39 s.vm) (hw : ∀ d ∈ tables_1, d.before a0 Z = true) (hby : c.code = prog_5_method_2_code) (hml : c.maxLocals = 9) (hown : s.vm.findClass "com/example/gumzo/gumzo/core/TaggedBase64" = some m.cls) (e0 : T0.heap = h0) (N0 : Fr n0 locs) (Z0 : n0 ≤ h0.size) (Sw : Sta Z h0 "com/example/gumzo/gumzo/core/TaggedBase64" "ALPHABET" "[C" (.ref w)) (Aw : Av Z h0 w .char Int32.ofNat ALs) (hwo : w ≠ o5) (A5 : Av Z h0 o5 .char Int32.ofNat ds) (hd : ds.length < 128) (hp : q + 3 < ds.length) (g_o5 : n0 ≤ o5) (hv : v < 16777216)  :
    ∃ (T' : State) (h' : Heap) (L' : List Loc), Stand p l e R s m args below meth c T' L' cells slots ∧ T'.heap = h' ∧ Fr n0 L' ∧ Keep h0 h' [o5] ∧ Av Z h' o5 .char Int32.ofNat (((((ds.set (q + 0) (al (v / 262144))).set (q + 1) (al (v / 4096 % 64))).set (q + 2) (al (v / 64 % 64))).set (q + 3) (al (v % 64)))) ∧
      ∀ target, Steps p.tables e below (T'.setTop (mkF m 56 #[s0, s1, s2, s3, s4, .val (.ref o5), .val (.int ((Int32.ofNat q) + (4 : Int32))), .val (.int (i7 + (3 : Int32))), .val (.int (Int32.ofNat v))] [])) target → Steps p.tables e below (T0.setTop (mkF m 102 #[s0, s1, s2, s3, s4, .val (.ref o5), .val (.int (Int32.ofNat q)), .val (.int i7), .val (.int (Int32.ofNat v))] [])) target := by
  obtain ⟨cl_w, Ar_w, q_w⟩ := Aw
  obtain ⟨T5, X5, e5, st5⟩ := getS2 X0 hx hZ hown (host := "") (Or.inl (hw _ (List.mem_of_getElem? (i := 90) rfl))) Via.refl e0 Sw (g := (mkF m 106 #[s0, s1, s2, s3, s4, .val (.ref o5), .val (.int (Int32.ofNat q)), .val (.int i7), .val (.int (Int32.ofNat v))] [(.int (Int32.ofNat q)), (.ref o5)])) rfl (hb hby d5_106)
  have hin114 : ¬ (Int32.ofNat v >>> ((18 : Int32) &&& 31) < 0 ∨ cl_w.slots.size ≤ (Int32.ofNat v >>> ((18 : Int32) &&& 31)).toNatClampNeg) := by rw [own_r18 v (by omega)]; exact own_avi q_w (by rw [own_all]; omega) (by rw [own_all]; decide)
  have hat114 : cl_w.slots[(Int32.ofNat v >>> ((18 : Int32) &&& 31)).toNatClampNeg]? = some (.int (Int32.ofNat (al (v / 262144)))) := by rw [own_r18 v (by omega)]; exact own_avn q_w (own_als _ (by omega)) (by rw [own_all]; decide)
  obtain ⟨T7, h7, L7, X7, e7, N7, K7, A7, st7⟩ := stCv X5 hx hZ e5 N0 g_o5 A5 (by omega) (q + 0) (by omega) (al (v / 262144)) (Nat.lt_trans (own_al _ (by omega)) (by decide)) rfl rfl (g := (mkF m 115 #[s0, s1, s2, s3, s4, .val (.ref o5), .val (.int (Int32.ofNat q)), .val (.int i7), .val (.int (Int32.ofNat v))] [(.int (Int32.ofNat (al (v / 262144)))), (.int (Int32.ofNat q)), (.ref o5)])) rfl rfl (hb hby d5_115)
  have Sw7 := own_stk K7 A5.nost Sw
  have Ar7 : Arr Z h7 w cl_w .char := ⟨K7.2.1 w cl_w Ar_w.1 (by simpa using hwo), Ar_w.2⟩
  obtain ⟨T8, X8, e8, st8⟩ := getS2 X7 hx hZ hown (host := "") (Or.inl (hw _ (List.mem_of_getElem? (i := 90) rfl))) Via.refl e7 Sw7 (g := (mkF m 122 #[s0, s1, s2, s3, s4, .val (.ref o5), .val (.int (Int32.ofNat q)), .val (.int i7), .val (.int (Int32.ofNat v))] [(.int ((Int32.ofNat q) + (1 : Int32))), (.ref o5)])) rfl (hb hby d5_122)
  have hin133 : ¬ ((Int32.ofNat v >>> ((12 : Int32) &&& 31)) &&& (63 : Int32) < 0 ∨ cl_w.slots.size ≤ ((Int32.ofNat v >>> ((12 : Int32) &&& 31)) &&& (63 : Int32)).toNatClampNeg) := by rw [own_r12 v (by omega), own_a63 _ (by omega)]; exact own_avi q_w (by rw [own_all]; omega) (by rw [own_all]; decide)
  have hat133 : cl_w.slots[((Int32.ofNat v >>> ((12 : Int32) &&& 31)) &&& (63 : Int32)).toNatClampNeg]? = some (.int (Int32.ofNat (al (v / 4096 % 64)))) := by rw [own_r12 v (by omega), own_a63 _ (by omega)]; exact own_avn q_w (own_als _ (by omega)) (by rw [own_all]; decide)
  obtain ⟨T10, h10, L10, X10, e10, N10, K10, A10, st10⟩ := stCv X8 hx hZ e8 N7 g_o5 A7 (by simp only [List.length_set]; omega) (q + 1) (by simp only [List.length_set]; omega) (al (v / 4096 % 64)) (Nat.lt_trans (own_al _ (by omega)) (by decide)) (own_suc q) rfl (g := (mkF m 134 #[s0, s1, s2, s3, s4, .val (.ref o5), .val (.int (Int32.ofNat q)), .val (.int i7), .val (.int (Int32.ofNat v))] [(.int (Int32.ofNat (al (v / 4096 % 64)))), (.int ((Int32.ofNat q) + (1 : Int32))), (.ref o5)])) rfl rfl (hb hby d5_134)
  have Sw10 := own_stk K10 A7.nost Sw7
  have Ar10 : Arr Z h10 w cl_w .char := ⟨K10.2.1 w cl_w Ar7.1 (by simpa using hwo), Ar7.2⟩
  obtain ⟨T11, X11, e11, st11⟩ := getS2 X10 hx hZ hown (host := "") (Or.inl (hw _ (List.mem_of_getElem? (i := 90) rfl))) Via.refl e10 Sw10 (g := (mkF m 141 #[s0, s1, s2, s3, s4, .val (.ref o5), .val (.int (Int32.ofNat q)), .val (.int i7), .val (.int (Int32.ofNat v))] [(.int ((Int32.ofNat q) + (2 : Int32))), (.ref o5)])) rfl (hb hby d5_141)
  have hin152 : ¬ ((Int32.ofNat v >>> ((6 : Int32) &&& 31)) &&& (63 : Int32) < 0 ∨ cl_w.slots.size ≤ ((Int32.ofNat v >>> ((6 : Int32) &&& 31)) &&& (63 : Int32)).toNatClampNeg) := by rw [own_r6 v (by omega), own_a63 _ (by omega)]; exact own_avi q_w (by rw [own_all]; omega) (by rw [own_all]; decide)
  have hat152 : cl_w.slots[((Int32.ofNat v >>> ((6 : Int32) &&& 31)) &&& (63 : Int32)).toNatClampNeg]? = some (.int (Int32.ofNat (al (v / 64 % 64)))) := by rw [own_r6 v (by omega), own_a63 _ (by omega)]; exact own_avn q_w (own_als _ (by omega)) (by rw [own_all]; decide)
  obtain ⟨T13, h13, L13, X13, e13, N13, K13, A13, st13⟩ := stCv X11 hx hZ e11 N10 g_o5 A10 (by simp only [List.length_set]; omega) (q + 2) (by simp only [List.length_set]; omega) (al (v / 64 % 64)) (Nat.lt_trans (own_al _ (by omega)) (by decide)) (own_ad2 q) rfl (g := (mkF m 153 #[s0, s1, s2, s3, s4, .val (.ref o5), .val (.int (Int32.ofNat q)), .val (.int i7), .val (.int (Int32.ofNat v))] [(.int (Int32.ofNat (al (v / 64 % 64)))), (.int ((Int32.ofNat q) + (2 : Int32))), (.ref o5)])) rfl rfl (hb hby d5_153)
  have Sw13 := own_stk K13 A10.nost Sw10
  have Ar13 : Arr Z h13 w cl_w .char := ⟨K13.2.1 w cl_w Ar10.1 (by simpa using hwo), Ar10.2⟩
  obtain ⟨T14, X14, e14, st14⟩ := getS2 X13 hx hZ hown (host := "") (Or.inl (hw _ (List.mem_of_getElem? (i := 90) rfl))) Via.refl e13 Sw13 (g := (mkF m 160 #[s0, s1, s2, s3, s4, .val (.ref o5), .val (.int (Int32.ofNat q)), .val (.int i7), .val (.int (Int32.ofNat v))] [(.int ((Int32.ofNat q) + (3 : Int32))), (.ref o5)])) rfl (hb hby d5_160)
  have hin168 : ¬ (Int32.ofNat v &&& (63 : Int32) < 0 ∨ cl_w.slots.size ≤ (Int32.ofNat v &&& (63 : Int32)).toNatClampNeg) := by rw [own_a63 v (by omega)]; exact own_avi q_w (by rw [own_all]; omega) (by rw [own_all]; decide)
  have hat168 : cl_w.slots[(Int32.ofNat v &&& (63 : Int32)).toNatClampNeg]? = some (.int (Int32.ofNat (al (v % 64)))) := by rw [own_a63 v (by omega)]; exact own_avn q_w (own_als _ (by omega)) (by rw [own_all]; decide)
  obtain ⟨T16, h16, L16, X16, e16, N16, K16, A16, st16⟩ := stCv X14 hx hZ e14 N13 g_o5 A13 (by simp only [List.length_set]; omega) (q + 3) (by simp only [List.length_set]; omega) (al (v % 64)) (Nat.lt_trans (own_al _ (by omega)) (by decide)) (own_ad3 q) rfl (g := (mkF m 169 #[s0, s1, s2, s3, s4, .val (.ref o5), .val (.int (Int32.ofNat q)), .val (.int i7), .val (.int (Int32.ofNat v))] [(.int (Int32.ofNat (al (v % 64)))), (.int ((Int32.ofNat q) + (3 : Int32))), (.ref o5)])) rfl rfl (hb hby d5_169)
  have Sw16 := own_stk K16 A13.nost Sw13
  have Ar16 : Arr Z h16 w cl_w .char := ⟨K16.2.1 w cl_w Ar13.1 (by simpa using hwo), Ar13.2⟩
  refine ⟨T16, _, _, X16, e16, N16, (own_kt (own_kt (own_kt K7 K10) K13) K16), A16, fun target kt => ?_⟩
  show Steps p.tables e below (T0.setTop (mkF m 102 #[s0, s1, s2, s3, s4, .val (.ref o5), .val (.int (Int32.ofNat q)), .val (.int i7), .val (.int (Int32.ofNat v))] [])) _
  refine XS.aload X0.here hx rfl (hb hby d5_102) rfl rfl ?_
  refine XS.iload X0.here hx rfl (hb hby d5_104) rfl ?_
  refine st5 _ ?_
  refine XS.iload X5.here hx rfl (hb hby d5_109) rfl ?_
  refine XS.bipush X5.here hx rfl (hb hby d5_111) ?_
  refine XS.ishr X5.here hx rfl (hb hby d5_113) rfl ?_
  show Steps p.tables e below (T5.setTop (mkF m 114 #[s0, s1, s2, s3, s4, .val (.ref o5), .val (.int (Int32.ofNat q)), .val (.int i7), .val (.int (Int32.ofNat v))] [(.int ((Int32.ofNat v) >>> ((18 : Int32) &&& 31))), (.ref w), (.int (Int32.ofNat q)), (.ref o5)])) _
  refine X5.caload hx (j := ((Int32.ofNat v) >>> ((18 : Int32) &&& 31))) (v := (.int (Int32.ofNat (al (v / 262144))))) (by rw [e5]; exact Ar_w.1) (State.isArrayOf_alike hZ.alike Ar_w.2.1) Ar_w.2.2 hin114 hat114 (g := (mkF m 114 #[s0, s1, s2, s3, s4, .val (.ref o5), .val (.int (Int32.ofNat q)), .val (.int i7), .val (.int (Int32.ofNat v))] [(.int ((Int32.ofNat v) >>> ((18 : Int32) &&& 31))), (.ref w), (.int (Int32.ofNat q)), (.ref o5)])) rfl rfl (hb hby d5_114) _ ?_
  refine st7 _ ?_
  refine XS.aload X7.here hx rfl (hb hby d5_116) rfl rfl ?_
  refine XS.iload X7.here hx rfl (hb hby d5_118) rfl ?_
  refine XS.iconst X7.here hx rfl (hb hby d5_120) ?_
  refine XS.iadd X7.here hx rfl (hb hby d5_121) rfl ?_
  refine st8 _ ?_
  show Steps p.tables e below (T8.setTop (mkF m 125 #[s0, s1, s2, s3, s4, .val (.ref o5), .val (.int (Int32.ofNat q)), .val (.int i7), .val (.int (Int32.ofNat v))] [(.ref w), (.int ((Int32.ofNat q) + (1 : Int32))), (.ref o5)])) _
  refine XS.iload X8.here hx rfl (hb hby d5_125) rfl ?_
  refine XS.bipush X8.here hx rfl (hb hby d5_127) ?_
  refine XS.ishr X8.here hx rfl (hb hby d5_129) rfl ?_
  refine XS.bipush X8.here hx rfl (hb hby d5_130) ?_
  refine XS.iand X8.here hx rfl (hb hby d5_132) rfl ?_
  show Steps p.tables e below (T8.setTop (mkF m 133 #[s0, s1, s2, s3, s4, .val (.ref o5), .val (.int (Int32.ofNat q)), .val (.int i7), .val (.int (Int32.ofNat v))] [(.int (((Int32.ofNat v) >>> ((12 : Int32) &&& 31)) &&& (63 : Int32))), (.ref w), (.int ((Int32.ofNat q) + (1 : Int32))), (.ref o5)])) _
  refine X8.caload hx (j := (((Int32.ofNat v) >>> ((12 : Int32) &&& 31)) &&& (63 : Int32))) (v := (.int (Int32.ofNat (al (v / 4096 % 64))))) (by rw [e8]; exact Ar7.1) (State.isArrayOf_alike hZ.alike Ar7.2.1) Ar7.2.2 hin133 hat133 (g := (mkF m 133 #[s0, s1, s2, s3, s4, .val (.ref o5), .val (.int (Int32.ofNat q)), .val (.int i7), .val (.int (Int32.ofNat v))] [(.int (((Int32.ofNat v) >>> ((12 : Int32) &&& 31)) &&& (63 : Int32))), (.ref w), (.int ((Int32.ofNat q) + (1 : Int32))), (.ref o5)])) rfl rfl (hb hby d5_133) _ ?_
  refine st10 _ ?_
  refine XS.aload X10.here hx rfl (hb hby d5_135) rfl rfl ?_
  refine XS.iload X10.here hx rfl (hb hby d5_137) rfl ?_
  refine XS.iconst X10.here hx rfl (hb hby d5_139) ?_
  refine XS.iadd X10.here hx rfl (hb hby d5_140) rfl ?_
  refine st11 _ ?_
  show Steps p.tables e below (T11.setTop (mkF m 144 #[s0, s1, s2, s3, s4, .val (.ref o5), .val (.int (Int32.ofNat q)), .val (.int i7), .val (.int (Int32.ofNat v))] [(.ref w), (.int ((Int32.ofNat q) + (2 : Int32))), (.ref o5)])) _
  refine XS.iload X11.here hx rfl (hb hby d5_144) rfl ?_
  refine XS.bipush X11.here hx rfl (hb hby d5_146) ?_
  refine XS.ishr X11.here hx rfl (hb hby d5_148) rfl ?_
  refine XS.bipush X11.here hx rfl (hb hby d5_149) ?_
  refine XS.iand X11.here hx rfl (hb hby d5_151) rfl ?_
  show Steps p.tables e below (T11.setTop (mkF m 152 #[s0, s1, s2, s3, s4, .val (.ref o5), .val (.int (Int32.ofNat q)), .val (.int i7), .val (.int (Int32.ofNat v))] [(.int (((Int32.ofNat v) >>> ((6 : Int32) &&& 31)) &&& (63 : Int32))), (.ref w), (.int ((Int32.ofNat q) + (2 : Int32))), (.ref o5)])) _
  refine X11.caload hx (j := (((Int32.ofNat v) >>> ((6 : Int32) &&& 31)) &&& (63 : Int32))) (v := (.int (Int32.ofNat (al (v / 64 % 64))))) (by rw [e11]; exact Ar10.1) (State.isArrayOf_alike hZ.alike Ar10.2.1) Ar10.2.2 hin152 hat152 (g := (mkF m 152 #[s0, s1, s2, s3, s4, .val (.ref o5), .val (.int (Int32.ofNat q)), .val (.int i7), .val (.int (Int32.ofNat v))] [(.int (((Int32.ofNat v) >>> ((6 : Int32) &&& 31)) &&& (63 : Int32))), (.ref w), (.int ((Int32.ofNat q) + (2 : Int32))), (.ref o5)])) rfl rfl (hb hby d5_152) _ ?_
  refine st13 _ ?_
  refine XS.aload X13.here hx rfl (hb hby d5_154) rfl rfl ?_
  refine XS.iload X13.here hx rfl (hb hby d5_156) rfl ?_
  refine XS.iconst X13.here hx rfl (hb hby d5_158) ?_
  refine XS.iadd X13.here hx rfl (hb hby d5_159) rfl ?_
  refine st14 _ ?_
  show Steps p.tables e below (T14.setTop (mkF m 163 #[s0, s1, s2, s3, s4, .val (.ref o5), .val (.int (Int32.ofNat q)), .val (.int i7), .val (.int (Int32.ofNat v))] [(.ref w), (.int ((Int32.ofNat q) + (3 : Int32))), (.ref o5)])) _
  refine XS.iload X14.here hx rfl (hb hby d5_163) rfl ?_
  refine XS.bipush X14.here hx rfl (hb hby d5_165) ?_
  refine XS.iand X14.here hx rfl (hb hby d5_167) rfl ?_
  show Steps p.tables e below (T14.setTop (mkF m 168 #[s0, s1, s2, s3, s4, .val (.ref o5), .val (.int (Int32.ofNat q)), .val (.int i7), .val (.int (Int32.ofNat v))] [(.int ((Int32.ofNat v) &&& (63 : Int32))), (.ref w), (.int ((Int32.ofNat q) + (3 : Int32))), (.ref o5)])) _
  refine X14.caload hx (j := ((Int32.ofNat v) &&& (63 : Int32))) (v := (.int (Int32.ofNat (al (v % 64))))) (by rw [e14]; exact Ar13.1) (State.isArrayOf_alike hZ.alike Ar13.2.1) Ar13.2.2 hin168 hat168 (g := (mkF m 168 #[s0, s1, s2, s3, s4, .val (.ref o5), .val (.int (Int32.ofNat q)), .val (.int i7), .val (.int (Int32.ofNat v))] [(.int ((Int32.ofNat v) &&& (63 : Int32))), (.ref w), (.int ((Int32.ofNat q) + (3 : Int32))), (.ref o5)])) rfl rfl (hb hby d5_168) _ ?_
  refine st16 _ ?_
  refine XS.iinc X16.here hx rfl (hb hby d5_170) rfl (l' := #[s0, s1, s2, s3, s4, .val (.ref o5), .val (.int ((Int32.ofNat q) + (4 : Int32))), .val (.int i7), .val (.int (Int32.ofNat v))]) rfl ?_
  refine XS.iinc X16.here hx rfl (hb hby d5_173) rfl (l' := #[s0, s1, s2, s3, s4, .val (.ref o5), .val (.int ((Int32.ofNat q) + (4 : Int32))), .val (.int (i7 + (3 : Int32))), .val (.int (Int32.ofNat v))]) rfl ?_
  refine XS.goto X16.here hx rfl (pc0 := 176) (pc' := 56) rfl (hb hby d5_176) (by decide) (by decide) ?_
  exact kt
theorem d5_223 : decode prog_5_method_2_code 223 = .ok (.aload 5, 2) := by decide +kernel
theorem d5_225 : decode prog_5_method_2_code 225 = .ok (.iload 6, 2) := by decide +kernel
theorem d5_227 : decode prog_5_method_2_code 227 = .ok (.getstatic 17, 3) := by decide +kernel
theorem d5_230 : decode prog_5_method_2_code 230 = .ok (.iload 7, 2) := by decide +kernel
theorem d5_232 : decode prog_5_method_2_code 232 = .ok (.bipush 18, 2) := by decide +kernel
theorem d5_234 : decode prog_5_method_2_code 234 = .ok (.ishr, 1) := by decide +kernel
theorem d5_235 : decode prog_5_method_2_code 235 = .ok (.caload, 1) := by decide +kernel
theorem d5_236 : decode prog_5_method_2_code 236 = .ok (.castore, 1) := by decide +kernel
theorem d5_237 : decode prog_5_method_2_code 237 = .ok (.aload 5, 2) := by decide +kernel
theorem d5_239 : decode prog_5_method_2_code 239 = .ok (.iload 6, 2) := by decide +kernel
theorem d5_241 : decode prog_5_method_2_code 241 = .ok (.iconst 1, 1) := by decide +kernel
theorem d5_242 : decode prog_5_method_2_code 242 = .ok (.iadd, 1) := by decide +kernel
theorem d5_243 : decode prog_5_method_2_code 243 = .ok (.getstatic 17, 3) := by decide +kernel
theorem d5_246 : decode prog_5_method_2_code 246 = .ok (.iload 7, 2) := by decide +kernel
theorem d5_248 : decode prog_5_method_2_code 248 = .ok (.bipush 12, 2) := by decide +kernel
theorem d5_250 : decode prog_5_method_2_code 250 = .ok (.ishr, 1) := by decide +kernel
theorem d5_251 : decode prog_5_method_2_code 251 = .ok (.bipush 63, 2) := by decide +kernel
theorem d5_253 : decode prog_5_method_2_code 253 = .ok (.iand, 1) := by decide +kernel
theorem d5_254 : decode prog_5_method_2_code 254 = .ok (.caload, 1) := by decide +kernel
theorem d5_255 : decode prog_5_method_2_code 255 = .ok (.castore, 1) := by decide +kernel
theorem d5_256 : decode prog_5_method_2_code 256 = .ok (.aload 5, 2) := by decide +kernel
theorem d5_258 : decode prog_5_method_2_code 258 = .ok (.iload 6, 2) := by decide +kernel
theorem d5_260 : decode prog_5_method_2_code 260 = .ok (.iconst 2, 1) := by decide +kernel
theorem d5_261 : decode prog_5_method_2_code 261 = .ok (.iadd, 1) := by decide +kernel
theorem d5_262 : decode prog_5_method_2_code 262 = .ok (.iload 4, 2) := by decide +kernel
theorem d5_264 : decode prog_5_method_2_code 264 = .ok (.iconst 1, 1) := by decide +kernel
theorem d5_265 : decode prog_5_method_2_code 265 = .ok (.if_icmp .le 18, 3) := by decide +kernel
theorem d5_283 : decode prog_5_method_2_code 283 = .ok (.bipush 61, 2) := by decide +kernel
theorem d5_285 : decode prog_5_method_2_code 285 = .ok (.castore, 1) := by decide +kernel
theorem d5_286 : decode prog_5_method_2_code 286 = .ok (.aload 5, 2) := by decide +kernel
theorem d5_288 : decode prog_5_method_2_code 288 = .ok (.iload 6, 2) := by decide +kernel
theorem d5_290 : decode prog_5_method_2_code 290 = .ok (.iconst 3, 1) := by decide +kernel
theorem d5_291 : decode prog_5_method_2_code 291 = .ok (.iadd, 1) := by decide +kernel
theorem d5_292 : decode prog_5_method_2_code 292 = .ok (.bipush 61, 2) := by decide +kernel
theorem d5_294 : decode prog_5_method_2_code 294 = .ok (.castore, 1) := by decide +kernel
theorem d5_295 : decode prog_5_method_2_code 295 = .ok (.iinc 6 4, 3) := by decide +kernel
set_option maxRecDepth 65536 in
set_option maxHeartbeats 40000000 in
theorem t5r1 {p : Program} {l : Launch} {e : Env} {R : Room} {s : State} {m : MethodId} {args : Array Value} {below : List Frame} {meth : Method} {c : Code} {T0 : State} {locs : List Loc} {cells slots : Nat} {Z : State} {a0 : Array Value} {h0 : Heap} (s0 : Slot) (s1 : Slot) (s2 : Slot) (s3 : Slot) (o5 : Addr) (s8 : Slot) (q v : Nat) (w : Addr) (ds : List Nat) (n0 : Nat)
    (X0 : Stand p l e R s m args below meth c T0 locs cells slots) (hx : p.tables.exec = Jvm.exec) (hZ : Z.Warmed39 s.vm) (hw : ∀ d ∈ tables_1, d.before a0 Z = true) (hby : c.code = prog_5_method_2_code) (hml : c.maxLocals = 9) (hown : s.vm.findClass "com/example/gumzo/gumzo/core/TaggedBase64" = some m.cls) (e0 : T0.heap = h0) (N0 : Fr n0 locs) (Z0 : n0 ≤ h0.size) (Sw : Sta Z h0 "com/example/gumzo/gumzo/core/TaggedBase64" "ALPHABET" "[C" (.ref w)) (Aw : Av Z h0 w .char Int32.ofNat ALs) (hwo : w ≠ o5) (A5 : Av Z h0 o5 .char Int32.ofNat ds) (hd : ds.length < 128) (hp : q + 3 < ds.length) (g_o5 : n0 ≤ o5) (hv : v < 16777216)  :
    ∃ (T' : State) (h' : Heap) (L' : List Loc), Stand p l e R s m args below meth c T' L' cells slots ∧ T'.heap = h' ∧ Fr n0 L' ∧ Keep h0 h' [o5] ∧ Av Z h' o5 .char Int32.ofNat (((((ds.set (q + 0) (al (v / 262144))).set (q + 1) (al (v / 4096 % 64))).set (q + 2) 61).set (q + 3) 61)) ∧
      ∀ target, Steps p.tables e below (T'.setTop (mkF m 298 #[s0, s1, s2, s3, .val (.int (1 : Int32)), .val (.ref o5), .val (.int ((Int32.ofNat q) + (4 : Int32))), .val (.int (Int32.ofNat v)), s8] [])) target → Steps p.tables e below (T0.setTop (mkF m 223 #[s0, s1, s2, s3, .val (.int (1 : Int32)), .val (.ref o5), .val (.int (Int32.ofNat q)), .val (.int (Int32.ofNat v)), s8] [])) target := by
  obtain ⟨cl_w, Ar_w, q_w⟩ := Aw
  obtain ⟨T5, X5, e5, st5⟩ := getS2 X0 hx hZ hown (host := "") (Or.inl (hw _ (List.mem_of_getElem? (i := 90) rfl))) Via.refl e0 Sw (g := (mkF m 227 #[s0, s1, s2, s3, .val (.int (1 : Int32)), .val (.ref o5), .val (.int (Int32.ofNat q)), .val (.int (Int32.ofNat v)), s8] [(.int (Int32.ofNat q)), (.ref o5)])) rfl (hb hby d5_227)
  have hin235 : ¬ (Int32.ofNat v >>> ((18 : Int32) &&& 31) < 0 ∨ cl_w.slots.size ≤ (Int32.ofNat v >>> ((18 : Int32) &&& 31)).toNatClampNeg) := by rw [own_r18 v (by omega)]; exact own_avi q_w (by rw [own_all]; omega) (by rw [own_all]; decide)
  have hat235 : cl_w.slots[(Int32.ofNat v >>> ((18 : Int32) &&& 31)).toNatClampNeg]? = some (.int (Int32.ofNat (al (v / 262144)))) := by rw [own_r18 v (by omega)]; exact own_avn q_w (own_als _ (by omega)) (by rw [own_all]; decide)
  obtain ⟨T7, h7, L7, X7, e7, N7, K7, A7, st7⟩ := stCv X5 hx hZ e5 N0 g_o5 A5 (by omega) (q + 0) (by omega) (al (v / 262144)) (Nat.lt_trans (own_al _ (by omega)) (by decide)) rfl rfl (g := (mkF m 236 #[s0, s1, s2, s3, .val (.int (1 : Int32)), .val (.ref o5), .val (.int (Int32.ofNat q)), .val (.int (Int32.ofNat v)), s8] [(.int (Int32.ofNat (al (v / 262144)))), (.int (Int32.ofNat q)), (.ref o5)])) rfl rfl (hb hby d5_236)
  have Sw7 := own_stk K7 A5.nost Sw
  have Ar7 : Arr Z h7 w cl_w .char := ⟨K7.2.1 w cl_w Ar_w.1 (by simpa using hwo), Ar_w.2⟩
  obtain ⟨T8, X8, e8, st8⟩ := getS2 X7 hx hZ hown (host := "") (Or.inl (hw _ (List.mem_of_getElem? (i := 90) rfl))) Via.refl e7 Sw7 (g := (mkF m 243 #[s0, s1, s2, s3, .val (.int (1 : Int32)), .val (.ref o5), .val (.int (Int32.ofNat q)), .val (.int (Int32.ofNat v)), s8] [(.int ((Int32.ofNat q) + (1 : Int32))), (.ref o5)])) rfl (hb hby d5_243)
  have hin254 : ¬ ((Int32.ofNat v >>> ((12 : Int32) &&& 31)) &&& (63 : Int32) < 0 ∨ cl_w.slots.size ≤ ((Int32.ofNat v >>> ((12 : Int32) &&& 31)) &&& (63 : Int32)).toNatClampNeg) := by rw [own_r12 v (by omega), own_a63 _ (by omega)]; exact own_avi q_w (by rw [own_all]; omega) (by rw [own_all]; decide)
  have hat254 : cl_w.slots[((Int32.ofNat v >>> ((12 : Int32) &&& 31)) &&& (63 : Int32)).toNatClampNeg]? = some (.int (Int32.ofNat (al (v / 4096 % 64)))) := by rw [own_r12 v (by omega), own_a63 _ (by omega)]; exact own_avn q_w (own_als _ (by omega)) (by rw [own_all]; decide)
  obtain ⟨T10, h10, L10, X10, e10, N10, K10, A10, st10⟩ := stCv X8 hx hZ e8 N7 g_o5 A7 (by simp only [List.length_set]; omega) (q + 1) (by simp only [List.length_set]; omega) (al (v / 4096 % 64)) (Nat.lt_trans (own_al _ (by omega)) (by decide)) (own_suc q) rfl (g := (mkF m 255 #[s0, s1, s2, s3, .val (.int (1 : Int32)), .val (.ref o5), .val (.int (Int32.ofNat q)), .val (.int (Int32.ofNat v)), s8] [(.int (Int32.ofNat (al (v / 4096 % 64)))), (.int ((Int32.ofNat q) + (1 : Int32))), (.ref o5)])) rfl rfl (hb hby d5_255)
  have Sw10 := own_stk K10 A7.nost Sw7
  have Ar10 : Arr Z h10 w cl_w .char := ⟨K10.2.1 w cl_w Ar7.1 (by simpa using hwo), Ar7.2⟩
  obtain ⟨T11, h11, L11, X11, e11, N11, K11, A11, st11⟩ := stCv X10 hx hZ e10 N10 g_o5 A10 (by simp only [List.length_set]; omega) (q + 2) (by simp only [List.length_set]; omega) 61 (by decide) (own_ad2 q) rfl (g := (mkF m 285 #[s0, s1, s2, s3, .val (.int (1 : Int32)), .val (.ref o5), .val (.int (Int32.ofNat q)), .val (.int (Int32.ofNat v)), s8] [(.int (61 : Int32)), (.int ((Int32.ofNat q) + (2 : Int32))), (.ref o5)])) rfl rfl (hb hby d5_285)
  have Sw11 := own_stk K11 A10.nost Sw10
  have Ar11 : Arr Z h11 w cl_w .char := ⟨K11.2.1 w cl_w Ar10.1 (by simpa using hwo), Ar10.2⟩
  obtain ⟨T12, h12, L12, X12, e12, N12, K12, A12, st12⟩ := stCv X11 hx hZ e11 N11 g_o5 A11 (by simp only [List.length_set]; omega) (q + 3) (by simp only [List.length_set]; omega) 61 (by decide) (own_ad3 q) rfl (g := (mkF m 294 #[s0, s1, s2, s3, .val (.int (1 : Int32)), .val (.ref o5), .val (.int (Int32.ofNat q)), .val (.int (Int32.ofNat v)), s8] [(.int (61 : Int32)), (.int ((Int32.ofNat q) + (3 : Int32))), (.ref o5)])) rfl rfl (hb hby d5_294)
  have Sw12 := own_stk K12 A11.nost Sw11
  have Ar12 : Arr Z h12 w cl_w .char := ⟨K12.2.1 w cl_w Ar11.1 (by simpa using hwo), Ar11.2⟩
  refine ⟨T12, _, _, X12, e12, N12, (own_kt (own_kt (own_kt K7 K10) K11) K12), A12, fun target kt => ?_⟩
  show Steps p.tables e below (T0.setTop (mkF m 223 #[s0, s1, s2, s3, .val (.int (1 : Int32)), .val (.ref o5), .val (.int (Int32.ofNat q)), .val (.int (Int32.ofNat v)), s8] [])) _
  refine XS.aload X0.here hx rfl (hb hby d5_223) rfl rfl ?_
  refine XS.iload X0.here hx rfl (hb hby d5_225) rfl ?_
  refine st5 _ ?_
  refine XS.iload X5.here hx rfl (hb hby d5_230) rfl ?_
  refine XS.bipush X5.here hx rfl (hb hby d5_232) ?_
  refine XS.ishr X5.here hx rfl (hb hby d5_234) rfl ?_
  show Steps p.tables e below (T5.setTop (mkF m 235 #[s0, s1, s2, s3, .val (.int (1 : Int32)), .val (.ref o5), .val (.int (Int32.ofNat q)), .val (.int (Int32.ofNat v)), s8] [(.int ((Int32.ofNat v) >>> ((18 : Int32) &&& 31))), (.ref w), (.int (Int32.ofNat q)), (.ref o5)])) _
  refine X5.caload hx (j := ((Int32.ofNat v) >>> ((18 : Int32) &&& 31))) (v := (.int (Int32.ofNat (al (v / 262144))))) (by rw [e5]; exact Ar_w.1) (State.isArrayOf_alike hZ.alike Ar_w.2.1) Ar_w.2.2 hin235 hat235 (g := (mkF m 235 #[s0, s1, s2, s3, .val (.int (1 : Int32)), .val (.ref o5), .val (.int (Int32.ofNat q)), .val (.int (Int32.ofNat v)), s8] [(.int ((Int32.ofNat v) >>> ((18 : Int32) &&& 31))), (.ref w), (.int (Int32.ofNat q)), (.ref o5)])) rfl rfl (hb hby d5_235) _ ?_
  refine st7 _ ?_
  refine XS.aload X7.here hx rfl (hb hby d5_237) rfl rfl ?_
  refine XS.iload X7.here hx rfl (hb hby d5_239) rfl ?_
  refine XS.iconst X7.here hx rfl (hb hby d5_241) ?_
  refine XS.iadd X7.here hx rfl (hb hby d5_242) rfl ?_
  refine st8 _ ?_
  show Steps p.tables e below (T8.setTop (mkF m 246 #[s0, s1, s2, s3, .val (.int (1 : Int32)), .val (.ref o5), .val (.int (Int32.ofNat q)), .val (.int (Int32.ofNat v)), s8] [(.ref w), (.int ((Int32.ofNat q) + (1 : Int32))), (.ref o5)])) _
  refine XS.iload X8.here hx rfl (hb hby d5_246) rfl ?_
  refine XS.bipush X8.here hx rfl (hb hby d5_248) ?_
  refine XS.ishr X8.here hx rfl (hb hby d5_250) rfl ?_
  refine XS.bipush X8.here hx rfl (hb hby d5_251) ?_
  refine XS.iand X8.here hx rfl (hb hby d5_253) rfl ?_
  show Steps p.tables e below (T8.setTop (mkF m 254 #[s0, s1, s2, s3, .val (.int (1 : Int32)), .val (.ref o5), .val (.int (Int32.ofNat q)), .val (.int (Int32.ofNat v)), s8] [(.int (((Int32.ofNat v) >>> ((12 : Int32) &&& 31)) &&& (63 : Int32))), (.ref w), (.int ((Int32.ofNat q) + (1 : Int32))), (.ref o5)])) _
  refine X8.caload hx (j := (((Int32.ofNat v) >>> ((12 : Int32) &&& 31)) &&& (63 : Int32))) (v := (.int (Int32.ofNat (al (v / 4096 % 64))))) (by rw [e8]; exact Ar7.1) (State.isArrayOf_alike hZ.alike Ar7.2.1) Ar7.2.2 hin254 hat254 (g := (mkF m 254 #[s0, s1, s2, s3, .val (.int (1 : Int32)), .val (.ref o5), .val (.int (Int32.ofNat q)), .val (.int (Int32.ofNat v)), s8] [(.int (((Int32.ofNat v) >>> ((12 : Int32) &&& 31)) &&& (63 : Int32))), (.ref w), (.int ((Int32.ofNat q) + (1 : Int32))), (.ref o5)])) rfl rfl (hb hby d5_254) _ ?_
  refine st10 _ ?_
  refine XS.aload X10.here hx rfl (hb hby d5_256) rfl rfl ?_
  refine XS.iload X10.here hx rfl (hb hby d5_258) rfl ?_
  refine XS.iconst X10.here hx rfl (hb hby d5_260) ?_
  refine XS.iadd X10.here hx rfl (hb hby d5_261) rfl ?_
  refine XS.iload X10.here hx rfl (hb hby d5_262) rfl ?_
  show Steps p.tables e below (T10.setTop (mkF m 264 #[s0, s1, s2, s3, .val (.int (1 : Int32)), .val (.ref o5), .val (.int (Int32.ofNat q)), .val (.int (Int32.ofNat v)), s8] [(.int (1 : Int32)), (.int ((Int32.ofNat q) + (2 : Int32))), (.ref o5)])) _
  refine XS.iconst X10.here hx rfl (hb hby d5_264) ?_
  refine XS.icmpYes X10.here hx rfl (pc0 := 265) (pc' := 283) rfl (hb hby d5_265) rfl (flt (by decide : ¬ ((1 : Int32) < 1))).2.2.2 (by decide) (by decide) ?_
  refine XS.bipush X10.here hx rfl (hb hby d5_283) ?_
  refine st11 _ ?_
  refine XS.aload X11.here hx rfl (hb hby d5_286) rfl rfl ?_
  refine XS.iload X11.here hx rfl (hb hby d5_288) rfl ?_
  refine XS.iconst X11.here hx rfl (hb hby d5_290) ?_
  show Steps p.tables e below (T11.setTop (mkF m 291 #[s0, s1, s2, s3, .val (.int (1 : Int32)), .val (.ref o5), .val (.int (Int32.ofNat q)), .val (.int (Int32.ofNat v)), s8] [(.int (3 : Int32)), (.int (Int32.ofNat q)), (.ref o5)])) _
  refine XS.iadd X11.here hx rfl (hb hby d5_291) rfl ?_
  refine XS.bipush X11.here hx rfl (hb hby d5_292) ?_
  refine st12 _ ?_
  refine XS.iinc X12.here hx rfl (hb hby d5_295) rfl (l' := #[s0, s1, s2, s3, .val (.int (1 : Int32)), .val (.ref o5), .val (.int ((Int32.ofNat q) + (4 : Int32))), .val (.int (Int32.ofNat v)), s8]) rfl ?_
  exact kt
theorem d5_268 : decode prog_5_method_2_code 268 = .ok (.getstatic 17, 3) := by decide +kernel
theorem d5_271 : decode prog_5_method_2_code 271 = .ok (.iload 7, 2) := by decide +kernel
theorem d5_273 : decode prog_5_method_2_code 273 = .ok (.bipush 6, 2) := by decide +kernel
theorem d5_275 : decode prog_5_method_2_code 275 = .ok (.ishr, 1) := by decide +kernel
theorem d5_276 : decode prog_5_method_2_code 276 = .ok (.bipush 63, 2) := by decide +kernel
theorem d5_278 : decode prog_5_method_2_code 278 = .ok (.iand, 1) := by decide +kernel
theorem d5_279 : decode prog_5_method_2_code 279 = .ok (.caload, 1) := by decide +kernel
theorem d5_280 : decode prog_5_method_2_code 280 = .ok (.goto 5, 3) := by decide +kernel
set_option maxRecDepth 65536 in
set_option maxHeartbeats 40000000 in
theorem t5r2 {p : Program} {l : Launch} {e : Env} {R : Room} {s : State} {m : MethodId} {args : Array Value} {below : List Frame} {meth : Method} {c : Code} {T0 : State} {locs : List Loc} {cells slots : Nat} {Z : State} {a0 : Array Value} {h0 : Heap} (s0 : Slot) (s1 : Slot) (s2 : Slot) (s3 : Slot) (o5 : Addr) (s8 : Slot) (q v : Nat) (w : Addr) (ds : List Nat) (n0 : Nat)
    (X0 : Stand p l e R s m args below meth c T0 locs cells slots) (hx : p.tables.exec = Jvm.exec) (hZ : Z.Warmed39 s.vm) (hw : ∀ d ∈ tables_1, d.before a0 Z = true) (hby : c.code = prog_5_method_2_code) (hml : c.maxLocals = 9) (hown : s.vm.findClass "com/example/gumzo/gumzo/core/TaggedBase64" = some m.cls) (e0 : T0.heap = h0) (N0 : Fr n0 locs) (Z0 : n0 ≤ h0.size) (Sw : Sta Z h0 "com/example/gumzo/gumzo/core/TaggedBase64" "ALPHABET" "[C" (.ref w)) (Aw : Av Z h0 w .char Int32.ofNat ALs) (hwo : w ≠ o5) (A5 : Av Z h0 o5 .char Int32.ofNat ds) (hd : ds.length < 128) (hp : q + 3 < ds.length) (g_o5 : n0 ≤ o5) (hv : v < 16777216)  :
    ∃ (T' : State) (h' : Heap) (L' : List Loc), Stand p l e R s m args below meth c T' L' cells slots ∧ T'.heap = h' ∧ Fr n0 L' ∧ Keep h0 h' [o5] ∧ Av Z h' o5 .char Int32.ofNat (((((ds.set (q + 0) (al (v / 262144))).set (q + 1) (al (v / 4096 % 64))).set (q + 2) (al (v / 64 % 64))).set (q + 3) 61)) ∧
      ∀ target, Steps p.tables e below (T'.setTop (mkF m 298 #[s0, s1, s2, s3, .val (.int (2 : Int32)), .val (.ref o5), .val (.int ((Int32.ofNat q) + (4 : Int32))), .val (.int (Int32.ofNat v)), s8] [])) target → Steps p.tables e below (T0.setTop (mkF m 223 #[s0, s1, s2, s3, .val (.int (2 : Int32)), .val (.ref o5), .val (.int (Int32.ofNat q)), .val (.int (Int32.ofNat v)), s8] [])) target := by
  obtain ⟨cl_w, Ar_w, q_w⟩ := Aw
  obtain ⟨T5, X5, e5, st5⟩ := getS2 X0 hx hZ hown (host := "") (Or.inl (hw _ (List.mem_of_getElem? (i := 90) rfl))) Via.refl e0 Sw (g := (mkF m 227 #[s0, s1, s2, s3, .val (.int (2 : Int32)), .val (.ref o5), .val (.int (Int32.ofNat q)), .val (.int (Int32.ofNat v)), s8] [(.int (Int32.ofNat q)), (.ref o5)])) rfl (hb hby d5_227)
  have hin235 : ¬ (Int32.ofNat v >>> ((18 : Int32) &&& 31) < 0 ∨ cl_w.slots.size ≤ (Int32.ofNat v >>> ((18 : Int32) &&& 31)).toNatClampNeg) := by rw [own_r18 v (by omega)]; exact own_avi q_w (by rw [own_all]; omega) (by rw [own_all]; decide)
  have hat235 : cl_w.slots[(Int32.ofNat v >>> ((18 : Int32) &&& 31)).toNatClampNeg]? = some (.int (Int32.ofNat (al (v / 262144)))) := by rw [own_r18 v (by omega)]; exact own_avn q_w (own_als _ (by omega)) (by rw [own_all]; decide)
  obtain ⟨T7, h7, L7, X7, e7, N7, K7, A7, st7⟩ := stCv X5 hx hZ e5 N0 g_o5 A5 (by omega) (q + 0) (by omega) (al (v / 262144)) (Nat.lt_trans (own_al _ (by omega)) (by decide)) rfl rfl (g := (mkF m 236 #[s0, s1, s2, s3, .val (.int (2 : Int32)), .val (.ref o5), .val (.int (Int32.ofNat q)), .val (.int (Int32.ofNat v)), s8] [(.int (Int32.ofNat (al (v / 262144)))), (.int (Int32.ofNat q)), (.ref o5)])) rfl rfl (hb hby d5_236)
  have Sw7 := own_stk K7 A5.nost Sw
  have Ar7 : Arr Z h7 w cl_w .char := ⟨K7.2.1 w cl_w Ar_w.1 (by simpa using hwo), Ar_w.2⟩
  obtain ⟨T8, X8, e8, st8⟩ := getS2 X7 hx hZ hown (host := "") (Or.inl (hw _ (List.mem_of_getElem? (i := 90) rfl))) Via.refl e7 Sw7 (g := (mkF m 243 #[s0, s1, s2, s3, .val (.int (2 : Int32)), .val (.ref o5), .val (.int (Int32.ofNat q)), .val (.int (Int32.ofNat v)), s8] [(.int ((Int32.ofNat q) + (1 : Int32))), (.ref o5)])) rfl (hb hby d5_243)
  have hin254 : ¬ ((Int32.ofNat v >>> ((12 : Int32) &&& 31)) &&& (63 : Int32) < 0 ∨ cl_w.slots.size ≤ ((Int32.ofNat v >>> ((12 : Int32) &&& 31)) &&& (63 : Int32)).toNatClampNeg) := by rw [own_r12 v (by omega), own_a63 _ (by omega)]; exact own_avi q_w (by rw [own_all]; omega) (by rw [own_all]; decide)
  have hat254 : cl_w.slots[((Int32.ofNat v >>> ((12 : Int32) &&& 31)) &&& (63 : Int32)).toNatClampNeg]? = some (.int (Int32.ofNat (al (v / 4096 % 64)))) := by rw [own_r12 v (by omega), own_a63 _ (by omega)]; exact own_avn q_w (own_als _ (by omega)) (by rw [own_all]; decide)
  obtain ⟨T10, h10, L10, X10, e10, N10, K10, A10, st10⟩ := stCv X8 hx hZ e8 N7 g_o5 A7 (by simp only [List.length_set]; omega) (q + 1) (by simp only [List.length_set]; omega) (al (v / 4096 % 64)) (Nat.lt_trans (own_al _ (by omega)) (by decide)) (own_suc q) rfl (g := (mkF m 255 #[s0, s1, s2, s3, .val (.int (2 : Int32)), .val (.ref o5), .val (.int (Int32.ofNat q)), .val (.int (Int32.ofNat v)), s8] [(.int (Int32.ofNat (al (v / 4096 % 64)))), (.int ((Int32.ofNat q) + (1 : Int32))), (.ref o5)])) rfl rfl (hb hby d5_255)
  have Sw10 := own_stk K10 A7.nost Sw7
  have Ar10 : Arr Z h10 w cl_w .char := ⟨K10.2.1 w cl_w Ar7.1 (by simpa using hwo), Ar7.2⟩
  obtain ⟨T11, X11, e11, st11⟩ := getS2 X10 hx hZ hown (host := "") (Or.inl (hw _ (List.mem_of_getElem? (i := 90) rfl))) Via.refl e10 Sw10 (g := (mkF m 268 #[s0, s1, s2, s3, .val (.int (2 : Int32)), .val (.ref o5), .val (.int (Int32.ofNat q)), .val (.int (Int32.ofNat v)), s8] [(.int ((Int32.ofNat q) + (2 : Int32))), (.ref o5)])) rfl (hb hby d5_268)
  have hin279 : ¬ ((Int32.ofNat v >>> ((6 : Int32) &&& 31)) &&& (63 : Int32) < 0 ∨ cl_w.slots.size ≤ ((Int32.ofNat v >>> ((6 : Int32) &&& 31)) &&& (63 : Int32)).toNatClampNeg) := by rw [own_r6 v (by omega), own_a63 _ (by omega)]; exact own_avi q_w (by rw [own_all]; omega) (by rw [own_all]; decide)
  have hat279 : cl_w.slots[((Int32.ofNat v >>> ((6 : Int32) &&& 31)) &&& (63 : Int32)).toNatClampNeg]? = some (.int (Int32.ofNat (al (v / 64 % 64)))) := by rw [own_r6 v (by omega), own_a63 _ (by omega)]; exact own_avn q_w (own_als _ (by omega)) (by rw [own_all]; decide)
  obtain ⟨T13, h13, L13, X13, e13, N13, K13, A13, st13⟩ := stCv X11 hx hZ e11 N10 g_o5 A10 (by simp only [List.length_set]; omega) (q + 2) (by simp only [List.length_set]; omega) (al (v / 64 % 64)) (Nat.lt_trans (own_al _ (by omega)) (by decide)) (own_ad2 q) rfl (g := (mkF m 285 #[s0, s1, s2, s3, .val (.int (2 : Int32)), .val (.ref o5), .val (.int (Int32.ofNat q)), .val (.int (Int32.ofNat v)), s8] [(.int (Int32.ofNat (al (v / 64 % 64)))), (.int ((Int32.ofNat q) + (2 : Int32))), (.ref o5)])) rfl rfl (hb hby d5_285)
  have Sw13 := own_stk K13 A10.nost Sw10
  have Ar13 : Arr Z h13 w cl_w .char := ⟨K13.2.1 w cl_w Ar10.1 (by simpa using hwo), Ar10.2⟩
  obtain ⟨T14, h14, L14, X14, e14, N14, K14, A14, st14⟩ := stCv X13 hx hZ e13 N13 g_o5 A13 (by simp only [List.length_set]; omega) (q + 3) (by simp only [List.length_set]; omega) 61 (by decide) (own_ad3 q) rfl (g := (mkF m 294 #[s0, s1, s2, s3, .val (.int (2 : Int32)), .val (.ref o5), .val (.int (Int32.ofNat q)), .val (.int (Int32.ofNat v)), s8] [(.int (61 : Int32)), (.int ((Int32.ofNat q) + (3 : Int32))), (.ref o5)])) rfl rfl (hb hby d5_294)
  have Sw14 := own_stk K14 A13.nost Sw13
  have Ar14 : Arr Z h14 w cl_w .char := ⟨K14.2.1 w cl_w Ar13.1 (by simpa using hwo), Ar13.2⟩
  refine ⟨T14, _, _, X14, e14, N14, (own_kt (own_kt (own_kt K7 K10) K13) K14), A14, fun target kt => ?_⟩
  show Steps p.tables e below (T0.setTop (mkF m 223 #[s0, s1, s2, s3, .val (.int (2 : Int32)), .val (.ref o5), .val (.int (Int32.ofNat q)), .val (.int (Int32.ofNat v)), s8] [])) _
  refine XS.aload X0.here hx rfl (hb hby d5_223) rfl rfl ?_
  refine XS.iload X0.here hx rfl (hb hby d5_225) rfl ?_
  refine st5 _ ?_
  refine XS.iload X5.here hx rfl (hb hby d5_230) rfl ?_
  refine XS.bipush X5.here hx rfl (hb hby d5_232) ?_
  refine XS.ishr X5.here hx rfl (hb hby d5_234) rfl ?_
  show Steps p.tables e below (T5.setTop (mkF m 235 #[s0, s1, s2, s3, .val (.int (2 : Int32)), .val (.ref o5), .val (.int (Int32.ofNat q)), .val (.int (Int32.ofNat v)), s8] [(.int ((Int32.ofNat v) >>> ((18 : Int32) &&& 31))), (.ref w), (.int (Int32.ofNat q)), (.ref o5)])) _
  refine X5.caload hx (j := ((Int32.ofNat v) >>> ((18 : Int32) &&& 31))) (v := (.int (Int32.ofNat (al (v / 262144))))) (by rw [e5]; exact Ar_w.1) (State.isArrayOf_alike hZ.alike Ar_w.2.1) Ar_w.2.2 hin235 hat235 (g := (mkF m 235 #[s0, s1, s2, s3, .val (.int (2 : Int32)), .val (.ref o5), .val (.int (Int32.ofNat q)), .val (.int (Int32.ofNat v)), s8] [(.int ((Int32.ofNat v) >>> ((18 : Int32) &&& 31))), (.ref w), (.int (Int32.ofNat q)), (.ref o5)])) rfl rfl (hb hby d5_235) _ ?_
  refine st7 _ ?_
  refine XS.aload X7.here hx rfl (hb hby d5_237) rfl rfl ?_
  refine XS.iload X7.here hx rfl (hb hby d5_239) rfl ?_
  refine XS.iconst X7.here hx rfl (hb hby d5_241) ?_
  refine XS.iadd X7.here hx rfl (hb hby d5_242) rfl ?_
  refine st8 _ ?_
  show Steps p.tables e below (T8.setTop (mkF m 246 #[s0, s1, s2, s3, .val (.int (2 : Int32)), .val (.ref o5), .val (.int (Int32.ofNat q)), .val (.int (Int32.ofNat v)), s8] [(.ref w), (.int ((Int32.ofNat q) + (1 : Int32))), (.ref o5)])) _
  refine XS.iload X8.here hx rfl (hb hby d5_246) rfl ?_
  refine XS.bipush X8.here hx rfl (hb hby d5_248) ?_
  refine XS.ishr X8.here hx rfl (hb hby d5_250) rfl ?_
  refine XS.bipush X8.here hx rfl (hb hby d5_251) ?_
  refine XS.iand X8.here hx rfl (hb hby d5_253) rfl ?_
  show Steps p.tables e below (T8.setTop (mkF m 254 #[s0, s1, s2, s3, .val (.int (2 : Int32)), .val (.ref o5), .val (.int (Int32.ofNat q)), .val (.int (Int32.ofNat v)), s8] [(.int (((Int32.ofNat v) >>> ((12 : Int32) &&& 31)) &&& (63 : Int32))), (.ref w), (.int ((Int32.ofNat q) + (1 : Int32))), (.ref o5)])) _
  refine X8.caload hx (j := (((Int32.ofNat v) >>> ((12 : Int32) &&& 31)) &&& (63 : Int32))) (v := (.int (Int32.ofNat (al (v / 4096 % 64))))) (by rw [e8]; exact Ar7.1) (State.isArrayOf_alike hZ.alike Ar7.2.1) Ar7.2.2 hin254 hat254 (g := (mkF m 254 #[s0, s1, s2, s3, .val (.int (2 : Int32)), .val (.ref o5), .val (.int (Int32.ofNat q)), .val (.int (Int32.ofNat v)), s8] [(.int (((Int32.ofNat v) >>> ((12 : Int32) &&& 31)) &&& (63 : Int32))), (.ref w), (.int ((Int32.ofNat q) + (1 : Int32))), (.ref o5)])) rfl rfl (hb hby d5_254) _ ?_
  refine st10 _ ?_
  refine XS.aload X10.here hx rfl (hb hby d5_256) rfl rfl ?_
  refine XS.iload X10.here hx rfl (hb hby d5_258) rfl ?_
  refine XS.iconst X10.here hx rfl (hb hby d5_260) ?_
  refine XS.iadd X10.here hx rfl (hb hby d5_261) rfl ?_
  refine XS.iload X10.here hx rfl (hb hby d5_262) rfl ?_
  show Steps p.tables e below (T10.setTop (mkF m 264 #[s0, s1, s2, s3, .val (.int (2 : Int32)), .val (.ref o5), .val (.int (Int32.ofNat q)), .val (.int (Int32.ofNat v)), s8] [(.int (2 : Int32)), (.int ((Int32.ofNat q) + (2 : Int32))), (.ref o5)])) _
  refine XS.iconst X10.here hx rfl (hb hby d5_264) ?_
  refine XS.icmpNo X10.here hx rfl (hb hby d5_265) rfl (tlt (by decide : (1 : Int32) < 2)).2.2.2 ?_
  refine st11 _ ?_
  refine XS.iload X11.here hx rfl (hb hby d5_271) rfl ?_
  refine XS.bipush X11.here hx rfl (hb hby d5_273) ?_
  refine XS.ishr X11.here hx rfl (hb hby d5_275) rfl ?_
  refine XS.bipush X11.here hx rfl (hb hby d5_276) ?_
  show Steps p.tables e below (T11.setTop (mkF m 278 #[s0, s1, s2, s3, .val (.int (2 : Int32)), .val (.ref o5), .val (.int (Int32.ofNat q)), .val (.int (Int32.ofNat v)), s8] [(.int (63 : Int32)), (.int ((Int32.ofNat v) >>> ((6 : Int32) &&& 31))), (.ref w), (.int ((Int32.ofNat q) + (2 : Int32))), (.ref o5)])) _
  refine XS.iand X11.here hx rfl (hb hby d5_278) rfl ?_
  show Steps p.tables e below (T11.setTop (mkF m 279 #[s0, s1, s2, s3, .val (.int (2 : Int32)), .val (.ref o5), .val (.int (Int32.ofNat q)), .val (.int (Int32.ofNat v)), s8] [(.int (((Int32.ofNat v) >>> ((6 : Int32) &&& 31)) &&& (63 : Int32))), (.ref w), (.int ((Int32.ofNat q) + (2 : Int32))), (.ref o5)])) _
  refine X11.caload hx (j := (((Int32.ofNat v) >>> ((6 : Int32) &&& 31)) &&& (63 : Int32))) (v := (.int (Int32.ofNat (al (v / 64 % 64))))) (by rw [e11]; exact Ar10.1) (State.isArrayOf_alike hZ.alike Ar10.2.1) Ar10.2.2 hin279 hat279 (g := (mkF m 279 #[s0, s1, s2, s3, .val (.int (2 : Int32)), .val (.ref o5), .val (.int (Int32.ofNat q)), .val (.int (Int32.ofNat v)), s8] [(.int (((Int32.ofNat v) >>> ((6 : Int32) &&& 31)) &&& (63 : Int32))), (.ref w), (.int ((Int32.ofNat q) + (2 : Int32))), (.ref o5)])) rfl rfl (hb hby d5_279) _ ?_
  refine XS.goto X11.here hx rfl (pc0 := 280) (pc' := 285) rfl (hb hby d5_280) (by decide) (by decide) ?_
  refine st13 _ ?_
  refine XS.aload X13.here hx rfl (hb hby d5_286) rfl rfl ?_
  refine XS.iload X13.here hx rfl (hb hby d5_288) rfl ?_
  refine XS.iconst X13.here hx rfl (hb hby d5_290) ?_
  refine XS.iadd X13.here hx rfl (hb hby d5_291) rfl ?_
  show Steps p.tables e below (T13.setTop (mkF m 292 #[s0, s1, s2, s3, .val (.int (2 : Int32)), .val (.ref o5), .val (.int (Int32.ofNat q)), .val (.int (Int32.ofNat v)), s8] [(.int ((Int32.ofNat q) + (3 : Int32))), (.ref o5)])) _
  refine XS.bipush X13.here hx rfl (hb hby d5_292) ?_
  refine st14 _ ?_
  refine XS.iinc X14.here hx rfl (hb hby d5_295) rfl (l' := #[s0, s1, s2, s3, .val (.int (2 : Int32)), .val (.ref o5), .val (.int ((Int32.ofNat q) + (4 : Int32))), .val (.int (Int32.ofNat v)), s8]) rfl ?_
  exact kt
theorem d5_298 : decode prog_5_method_2_code 298 = .ok (.aload_n 2, 1) := by decide +kernel
theorem d5_299 : decode prog_5_method_2_code 299 = .ok (.iconst 0, 1) := by decide +kernel
theorem d5_300 : decode prog_5_method_2_code 300 = .ok (.aload_n 2, 1) := by decide +kernel
theorem d5_301 : decode prog_5_method_2_code 301 = .ok (.invokevirtual 7, 3) := by decide +kernel
theorem d5_304 : decode prog_5_method_2_code 304 = .ok (.aload 5, 2) := by decide +kernel
theorem d5_306 : decode prog_5_method_2_code 306 = .ok (.iload 6, 2) := by decide +kernel
theorem d5_308 : decode prog_5_method_2_code 308 = .ok (.invokevirtual 13, 3) := by decide +kernel
set_option maxRecDepth 65536 in
set_option maxHeartbeats 40000000 in
theorem t5s {p : Program} {l : Launch} {e : Env} {s : State} {m : MethodId} {args : Array Value} {below : List Frame} {meth : Method} {c : Code} {T0 : State} {locs : List Loc} {Z : State} {a0 : Array Value} {h0 : Heap} (s0 : Slot) (s1 : Slot) (o2 : Addr) (s3 : Slot) (s4 : Slot) (o5 : Addr) (s7 : Slot) (s8 : Slot) (q : Nat) (suf ds : List Nat) (n0 : Nat)
    (X0 : Stand p l e ({ frames := 6, cells := 6, slots := 64, locals := 88 } : Room) s m args below meth c T0 locs 1 12) (hx : p.tables.exec = Jvm.exec) (hZ : Z.Warmed39 s.vm) (hw : ∀ d ∈ tables_1, d.before a0 Z = true) (hby : c.code = prog_5_method_2_code) (hml : c.maxLocals = 9) (hown : s.vm.findClass "com/example/gumzo/gumzo/core/TaggedBase64" = some m.cls) (e0 : T0.heap = h0) (N0 : Fr n0 locs) (Z0 : n0 ≤ h0.size) (D : Wd Z h0) (S2 : Str Z h0 o2 suf) (A5 : Av Z h0 o5 .char Int32.ofNat ds) (hl2 : suf.length < 3) (hd : ds.length < 16) (hdl : q + suf.length ≤ ds.length) (g_o5 : n0 ≤ o5) :
    ∃ (T' : State) (h' : Heap) (L' : List Loc), Stand p l e ({ frames := 6, cells := 6, slots := 64, locals := 88 } : Room) s m args below meth c T' L' 1 12 ∧ T'.heap = h' ∧ Fr n0 L' ∧ Keep h0 h' [o5] ∧ Av Z h' o5 .char Int32.ofNat (blit ds q suf) ∧
      ∀ target, Steps p.tables e below (T'.setTop (mkF m 311 #[s0, s1, .val (.ref o2), s3, s4, .val (.ref o5), .val (.int (Int32.ofNat q)), s7, s8] [])) target → Steps p.tables e below (T0.setTop (mkF m 298 #[s0, s1, .val (.ref o2), s3, s4, .val (.ref o5), .val (.int (Int32.ofNat q)), s7, s8] [])) target := by
  obtain ⟨cq4, kq4, q4a, q4b, q4c⟩ := isOf hZ e0 S2.1
  obtain ⟨_, _, ⟨T4, L4, k4, n4⟩, -, X4, ⟨Lc4, hQ4, l4, y4, z4⟩, st4⟩ := X0.virtualBack hx (y := (⟨"java/lang/String", "length", "()I"⟩ : MethodName)) (z := (⟨"java/lang/String", "length", "()I"⟩ : MethodName)) hown (mvT hZ (hw _ (List.mem_of_getElem? (i := 31) rfl))) (mvT hZ (hw _ (List.mem_of_getElem? (i := 32) rfl))) (notFace_of_selects (args := #[]) (mvT hZ (hw _ (List.mem_of_getElem? (i := 34) rfl)))) (mvT hZ (hw _ (List.mem_of_getElem? (i := 34) rfl))) (mvT hZ (hw _ (List.mem_of_getElem? (i := 33) rfl))) (by decide) (backOf (W := 2) (len l Z a0 hw [] o2 suf h0 n0 Z0 D S2) hZ (hw _ (List.mem_of_getElem? (i := 35) rfl)) (hw _ (List.mem_of_getElem? (i := 8) rfl)) (by decide) (by decide)) q4a q4c (g := (mkF m 301 #[s0, s1, .val (.ref o2), s3, s4, .val (.ref o5), .val (.int (Int32.ofNat q)), s7, s8] [(.ref o2), (.int (0 : Int32)), (.ref o2)])) rfl (by rw [hml]; rfl) (Steps.refl _) (argsL := []) (rest := [(.int (0 : Int32)), (.ref o2)]) (lenOf pd_5_5 rfl) rfl (by show 2 * 0 + _ ≤ _; exact Nat.le_of_eq rfl) (hb hby d5_301) (fun _ _ => ⟨rfl, e0, (by decide : 1 + 0 + 0 ≤ _), (by decide : 12 + 0 + 0 ≤ _)⟩)
  dsimp only [Pt.U, Pt.locs, Pt.cells, Pt.slots] at X4 l4 y4 z4 st4 hQ4
  subst l4 y4 z4
  obtain ⟨rfl, N4q, eq4⟩ := hQ4
  obtain ⟨cq5, kq5, q5a, q5b, q5c⟩ := isOf hZ eq4 S2.1
  obtain ⟨_, _, ⟨T5, L5, k5, n5⟩, -, X5, ⟨Lc5, hQ5, l5, y5, z5⟩, st5⟩ := X4.virtualBack hx (y := (⟨"java/lang/String", "getChars", "(II[CI)V"⟩ : MethodName)) (z := (⟨"java/lang/String", "getChars", "(II[CI)V"⟩ : MethodName)) hown (mvT hZ (hw _ (List.mem_of_getElem? (i := 42) rfl))) (mvT hZ (hw _ (List.mem_of_getElem? (i := 43) rfl))) (notFace_of_selects (args := #[]) (mvT hZ (hw _ (List.mem_of_getElem? (i := 45) rfl)))) (mvT hZ (hw _ (List.mem_of_getElem? (i := 45) rfl))) (mvT hZ (hw _ (List.mem_of_getElem? (i := 44) rfl))) (by decide) (backOf (W := 0) (gch l Z a0 hw [] o2 o5 q suf ds h0 n0 Z0 D S2 A5 (by omega) hd hdl g_o5) hZ (hw _ (List.mem_of_getElem? (i := 46) rfl)) (hw _ (List.mem_of_getElem? (i := 8) rfl)) (by decide) (by decide)) q5a q5c (g := (mkF m 308 #[s0, s1, .val (.ref o2), s3, s4, .val (.ref o5), .val (.int (Int32.ofNat q)), s7, s8] [(.int (Int32.ofNat q)), (.ref o5), (.int (Int32.ofNat suf.length)), (.int (0 : Int32)), (.ref o2)])) rfl (by rw [hml]; rfl) (Steps.refl _) (argsL := [(.int (0 : Int32)), (.int (Int32.ofNat suf.length)), (.ref o5), (.int (Int32.ofNat q))]) (rest := []) (lenOf pd_5_7 rfl) rfl (by show 2 * 0 + _ ≤ _; exact Nat.le_of_eq rfl) (hb hby d5_308) (fun _ _ => ⟨rfl, eq4, (by decide : 1 + 0 + 0 ≤ _), (by decide : 12 + 0 + 0 ≤ _)⟩)
  dsimp only [Pt.U, Pt.locs, Pt.cells, Pt.slots] at X5 l5 y5 z5 st5 hQ5
  subst l5 y5 z5
  obtain ⟨rfl, N5q, K5, A5c⟩ := hQ5
  have N5 := Fr.app (Fr.app N0 N4q) N5q
  refine ⟨T5, _, _, X5, rfl, N5, K5, A5c, fun target kt => ?_⟩
  show Steps p.tables e below (T0.setTop (mkF m 298 #[s0, s1, .val (.ref o2), s3, s4, .val (.ref o5), .val (.int (Int32.ofNat q)), s7, s8] [])) _
  refine XS.aloadN X0.here hx rfl (hb hby d5_298) rfl rfl ?_
  refine XS.iconst X0.here hx rfl (hb hby d5_299) ?_
  refine XS.aloadN X0.here hx rfl (hb hby d5_300) rfl rfl ?_
  refine st4.trans ?_
  refine XS.aload X4.here hx rfl (hb hby d5_304) rfl rfl ?_
  refine XS.iload X4.here hx rfl (hb hby d5_306) rfl ?_
  refine st5.trans ?_
  exact kt
theorem own_alb (k : Nat) : al k < 256 := by
  unfold al
  repeat' split
  all_goals omega
def Bd16 (o : List Nat) : Prop := ∀ x ∈ o, x < 65536
theorem own_bs1 {o : List Nat} (h : Bd16 o) (i : Nat) {c : Nat} (hc : c < 65536) : Bd16 (o.set i c) := fun x hx => by
  rcases List.mem_or_eq_of_mem_set hx with q | q
  · exact h x q
  · rw [q]; exact hc
theorem own_bs2 {r : List Nat} : ∀ {o : List Nat} (i : Nat), Bd16 o → Bd16 r → Bd16 (blit o i r) := by
  induction r with
  | nil => intro o i h _; exact h
  | cons c r ih => intro o i h hr; exact ih (i + 1) (own_bs1 h i (hr c (List.mem_cons_self ..))) (fun x hx => hr x (List.mem_cons_of_mem _ hx))
theorem own_bs3 {o : List Nat} (h : Bd16 o) (p x y z n : Nat) : Bd16 (qd o p x y z n) := by
  have a : ∀ k, al k < 65536 := fun k => Nat.lt_trans (own_alb k) (by decide)
  unfold qd
  refine own_bs1 (own_bs1 (own_bs1 (own_bs1 h _ (a _)) _ (a _)) _ ?_) _ ?_
  · split
    · exact a _
    · decide
  · split
    · exact a _
    · decide
theorem own_bs4 (bs : List Nat) (t : Nat) : ∀ (i q : Nat) (o : List Nat), Bd16 o → Bd16 (trn bs t i q o) := by
  induction t with
  | zero => intro i q o h; exact h
  | succ t ih => intro i q o h; exact ih _ _ _ (own_bs3 h _ _ _ _ _)
theorem own_bs5 (bs : List Nat) (r i q : Nat) {o : List Nat} (h : Bd16 o) : Bd16 (remd bs r i q o) := by
  unfold remd
  split
  · exact h
  · exact own_bs3 h _ _ _ _ _
theorem own_tlen (bs : List Nat) (t : Nat) : ∀ (i q : Nat) (o : List Nat), (trn bs t i q o).length = o.length := by
  induction t with
  | zero => intro i q o; rfl
  | succ t ih => intro i q o; exact (ih _ _ _).trans (own_qdl ..)
theorem own_rlen (bs : List Nat) (r i q : Nat) (o : List Nat) : (remd bs r i q o).length = o.length := by
  unfold remd
  split
  · rfl
  · exact own_qdl ..
theorem own_enb (n sl xl : Nat) {sig suf : List Nat} (bs : List Nat) (h1 : Bd16 sig) (h2 : Bd16 suf) : Bd16 (encL n sl xl sig bs suf) :=
  own_bs2 _ (own_bs5 _ _ _ _ (own_bs4 _ _ _ _ _ (own_bs2 _ (fun x hx => by rw [(List.mem_replicate.mp hx).2]; decide) h1))) h2
theorem own_enl (n sl xl : Nat) (sig bs suf : List Nat) : (encL n sl xl sig bs suf).length = sl + 4 * ((n + 2) / 3) + xl := by
  unfold encL
  rw [own_blen, own_rlen, own_tlen, own_blen, List.length_replicate]
theorem own_gd {bs : List Nat} {i : Nat} (h : i < bs.length) : bs[i]? = some (bs.getD i 0) := by
  rw [List.getD_eq_getElem?_getD, List.getElem?_eq_getElem h]; rfl
theorem own_gb {bs : List Nat} (hb9 : ∀ x ∈ bs, x < 256) (i : Nat) : bs.getD i 0 < 256 := by
  rw [List.getD_eq_getElem?_getD]
  cases h : bs[i]? with
  | none => decide
  | some v => exact hb9 v (List.mem_of_getElem? h)
theorem lp5 {p : Program} {l : Launch} {e : Env} {R : Room} {s : State} {m : MethodId} {args : Array Value} {below : List Frame} {meth : Method} {c : Code} {cells slots : Nat} {Z : State} {a0 : Array Value} (o1 o5 w : Addr) (bs : List Nat) (f3 n0 : Nat) (hx : p.tables.exec = Jvm.exec) (hZ : Z.Warmed39 s.vm) (hw : ∀ d ∈ tables_1, d.before a0 Z = true) (hby : c.code = prog_5_method_2_code) (hml : c.maxLocals = 9) (hown : s.vm.findClass "com/example/gumzo/gumzo/core/TaggedBase64" = some m.cls) (hbl : bs.length < 128) (hb9 : ∀ x ∈ bs, x < 256) (hf3 : f3 < 8) (hfb : 3 * f3 ≤ bs.length) (g_o5 : n0 ≤ o5) (hwo : w ≠ o5) (s0 s2 s4 : Slot) (t : Nat) : ∀ {T0 : State} {locs : List Loc} {h0 : Heap} (i q : Nat) (ds : List Nat) (s8 : Slot), One s8 → Stand p l e R s m args below meth c T0 locs cells slots → T0.heap = h0 → Fr n0 locs → n0 ≤ h0.size → Av Z h0 o1 .byte b8 bs → Sta Z h0 "com/example/gumzo/gumzo/core/TaggedBase64" "ALPHABET" "[C" (.ref w) → Av Z h0 w .char Int32.ofNat ALs → Av Z h0 o5 .char Int32.ofNat ds → ds.length < 128 → i + 3 * t = 3 * f3 → q + 4 * t ≤ ds.length →
    ∃ (T' : State) (h' : Heap) (L' : List Loc) (s8' : Slot), One s8' ∧ Stand p l e R s m args below meth c T' L' cells slots ∧ T'.heap = h' ∧ Fr n0 L' ∧ Keep h0 h' [o5] ∧ Av Z h' o5 .char Int32.ofNat (trn bs t i q ds) ∧
      ∀ target, Steps p.tables e below (T'.setTop (mkF m 56 #[s0, .val (.ref o1), s2, .val (.int (Int32.ofNat f3)), s4, .val (.ref o5), .val (.int (Int32.ofNat (q + 4 * t))), .val (.int (Int32.ofNat (i + 3 * t))), s8'] [])) target → Steps p.tables e below (T0.setTop (mkF m 56 #[s0, .val (.ref o1), s2, .val (.int (Int32.ofNat f3)), s4, .val (.ref o5), .val (.int (Int32.ofNat (q))), .val (.int (Int32.ofNat (i))), s8] [])) target := by
  induction t with
  | zero => intro T0 locs h0 i q ds s8 O X0 e0 N0 Z0 A1 Sw Aw A5 hd hi hq; exact ⟨T0, h0, locs, s8, O, X0, e0, N0, Keep.refl _ _, A5, fun target kt => kt⟩
  | succ t ih =>
    intro T0 locs h0 i q ds s8 O X0 e0 N0 Z0 A1 Sw Aw A5 hd hi hq
    have hx0 := own_gb hb9 i
    have hx1 := own_gb hb9 (i + 1)
    have hx2 := own_gb hb9 (i + 2)
    have e8 : (((b8 (bs.getD i 0) &&& (255 : Int32)) <<< ((16 : Int32) &&& 31)) ||| ((b8 (bs.getD (i + 1) 0) &&& (255 : Int32)) <<< ((8 : Int32) &&& 31))) ||| (b8 (bs.getD (i + 2) 0) &&& (255 : Int32)) = Int32.ofNat (bs.getD i 0 * 65536 + bs.getD (i + 1) 0 * 256 + bs.getD (i + 2) 0) := by
      rw [own_b8 _ hx0, own_b8 _ hx1, own_b8 _ hx2]; exact own_v3 _ _ _ hx0 hx1 hx2
    have st1 := s5d s0 o1 s2 s4 (.val (.ref o5)) (.val (.int (Int32.ofNat q))) s8 f3 i (bs.getD i 0) (bs.getD (i + 1) 0) (bs.getD (i + 2) 0) bs X0 hx hZ hby e0 O A1 hbl (own_gd (by omega)) (own_gd (by omega)) (own_gd (by omega)) (by rw [own_m3 f3 hf3]; exact own_lt (by omega) (by omega))
    rw [e8] at st1
    obtain ⟨T1, h1, L1, X1, e1, N1, K1, A, st2⟩ := t5e s0 (.val (.ref o1)) s2 (.val (.int (Int32.ofNat f3))) s4 o5 (Int32.ofNat i) q (bs.getD i 0 * 65536 + bs.getD (i + 1) 0 * 256 + bs.getD (i + 2) 0) w ds n0 X0 hx hZ hw hby hml hown e0 N0 Z0 Sw Aw hwo A5 hd (by omega) g_o5 (by omega)
    have A' : Av Z h1 o5 .char Int32.ofNat (qd ds q (bs.getD i 0) (bs.getD (i + 1) 0) (bs.getD (i + 2) 0) 3) := by rw [← own_q3 ds q _ _ _ hx0 hx1 hx2]; exact A
    rw [own_ad4, own_ad3] at st2
    obtain ⟨T2, h2, L2, s8', O2, X2, e2, N2, K2, A3, st3⟩ := ih (i + 3) (q + 4) _ (.val (.int (Int32.ofNat (bs.getD i 0 * 65536 + bs.getD (i + 1) 0 * 256 + bs.getD (i + 2) 0)))) (One.val rfl) X1 e1 N1 (Nat.le_trans Z0 K1.1) (A1.keep K1 (by simpa using own_dis A1 A5 (fun q => nomatch q))) (own_stk K1 A5.nost Sw) (Aw.keep K1 (by simpa using hwo)) A' (by rw [own_qdl]; exact hd) (by omega) (by rw [own_qdl]; omega)
    refine ⟨T2, h2, L2, s8', O2, X2, e2, N2, own_kt K1 K2, A3, fun target kt => st1 _ (st2 _ (st3 _ ?_))⟩
    rw [show i + 3 + 3 * t = i + 3 * (t + 1) by omega, show q + 4 + 4 * t = q + 4 * (t + 1) by omega]
    exact kt
theorem p5r {p : Program} {l : Launch} {e : Env} {R : Room} {s : State} {m : MethodId} {args : Array Value} {below : List Frame} {meth : Method} {c : Code} {cells slots : Nat} {Z : State} {a0 : Array Value} {T0 : State} {locs : List Loc} {h0 : Heap} (o1 o5 w : Addr) (bs : List Nat) (f3 r q n0 : Nat) (ds : List Nat) (s0 s2 s7 s8 : Slot) (hx : p.tables.exec = Jvm.exec) (hZ : Z.Warmed39 s.vm) (hw : ∀ d ∈ tables_1, d.before a0 Z = true) (hby : c.code = prog_5_method_2_code) (hml : c.maxLocals = 9) (hown : s.vm.findClass "com/example/gumzo/gumzo/core/TaggedBase64" = some m.cls) (hbl : bs.length < 128) (hb9 : ∀ x ∈ bs, x < 256) (hf3 : f3 < 8) (hr : r < 3) (hfb : 3 * f3 + r = bs.length) (g_o5 : n0 ≤ o5) (hwo : w ≠ o5) (O : One s7) (X0 : Stand p l e R s m args below meth c T0 locs cells slots) (e0 : T0.heap = h0) (N0 : Fr n0 locs) (Z0 : n0 ≤ h0.size) (A1 : Av Z h0 o1 .byte b8 bs) (Sw : Sta Z h0 "com/example/gumzo/gumzo/core/TaggedBase64" "ALPHABET" "[C" (.ref w)) (Aw : Av Z h0 w .char Int32.ofNat ALs) (A5 : Av Z h0 o5 .char Int32.ofNat ds) (hd : ds.length < 128) (hq : q + (if r = 0 then 0 else 4) ≤ ds.length) :
    ∃ (T' : State) (h' : Heap) (L' : List Loc) (s7' : Slot), Stand p l e R s m args below meth c T' L' cells slots ∧ T'.heap = h' ∧ Fr n0 L' ∧ Keep h0 h' [o5] ∧ Av Z h' o5 .char Int32.ofNat (remd bs r (3 * f3) q ds) ∧
      ∀ target, Steps p.tables e below (T'.setTop (mkF m 298 #[s0, .val (.ref o1), s2, .val (.int (Int32.ofNat f3)), .val (.int (Int32.ofNat r)), .val (.ref o5), .val (.int (Int32.ofNat (q + (if r = 0 then 0 else 4)))), s7', s8] [])) target → Steps p.tables e below (T0.setTop (mkF m 179 #[s0, .val (.ref o1), s2, .val (.int (Int32.ofNat f3)), .val (.int (Int32.ofNat r)), .val (.ref o5), .val (.int (Int32.ofNat (q))), s7, s8] [])) target := by
  have c3 : r = 0 ∨ r = 1 ∨ r = 2 := by omega
  rcases c3 with rfl | rfl | rfl
  · exact ⟨T0, h0, locs, s7, X0, e0, N0, Keep.refl _ _, A5, fun target kt => s5r0 _ _ _ _ _ _ _ _ _ X0 hx hZ hby e0 (by decide) _ kt⟩
  · have hx0 := own_gb hb9 (3 * f3)
    have hq' : q + 4 ≤ ds.length := hq
    have e8 : ((b8 (bs.getD (3 * f3) 0) &&& (255 : Int32)) <<< ((16 : Int32) &&& 31)) ||| (0 : Int32) = Int32.ofNat (bs.getD (3 * f3) 0 * 65536) := by rw [own_b8 _ hx0]; exact own_v1 _ hx0
    have st1 := s5r1 s0 o1 s2 (.val (.ref o5)) (.val (.int (Int32.ofNat q))) s7 s8 f3 (bs.getD (3 * f3) 0) bs X0 hx hZ hby e0 O A1 hbl hf3 (own_gd (by omega))
    rw [e8] at st1
    obtain ⟨T1, h1, L1, X1, e1, N1, K1, A, st2⟩ := t5r1 s0 (.val (.ref o1)) s2 (.val (.int (Int32.ofNat f3))) o5 s8 q (bs.getD (3 * f3) 0 * 65536) w ds n0 X0 hx hZ hw hby hml hown e0 N0 Z0 Sw Aw hwo A5 hd (by omega) g_o5 (by omega)
    have A' : Av Z h1 o5 .char Int32.ofNat (qd ds q (bs.getD (3 * f3) 0) (bs.getD (3 * f3 + 1) 0) 0 1) := by rw [← own_q1 ds q _ _ _ hx0]; exact A
    rw [own_ad4] at st2
    exact ⟨T1, h1, L1, _, X1, e1, N1, K1, A', fun target kt => st1 _ (st2 _ kt)⟩
  · have hx0 := own_gb hb9 (3 * f3)
    have hx1 := own_gb hb9 (3 * f3 + 1)
    have hq' : q + 4 ≤ ds.length := hq
    have e8 : ((b8 (bs.getD (3 * f3) 0) &&& (255 : Int32)) <<< ((16 : Int32) &&& 31)) ||| ((b8 (bs.getD (3 * f3 + 1) 0) &&& (255 : Int32)) <<< ((8 : Int32) &&& 31)) = Int32.ofNat (bs.getD (3 * f3) 0 * 65536 + bs.getD (3 * f3 + 1) 0 * 256) := by rw [own_b8 _ hx0, own_b8 _ hx1]; exact own_v2 _ _ hx0 hx1
    have st1 := s5r2 s0 o1 s2 (.val (.ref o5)) (.val (.int (Int32.ofNat q))) s7 s8 f3 (bs.getD (3 * f3) 0) (bs.getD (3 * f3 + 1) 0) bs X0 hx hZ hby e0 O A1 hbl hf3 (own_gd (by omega)) (own_gd (by omega))
    rw [e8] at st1
    obtain ⟨T1, h1, L1, X1, e1, N1, K1, A, st2⟩ := t5r2 s0 (.val (.ref o1)) s2 (.val (.int (Int32.ofNat f3))) o5 s8 q (bs.getD (3 * f3) 0 * 65536 + bs.getD (3 * f3 + 1) 0 * 256) w ds n0 X0 hx hZ hw hby hml hown e0 N0 Z0 Sw Aw hwo A5 hd (by omega) g_o5 (by omega)
    have A' : Av Z h1 o5 .char Int32.ofNat (qd ds q (bs.getD (3 * f3) 0) (bs.getD (3 * f3 + 1) 0) 0 2) := by rw [← own_q2 ds q _ _ _ hx0 hx1]; exact A
    rw [own_ad4] at st2
    exact ⟨T1, h1, L1, _, X1, e1, N1, K1, A', fun target kt => st1 _ (st2 _ kt)⟩
theorem d5_311 : decode prog_5_method_2_code 311 = .ok (.new 8, 3) := by decide +kernel
theorem d5_314 : decode prog_5_method_2_code 314 = .ok (.dup, 1) := by decide +kernel
theorem d5_315 : decode prog_5_method_2_code 315 = .ok (.aload 5, 2) := by decide +kernel
theorem d5_317 : decode prog_5_method_2_code 317 = .ok (.invokespecial 23, 3) := by decide +kernel
theorem d5_320 : decode prog_5_method_2_code 320 = .ok (.areturn, 1) := by decide +kernel
theorem pn_5 : plainName "com/example/gumzo/gumzo/core/TaggedBase64" = true := by first | (simp [plainName, overriddenIn]; done) | decide +kernel
theorem pd_5_1 : parseMethodDescriptor "([C)V" = some ⟨[(.array .char)], none⟩ := by decide +kernel
theorem ef_5 (m : MethodId) (x0 : Addr) (x1 : Addr) (x2 : Addr) : entryFrame m #[(.ref x0), (.ref x1), (.ref x2)] 9 = mkF m 0 #[.val (.ref x0), .val (.ref x1), .val (.ref x2), .unset, .unset, .unset, .unset, .unset, .unset] [] := by first | (simp [entryFrame, mkF, argsToLocals, Value.category]; done) | rfl
set_option maxRecDepth 65536 in
set_option maxHeartbeats 40000000 in
theorem rm5 (l : Launch) (Z : State) (a0 : Array Value) (hw : ∀ d ∈ tables_1, d.before a0 Z = true) (ws : List Jvm.Cond) (a1 a2 a3 : Addr) (sig bs suf : List Nat) (w : Addr) (h0 : Heap) (n0 : Nat) (Z0 : n0 ≤ h0.size) (D : Wd Z h0) (S0 : Str Z h0 a1 sig) (S2 : Str Z h0 a3 suf) (Abs : Av Z h0 a2 .byte b8 bs) (Sw : Sta Z h0 "com/example/gumzo/gumzo/core/TaggedBase64" "ALPHABET" "[C" (.ref w)) (Aw : Av Z h0 w .char Int32.ofNat ALs) (hbl : bs.length < 7) (hb9 : ∀ x ∈ bs, x < 256) (hl0 : sig.length < 3) (hl2 : suf.length < 3) :
    MetFree l (⟨"com/example/gumzo/gumzo/core/TaggedBase64", "encode", "(Ljava/lang/String;[BLjava/lang/String;)Ljava/lang/String;"⟩ : MethodName) (head1 (Jvm.Cond.code (⟨"com/example/gumzo/gumzo/core/TaggedBase64", "encode", "(Ljava/lang/String;[BLjava/lang/String;)Ljava/lang/String;"⟩ : MethodName) prog_5_method_2_code 9 (some (.object "java/lang/String")) :: ws) ({ frames := 6, cells := 6, slots := 64, locals := 88 } : Room)) (fun a U => a = #[(.ref a1), (.ref a2), (.ref a3)] ∧ Z.Warmed39 U.vm ∧ U.heap = h0 ∧ CHv Z ELs U.vm h0) (fun _ _ _ _ _ => True) (fun _ U o U' => ∃ v L, o = .returned v ∧ QS Z (encL bs.length sig.length suf.length sig bs suf) h0 n0 v U'.heap L ∧ CHr Z ELs U.vm U.heap U'.vm U'.heap ∧ ReturnedEndW U o U' L ({ frames := 6, cells := 6, slots := 64, locals := 88 } : Room).cells ({ frames := 6, cells := 6, slots := 64, locals := 88 } : Room).slots) := by
  refine MetFree.of_bodySF (plainFor_of_name pn_5) hisR ?_
  intro p e s m args below meth c s₁ Bd hml0 hP hK
  obtain ⟨rfl, hZ, hh, hCH⟩ := hP
  have hx := Bd.exec
  have hby := Bd.bytes
  have hml : c.maxLocals = 9 := hml0
  have hown : s.vm.findClass "com/example/gumzo/gumzo/core/TaggedBase64" = some m.cls := findClass_of_methodNamed Bd.named
  have hnm := (name_of_methodNamed Bd.named Bd.method).1
  have X0 : Stand p l e ({ frames := 6, cells := 6, slots := 64, locals := 88 } : Room) s m #[(.ref a1), (.ref a2), (.ref a3)] below meth c s₁ [] 0 0 := Stand.of_body Bd
  have e0 : s₁.heap = h0 := by rw [← hh, Bd.state]; rfl
  have N0 := Fr.nil n0
  have pre0 : ∀ t, Steps p.tables e below (s₁.setTop (mkF m 0 #[.val (.ref a1), .val (.ref a2), .val (.ref a3), .unset, .unset, .unset, .unset, .unset, .unset] [])) t → Steps p.tables e below (s₁.setTop (entryFrame m #[(.ref a1), (.ref a2), (.ref a3)] 9)) t := fun t_ k_ => castTop (ef_5 m a1 a2 a3) k_
  have hEL := own_ew hw
  have d3 := own_d3 bs.length (by omega)
  have st0 := s5a (.val (.ref a1)) a2 (.val (.ref a3)) .unset .unset .unset .unset .unset .unset bs X0 hx hZ hby e0 One.u One.u Abs (by omega)
  rw [d3.1, d3.2.1] at st0
  obtain ⟨T1, h1, L1, b6, X1, e1, N1, g6, z6, K1, A1, st1⟩ := t5b a1 a2 a3 (.val (.int (Int32.ofNat (bs.length / 3)))) (.val (.int (Int32.ofNat (bs.length - 3 * (bs.length / 3))))) .unset .unset .unset .unset bs sig suf n0 X0 hx hZ hw hby hml hown e0 One.u N0 Z0 D S0 S2 Abs hbl hl0 hl2
  have hwo : w ≠ b6 := Nat.ne_of_lt (Nat.lt_of_lt_of_le Aw.lt z6)
  have D1 := D.keep K1 own_ns0
  have Ab1 := Abs.keep K1 (by simp)
  obtain ⟨T2, h2, L2, X2, e2, N2, K2, A2, st2⟩ := t5c a1 (.val (.ref a2)) (.val (.ref a3)) (.val (.int (Int32.ofNat (bs.length / 3)))) (.val (.int (Int32.ofNat (bs.length - 3 * (bs.length / 3))))) b6 .unset .unset .unset sig _ n0 X1 hx hZ hw hby hml hown e1 One.u One.u N1 (Nat.le_trans Z0 K1.1) D1 (S0.keep K1) A1 hl0 (by rw [List.length_replicate]; omega) (by rw [List.length_replicate]; omega) g6
  have D2 := D1.keep K2 A1.nost
  have S22 := (S2.keep K1).keepc K2 A1
  have Ab2 := Ab1.keep K2 (by simpa using own_dis Ab1 A1 (fun q => nomatch q))
  have Sw2 := own_stk K2 A1.nost (own_stk K1 own_ns0 Sw)
  have Aw2 := (Aw.keep K1 (by simp)).keep K2 (by simpa using hwo)
  have l2 : (blit (List.replicate (sig.length + 4 * ((bs.length + 2) / 3) + suf.length) 0) 0 sig).length = sig.length + 4 * ((bs.length + 2) / 3) + suf.length := by rw [own_blen, List.length_replicate]
  obtain ⟨T3, h3, L3, s8', O8, X3, e3, N3, K3, A3, st3⟩ := lp5 a2 b6 w bs (bs.length / 3) n0 hx hZ hw hby hml hown (by omega) hb9 (by omega) (by omega) g6 hwo (.val (.ref a1)) (.val (.ref a3)) (.val (.int (Int32.ofNat (bs.length - 3 * (bs.length / 3))))) (bs.length / 3) 0 sig.length _ .unset One.u X2 e2 N2 (Nat.le_trans Z0 (Nat.le_trans K1.1 K2.1)) Ab2 Sw2 Aw2 A2 (by rw [l2]; omega) (by omega) (by rw [l2]; omega)
  have D3 := D2.keep K3 A2.nost
  have S23 := S22.keepc K3 A2
  have Ab3 := Ab2.keep K3 (by simpa using own_dis Ab2 A2 (fun q => nomatch q))
  have Sw3 := own_stk K3 A2.nost Sw2
  have Aw3 := Aw2.keep K3 (by simpa using hwo)
  obtain ⟨T4, h4, L4, s7', X4, e4, N4, K4, A4, st4⟩ := p5r a2 b6 w bs (bs.length / 3) (bs.length - 3 * (bs.length / 3)) (sig.length + 4 * (bs.length / 3)) n0 _ (.val (.ref a1)) (.val (.ref a3)) (.val (.int (Int32.ofNat (0 + 3 * (bs.length / 3))))) s8' hx hZ hw hby hml hown (by omega) hb9 (by omega) (by omega) (by omega) g6 hwo (One.val rfl) X3 e3 N3 (Nat.le_trans Z0 (Nat.le_trans K1.1 (Nat.le_trans K2.1 K3.1))) Ab3 Sw3 Aw3 A3 (by rw [own_tlen, l2]; omega) (by rw [own_tlen, l2]; split <;> omega)
  have D4 := D3.keep K4 A3.nost
  have S24 := S23.keepc K4 A3
  obtain ⟨T11, h11, L11, X11, e11, N11, K11, A11, st11⟩ := t5s (.val (.ref a1)) (.val (.ref a2)) a3 (.val (.int (Int32.ofNat (bs.length / 3)))) (.val (.int (Int32.ofNat (bs.length - 3 * (bs.length / 3))))) b6 s7' s8' (sig.length + 4 * (bs.length / 3) + (if bs.length - 3 * (bs.length / 3) = 0 then 0 else 4)) suf _ n0 X4 hx hZ hw hby hml hown e4 N4 (Nat.le_trans Z0 (Nat.le_trans K1.1 (Nat.le_trans K2.1 (Nat.le_trans K3.1 K4.1)))) D4 S24 A4 hl2 (by rw [own_rlen, own_tlen, l2]; omega) (by rw [own_rlen, own_tlen, l2]; split <;> omega) g6
  have KA : Keep h0 h11 [] := own_kn (own_kn (own_kn (own_kn K1 K2 z6) K3 z6) K4 z6) K11 z6
  obtain ⟨T12, h12, X12, e12, E12, A12, D12, -, st12⟩ := newO X11 hx hZ hown (hw _ (List.mem_of_getElem? (i := 74) rfl)) (hw _ (List.mem_of_getElem? (i := 7) rfl)) (hw _ (List.mem_of_getElem? (i := 8) rfl)) rfl (g := (mkF m 311 #[.val (.ref a1), .val (.ref a2), .val (.ref a3), .val (.int (Int32.ofNat (bs.length / 3))), .val (.int (Int32.ofNat (bs.length - 3 * (bs.length / 3)))), .val (.ref b6), .val (.int (Int32.ofNat (sig.length + 4 * (bs.length / 3) + (if bs.length - 3 * (bs.length / 3) = 0 then 0 else 4)))), s7', s8'] [])) rfl (hb hby d5_311) (by decide) (by decide)
  obtain ⟨b12, g12⟩ : ∃ z, z = T11.heap.size := ⟨_, rfl⟩
  rw [← g12] at A12 D12 st12
  have F_value_b12 : Fld Z h12 b12 "java/lang/String" "value" "[B" .null := D12 (Or.inr (hw _ (List.mem_of_getElem? (i := 21) rfl))) (ty := (.array .byte)) (by decide)
  have F_coder_b12 : Fld Z h12 b12 "java/lang/String" "coder" "B" (.int (0 : Int32)) := D12 (Or.inr (hw _ (List.mem_of_getElem? (i := 22) rfl))) (ty := .byte) (by decide)
  have E_b12 := A12
  have K12 : Keep h0 h12 [] := (e11 ▸ KA).ext E12
  have g_b12 : n0 ≤ b12 := by rw [g12, e11]; exact Nat.le_trans Z0 KA.1
  have sz12 : h0.size ≤ b12 := by rw [g12, e11]; exact KA.1
  obtain ⟨_, _, ⟨T13, L13, k13, n13⟩, -, X13, hS13, hg13, ⟨Lc13, hQ13, l13, y13, z13, hC13⟩, st13⟩ := X12.specialBackS hx (y := (⟨"java/lang/String", "<init>", "([C)V"⟩ : MethodName)) rfl hown (mvT hZ (hw _ (List.mem_of_getElem? (i := 75) rfl))) (mvT hZ (hw _ (List.mem_of_getElem? (i := 11) rfl))) (mvT hZ (hw _ (List.mem_of_getElem? (i := 12) rfl))) (by decide) (backOfSH (s := s) (vm0 := s.vm) (W := 1) (rm2 l Z a0 hw [] b12 b6 (encL bs.length sig.length suf.length sig bs suf) _ h12 n0 (Nat.le_trans Z0 K12.1) (D.keep K12 own_ns0) E_b12 F_value_b12 g_b12 F_coder_b12 (Av.ext E12 (e11 ▸ A11)) (by rw [own_enl]; omega) (own_enb _ _ _ _ (fun x hx => S0.lt x hx) (fun x hx => S2.lt x hx))) hZ (hw _ (List.mem_of_getElem? (i := 12) rfl)) (hw _ (List.mem_of_getElem? (i := 8) rfl)) (by decide) (by decide) hEL (CHv.keep K12 (fun _ q => nomatch q) hCH)) (g := (mkF m 317 #[.val (.ref a1), .val (.ref a2), .val (.ref a3), .val (.int (Int32.ofNat (bs.length / 3))), .val (.int (Int32.ofNat (bs.length - 3 * (bs.length / 3)))), .val (.ref b6), .val (.int (Int32.ofNat (sig.length + 4 * (bs.length / 3) + (if bs.length - 3 * (bs.length / 3) = 0 then 0 else 4)))), s7', s8'] [(.ref b6), (.ref b12), (.ref b12)])) rfl (by rw [hml]; rfl) (Steps.refl _) (a := b12) (argsL := [(.ref b6)]) (rest := [(.ref b12)]) (lenOf pd_5_1 rfl) rfl (by show 2 * 0 + _ ≤ _; exact Nat.le_of_eq rfl) (hb hby d5_317) (fun _ _ => ⟨rfl, e12, (by decide : 2 + 4 ≤ _), (by decide : 4 + 60 ≤ _)⟩)
  dsimp only [Pt.U, Pt.locs, Pt.cells, Pt.slots] at X13 hS13 hg13 hC13 l13 y13 z13 st13 hQ13
  subst l13 y13 z13
  obtain ⟨rfl, N13q, K13, S13⟩ := hQ13
  have N13 := Fr.app N11 N13q
  obtain ⟨fs, hr, hrun, hended, hend⟩ := X13.leaveW hS13 (Nat.le_refl _) (v := some (.ref b12)) (fun h => by rw [Bd.returns] at h; cases h)
  refine ⟨_, _, pre0 _ ?_, hrun, hended, _, _, rfl, ?_, ?_, hend.1, hend.2.1, hend.2.2.1, hend.2.2.2.mono (by decide) (by decide)⟩
  · refine st0 _ ?_
    refine st1 _ ?_
    refine st2 _ ?_
    refine st3 _ ?_
    refine s5x _ _ _ _ _ _ _ _ _ X3 hx hZ hby e3 (by rw [own_m3 _ (by omega), Nat.zero_add]; exact own_nlt (Nat.le_refl _) (by omega)) _ ?_
    refine st4 _ ?_
    refine st11 _ ?_
    show Steps p.tables e below (T11.setTop (mkF m 311 #[.val (.ref a1), .val (.ref a2), .val (.ref a3), .val (.int (Int32.ofNat (bs.length / 3))), .val (.int (Int32.ofNat (bs.length - 3 * (bs.length / 3)))), .val (.ref b6), .val (.int (Int32.ofNat (sig.length + 4 * (bs.length / 3) + (if bs.length - 3 * (bs.length / 3) = 0 then 0 else 4)))), s7', s8'] [])) _
    refine st12 _ ?_
    refine XS.dup X12.here hx rfl (hb hby d5_314) rfl rfl ?_
    refine XS.aload X12.here hx rfl (hb hby d5_315) rfl rfl ?_
    refine st13.trans ?_
    show Steps p.tables e below (T13.setTop (mkF m 320 #[.val (.ref a1), .val (.ref a2), .val (.ref a3), .val (.int (Int32.ofNat (bs.length / 3))), .val (.int (Int32.ofNat (bs.length - 3 * (bs.length / 3)))), .val (.ref b6), .val (.int (Int32.ofNat (sig.length + 4 * (bs.length / 3) + (if bs.length - 3 * (bs.length / 3) = 0 then 0 else 4)))), s7', s8'] [(.ref b12)])) _
    jvm_step X13.here [X13.here.top, hx, (hb hby d5_320), X13.method', Bd.returns, Value.isRef, FieldType.isReference]
    first | (intro acts; rw [hr _ acts rfl rfl rfl]) | rw [hr _ _ rfl rfl rfl]
    exact Steps.refl _
  · show QS Z (encL bs.length sig.length suf.length sig bs suf) h0 n0 _ T13.heap _
    exact ⟨b12, rfl, N13, g_b12, sz12, own_kn K12 K13 sz12, S13⟩
  · rw [hh]; exact (CHr.keep K12 (fun _ q => nomatch q) hCH).trans hC13
theorem os0_7 {z0 : Value} {z1 : Value} {z2 : Value} {z3 : Value} {z4 : Value} {s5 : Slot} {s6 : Slot} {s7 : Slot} {s8 : Slot} {s9 : Slot} {s10 : Slot} {s11 : Slot} {s12 : Slot} {s13 : Slot} {s14 : Slot} {s15 : Slot} {s16 : Slot} {s17 : Slot} {s18 : Slot} {s19 : Slot} {s20 : Slot} {s21 : Slot} {s22 : Slot} {s23 : Slot} {s24 : Slot} {v : Int32} (h : One s5) : storeLocals #[.val z0, .val z1, .val z2, .val z3, .val z4, s5, s6, s7, s8, s9, s10, s11, s12, s13, s14, s15, s16, s17, s18, s19, s20, s21, s22, s23, s24] 5 (.int v) = some #[.val z0, .val z1, .val z2, .val z3, .val z4, .val (.int v), s6, s7, s8, s9, s10, s11, s12, s13, s14, s15, s16, s17, s18, s19, s20, s21, s22, s23, s24] := by
  rcases h with rfl | ⟨w, rfl, hw⟩
  · rfl
  · cases w <;> first | rfl | (simp [Value.category] at hw)
theorem os0_19 {z0 : Value} {z1 : Value} {z2 : Value} {z3 : Value} {z4 : Value} {z5 : Value} {s6 : Slot} {s7 : Slot} {s8 : Slot} {s9 : Slot} {s10 : Slot} {s11 : Slot} {s12 : Slot} {s13 : Slot} {s14 : Slot} {s15 : Slot} {s16 : Slot} {s17 : Slot} {s18 : Slot} {s19 : Slot} {s20 : Slot} {s21 : Slot} {s22 : Slot} {s23 : Slot} {s24 : Slot} {v : Int32} (h : One s6) : storeLocals #[.val z0, .val z1, .val z2, .val z3, .val z4, .val z5, s6, s7, s8, s9, s10, s11, s12, s13, s14, s15, s16, s17, s18, s19, s20, s21, s22, s23, s24] 6 (.int v) = some #[.val z0, .val z1, .val z2, .val z3, .val z4, .val z5, .val (.int v), s7, s8, s9, s10, s11, s12, s13, s14, s15, s16, s17, s18, s19, s20, s21, s22, s23, s24] := by
  rcases h with rfl | ⟨w, rfl, hw⟩
  · rfl
  · cases w <;> first | rfl | (simp [Value.category] at hw)
theorem os0_30 {z0 : Value} {z1 : Value} {z2 : Value} {z3 : Value} {z4 : Value} {z5 : Value} {z6 : Value} {s7 : Slot} {s8 : Slot} {s9 : Slot} {s10 : Slot} {s11 : Slot} {s12 : Slot} {s13 : Slot} {s14 : Slot} {s15 : Slot} {s16 : Slot} {s17 : Slot} {s18 : Slot} {s19 : Slot} {s20 : Slot} {s21 : Slot} {s22 : Slot} {s23 : Slot} {s24 : Slot} {v : Int32} (h : One s7) : storeLocals #[.val z0, .val z1, .val z2, .val z3, .val z4, .val z5, .val z6, s7, s8, s9, s10, s11, s12, s13, s14, s15, s16, s17, s18, s19, s20, s21, s22, s23, s24] 7 (.int v) = some #[.val z0, .val z1, .val z2, .val z3, .val z4, .val z5, .val z6, .val (.int v), s8, s9, s10, s11, s12, s13, s14, s15, s16, s17, s18, s19, s20, s21, s22, s23, s24] := by
  rcases h with rfl | ⟨w, rfl, hw⟩
  · rfl
  · cases w <;> first | rfl | (simp [Value.category] at hw)
theorem os0_37 {z0 : Value} {z1 : Value} {z2 : Value} {z3 : Value} {z4 : Value} {z5 : Value} {z6 : Value} {z7 : Value} {s8 : Slot} {s9 : Slot} {s10 : Slot} {s11 : Slot} {s12 : Slot} {s13 : Slot} {s14 : Slot} {s15 : Slot} {s16 : Slot} {s17 : Slot} {s18 : Slot} {s19 : Slot} {s20 : Slot} {s21 : Slot} {s22 : Slot} {s23 : Slot} {s24 : Slot} {v : Int32} (h : One s8) : storeLocals #[.val z0, .val z1, .val z2, .val z3, .val z4, .val z5, .val z6, .val z7, s8, s9, s10, s11, s12, s13, s14, s15, s16, s17, s18, s19, s20, s21, s22, s23, s24] 8 (.int v) = some #[.val z0, .val z1, .val z2, .val z3, .val z4, .val z5, .val z6, .val z7, .val (.int v), s9, s10, s11, s12, s13, s14, s15, s16, s17, s18, s19, s20, s21, s22, s23, s24] := by
  rcases h with rfl | ⟨w, rfl, hw⟩
  · rfl
  · cases w <;> first | rfl | (simp [Value.category] at hw)
theorem os0_44 {z0 : Value} {z1 : Value} {z2 : Value} {z3 : Value} {z4 : Value} {z5 : Value} {z6 : Value} {z7 : Value} {z8 : Value} {s9 : Slot} {s10 : Slot} {s11 : Slot} {s12 : Slot} {s13 : Slot} {s14 : Slot} {s15 : Slot} {s16 : Slot} {s17 : Slot} {s18 : Slot} {s19 : Slot} {s20 : Slot} {s21 : Slot} {s22 : Slot} {s23 : Slot} {s24 : Slot} {v : Int32} (h : One s9) : storeLocals #[.val z0, .val z1, .val z2, .val z3, .val z4, .val z5, .val z6, .val z7, .val z8, s9, s10, s11, s12, s13, s14, s15, s16, s17, s18, s19, s20, s21, s22, s23, s24] 9 (.int v) = some #[.val z0, .val z1, .val z2, .val z3, .val z4, .val z5, .val z6, .val z7, .val z8, .val (.int v), s10, s11, s12, s13, s14, s15, s16, s17, s18, s19, s20, s21, s22, s23, s24] := by
  rcases h with rfl | ⟨w, rfl, hw⟩
  · rfl
  · cases w <;> first | rfl | (simp [Value.category] at hw)
theorem os0_52 {z0 : Value} {z1 : Value} {z2 : Value} {z3 : Value} {z4 : Value} {z5 : Value} {z6 : Value} {z7 : Value} {z8 : Value} {z9 : Value} {s10 : Slot} {s11 : Slot} {s12 : Slot} {s13 : Slot} {s14 : Slot} {s15 : Slot} {s16 : Slot} {s17 : Slot} {s18 : Slot} {s19 : Slot} {s20 : Slot} {s21 : Slot} {s22 : Slot} {s23 : Slot} {s24 : Slot} {v : Int32} (h : One s10) : storeLocals #[.val z0, .val z1, .val z2, .val z3, .val z4, .val z5, .val z6, .val z7, .val z8, .val z9, s10, s11, s12, s13, s14, s15, s16, s17, s18, s19, s20, s21, s22, s23, s24] 10 (.int v) = some #[.val z0, .val z1, .val z2, .val z3, .val z4, .val z5, .val z6, .val z7, .val z8, .val z9, .val (.int v), s11, s12, s13, s14, s15, s16, s17, s18, s19, s20, s21, s22, s23, s24] := by
  rcases h with rfl | ⟨w, rfl, hw⟩
  · rfl
  · cases w <;> first | rfl | (simp [Value.category] at hw)
theorem os0_60 {z0 : Value} {z1 : Value} {z2 : Value} {z3 : Value} {z4 : Value} {z5 : Value} {z6 : Value} {z7 : Value} {z8 : Value} {z9 : Value} {z10 : Value} {s11 : Slot} {s12 : Slot} {s13 : Slot} {s14 : Slot} {s15 : Slot} {s16 : Slot} {s17 : Slot} {s18 : Slot} {s19 : Slot} {s20 : Slot} {s21 : Slot} {s22 : Slot} {s23 : Slot} {s24 : Slot} {v : Int32} (h : One s11) : storeLocals #[.val z0, .val z1, .val z2, .val z3, .val z4, .val z5, .val z6, .val z7, .val z8, .val z9, .val z10, s11, s12, s13, s14, s15, s16, s17, s18, s19, s20, s21, s22, s23, s24] 11 (.int v) = some #[.val z0, .val z1, .val z2, .val z3, .val z4, .val z5, .val z6, .val z7, .val z8, .val z9, .val z10, .val (.int v), s12, s13, s14, s15, s16, s17, s18, s19, s20, s21, s22, s23, s24] := by
  rcases h with rfl | ⟨w, rfl, hw⟩
  · rfl
  · cases w <;> first | rfl | (simp [Value.category] at hw)
theorem os0_67 {z0 : Value} {z1 : Value} {z2 : Value} {z3 : Value} {z4 : Value} {z5 : Value} {z6 : Value} {z7 : Value} {z8 : Value} {z9 : Value} {z10 : Value} {z11 : Value} {s12 : Slot} {s13 : Slot} {s14 : Slot} {s15 : Slot} {s16 : Slot} {s17 : Slot} {s18 : Slot} {s19 : Slot} {s20 : Slot} {s21 : Slot} {s22 : Slot} {s23 : Slot} {s24 : Slot} {v : Int32} (h : One s12) : storeLocals #[.val z0, .val z1, .val z2, .val z3, .val z4, .val z5, .val z6, .val z7, .val z8, .val z9, .val z10, .val z11, s12, s13, s14, s15, s16, s17, s18, s19, s20, s21, s22, s23, s24] 12 (.int v) = some #[.val z0, .val z1, .val z2, .val z3, .val z4, .val z5, .val z6, .val z7, .val z8, .val z9, .val z10, .val z11, .val (.int v), s13, s14, s15, s16, s17, s18, s19, s20, s21, s22, s23, s24] := by
  rcases h with rfl | ⟨w, rfl, hw⟩
  · rfl
  · cases w <;> first | rfl | (simp [Value.category] at hw)
theorem os0_77 {z0 : Value} {z1 : Value} {z2 : Value} {z3 : Value} {z4 : Value} {z5 : Value} {z6 : Value} {z7 : Value} {z8 : Value} {z9 : Value} {z10 : Value} {z11 : Value} {z12 : Value} {s13 : Slot} {s14 : Slot} {s15 : Slot} {s16 : Slot} {s17 : Slot} {s18 : Slot} {s19 : Slot} {s20 : Slot} {s21 : Slot} {s22 : Slot} {s23 : Slot} {s24 : Slot} {v : Int32} (h : One s13) : storeLocals #[.val z0, .val z1, .val z2, .val z3, .val z4, .val z5, .val z6, .val z7, .val z8, .val z9, .val z10, .val z11, .val z12, s13, s14, s15, s16, s17, s18, s19, s20, s21, s22, s23, s24] 13 (.int v) = some #[.val z0, .val z1, .val z2, .val z3, .val z4, .val z5, .val z6, .val z7, .val z8, .val z9, .val z10, .val z11, .val z12, .val (.int v), s14, s15, s16, s17, s18, s19, s20, s21, s22, s23, s24] := by
  rcases h with rfl | ⟨w, rfl, hw⟩
  · rfl
  · cases w <;> first | rfl | (simp [Value.category] at hw)
theorem os0_87 {z0 : Value} {z1 : Value} {z2 : Value} {z3 : Value} {z4 : Value} {z5 : Value} {z6 : Value} {z7 : Value} {z8 : Value} {z9 : Value} {z10 : Value} {z11 : Value} {z12 : Value} {z13 : Value} {s14 : Slot} {s15 : Slot} {s16 : Slot} {s17 : Slot} {s18 : Slot} {s19 : Slot} {s20 : Slot} {s21 : Slot} {s22 : Slot} {s23 : Slot} {s24 : Slot} {v : Int32} (h : One s14) : storeLocals #[.val z0, .val z1, .val z2, .val z3, .val z4, .val z5, .val z6, .val z7, .val z8, .val z9, .val z10, .val z11, .val z12, .val z13, s14, s15, s16, s17, s18, s19, s20, s21, s22, s23, s24] 14 (.int v) = some #[.val z0, .val z1, .val z2, .val z3, .val z4, .val z5, .val z6, .val z7, .val z8, .val z9, .val z10, .val z11, .val z12, .val z13, .val (.int v), s15, s16, s17, s18, s19, s20, s21, s22, s23, s24] := by
  rcases h with rfl | ⟨w, rfl, hw⟩
  · rfl
  · cases w <;> first | rfl | (simp [Value.category] at hw)
theorem os0_94 {z0 : Value} {z1 : Value} {z2 : Value} {z3 : Value} {z4 : Value} {z5 : Value} {z6 : Value} {z7 : Value} {z8 : Value} {z9 : Value} {z10 : Value} {z11 : Value} {z12 : Value} {z13 : Value} {z14 : Value} {s15 : Slot} {s16 : Slot} {s17 : Slot} {s18 : Slot} {s19 : Slot} {s20 : Slot} {s21 : Slot} {s22 : Slot} {s23 : Slot} {s24 : Slot} {v : Int32} (h : One s15) : storeLocals #[.val z0, .val z1, .val z2, .val z3, .val z4, .val z5, .val z6, .val z7, .val z8, .val z9, .val z10, .val z11, .val z12, .val z13, .val z14, s15, s16, s17, s18, s19, s20, s21, s22, s23, s24] 15 (.int v) = some #[.val z0, .val z1, .val z2, .val z3, .val z4, .val z5, .val z6, .val z7, .val z8, .val z9, .val z10, .val z11, .val z12, .val z13, .val z14, .val (.int v), s16, s17, s18, s19, s20, s21, s22, s23, s24] := by
  rcases h with rfl | ⟨w, rfl, hw⟩
  · rfl
  · cases w <;> first | rfl | (simp [Value.category] at hw)
theorem os0_104 {z0 : Value} {z1 : Value} {z2 : Value} {z3 : Value} {z4 : Value} {z5 : Value} {z6 : Value} {z7 : Value} {z8 : Value} {z9 : Value} {z10 : Value} {z11 : Value} {z12 : Value} {z13 : Value} {z14 : Value} {z15 : Value} {s16 : Slot} {s17 : Slot} {s18 : Slot} {s19 : Slot} {s20 : Slot} {s21 : Slot} {s22 : Slot} {s23 : Slot} {s24 : Slot} {v : Int32} (h : One s16) : storeLocals #[.val z0, .val z1, .val z2, .val z3, .val z4, .val z5, .val z6, .val z7, .val z8, .val z9, .val z10, .val z11, .val z12, .val z13, .val z14, .val z15, s16, s17, s18, s19, s20, s21, s22, s23, s24] 16 (.int v) = some #[.val z0, .val z1, .val z2, .val z3, .val z4, .val z5, .val z6, .val z7, .val z8, .val z9, .val z10, .val z11, .val z12, .val z13, .val z14, .val z15, .val (.int v), s17, s18, s19, s20, s21, s22, s23, s24] := by
  rcases h with rfl | ⟨w, rfl, hw⟩
  · rfl
  · cases w <;> first | rfl | (simp [Value.category] at hw)
theorem os0_114 {z0 : Value} {z1 : Value} {z2 : Value} {z3 : Value} {z4 : Value} {z5 : Value} {z6 : Value} {z7 : Value} {z8 : Value} {z9 : Value} {z10 : Value} {z11 : Value} {z12 : Value} {z13 : Value} {z14 : Value} {z15 : Value} {z16 : Value} {s17 : Slot} {s18 : Slot} {s19 : Slot} {s20 : Slot} {s21 : Slot} {s22 : Slot} {s23 : Slot} {s24 : Slot} {v : Int32} (h : One s17) : storeLocals #[.val z0, .val z1, .val z2, .val z3, .val z4, .val z5, .val z6, .val z7, .val z8, .val z9, .val z10, .val z11, .val z12, .val z13, .val z14, .val z15, .val z16, s17, s18, s19, s20, s21, s22, s23, s24] 17 (.int v) = some #[.val z0, .val z1, .val z2, .val z3, .val z4, .val z5, .val z6, .val z7, .val z8, .val z9, .val z10, .val z11, .val z12, .val z13, .val z14, .val z15, .val z16, .val (.int v), s18, s19, s20, s21, s22, s23, s24] := by
  rcases h with rfl | ⟨w, rfl, hw⟩
  · rfl
  · cases w <;> first | rfl | (simp [Value.category] at hw)
set_option maxRecDepth 65536 in
set_option maxHeartbeats 40000000 in
theorem w0 {p : Program} {l : Launch} {e : Env} {R : Room} {s : State} {m : MethodId} {args : Array Value} {below : List Frame} {meth : Method} {c : Code} {T0 : State} {locs : List Loc} {cells slots : Nat} {Z : State} {h0 : Heap} {a0 : Array Value} (i0 : Int32) (i1 : Int32) (i2 : Int32) (i3 : Int32) (i4 : Int32) (s5 : Slot) (s6 : Slot) (s7 : Slot) (s8 : Slot) (s9 : Slot) (s10 : Slot) (s11 : Slot) (s12 : Slot) (s13 : Slot) (s14 : Slot) (s15 : Slot) (s16 : Slot) (s17 : Slot) (s18 : Slot) (s19 : Slot) (s20 : Slot) (s21 : Slot) (s22 : Slot) (s23 : Slot) (s24 : Slot) 
    (X0 : Stand p l e R s m args below meth c T0 locs cells slots) (hx : p.tables.exec = Jvm.exec) (hZ : Z.Warmed39 s.vm) (hw : ∀ d ∈ tables_1, d.before a0 Z = true) (hby : c.code = code) (hown : s.vm.findClass "com/example/gumzo/gumzo/core/TaggedBase64EncodePinLaw" = some m.cls) (e0 : T0.heap = h0) (hs5 : One s5) (hs6 : One s6) (hs7 : One s7) (hs8 : One s8) (hs9 : One s9) (hs10 : One s10) (hs11 : One s11) (hs12 : One s12) (hs13 : One s13) (hs14 : One s14) (hs15 : One s15) (hs16 : One s16) (hs17 : One s17)  :
    ∀ target, Steps p.tables e below (T0.setTop (mkF m 116 #[.val (.int i0), .val (.int i1), .val (.int i2), .val (.int i3), .val (.int i4), .val (.int ((i0 &&& (65535 : Int32)) % (7 : Int32))), .val (.int ((((i0.toUInt32 >>> ((16 : Int32) &&& 31).toUInt32).toInt32) &&& (255 : Int32)) % (3 : Int32))), .val (.int ((((i0.toUInt32 >>> ((24 : Int32) &&& 31).toUInt32).toInt32) &&& (127 : Int32)) % (3 : Int32))), .val (.int ((i3 &&& (65535 : Int32)).toUInt32.toUInt16.toUInt32.toInt32)), .val (.int (((i3.toUInt32 >>> ((16 : Int32) &&& 31).toUInt32).toInt32).toUInt32.toUInt16.toUInt32.toInt32)), .val (.int ((i4 &&& (65535 : Int32)).toUInt32.toUInt16.toUInt32.toInt32)), .val (.int (((i4.toUInt32 >>> ((16 : Int32) &&& 31).toUInt32).toInt32).toUInt32.toUInt16.toUInt32.toInt32)), .val (.int (i1 &&& (255 : Int32))), .val (.int (((i1.toUInt32 >>> ((8 : Int32) &&& 31).toUInt32).toInt32) &&& (255 : Int32))), .val (.int (((i1.toUInt32 >>> ((16 : Int32) &&& 31).toUInt32).toInt32) &&& (255 : Int32))), .val (.int (i2 &&& (255 : Int32))), .val (.int (((i2.toUInt32 >>> ((8 : Int32) &&& 31).toUInt32).toInt32) &&& (255 : Int32))), .val (.int (((i2.toUInt32 >>> ((16 : Int32) &&& 31).toUInt32).toInt32) &&& (255 : Int32))), s18, s19, s20, s21, s22, s23, s24] [])) target → Steps p.tables e below (T0.setTop (mkF m 0 #[.val (.int i0), .val (.int i1), .val (.int i2), .val (.int i3), .val (.int i4), s5, s6, s7, s8, s9, s10, s11, s12, s13, s14, s15, s16, s17, s18, s19, s20, s21, s22, s23, s24] [])) target := by
  intro target kt
  show Steps p.tables e below (T0.setTop (mkF m 0 #[.val (.int i0), .val (.int i1), .val (.int i2), .val (.int i3), .val (.int i4), s5, s6, s7, s8, s9, s10, s11, s12, s13, s14, s15, s16, s17, s18, s19, s20, s21, s22, s23, s24] [])) _
  refine XS.iloadN X0.here hx rfl (hb hby at_0) rfl ?_
  show Steps p.tables e below (T0.setTop (mkF m 1 #[.val (.int i0), .val (.int i1), .val (.int i2), .val (.int i3), .val (.int i4), s5, s6, s7, s8, s9, s10, s11, s12, s13, s14, s15, s16, s17, s18, s19, s20, s21, s22, s23, s24] [(.int i0)])) _
  refine X0.ldcInt hx hown (mvT hZ (hw _ (List.mem_of_getElem? (i := 0) rfl))) (g := (mkF m 1 #[.val (.int i0), .val (.int i1), .val (.int i2), .val (.int i3), .val (.int i4), s5, s6, s7, s8, s9, s10, s11, s12, s13, s14, s15, s16, s17, s18, s19, s20, s21, s22, s23, s24] [(.int i0)])) rfl (hb hby at_1) _ ?_
  refine XS.iand X0.here hx rfl (hb hby at_3) rfl ?_
  refine XS.bipush X0.here hx rfl (hb hby at_4) ?_
  refine iremM X0 hx rfl (hb hby at_6) rfl (by decide) ?_
  refine XS.istore X0.here hx rfl (hb hby at_7) rfl (l' := #[.val (.int i0), .val (.int i1), .val (.int i2), .val (.int i3), .val (.int i4), .val (.int ((i0 &&& (65535 : Int32)) % (7 : Int32))), s6, s7, s8, s9, s10, s11, s12, s13, s14, s15, s16, s17, s18, s19, s20, s21, s22, s23, s24]) (os0_7 hs5) ?_
  refine XS.iloadN X0.here hx rfl (hb hby at_9) rfl ?_
  refine XS.bipush X0.here hx rfl (hb hby at_10) ?_
  show Steps p.tables e below (T0.setTop (mkF m 12 #[.val (.int i0), .val (.int i1), .val (.int i2), .val (.int i3), .val (.int i4), .val (.int ((i0 &&& (65535 : Int32)) % (7 : Int32))), s6, s7, s8, s9, s10, s11, s12, s13, s14, s15, s16, s17, s18, s19, s20, s21, s22, s23, s24] [(.int (16 : Int32)), (.int i0)])) _
  refine XS.iushr X0.here hx rfl (hb hby at_12) rfl ?_
  refine XS.sipush X0.here hx rfl (hb hby at_13) ?_
  refine XS.iand X0.here hx rfl (hb hby at_16) rfl ?_
  refine XS.iconst X0.here hx rfl (hb hby at_17) ?_
  refine iremM X0 hx rfl (hb hby at_18) rfl (by decide) ?_
  refine XS.istore X0.here hx rfl (hb hby at_19) rfl (l' := #[.val (.int i0), .val (.int i1), .val (.int i2), .val (.int i3), .val (.int i4), .val (.int ((i0 &&& (65535 : Int32)) % (7 : Int32))), .val (.int ((((i0.toUInt32 >>> ((16 : Int32) &&& 31).toUInt32).toInt32) &&& (255 : Int32)) % (3 : Int32))), s7, s8, s9, s10, s11, s12, s13, s14, s15, s16, s17, s18, s19, s20, s21, s22, s23, s24]) (os0_19 hs6) ?_
  refine XS.iloadN X0.here hx rfl (hb hby at_21) rfl ?_
  show Steps p.tables e below (T0.setTop (mkF m 22 #[.val (.int i0), .val (.int i1), .val (.int i2), .val (.int i3), .val (.int i4), .val (.int ((i0 &&& (65535 : Int32)) % (7 : Int32))), .val (.int ((((i0.toUInt32 >>> ((16 : Int32) &&& 31).toUInt32).toInt32) &&& (255 : Int32)) % (3 : Int32))), s7, s8, s9, s10, s11, s12, s13, s14, s15, s16, s17, s18, s19, s20, s21, s22, s23, s24] [(.int i0)])) _
  refine XS.bipush X0.here hx rfl (hb hby at_22) ?_
  refine XS.iushr X0.here hx rfl (hb hby at_24) rfl ?_
  refine XS.bipush X0.here hx rfl (hb hby at_25) ?_
  refine XS.iand X0.here hx rfl (hb hby at_27) rfl ?_
  refine XS.iconst X0.here hx rfl (hb hby at_28) ?_
  refine iremM X0 hx rfl (hb hby at_29) rfl (by decide) ?_
  refine XS.istore X0.here hx rfl (hb hby at_30) rfl (l' := #[.val (.int i0), .val (.int i1), .val (.int i2), .val (.int i3), .val (.int i4), .val (.int ((i0 &&& (65535 : Int32)) % (7 : Int32))), .val (.int ((((i0.toUInt32 >>> ((16 : Int32) &&& 31).toUInt32).toInt32) &&& (255 : Int32)) % (3 : Int32))), .val (.int ((((i0.toUInt32 >>> ((24 : Int32) &&& 31).toUInt32).toInt32) &&& (127 : Int32)) % (3 : Int32))), s8, s9, s10, s11, s12, s13, s14, s15, s16, s17, s18, s19, s20, s21, s22, s23, s24]) (os0_30 hs7) ?_
  show Steps p.tables e below (T0.setTop (mkF m 32 #[.val (.int i0), .val (.int i1), .val (.int i2), .val (.int i3), .val (.int i4), .val (.int ((i0 &&& (65535 : Int32)) % (7 : Int32))), .val (.int ((((i0.toUInt32 >>> ((16 : Int32) &&& 31).toUInt32).toInt32) &&& (255 : Int32)) % (3 : Int32))), .val (.int ((((i0.toUInt32 >>> ((24 : Int32) &&& 31).toUInt32).toInt32) &&& (127 : Int32)) % (3 : Int32))), s8, s9, s10, s11, s12, s13, s14, s15, s16, s17, s18, s19, s20, s21, s22, s23, s24] [])) _
  refine XS.iloadN X0.here hx rfl (hb hby at_32) rfl ?_
  show Steps p.tables e below (T0.setTop (mkF m 33 #[.val (.int i0), .val (.int i1), .val (.int i2), .val (.int i3), .val (.int i4), .val (.int ((i0 &&& (65535 : Int32)) % (7 : Int32))), .val (.int ((((i0.toUInt32 >>> ((16 : Int32) &&& 31).toUInt32).toInt32) &&& (255 : Int32)) % (3 : Int32))), .val (.int ((((i0.toUInt32 >>> ((24 : Int32) &&& 31).toUInt32).toInt32) &&& (127 : Int32)) % (3 : Int32))), s8, s9, s10, s11, s12, s13, s14, s15, s16, s17, s18, s19, s20, s21, s22, s23, s24] [(.int i3)])) _
  refine X0.ldcInt hx hown (mvT hZ (hw _ (List.mem_of_getElem? (i := 0) rfl))) (g := (mkF m 33 #[.val (.int i0), .val (.int i1), .val (.int i2), .val (.int i3), .val (.int i4), .val (.int ((i0 &&& (65535 : Int32)) % (7 : Int32))), .val (.int ((((i0.toUInt32 >>> ((16 : Int32) &&& 31).toUInt32).toInt32) &&& (255 : Int32)) % (3 : Int32))), .val (.int ((((i0.toUInt32 >>> ((24 : Int32) &&& 31).toUInt32).toInt32) &&& (127 : Int32)) % (3 : Int32))), s8, s9, s10, s11, s12, s13, s14, s15, s16, s17, s18, s19, s20, s21, s22, s23, s24] [(.int i3)])) rfl (hb hby at_33) _ ?_
  refine XS.iand X0.here hx rfl (hb hby at_35) rfl ?_
  refine XS.i2c X0.here hx rfl (hb hby at_36) rfl ?_
  refine XS.istore X0.here hx rfl (hb hby at_37) rfl (l' := #[.val (.int i0), .val (.int i1), .val (.int i2), .val (.int i3), .val (.int i4), .val (.int ((i0 &&& (65535 : Int32)) % (7 : Int32))), .val (.int ((((i0.toUInt32 >>> ((16 : Int32) &&& 31).toUInt32).toInt32) &&& (255 : Int32)) % (3 : Int32))), .val (.int ((((i0.toUInt32 >>> ((24 : Int32) &&& 31).toUInt32).toInt32) &&& (127 : Int32)) % (3 : Int32))), .val (.int ((i3 &&& (65535 : Int32)).toUInt32.toUInt16.toUInt32.toInt32)), s9, s10, s11, s12, s13, s14, s15, s16, s17, s18, s19, s20, s21, s22, s23, s24]) (os0_37 hs8) ?_
  refine XS.iloadN X0.here hx rfl (hb hby at_39) rfl ?_
  refine XS.bipush X0.here hx rfl (hb hby at_40) ?_
  refine XS.iushr X0.here hx rfl (hb hby at_42) rfl ?_
  show Steps p.tables e below (T0.setTop (mkF m 43 #[.val (.int i0), .val (.int i1), .val (.int i2), .val (.int i3), .val (.int i4), .val (.int ((i0 &&& (65535 : Int32)) % (7 : Int32))), .val (.int ((((i0.toUInt32 >>> ((16 : Int32) &&& 31).toUInt32).toInt32) &&& (255 : Int32)) % (3 : Int32))), .val (.int ((((i0.toUInt32 >>> ((24 : Int32) &&& 31).toUInt32).toInt32) &&& (127 : Int32)) % (3 : Int32))), .val (.int ((i3 &&& (65535 : Int32)).toUInt32.toUInt16.toUInt32.toInt32)), s9, s10, s11, s12, s13, s14, s15, s16, s17, s18, s19, s20, s21, s22, s23, s24] [(.int ((i3.toUInt32 >>> ((16 : Int32) &&& 31).toUInt32).toInt32))])) _
  refine XS.i2c X0.here hx rfl (hb hby at_43) rfl ?_
  refine XS.istore X0.here hx rfl (hb hby at_44) rfl (l' := #[.val (.int i0), .val (.int i1), .val (.int i2), .val (.int i3), .val (.int i4), .val (.int ((i0 &&& (65535 : Int32)) % (7 : Int32))), .val (.int ((((i0.toUInt32 >>> ((16 : Int32) &&& 31).toUInt32).toInt32) &&& (255 : Int32)) % (3 : Int32))), .val (.int ((((i0.toUInt32 >>> ((24 : Int32) &&& 31).toUInt32).toInt32) &&& (127 : Int32)) % (3 : Int32))), .val (.int ((i3 &&& (65535 : Int32)).toUInt32.toUInt16.toUInt32.toInt32)), .val (.int (((i3.toUInt32 >>> ((16 : Int32) &&& 31).toUInt32).toInt32).toUInt32.toUInt16.toUInt32.toInt32)), s10, s11, s12, s13, s14, s15, s16, s17, s18, s19, s20, s21, s22, s23, s24]) (os0_44 hs9) ?_
  refine XS.iload X0.here hx rfl (hb hby at_46) rfl ?_
  show Steps p.tables e below (T0.setTop (mkF m 48 #[.val (.int i0), .val (.int i1), .val (.int i2), .val (.int i3), .val (.int i4), .val (.int ((i0 &&& (65535 : Int32)) % (7 : Int32))), .val (.int ((((i0.toUInt32 >>> ((16 : Int32) &&& 31).toUInt32).toInt32) &&& (255 : Int32)) % (3 : Int32))), .val (.int ((((i0.toUInt32 >>> ((24 : Int32) &&& 31).toUInt32).toInt32) &&& (127 : Int32)) % (3 : Int32))), .val (.int ((i3 &&& (65535 : Int32)).toUInt32.toUInt16.toUInt32.toInt32)), .val (.int (((i3.toUInt32 >>> ((16 : Int32) &&& 31).toUInt32).toInt32).toUInt32.toUInt16.toUInt32.toInt32)), s10, s11, s12, s13, s14, s15, s16, s17, s18, s19, s20, s21, s22, s23, s24] [(.int i4)])) _
  refine X0.ldcInt hx hown (mvT hZ (hw _ (List.mem_of_getElem? (i := 0) rfl))) (g := (mkF m 48 #[.val (.int i0), .val (.int i1), .val (.int i2), .val (.int i3), .val (.int i4), .val (.int ((i0 &&& (65535 : Int32)) % (7 : Int32))), .val (.int ((((i0.toUInt32 >>> ((16 : Int32) &&& 31).toUInt32).toInt32) &&& (255 : Int32)) % (3 : Int32))), .val (.int ((((i0.toUInt32 >>> ((24 : Int32) &&& 31).toUInt32).toInt32) &&& (127 : Int32)) % (3 : Int32))), .val (.int ((i3 &&& (65535 : Int32)).toUInt32.toUInt16.toUInt32.toInt32)), .val (.int (((i3.toUInt32 >>> ((16 : Int32) &&& 31).toUInt32).toInt32).toUInt32.toUInt16.toUInt32.toInt32)), s10, s11, s12, s13, s14, s15, s16, s17, s18, s19, s20, s21, s22, s23, s24] [(.int i4)])) rfl (hb hby at_48) _ ?_
  refine XS.iand X0.here hx rfl (hb hby at_50) rfl ?_
  refine XS.i2c X0.here hx rfl (hb hby at_51) rfl ?_
  refine XS.istore X0.here hx rfl (hb hby at_52) rfl (l' := #[.val (.int i0), .val (.int i1), .val (.int i2), .val (.int i3), .val (.int i4), .val (.int ((i0 &&& (65535 : Int32)) % (7 : Int32))), .val (.int ((((i0.toUInt32 >>> ((16 : Int32) &&& 31).toUInt32).toInt32) &&& (255 : Int32)) % (3 : Int32))), .val (.int ((((i0.toUInt32 >>> ((24 : Int32) &&& 31).toUInt32).toInt32) &&& (127 : Int32)) % (3 : Int32))), .val (.int ((i3 &&& (65535 : Int32)).toUInt32.toUInt16.toUInt32.toInt32)), .val (.int (((i3.toUInt32 >>> ((16 : Int32) &&& 31).toUInt32).toInt32).toUInt32.toUInt16.toUInt32.toInt32)), .val (.int ((i4 &&& (65535 : Int32)).toUInt32.toUInt16.toUInt32.toInt32)), s11, s12, s13, s14, s15, s16, s17, s18, s19, s20, s21, s22, s23, s24]) (os0_52 hs10) ?_
  refine XS.iload X0.here hx rfl (hb hby at_54) rfl ?_
  refine XS.bipush X0.here hx rfl (hb hby at_56) ?_
  refine XS.iushr X0.here hx rfl (hb hby at_58) rfl ?_
  show Steps p.tables e below (T0.setTop (mkF m 59 #[.val (.int i0), .val (.int i1), .val (.int i2), .val (.int i3), .val (.int i4), .val (.int ((i0 &&& (65535 : Int32)) % (7 : Int32))), .val (.int ((((i0.toUInt32 >>> ((16 : Int32) &&& 31).toUInt32).toInt32) &&& (255 : Int32)) % (3 : Int32))), .val (.int ((((i0.toUInt32 >>> ((24 : Int32) &&& 31).toUInt32).toInt32) &&& (127 : Int32)) % (3 : Int32))), .val (.int ((i3 &&& (65535 : Int32)).toUInt32.toUInt16.toUInt32.toInt32)), .val (.int (((i3.toUInt32 >>> ((16 : Int32) &&& 31).toUInt32).toInt32).toUInt32.toUInt16.toUInt32.toInt32)), .val (.int ((i4 &&& (65535 : Int32)).toUInt32.toUInt16.toUInt32.toInt32)), s11, s12, s13, s14, s15, s16, s17, s18, s19, s20, s21, s22, s23, s24] [(.int ((i4.toUInt32 >>> ((16 : Int32) &&& 31).toUInt32).toInt32))])) _
  refine XS.i2c X0.here hx rfl (hb hby at_59) rfl ?_
  refine XS.istore X0.here hx rfl (hb hby at_60) rfl (l' := #[.val (.int i0), .val (.int i1), .val (.int i2), .val (.int i3), .val (.int i4), .val (.int ((i0 &&& (65535 : Int32)) % (7 : Int32))), .val (.int ((((i0.toUInt32 >>> ((16 : Int32) &&& 31).toUInt32).toInt32) &&& (255 : Int32)) % (3 : Int32))), .val (.int ((((i0.toUInt32 >>> ((24 : Int32) &&& 31).toUInt32).toInt32) &&& (127 : Int32)) % (3 : Int32))), .val (.int ((i3 &&& (65535 : Int32)).toUInt32.toUInt16.toUInt32.toInt32)), .val (.int (((i3.toUInt32 >>> ((16 : Int32) &&& 31).toUInt32).toInt32).toUInt32.toUInt16.toUInt32.toInt32)), .val (.int ((i4 &&& (65535 : Int32)).toUInt32.toUInt16.toUInt32.toInt32)), .val (.int (((i4.toUInt32 >>> ((16 : Int32) &&& 31).toUInt32).toInt32).toUInt32.toUInt16.toUInt32.toInt32)), s12, s13, s14, s15, s16, s17, s18, s19, s20, s21, s22, s23, s24]) (os0_60 hs11) ?_
  refine XS.iloadN X0.here hx rfl (hb hby at_62) rfl ?_
  refine XS.sipush X0.here hx rfl (hb hby at_63) ?_
  refine XS.iand X0.here hx rfl (hb hby at_66) rfl ?_
  refine XS.istore X0.here hx rfl (hb hby at_67) rfl (l' := #[.val (.int i0), .val (.int i1), .val (.int i2), .val (.int i3), .val (.int i4), .val (.int ((i0 &&& (65535 : Int32)) % (7 : Int32))), .val (.int ((((i0.toUInt32 >>> ((16 : Int32) &&& 31).toUInt32).toInt32) &&& (255 : Int32)) % (3 : Int32))), .val (.int ((((i0.toUInt32 >>> ((24 : Int32) &&& 31).toUInt32).toInt32) &&& (127 : Int32)) % (3 : Int32))), .val (.int ((i3 &&& (65535 : Int32)).toUInt32.toUInt16.toUInt32.toInt32)), .val (.int (((i3.toUInt32 >>> ((16 : Int32) &&& 31).toUInt32).toInt32).toUInt32.toUInt16.toUInt32.toInt32)), .val (.int ((i4 &&& (65535 : Int32)).toUInt32.toUInt16.toUInt32.toInt32)), .val (.int (((i4.toUInt32 >>> ((16 : Int32) &&& 31).toUInt32).toInt32).toUInt32.toUInt16.toUInt32.toInt32)), .val (.int (i1 &&& (255 : Int32))), s13, s14, s15, s16, s17, s18, s19, s20, s21, s22, s23, s24]) (os0_67 hs12) ?_
  refine XS.iloadN X0.here hx rfl (hb hby at_69) rfl ?_
  show Steps p.tables e below (T0.setTop (mkF m 70 #[.val (.int i0), .val (.int i1), .val (.int i2), .val (.int i3), .val (.int i4), .val (.int ((i0 &&& (65535 : Int32)) % (7 : Int32))), .val (.int ((((i0.toUInt32 >>> ((16 : Int32) &&& 31).toUInt32).toInt32) &&& (255 : Int32)) % (3 : Int32))), .val (.int ((((i0.toUInt32 >>> ((24 : Int32) &&& 31).toUInt32).toInt32) &&& (127 : Int32)) % (3 : Int32))), .val (.int ((i3 &&& (65535 : Int32)).toUInt32.toUInt16.toUInt32.toInt32)), .val (.int (((i3.toUInt32 >>> ((16 : Int32) &&& 31).toUInt32).toInt32).toUInt32.toUInt16.toUInt32.toInt32)), .val (.int ((i4 &&& (65535 : Int32)).toUInt32.toUInt16.toUInt32.toInt32)), .val (.int (((i4.toUInt32 >>> ((16 : Int32) &&& 31).toUInt32).toInt32).toUInt32.toUInt16.toUInt32.toInt32)), .val (.int (i1 &&& (255 : Int32))), s13, s14, s15, s16, s17, s18, s19, s20, s21, s22, s23, s24] [(.int i1)])) _
  refine XS.bipush X0.here hx rfl (hb hby at_70) ?_
  refine XS.iushr X0.here hx rfl (hb hby at_72) rfl ?_
  refine XS.sipush X0.here hx rfl (hb hby at_73) ?_
  refine XS.iand X0.here hx rfl (hb hby at_76) rfl ?_
  refine XS.istore X0.here hx rfl (hb hby at_77) rfl (l' := #[.val (.int i0), .val (.int i1), .val (.int i2), .val (.int i3), .val (.int i4), .val (.int ((i0 &&& (65535 : Int32)) % (7 : Int32))), .val (.int ((((i0.toUInt32 >>> ((16 : Int32) &&& 31).toUInt32).toInt32) &&& (255 : Int32)) % (3 : Int32))), .val (.int ((((i0.toUInt32 >>> ((24 : Int32) &&& 31).toUInt32).toInt32) &&& (127 : Int32)) % (3 : Int32))), .val (.int ((i3 &&& (65535 : Int32)).toUInt32.toUInt16.toUInt32.toInt32)), .val (.int (((i3.toUInt32 >>> ((16 : Int32) &&& 31).toUInt32).toInt32).toUInt32.toUInt16.toUInt32.toInt32)), .val (.int ((i4 &&& (65535 : Int32)).toUInt32.toUInt16.toUInt32.toInt32)), .val (.int (((i4.toUInt32 >>> ((16 : Int32) &&& 31).toUInt32).toInt32).toUInt32.toUInt16.toUInt32.toInt32)), .val (.int (i1 &&& (255 : Int32))), .val (.int (((i1.toUInt32 >>> ((8 : Int32) &&& 31).toUInt32).toInt32) &&& (255 : Int32))), s14, s15, s16, s17, s18, s19, s20, s21, s22, s23, s24]) (os0_77 hs13) ?_
  refine XS.iloadN X0.here hx rfl (hb hby at_79) rfl ?_
  refine XS.bipush X0.here hx rfl (hb hby at_80) ?_
  show Steps p.tables e below (T0.setTop (mkF m 82 #[.val (.int i0), .val (.int i1), .val (.int i2), .val (.int i3), .val (.int i4), .val (.int ((i0 &&& (65535 : Int32)) % (7 : Int32))), .val (.int ((((i0.toUInt32 >>> ((16 : Int32) &&& 31).toUInt32).toInt32) &&& (255 : Int32)) % (3 : Int32))), .val (.int ((((i0.toUInt32 >>> ((24 : Int32) &&& 31).toUInt32).toInt32) &&& (127 : Int32)) % (3 : Int32))), .val (.int ((i3 &&& (65535 : Int32)).toUInt32.toUInt16.toUInt32.toInt32)), .val (.int (((i3.toUInt32 >>> ((16 : Int32) &&& 31).toUInt32).toInt32).toUInt32.toUInt16.toUInt32.toInt32)), .val (.int ((i4 &&& (65535 : Int32)).toUInt32.toUInt16.toUInt32.toInt32)), .val (.int (((i4.toUInt32 >>> ((16 : Int32) &&& 31).toUInt32).toInt32).toUInt32.toUInt16.toUInt32.toInt32)), .val (.int (i1 &&& (255 : Int32))), .val (.int (((i1.toUInt32 >>> ((8 : Int32) &&& 31).toUInt32).toInt32) &&& (255 : Int32))), s14, s15, s16, s17, s18, s19, s20, s21, s22, s23, s24] [(.int (16 : Int32)), (.int i1)])) _
  refine XS.iushr X0.here hx rfl (hb hby at_82) rfl ?_
  refine XS.sipush X0.here hx rfl (hb hby at_83) ?_
  refine XS.iand X0.here hx rfl (hb hby at_86) rfl ?_
  refine XS.istore X0.here hx rfl (hb hby at_87) rfl (l' := #[.val (.int i0), .val (.int i1), .val (.int i2), .val (.int i3), .val (.int i4), .val (.int ((i0 &&& (65535 : Int32)) % (7 : Int32))), .val (.int ((((i0.toUInt32 >>> ((16 : Int32) &&& 31).toUInt32).toInt32) &&& (255 : Int32)) % (3 : Int32))), .val (.int ((((i0.toUInt32 >>> ((24 : Int32) &&& 31).toUInt32).toInt32) &&& (127 : Int32)) % (3 : Int32))), .val (.int ((i3 &&& (65535 : Int32)).toUInt32.toUInt16.toUInt32.toInt32)), .val (.int (((i3.toUInt32 >>> ((16 : Int32) &&& 31).toUInt32).toInt32).toUInt32.toUInt16.toUInt32.toInt32)), .val (.int ((i4 &&& (65535 : Int32)).toUInt32.toUInt16.toUInt32.toInt32)), .val (.int (((i4.toUInt32 >>> ((16 : Int32) &&& 31).toUInt32).toInt32).toUInt32.toUInt16.toUInt32.toInt32)), .val (.int (i1 &&& (255 : Int32))), .val (.int (((i1.toUInt32 >>> ((8 : Int32) &&& 31).toUInt32).toInt32) &&& (255 : Int32))), .val (.int (((i1.toUInt32 >>> ((16 : Int32) &&& 31).toUInt32).toInt32) &&& (255 : Int32))), s15, s16, s17, s18, s19, s20, s21, s22, s23, s24]) (os0_87 hs14) ?_
  refine XS.iloadN X0.here hx rfl (hb hby at_89) rfl ?_
  refine XS.sipush X0.here hx rfl (hb hby at_90) ?_
  refine XS.iand X0.here hx rfl (hb hby at_93) rfl ?_
  show Steps p.tables e below (T0.setTop (mkF m 94 #[.val (.int i0), .val (.int i1), .val (.int i2), .val (.int i3), .val (.int i4), .val (.int ((i0 &&& (65535 : Int32)) % (7 : Int32))), .val (.int ((((i0.toUInt32 >>> ((16 : Int32) &&& 31).toUInt32).toInt32) &&& (255 : Int32)) % (3 : Int32))), .val (.int ((((i0.toUInt32 >>> ((24 : Int32) &&& 31).toUInt32).toInt32) &&& (127 : Int32)) % (3 : Int32))), .val (.int ((i3 &&& (65535 : Int32)).toUInt32.toUInt16.toUInt32.toInt32)), .val (.int (((i3.toUInt32 >>> ((16 : Int32) &&& 31).toUInt32).toInt32).toUInt32.toUInt16.toUInt32.toInt32)), .val (.int ((i4 &&& (65535 : Int32)).toUInt32.toUInt16.toUInt32.toInt32)), .val (.int (((i4.toUInt32 >>> ((16 : Int32) &&& 31).toUInt32).toInt32).toUInt32.toUInt16.toUInt32.toInt32)), .val (.int (i1 &&& (255 : Int32))), .val (.int (((i1.toUInt32 >>> ((8 : Int32) &&& 31).toUInt32).toInt32) &&& (255 : Int32))), .val (.int (((i1.toUInt32 >>> ((16 : Int32) &&& 31).toUInt32).toInt32) &&& (255 : Int32))), s15, s16, s17, s18, s19, s20, s21, s22, s23, s24] [(.int (i2 &&& (255 : Int32)))])) _
  refine XS.istore X0.here hx rfl (hb hby at_94) rfl (l' := #[.val (.int i0), .val (.int i1), .val (.int i2), .val (.int i3), .val (.int i4), .val (.int ((i0 &&& (65535 : Int32)) % (7 : Int32))), .val (.int ((((i0.toUInt32 >>> ((16 : Int32) &&& 31).toUInt32).toInt32) &&& (255 : Int32)) % (3 : Int32))), .val (.int ((((i0.toUInt32 >>> ((24 : Int32) &&& 31).toUInt32).toInt32) &&& (127 : Int32)) % (3 : Int32))), .val (.int ((i3 &&& (65535 : Int32)).toUInt32.toUInt16.toUInt32.toInt32)), .val (.int (((i3.toUInt32 >>> ((16 : Int32) &&& 31).toUInt32).toInt32).toUInt32.toUInt16.toUInt32.toInt32)), .val (.int ((i4 &&& (65535 : Int32)).toUInt32.toUInt16.toUInt32.toInt32)), .val (.int (((i4.toUInt32 >>> ((16 : Int32) &&& 31).toUInt32).toInt32).toUInt32.toUInt16.toUInt32.toInt32)), .val (.int (i1 &&& (255 : Int32))), .val (.int (((i1.toUInt32 >>> ((8 : Int32) &&& 31).toUInt32).toInt32) &&& (255 : Int32))), .val (.int (((i1.toUInt32 >>> ((16 : Int32) &&& 31).toUInt32).toInt32) &&& (255 : Int32))), .val (.int (i2 &&& (255 : Int32))), s16, s17, s18, s19, s20, s21, s22, s23, s24]) (os0_94 hs15) ?_
  refine XS.iloadN X0.here hx rfl (hb hby at_96) rfl ?_
  refine XS.bipush X0.here hx rfl (hb hby at_97) ?_
  refine XS.iushr X0.here hx rfl (hb hby at_99) rfl ?_
  refine XS.sipush X0.here hx rfl (hb hby at_100) ?_
  refine XS.iand X0.here hx rfl (hb hby at_103) rfl ?_
  refine XS.istore X0.here hx rfl (hb hby at_104) rfl (l' := #[.val (.int i0), .val (.int i1), .val (.int i2), .val (.int i3), .val (.int i4), .val (.int ((i0 &&& (65535 : Int32)) % (7 : Int32))), .val (.int ((((i0.toUInt32 >>> ((16 : Int32) &&& 31).toUInt32).toInt32) &&& (255 : Int32)) % (3 : Int32))), .val (.int ((((i0.toUInt32 >>> ((24 : Int32) &&& 31).toUInt32).toInt32) &&& (127 : Int32)) % (3 : Int32))), .val (.int ((i3 &&& (65535 : Int32)).toUInt32.toUInt16.toUInt32.toInt32)), .val (.int (((i3.toUInt32 >>> ((16 : Int32) &&& 31).toUInt32).toInt32).toUInt32.toUInt16.toUInt32.toInt32)), .val (.int ((i4 &&& (65535 : Int32)).toUInt32.toUInt16.toUInt32.toInt32)), .val (.int (((i4.toUInt32 >>> ((16 : Int32) &&& 31).toUInt32).toInt32).toUInt32.toUInt16.toUInt32.toInt32)), .val (.int (i1 &&& (255 : Int32))), .val (.int (((i1.toUInt32 >>> ((8 : Int32) &&& 31).toUInt32).toInt32) &&& (255 : Int32))), .val (.int (((i1.toUInt32 >>> ((16 : Int32) &&& 31).toUInt32).toInt32) &&& (255 : Int32))), .val (.int (i2 &&& (255 : Int32))), .val (.int (((i2.toUInt32 >>> ((8 : Int32) &&& 31).toUInt32).toInt32) &&& (255 : Int32))), s17, s18, s19, s20, s21, s22, s23, s24]) (os0_104 hs16) ?_
  show Steps p.tables e below (T0.setTop (mkF m 106 #[.val (.int i0), .val (.int i1), .val (.int i2), .val (.int i3), .val (.int i4), .val (.int ((i0 &&& (65535 : Int32)) % (7 : Int32))), .val (.int ((((i0.toUInt32 >>> ((16 : Int32) &&& 31).toUInt32).toInt32) &&& (255 : Int32)) % (3 : Int32))), .val (.int ((((i0.toUInt32 >>> ((24 : Int32) &&& 31).toUInt32).toInt32) &&& (127 : Int32)) % (3 : Int32))), .val (.int ((i3 &&& (65535 : Int32)).toUInt32.toUInt16.toUInt32.toInt32)), .val (.int (((i3.toUInt32 >>> ((16 : Int32) &&& 31).toUInt32).toInt32).toUInt32.toUInt16.toUInt32.toInt32)), .val (.int ((i4 &&& (65535 : Int32)).toUInt32.toUInt16.toUInt32.toInt32)), .val (.int (((i4.toUInt32 >>> ((16 : Int32) &&& 31).toUInt32).toInt32).toUInt32.toUInt16.toUInt32.toInt32)), .val (.int (i1 &&& (255 : Int32))), .val (.int (((i1.toUInt32 >>> ((8 : Int32) &&& 31).toUInt32).toInt32) &&& (255 : Int32))), .val (.int (((i1.toUInt32 >>> ((16 : Int32) &&& 31).toUInt32).toInt32) &&& (255 : Int32))), .val (.int (i2 &&& (255 : Int32))), .val (.int (((i2.toUInt32 >>> ((8 : Int32) &&& 31).toUInt32).toInt32) &&& (255 : Int32))), s17, s18, s19, s20, s21, s22, s23, s24] [])) _
  refine XS.iloadN X0.here hx rfl (hb hby at_106) rfl ?_
  refine XS.bipush X0.here hx rfl (hb hby at_107) ?_
  refine XS.iushr X0.here hx rfl (hb hby at_109) rfl ?_
  refine XS.sipush X0.here hx rfl (hb hby at_110) ?_
  refine XS.iand X0.here hx rfl (hb hby at_113) rfl ?_
  refine XS.istore X0.here hx rfl (hb hby at_114) rfl (l' := #[.val (.int i0), .val (.int i1), .val (.int i2), .val (.int i3), .val (.int i4), .val (.int ((i0 &&& (65535 : Int32)) % (7 : Int32))), .val (.int ((((i0.toUInt32 >>> ((16 : Int32) &&& 31).toUInt32).toInt32) &&& (255 : Int32)) % (3 : Int32))), .val (.int ((((i0.toUInt32 >>> ((24 : Int32) &&& 31).toUInt32).toInt32) &&& (127 : Int32)) % (3 : Int32))), .val (.int ((i3 &&& (65535 : Int32)).toUInt32.toUInt16.toUInt32.toInt32)), .val (.int (((i3.toUInt32 >>> ((16 : Int32) &&& 31).toUInt32).toInt32).toUInt32.toUInt16.toUInt32.toInt32)), .val (.int ((i4 &&& (65535 : Int32)).toUInt32.toUInt16.toUInt32.toInt32)), .val (.int (((i4.toUInt32 >>> ((16 : Int32) &&& 31).toUInt32).toInt32).toUInt32.toUInt16.toUInt32.toInt32)), .val (.int (i1 &&& (255 : Int32))), .val (.int (((i1.toUInt32 >>> ((8 : Int32) &&& 31).toUInt32).toInt32) &&& (255 : Int32))), .val (.int (((i1.toUInt32 >>> ((16 : Int32) &&& 31).toUInt32).toInt32) &&& (255 : Int32))), .val (.int (i2 &&& (255 : Int32))), .val (.int (((i2.toUInt32 >>> ((8 : Int32) &&& 31).toUInt32).toInt32) &&& (255 : Int32))), .val (.int (((i2.toUInt32 >>> ((16 : Int32) &&& 31).toUInt32).toInt32) &&& (255 : Int32))), s18, s19, s20, s21, s22, s23, s24]) (os0_114 hs17) ?_
  exact kt
theorem os0_120 {s0 : Slot} {s1 : Slot} {s2 : Slot} {s3 : Slot} {s4 : Slot} {z5 : Value} {s6 : Slot} {s7 : Slot} {s8 : Slot} {s9 : Slot} {s10 : Slot} {s11 : Slot} {s12 : Slot} {s13 : Slot} {s14 : Slot} {s15 : Slot} {s16 : Slot} {s17 : Slot} {s18 : Slot} {s19 : Slot} {s20 : Slot} {s21 : Slot} {s22 : Slot} {s23 : Slot} {s24 : Slot} {v : Addr} (h : One s18) : storeLocals #[s0, s1, s2, s3, s4, .val z5, s6, s7, s8, s9, s10, s11, s12, s13, s14, s15, s16, s17, s18, s19, s20, s21, s22, s23, s24] 18 (.ref v) = some #[s0, s1, s2, s3, s4, .val z5, s6, s7, s8, s9, s10, s11, s12, s13, s14, s15, s16, s17, .val (.ref v), s19, s20, s21, s22, s23, s24] := by
  rcases h with rfl | ⟨w, rfl, hw⟩
  · rfl
  · cases w <;> first | rfl | (simp [Value.category] at hw)
set_option maxRecDepth 65536 in
set_option maxHeartbeats 40000000 in
theorem w1 {p : Program} {l : Launch} {e : Env} {s : State} {m : MethodId} {args : Array Value} {below : List Frame} {meth : Method} {c : Code} {T0 : State} {locs : List Loc} {Z : State} {a0 : Array Value} {h0 : Heap} (s0 : Slot) (s1 : Slot) (s2 : Slot) (s3 : Slot) (s4 : Slot) (s6 : Slot) (s7 : Slot) (s8 : Slot) (s9 : Slot) (s10 : Slot) (s11 : Slot) (s12 : Slot) (s13 : Slot) (s14 : Slot) (s15 : Slot) (s16 : Slot) (s17 : Slot) (s18 : Slot) (s19 : Slot) (s20 : Slot) (s21 : Slot) (s22 : Slot) (s23 : Slot) (s24 : Slot) (n : Nat) (n0 : Nat)
    (X0 : Stand p l e (room_1 : Room) s m args below meth c T0 locs 0 0) (hx : p.tables.exec = Jvm.exec) (hZ : Z.Warmed39 s.vm) (hw : ∀ d ∈ tables_1, d.before a0 Z = true) (hby : c.code = code) (hml : c.maxLocals = 25) (hown : s.vm.findClass "com/example/gumzo/gumzo/core/TaggedBase64EncodePinLaw" = some m.cls) (e0 : T0.heap = h0) (hs18 : One s18) (N0 : Fr n0 locs) (Z0 : n0 ≤ h0.size) (hn : n < 7) :
    ∃ (T' : State) (h' : Heap) (L' : List Loc) (b6 : Addr), Stand p l e (room_1 : Room) s m args below meth c T' L' 1 6 ∧ T'.heap = h' ∧ Fr n0 L' ∧ n0 ≤ b6 ∧ h0.size ≤ b6 ∧ Keep h0 h' [] ∧ Av Z h' b6 .byte b8 (List.replicate n 0) ∧
      ∀ target, Steps p.tables e below (T'.setTop (mkF m 122 #[s0, s1, s2, s3, s4, .val (.int (Int32.ofNat n)), s6, s7, s8, s9, s10, s11, s12, s13, s14, s15, s16, s17, .val (.ref b6), s19, s20, s21, s22, s23, s24] [])) target → Steps p.tables e below (T0.setTop (mkF m 116 #[s0, s1, s2, s3, s4, .val (.int (Int32.ofNat n)), s6, s7, s8, s9, s10, s11, s12, s13, s14, s15, s16, s17, s18, s19, s20, s21, s22, s23, s24] [])) target := by
  obtain ⟨T6, h6, b6, X6, e6, E6, g_b6, sz_b6, A6, st6⟩ := newPv (a0 := a0) X0 hx hZ e0 Z0 (g := (mkF m 118 #[s0, s1, s2, s3, s4, .val (.int (Int32.ofNat n)), s6, s7, s8, s9, s10, s11, s12, s13, s14, s15, s16, s17, s18, s19, s20, s21, s22, s23, s24] [(.int (Int32.ofNat n))])) rfl (hb hby at_118) rfl (hw _ (List.mem_of_getElem? (i := 1) rfl)) n (by omega) b8 own_f8 rfl rfl (cap := 6) (by omega) (by decide) (by decide) (by decide)
  refine ⟨T6, _, _, b6, X6, e6, N0, g_b6, sz_b6, (Keep.refl h0 []).ext E6, A6, fun target kt => ?_⟩
  show Steps p.tables e below (T0.setTop (mkF m 116 #[s0, s1, s2, s3, s4, .val (.int (Int32.ofNat n)), s6, s7, s8, s9, s10, s11, s12, s13, s14, s15, s16, s17, s18, s19, s20, s21, s22, s23, s24] [])) _
  refine XS.iload X0.here hx rfl (hb hby at_116) rfl ?_
  refine st6 _ ?_
  refine XS.astore X6.here hx rfl (hb hby at_120) rfl rfl (l' := #[s0, s1, s2, s3, s4, .val (.int (Int32.ofNat n)), s6, s7, s8, s9, s10, s11, s12, s13, s14, s15, s16, s17, .val (.ref b6), s19, s20, s21, s22, s23, s24]) (os0_120 hs18) ?_
  exact kt
set_option maxRecDepth 65536 in
set_option maxHeartbeats 40000000 in
theorem b0s0 {p : Program} {l : Launch} {e : Env} {R : Room} {s : State} {m : MethodId} {args : Array Value} {below : List Frame} {meth : Method} {c : Code} {T0 : State} {locs : List Loc} {cells slots : Nat} {Z : State} {a0 : Array Value} {h0 : Heap} (s0 : Slot) (s1 : Slot) (s2 : Slot) (s3 : Slot) (s4 : Slot) (s6 : Slot) (s7 : Slot) (s8 : Slot) (s9 : Slot) (s10 : Slot) (s11 : Slot) (s13 : Slot) (s14 : Slot) (s15 : Slot) (s16 : Slot) (s17 : Slot) (o18 : Addr) (s19 : Slot) (s20 : Slot) (s21 : Slot) (s22 : Slot) (s23 : Slot) (s24 : Slot) (n x : Nat) (ns : List Nat) (n0 : Nat)
    (X0 : Stand p l e R s m args below meth c T0 locs cells slots) (hx : p.tables.exec = Jvm.exec) (hZ : Z.Warmed39 s.vm) (hw : ∀ d ∈ tables_1, d.before a0 Z = true) (hby : c.code = code) (hml : c.maxLocals = 25) (hown : s.vm.findClass "com/example/gumzo/gumzo/core/TaggedBase64EncodePinLaw" = some m.cls) (e0 : T0.heap = h0) (N0 : Fr n0 locs) (Z0 : n0 ≤ h0.size) (A18 : Av Z h0 o18 .byte b8 ns) (hl : ns.length < 128) (hk : 0 < ns.length) (hx1 : x < 256) (g_o18 : n0 ≤ o18) (hc124 : (0 : Int32) < Int32.ofNat n) :
    ∃ (T' : State) (h' : Heap) (L' : List Loc), Stand p l e R s m args below meth c T' L' cells slots ∧ T'.heap = h' ∧ Fr n0 L' ∧ Keep h0 h' [o18] ∧ Av Z h' o18 .byte b8 (ns.set 0 x) ∧
      ∀ target, Steps p.tables e below (T'.setTop (mkF m 134 #[s0, s1, s2, s3, s4, .val (.int (Int32.ofNat n)), s6, s7, s8, s9, s10, s11, .val (.int (Int32.ofNat x)), s13, s14, s15, s16, s17, .val (.ref o18), s19, s20, s21, s22, s23, s24] [])) target → Steps p.tables e below (T0.setTop (mkF m 122 #[s0, s1, s2, s3, s4, .val (.int (Int32.ofNat n)), s6, s7, s8, s9, s10, s11, .val (.int (Int32.ofNat x)), s13, s14, s15, s16, s17, .val (.ref o18), s19, s20, s21, s22, s23, s24] [])) target := by
  obtain ⟨T6, h6, L6, X6, e6, N6, K6, A6, st6⟩ := stBv X0 hx hZ e0 N0 g_o18 A18 (by omega) 0 hk x rfl (own_bb x hx1) (g := (mkF m 133 #[s0, s1, s2, s3, s4, .val (.int (Int32.ofNat n)), s6, s7, s8, s9, s10, s11, .val (.int (Int32.ofNat x)), s13, s14, s15, s16, s17, .val (.ref o18), s19, s20, s21, s22, s23, s24] [(.int ((Int32.ofNat x).toInt8.toInt32)), (.int (0 : Int32)), (.ref o18)])) rfl rfl (hb hby at_133)
  refine ⟨T6, _, _, X6, e6, N6, K6, A6, fun target kt => ?_⟩
  show Steps p.tables e below (T0.setTop (mkF m 122 #[s0, s1, s2, s3, s4, .val (.int (Int32.ofNat n)), s6, s7, s8, s9, s10, s11, .val (.int (Int32.ofNat x)), s13, s14, s15, s16, s17, .val (.ref o18), s19, s20, s21, s22, s23, s24] [])) _
  refine XS.iload X0.here hx rfl (hb hby at_122) rfl ?_
  refine XS.ifNo X0.here hx rfl (hb hby at_124) rfl ((if0 _ _).trans (tlt hc124).2.2.2) ?_
  refine XS.aload X0.here hx rfl (hb hby at_127) rfl rfl ?_
  refine XS.iconst X0.here hx rfl (hb hby at_129) ?_
  refine XS.iload X0.here hx rfl (hb hby at_130) rfl ?_
  refine XS.i2b X0.here hx rfl (hb hby at_132) rfl ?_
  refine st6 _ ?_
  exact kt
set_option maxRecDepth 65536 in
set_option maxHeartbeats 40000000 in
theorem b0n0 {p : Program} {l : Launch} {e : Env} {R : Room} {s : State} {m : MethodId} {args : Array Value} {below : List Frame} {meth : Method} {c : Code} {T0 : State} {locs : List Loc} {cells slots : Nat} {Z : State} {h0 : Heap} (s0 : Slot) (s1 : Slot) (s2 : Slot) (s3 : Slot) (s4 : Slot) (i5 : Int32) (s6 : Slot) (s7 : Slot) (s8 : Slot) (s9 : Slot) (s10 : Slot) (s11 : Slot) (s12 : Slot) (s13 : Slot) (s14 : Slot) (s15 : Slot) (s16 : Slot) (s17 : Slot) (s18 : Slot) (s19 : Slot) (s20 : Slot) (s21 : Slot) (s22 : Slot) (s23 : Slot) (s24 : Slot) 
    (X0 : Stand p l e R s m args below meth c T0 locs cells slots) (hx : p.tables.exec = Jvm.exec) (hZ : Z.Warmed39 s.vm) (hby : c.code = code) (e0 : T0.heap = h0) (hc124 : ¬ ((0 : Int32) < i5))  :
    ∀ target, Steps p.tables e below (T0.setTop (mkF m 134 #[s0, s1, s2, s3, s4, .val (.int i5), s6, s7, s8, s9, s10, s11, s12, s13, s14, s15, s16, s17, s18, s19, s20, s21, s22, s23, s24] [])) target → Steps p.tables e below (T0.setTop (mkF m 122 #[s0, s1, s2, s3, s4, .val (.int i5), s6, s7, s8, s9, s10, s11, s12, s13, s14, s15, s16, s17, s18, s19, s20, s21, s22, s23, s24] [])) target := by
  intro target kt
  show Steps p.tables e below (T0.setTop (mkF m 122 #[s0, s1, s2, s3, s4, .val (.int i5), s6, s7, s8, s9, s10, s11, s12, s13, s14, s15, s16, s17, s18, s19, s20, s21, s22, s23, s24] [])) _
  refine XS.iload X0.here hx rfl (hb hby at_122) rfl ?_
  refine XS.ifYes X0.here hx rfl (pc0 := 124) (pc' := 134) rfl (hb hby at_124) rfl ((if0 _ _).trans (flt hc124).2.2.2) (by decide) (by decide) ?_
  exact kt
set_option maxRecDepth 65536 in
set_option maxHeartbeats 40000000 in
theorem b0w0 {p : Program} {l : Launch} {e : Env} {R : Room} {s : State} {m : MethodId} {args : Array Value} {below : List Frame} {meth : Method} {c : Code} {T0 : State} {locs : List Loc} {cells slots : Nat} {Z : State} {a0 : Array Value} {h0 : Heap} (s0 : Slot) (s1 : Slot) (s2 : Slot) (s3 : Slot) (s4 : Slot) (s6 : Slot) (s7 : Slot) (s8 : Slot) (s9 : Slot) (s10 : Slot) (s11 : Slot) (s13 : Slot) (s14 : Slot) (s15 : Slot) (s16 : Slot) (s17 : Slot) (o18 : Addr) (s19 : Slot) (s20 : Slot) (s21 : Slot) (s22 : Slot) (s23 : Slot) (s24 : Slot) (n x : Nat) (ns : List Nat) (n0 : Nat)
    (X0 : Stand p l e R s m args below meth c T0 locs cells slots) (hx : p.tables.exec = Jvm.exec) (hZ : Z.Warmed39 s.vm) (hw : ∀ d ∈ tables_1, d.before a0 Z = true) (hby : c.code = code) (hml : c.maxLocals = 25) (hown : s.vm.findClass "com/example/gumzo/gumzo/core/TaggedBase64EncodePinLaw" = some m.cls) (e0 : T0.heap = h0) (N0 : Fr n0 locs) (Z0 : n0 ≤ h0.size) (A18 : Av Z h0 o18 .byte b8 ns) (hn : n < 128) (hl : ns.length = n) (hx1 : x < 256) (g_o18 : n0 ≤ o18) :
    ∃ (T' : State) (h' : Heap) (L' : List Loc), Stand p l e R s m args below meth c T' L' cells slots ∧ T'.heap = h' ∧ Fr n0 L' ∧ Keep h0 h' [o18] ∧ Av Z h' o18 .byte b8 (if 0 < n then ns.set 0 x else ns) ∧
      ∀ target, Steps p.tables e below (T'.setTop (mkF m 134 #[s0, s1, s2, s3, s4, .val (.int (Int32.ofNat n)), s6, s7, s8, s9, s10, s11, .val (.int (Int32.ofNat x)), s13, s14, s15, s16, s17, .val (.ref o18), s19, s20, s21, s22, s23, s24] [])) target → Steps p.tables e below (T0.setTop (mkF m 122 #[s0, s1, s2, s3, s4, .val (.int (Int32.ofNat n)), s6, s7, s8, s9, s10, s11, .val (.int (Int32.ofNat x)), s13, s14, s15, s16, s17, .val (.ref o18), s19, s20, s21, s22, s23, s24] [])) target := by
  by_cases cc : 0 < n
  · rw [if_pos cc]
    exact b0s0 s0 s1 s2 s3 s4 s6 s7 s8 s9 s10 s11 s13 s14 s15 s16 s17 o18 s19 s20 s21 s22 s23 s24 n x ns n0 X0 hx hZ hw hby hml hown e0 N0 Z0 A18 (by omega) (by omega) hx1 g_o18 (own_lt (i := 0) cc (by omega))
  · rw [if_neg cc]
    exact ⟨T0, h0, locs, X0, e0, N0, Keep.refl _ _, A18, fun target kt => b0n0 _ _ _ _ _ _ _ _ _ _ _ _ _ _ _ _ _ _ _ _ _ _ _ _ _ X0 hx hZ hby e0 (own_nlt (n := n) (i := 0) (by omega) (by decide)) _ kt⟩
set_option maxRecDepth 65536 in
set_option maxHeartbeats 40000000 in
theorem b0s1 {p : Program} {l : Launch} {e : Env} {R : Room} {s : State} {m : MethodId} {args : Array Value} {below : List Frame} {meth : Method} {c : Code} {T0 : State} {locs : List Loc} {cells slots : Nat} {Z : State} {a0 : Array Value} {h0 : Heap} (s0 : Slot) (s1 : Slot) (s2 : Slot) (s3 : Slot) (s4 : Slot) (s6 : Slot) (s7 : Slot) (s8 : Slot) (s9 : Slot) (s10 : Slot) (s11 : Slot) (s12 : Slot) (s14 : Slot) (s15 : Slot) (s16 : Slot) (s17 : Slot) (o18 : Addr) (s19 : Slot) (s20 : Slot) (s21 : Slot) (s22 : Slot) (s23 : Slot) (s24 : Slot) (n x : Nat) (ns : List Nat) (n0 : Nat)
    (X0 : Stand p l e R s m args below meth c T0 locs cells slots) (hx : p.tables.exec = Jvm.exec) (hZ : Z.Warmed39 s.vm) (hw : ∀ d ∈ tables_1, d.before a0 Z = true) (hby : c.code = code) (hml : c.maxLocals = 25) (hown : s.vm.findClass "com/example/gumzo/gumzo/core/TaggedBase64EncodePinLaw" = some m.cls) (e0 : T0.heap = h0) (N0 : Fr n0 locs) (Z0 : n0 ≤ h0.size) (A18 : Av Z h0 o18 .byte b8 ns) (hl : ns.length < 128) (hk : 1 < ns.length) (hx1 : x < 256) (g_o18 : n0 ≤ o18) (hc137 : (1 : Int32) < Int32.ofNat n) :
    ∃ (T' : State) (h' : Heap) (L' : List Loc), Stand p l e R s m args below meth c T' L' cells slots ∧ T'.heap = h' ∧ Fr n0 L' ∧ Keep h0 h' [o18] ∧ Av Z h' o18 .byte b8 (ns.set 1 x) ∧
      ∀ target, Steps p.tables e below (T'.setTop (mkF m 147 #[s0, s1, s2, s3, s4, .val (.int (Int32.ofNat n)), s6, s7, s8, s9, s10, s11, s12, .val (.int (Int32.ofNat x)), s14, s15, s16, s17, .val (.ref o18), s19, s20, s21, s22, s23, s24] [])) target → Steps p.tables e below (T0.setTop (mkF m 134 #[s0, s1, s2, s3, s4, .val (.int (Int32.ofNat n)), s6, s7, s8, s9, s10, s11, s12, .val (.int (Int32.ofNat x)), s14, s15, s16, s17, .val (.ref o18), s19, s20, s21, s22, s23, s24] [])) target := by
  obtain ⟨T6, h6, L6, X6, e6, N6, K6, A6, st6⟩ := stBv X0 hx hZ e0 N0 g_o18 A18 (by omega) 1 hk x rfl (own_bb x hx1) (g := (mkF m 146 #[s0, s1, s2, s3, s4, .val (.int (Int32.ofNat n)), s6, s7, s8, s9, s10, s11, s12, .val (.int (Int32.ofNat x)), s14, s15, s16, s17, .val (.ref o18), s19, s20, s21, s22, s23, s24] [(.int ((Int32.ofNat x).toInt8.toInt32)), (.int (1 : Int32)), (.ref o18)])) rfl rfl (hb hby at_146)
  refine ⟨T6, _, _, X6, e6, N6, K6, A6, fun target kt => ?_⟩
  show Steps p.tables e below (T0.setTop (mkF m 134 #[s0, s1, s2, s3, s4, .val (.int (Int32.ofNat n)), s6, s7, s8, s9, s10, s11, s12, .val (.int (Int32.ofNat x)), s14, s15, s16, s17, .val (.ref o18), s19, s20, s21, s22, s23, s24] [])) _
  refine XS.iload X0.here hx rfl (hb hby at_134) rfl ?_
  refine XS.iconst X0.here hx rfl (hb hby at_136) ?_
  refine XS.icmpNo X0.here hx rfl (hb hby at_137) rfl (tlt hc137).2.2.2 ?_
  refine XS.aload X0.here hx rfl (hb hby at_140) rfl rfl ?_
  refine XS.iconst X0.here hx rfl (hb hby at_142) ?_
  refine XS.iload X0.here hx rfl (hb hby at_143) rfl ?_
  refine XS.i2b X0.here hx rfl (hb hby at_145) rfl ?_
  show Steps p.tables e below (T0.setTop (mkF m 146 #[s0, s1, s2, s3, s4, .val (.int (Int32.ofNat n)), s6, s7, s8, s9, s10, s11, s12, .val (.int (Int32.ofNat x)), s14, s15, s16, s17, .val (.ref o18), s19, s20, s21, s22, s23, s24] [(.int ((Int32.ofNat x).toInt8.toInt32)), (.int (1 : Int32)), (.ref o18)])) _
  refine st6 _ ?_
  exact kt
set_option maxRecDepth 65536 in
set_option maxHeartbeats 40000000 in
theorem b0n1 {p : Program} {l : Launch} {e : Env} {R : Room} {s : State} {m : MethodId} {args : Array Value} {below : List Frame} {meth : Method} {c : Code} {T0 : State} {locs : List Loc} {cells slots : Nat} {Z : State} {h0 : Heap} (s0 : Slot) (s1 : Slot) (s2 : Slot) (s3 : Slot) (s4 : Slot) (i5 : Int32) (s6 : Slot) (s7 : Slot) (s8 : Slot) (s9 : Slot) (s10 : Slot) (s11 : Slot) (s12 : Slot) (s13 : Slot) (s14 : Slot) (s15 : Slot) (s16 : Slot) (s17 : Slot) (s18 : Slot) (s19 : Slot) (s20 : Slot) (s21 : Slot) (s22 : Slot) (s23 : Slot) (s24 : Slot) 
    (X0 : Stand p l e R s m args below meth c T0 locs cells slots) (hx : p.tables.exec = Jvm.exec) (hZ : Z.Warmed39 s.vm) (hby : c.code = code) (e0 : T0.heap = h0) (hc137 : ¬ ((1 : Int32) < i5))  :
    ∀ target, Steps p.tables e below (T0.setTop (mkF m 147 #[s0, s1, s2, s3, s4, .val (.int i5), s6, s7, s8, s9, s10, s11, s12, s13, s14, s15, s16, s17, s18, s19, s20, s21, s22, s23, s24] [])) target → Steps p.tables e below (T0.setTop (mkF m 134 #[s0, s1, s2, s3, s4, .val (.int i5), s6, s7, s8, s9, s10, s11, s12, s13, s14, s15, s16, s17, s18, s19, s20, s21, s22, s23, s24] [])) target := by
  intro target kt
  show Steps p.tables e below (T0.setTop (mkF m 134 #[s0, s1, s2, s3, s4, .val (.int i5), s6, s7, s8, s9, s10, s11, s12, s13, s14, s15, s16, s17, s18, s19, s20, s21, s22, s23, s24] [])) _
  refine XS.iload X0.here hx rfl (hb hby at_134) rfl ?_
  refine XS.iconst X0.here hx rfl (hb hby at_136) ?_
  refine XS.icmpYes X0.here hx rfl (pc0 := 137) (pc' := 147) rfl (hb hby at_137) rfl (flt hc137).2.2.2 (by decide) (by decide) ?_
  exact kt
set_option maxRecDepth 65536 in
set_option maxHeartbeats 40000000 in
theorem b0w1 {p : Program} {l : Launch} {e : Env} {R : Room} {s : State} {m : MethodId} {args : Array Value} {below : List Frame} {meth : Method} {c : Code} {T0 : State} {locs : List Loc} {cells slots : Nat} {Z : State} {a0 : Array Value} {h0 : Heap} (s0 : Slot) (s1 : Slot) (s2 : Slot) (s3 : Slot) (s4 : Slot) (s6 : Slot) (s7 : Slot) (s8 : Slot) (s9 : Slot) (s10 : Slot) (s11 : Slot) (s12 : Slot) (s14 : Slot) (s15 : Slot) (s16 : Slot) (s17 : Slot) (o18 : Addr) (s19 : Slot) (s20 : Slot) (s21 : Slot) (s22 : Slot) (s23 : Slot) (s24 : Slot) (n x : Nat) (ns : List Nat) (n0 : Nat)
    (X0 : Stand p l e R s m args below meth c T0 locs cells slots) (hx : p.tables.exec = Jvm.exec) (hZ : Z.Warmed39 s.vm) (hw : ∀ d ∈ tables_1, d.before a0 Z = true) (hby : c.code = code) (hml : c.maxLocals = 25) (hown : s.vm.findClass "com/example/gumzo/gumzo/core/TaggedBase64EncodePinLaw" = some m.cls) (e0 : T0.heap = h0) (N0 : Fr n0 locs) (Z0 : n0 ≤ h0.size) (A18 : Av Z h0 o18 .byte b8 ns) (hn : n < 128) (hl : ns.length = n) (hx1 : x < 256) (g_o18 : n0 ≤ o18) :
    ∃ (T' : State) (h' : Heap) (L' : List Loc), Stand p l e R s m args below meth c T' L' cells slots ∧ T'.heap = h' ∧ Fr n0 L' ∧ Keep h0 h' [o18] ∧ Av Z h' o18 .byte b8 (if 1 < n then ns.set 1 x else ns) ∧
      ∀ target, Steps p.tables e below (T'.setTop (mkF m 147 #[s0, s1, s2, s3, s4, .val (.int (Int32.ofNat n)), s6, s7, s8, s9, s10, s11, s12, .val (.int (Int32.ofNat x)), s14, s15, s16, s17, .val (.ref o18), s19, s20, s21, s22, s23, s24] [])) target → Steps p.tables e below (T0.setTop (mkF m 134 #[s0, s1, s2, s3, s4, .val (.int (Int32.ofNat n)), s6, s7, s8, s9, s10, s11, s12, .val (.int (Int32.ofNat x)), s14, s15, s16, s17, .val (.ref o18), s19, s20, s21, s22, s23, s24] [])) target := by
  by_cases cc : 1 < n
  · rw [if_pos cc]
    exact b0s1 s0 s1 s2 s3 s4 s6 s7 s8 s9 s10 s11 s12 s14 s15 s16 s17 o18 s19 s20 s21 s22 s23 s24 n x ns n0 X0 hx hZ hw hby hml hown e0 N0 Z0 A18 (by omega) (by omega) hx1 g_o18 (own_lt (i := 1) cc (by omega))
  · rw [if_neg cc]
    exact ⟨T0, h0, locs, X0, e0, N0, Keep.refl _ _, A18, fun target kt => b0n1 _ _ _ _ _ _ _ _ _ _ _ _ _ _ _ _ _ _ _ _ _ _ _ _ _ X0 hx hZ hby e0 (own_nlt (n := n) (i := 1) (by omega) (by decide)) _ kt⟩
set_option maxRecDepth 65536 in
set_option maxHeartbeats 40000000 in
theorem b0s2 {p : Program} {l : Launch} {e : Env} {R : Room} {s : State} {m : MethodId} {args : Array Value} {below : List Frame} {meth : Method} {c : Code} {T0 : State} {locs : List Loc} {cells slots : Nat} {Z : State} {a0 : Array Value} {h0 : Heap} (s0 : Slot) (s1 : Slot) (s2 : Slot) (s3 : Slot) (s4 : Slot) (s6 : Slot) (s7 : Slot) (s8 : Slot) (s9 : Slot) (s10 : Slot) (s11 : Slot) (s12 : Slot) (s13 : Slot) (s15 : Slot) (s16 : Slot) (s17 : Slot) (o18 : Addr) (s19 : Slot) (s20 : Slot) (s21 : Slot) (s22 : Slot) (s23 : Slot) (s24 : Slot) (n x : Nat) (ns : List Nat) (n0 : Nat)
    (X0 : Stand p l e R s m args below meth c T0 locs cells slots) (hx : p.tables.exec = Jvm.exec) (hZ : Z.Warmed39 s.vm) (hw : ∀ d ∈ tables_1, d.before a0 Z = true) (hby : c.code = code) (hml : c.maxLocals = 25) (hown : s.vm.findClass "com/example/gumzo/gumzo/core/TaggedBase64EncodePinLaw" = some m.cls) (e0 : T0.heap = h0) (N0 : Fr n0 locs) (Z0 : n0 ≤ h0.size) (A18 : Av Z h0 o18 .byte b8 ns) (hl : ns.length < 128) (hk : 2 < ns.length) (hx1 : x < 256) (g_o18 : n0 ≤ o18) (hc150 : (2 : Int32) < Int32.ofNat n) :
    ∃ (T' : State) (h' : Heap) (L' : List Loc), Stand p l e R s m args below meth c T' L' cells slots ∧ T'.heap = h' ∧ Fr n0 L' ∧ Keep h0 h' [o18] ∧ Av Z h' o18 .byte b8 (ns.set 2 x) ∧
      ∀ target, Steps p.tables e below (T'.setTop (mkF m 160 #[s0, s1, s2, s3, s4, .val (.int (Int32.ofNat n)), s6, s7, s8, s9, s10, s11, s12, s13, .val (.int (Int32.ofNat x)), s15, s16, s17, .val (.ref o18), s19, s20, s21, s22, s23, s24] [])) target → Steps p.tables e below (T0.setTop (mkF m 147 #[s0, s1, s2, s3, s4, .val (.int (Int32.ofNat n)), s6, s7, s8, s9, s10, s11, s12, s13, .val (.int (Int32.ofNat x)), s15, s16, s17, .val (.ref o18), s19, s20, s21, s22, s23, s24] [])) target := by
  obtain ⟨T6, h6, L6, X6, e6, N6, K6, A6, st6⟩ := stBv X0 hx hZ e0 N0 g_o18 A18 (by omega) 2 hk x rfl (own_bb x hx1) (g := (mkF m 159 #[s0, s1, s2, s3, s4, .val (.int (Int32.ofNat n)), s6, s7, s8, s9, s10, s11, s12, s13, .val (.int (Int32.ofNat x)), s15, s16, s17, .val (.ref o18), s19, s20, s21, s22, s23, s24] [(.int ((Int32.ofNat x).toInt8.toInt32)), (.int (2 : Int32)), (.ref o18)])) rfl rfl (hb hby at_159)
  refine ⟨T6, _, _, X6, e6, N6, K6, A6, fun target kt => ?_⟩
  show Steps p.tables e below (T0.setTop (mkF m 147 #[s0, s1, s2, s3, s4, .val (.int (Int32.ofNat n)), s6, s7, s8, s9, s10, s11, s12, s13, .val (.int (Int32.ofNat x)), s15, s16, s17, .val (.ref o18), s19, s20, s21, s22, s23, s24] [])) _
  refine XS.iload X0.here hx rfl (hb hby at_147) rfl ?_
  refine XS.iconst X0.here hx rfl (hb hby at_149) ?_
  refine XS.icmpNo X0.here hx rfl (hb hby at_150) rfl (tlt hc150).2.2.2 ?_
  refine XS.aload X0.here hx rfl (hb hby at_153) rfl rfl ?_
  refine XS.iconst X0.here hx rfl (hb hby at_155) ?_
  refine XS.iload X0.here hx rfl (hb hby at_156) rfl ?_
  refine XS.i2b X0.here hx rfl (hb hby at_158) rfl ?_
  show Steps p.tables e below (T0.setTop (mkF m 159 #[s0, s1, s2, s3, s4, .val (.int (Int32.ofNat n)), s6, s7, s8, s9, s10, s11, s12, s13, .val (.int (Int32.ofNat x)), s15, s16, s17, .val (.ref o18), s19, s20, s21, s22, s23, s24] [(.int ((Int32.ofNat x).toInt8.toInt32)), (.int (2 : Int32)), (.ref o18)])) _
  refine st6 _ ?_
  exact kt
set_option maxRecDepth 65536 in
set_option maxHeartbeats 40000000 in
theorem b0n2 {p : Program} {l : Launch} {e : Env} {R : Room} {s : State} {m : MethodId} {args : Array Value} {below : List Frame} {meth : Method} {c : Code} {T0 : State} {locs : List Loc} {cells slots : Nat} {Z : State} {h0 : Heap} (s0 : Slot) (s1 : Slot) (s2 : Slot) (s3 : Slot) (s4 : Slot) (i5 : Int32) (s6 : Slot) (s7 : Slot) (s8 : Slot) (s9 : Slot) (s10 : Slot) (s11 : Slot) (s12 : Slot) (s13 : Slot) (s14 : Slot) (s15 : Slot) (s16 : Slot) (s17 : Slot) (s18 : Slot) (s19 : Slot) (s20 : Slot) (s21 : Slot) (s22 : Slot) (s23 : Slot) (s24 : Slot) 
    (X0 : Stand p l e R s m args below meth c T0 locs cells slots) (hx : p.tables.exec = Jvm.exec) (hZ : Z.Warmed39 s.vm) (hby : c.code = code) (e0 : T0.heap = h0) (hc150 : ¬ ((2 : Int32) < i5))  :
    ∀ target, Steps p.tables e below (T0.setTop (mkF m 160 #[s0, s1, s2, s3, s4, .val (.int i5), s6, s7, s8, s9, s10, s11, s12, s13, s14, s15, s16, s17, s18, s19, s20, s21, s22, s23, s24] [])) target → Steps p.tables e below (T0.setTop (mkF m 147 #[s0, s1, s2, s3, s4, .val (.int i5), s6, s7, s8, s9, s10, s11, s12, s13, s14, s15, s16, s17, s18, s19, s20, s21, s22, s23, s24] [])) target := by
  intro target kt
  show Steps p.tables e below (T0.setTop (mkF m 147 #[s0, s1, s2, s3, s4, .val (.int i5), s6, s7, s8, s9, s10, s11, s12, s13, s14, s15, s16, s17, s18, s19, s20, s21, s22, s23, s24] [])) _
  refine XS.iload X0.here hx rfl (hb hby at_147) rfl ?_
  refine XS.iconst X0.here hx rfl (hb hby at_149) ?_
  refine XS.icmpYes X0.here hx rfl (pc0 := 150) (pc' := 160) rfl (hb hby at_150) rfl (flt hc150).2.2.2 (by decide) (by decide) ?_
  exact kt
set_option maxRecDepth 65536 in
set_option maxHeartbeats 40000000 in
theorem b0w2 {p : Program} {l : Launch} {e : Env} {R : Room} {s : State} {m : MethodId} {args : Array Value} {below : List Frame} {meth : Method} {c : Code} {T0 : State} {locs : List Loc} {cells slots : Nat} {Z : State} {a0 : Array Value} {h0 : Heap} (s0 : Slot) (s1 : Slot) (s2 : Slot) (s3 : Slot) (s4 : Slot) (s6 : Slot) (s7 : Slot) (s8 : Slot) (s9 : Slot) (s10 : Slot) (s11 : Slot) (s12 : Slot) (s13 : Slot) (s15 : Slot) (s16 : Slot) (s17 : Slot) (o18 : Addr) (s19 : Slot) (s20 : Slot) (s21 : Slot) (s22 : Slot) (s23 : Slot) (s24 : Slot) (n x : Nat) (ns : List Nat) (n0 : Nat)
    (X0 : Stand p l e R s m args below meth c T0 locs cells slots) (hx : p.tables.exec = Jvm.exec) (hZ : Z.Warmed39 s.vm) (hw : ∀ d ∈ tables_1, d.before a0 Z = true) (hby : c.code = code) (hml : c.maxLocals = 25) (hown : s.vm.findClass "com/example/gumzo/gumzo/core/TaggedBase64EncodePinLaw" = some m.cls) (e0 : T0.heap = h0) (N0 : Fr n0 locs) (Z0 : n0 ≤ h0.size) (A18 : Av Z h0 o18 .byte b8 ns) (hn : n < 128) (hl : ns.length = n) (hx1 : x < 256) (g_o18 : n0 ≤ o18) :
    ∃ (T' : State) (h' : Heap) (L' : List Loc), Stand p l e R s m args below meth c T' L' cells slots ∧ T'.heap = h' ∧ Fr n0 L' ∧ Keep h0 h' [o18] ∧ Av Z h' o18 .byte b8 (if 2 < n then ns.set 2 x else ns) ∧
      ∀ target, Steps p.tables e below (T'.setTop (mkF m 160 #[s0, s1, s2, s3, s4, .val (.int (Int32.ofNat n)), s6, s7, s8, s9, s10, s11, s12, s13, .val (.int (Int32.ofNat x)), s15, s16, s17, .val (.ref o18), s19, s20, s21, s22, s23, s24] [])) target → Steps p.tables e below (T0.setTop (mkF m 147 #[s0, s1, s2, s3, s4, .val (.int (Int32.ofNat n)), s6, s7, s8, s9, s10, s11, s12, s13, .val (.int (Int32.ofNat x)), s15, s16, s17, .val (.ref o18), s19, s20, s21, s22, s23, s24] [])) target := by
  by_cases cc : 2 < n
  · rw [if_pos cc]
    exact b0s2 s0 s1 s2 s3 s4 s6 s7 s8 s9 s10 s11 s12 s13 s15 s16 s17 o18 s19 s20 s21 s22 s23 s24 n x ns n0 X0 hx hZ hw hby hml hown e0 N0 Z0 A18 (by omega) (by omega) hx1 g_o18 (own_lt (i := 2) cc (by omega))
  · rw [if_neg cc]
    exact ⟨T0, h0, locs, X0, e0, N0, Keep.refl _ _, A18, fun target kt => b0n2 _ _ _ _ _ _ _ _ _ _ _ _ _ _ _ _ _ _ _ _ _ _ _ _ _ X0 hx hZ hby e0 (own_nlt (n := n) (i := 2) (by omega) (by decide)) _ kt⟩
set_option maxRecDepth 65536 in
set_option maxHeartbeats 40000000 in
theorem b0s3 {p : Program} {l : Launch} {e : Env} {R : Room} {s : State} {m : MethodId} {args : Array Value} {below : List Frame} {meth : Method} {c : Code} {T0 : State} {locs : List Loc} {cells slots : Nat} {Z : State} {a0 : Array Value} {h0 : Heap} (s0 : Slot) (s1 : Slot) (s2 : Slot) (s3 : Slot) (s4 : Slot) (s6 : Slot) (s7 : Slot) (s8 : Slot) (s9 : Slot) (s10 : Slot) (s11 : Slot) (s12 : Slot) (s13 : Slot) (s14 : Slot) (s16 : Slot) (s17 : Slot) (o18 : Addr) (s19 : Slot) (s20 : Slot) (s21 : Slot) (s22 : Slot) (s23 : Slot) (s24 : Slot) (n x : Nat) (ns : List Nat) (n0 : Nat)
    (X0 : Stand p l e R s m args below meth c T0 locs cells slots) (hx : p.tables.exec = Jvm.exec) (hZ : Z.Warmed39 s.vm) (hw : ∀ d ∈ tables_1, d.before a0 Z = true) (hby : c.code = code) (hml : c.maxLocals = 25) (hown : s.vm.findClass "com/example/gumzo/gumzo/core/TaggedBase64EncodePinLaw" = some m.cls) (e0 : T0.heap = h0) (N0 : Fr n0 locs) (Z0 : n0 ≤ h0.size) (A18 : Av Z h0 o18 .byte b8 ns) (hl : ns.length < 128) (hk : 3 < ns.length) (hx1 : x < 256) (g_o18 : n0 ≤ o18) (hc163 : (3 : Int32) < Int32.ofNat n) :
    ∃ (T' : State) (h' : Heap) (L' : List Loc), Stand p l e R s m args below meth c T' L' cells slots ∧ T'.heap = h' ∧ Fr n0 L' ∧ Keep h0 h' [o18] ∧ Av Z h' o18 .byte b8 (ns.set 3 x) ∧
      ∀ target, Steps p.tables e below (T'.setTop (mkF m 173 #[s0, s1, s2, s3, s4, .val (.int (Int32.ofNat n)), s6, s7, s8, s9, s10, s11, s12, s13, s14, .val (.int (Int32.ofNat x)), s16, s17, .val (.ref o18), s19, s20, s21, s22, s23, s24] [])) target → Steps p.tables e below (T0.setTop (mkF m 160 #[s0, s1, s2, s3, s4, .val (.int (Int32.ofNat n)), s6, s7, s8, s9, s10, s11, s12, s13, s14, .val (.int (Int32.ofNat x)), s16, s17, .val (.ref o18), s19, s20, s21, s22, s23, s24] [])) target := by
  obtain ⟨T6, h6, L6, X6, e6, N6, K6, A6, st6⟩ := stBv X0 hx hZ e0 N0 g_o18 A18 (by omega) 3 hk x rfl (own_bb x hx1) (g := (mkF m 172 #[s0, s1, s2, s3, s4, .val (.int (Int32.ofNat n)), s6, s7, s8, s9, s10, s11, s12, s13, s14, .val (.int (Int32.ofNat x)), s16, s17, .val (.ref o18), s19, s20, s21, s22, s23, s24] [(.int ((Int32.ofNat x).toInt8.toInt32)), (.int (3 : Int32)), (.ref o18)])) rfl rfl (hb hby at_172)
  refine ⟨T6, _, _, X6, e6, N6, K6, A6, fun target kt => ?_⟩
  show Steps p.tables e below (T0.setTop (mkF m 160 #[s0, s1, s2, s3, s4, .val (.int (Int32.ofNat n)), s6, s7, s8, s9, s10, s11, s12, s13, s14, .val (.int (Int32.ofNat x)), s16, s17, .val (.ref o18), s19, s20, s21, s22, s23, s24] [])) _
  refine XS.iload X0.here hx rfl (hb hby at_160) rfl ?_
  refine XS.iconst X0.here hx rfl (hb hby at_162) ?_
  refine XS.icmpNo X0.here hx rfl (hb hby at_163) rfl (tlt hc163).2.2.2 ?_
  refine XS.aload X0.here hx rfl (hb hby at_166) rfl rfl ?_
  refine XS.iconst X0.here hx rfl (hb hby at_168) ?_
  refine XS.iload X0.here hx rfl (hb hby at_169) rfl ?_
  refine XS.i2b X0.here hx rfl (hb hby at_171) rfl ?_
  show Steps p.tables e below (T0.setTop (mkF m 172 #[s0, s1, s2, s3, s4, .val (.int (Int32.ofNat n)), s6, s7, s8, s9, s10, s11, s12, s13, s14, .val (.int (Int32.ofNat x)), s16, s17, .val (.ref o18), s19, s20, s21, s22, s23, s24] [(.int ((Int32.ofNat x).toInt8.toInt32)), (.int (3 : Int32)), (.ref o18)])) _
  refine st6 _ ?_
  exact kt
set_option maxRecDepth 65536 in
set_option maxHeartbeats 40000000 in
theorem b0n3 {p : Program} {l : Launch} {e : Env} {R : Room} {s : State} {m : MethodId} {args : Array Value} {below : List Frame} {meth : Method} {c : Code} {T0 : State} {locs : List Loc} {cells slots : Nat} {Z : State} {h0 : Heap} (s0 : Slot) (s1 : Slot) (s2 : Slot) (s3 : Slot) (s4 : Slot) (i5 : Int32) (s6 : Slot) (s7 : Slot) (s8 : Slot) (s9 : Slot) (s10 : Slot) (s11 : Slot) (s12 : Slot) (s13 : Slot) (s14 : Slot) (s15 : Slot) (s16 : Slot) (s17 : Slot) (s18 : Slot) (s19 : Slot) (s20 : Slot) (s21 : Slot) (s22 : Slot) (s23 : Slot) (s24 : Slot) 
    (X0 : Stand p l e R s m args below meth c T0 locs cells slots) (hx : p.tables.exec = Jvm.exec) (hZ : Z.Warmed39 s.vm) (hby : c.code = code) (e0 : T0.heap = h0) (hc163 : ¬ ((3 : Int32) < i5))  :
    ∀ target, Steps p.tables e below (T0.setTop (mkF m 173 #[s0, s1, s2, s3, s4, .val (.int i5), s6, s7, s8, s9, s10, s11, s12, s13, s14, s15, s16, s17, s18, s19, s20, s21, s22, s23, s24] [])) target → Steps p.tables e below (T0.setTop (mkF m 160 #[s0, s1, s2, s3, s4, .val (.int i5), s6, s7, s8, s9, s10, s11, s12, s13, s14, s15, s16, s17, s18, s19, s20, s21, s22, s23, s24] [])) target := by
  intro target kt
  show Steps p.tables e below (T0.setTop (mkF m 160 #[s0, s1, s2, s3, s4, .val (.int i5), s6, s7, s8, s9, s10, s11, s12, s13, s14, s15, s16, s17, s18, s19, s20, s21, s22, s23, s24] [])) _
  refine XS.iload X0.here hx rfl (hb hby at_160) rfl ?_
  refine XS.iconst X0.here hx rfl (hb hby at_162) ?_
  refine XS.icmpYes X0.here hx rfl (pc0 := 163) (pc' := 173) rfl (hb hby at_163) rfl (flt hc163).2.2.2 (by decide) (by decide) ?_
  exact kt
set_option maxRecDepth 65536 in
set_option maxHeartbeats 40000000 in
theorem b0w3 {p : Program} {l : Launch} {e : Env} {R : Room} {s : State} {m : MethodId} {args : Array Value} {below : List Frame} {meth : Method} {c : Code} {T0 : State} {locs : List Loc} {cells slots : Nat} {Z : State} {a0 : Array Value} {h0 : Heap} (s0 : Slot) (s1 : Slot) (s2 : Slot) (s3 : Slot) (s4 : Slot) (s6 : Slot) (s7 : Slot) (s8 : Slot) (s9 : Slot) (s10 : Slot) (s11 : Slot) (s12 : Slot) (s13 : Slot) (s14 : Slot) (s16 : Slot) (s17 : Slot) (o18 : Addr) (s19 : Slot) (s20 : Slot) (s21 : Slot) (s22 : Slot) (s23 : Slot) (s24 : Slot) (n x : Nat) (ns : List Nat) (n0 : Nat)
    (X0 : Stand p l e R s m args below meth c T0 locs cells slots) (hx : p.tables.exec = Jvm.exec) (hZ : Z.Warmed39 s.vm) (hw : ∀ d ∈ tables_1, d.before a0 Z = true) (hby : c.code = code) (hml : c.maxLocals = 25) (hown : s.vm.findClass "com/example/gumzo/gumzo/core/TaggedBase64EncodePinLaw" = some m.cls) (e0 : T0.heap = h0) (N0 : Fr n0 locs) (Z0 : n0 ≤ h0.size) (A18 : Av Z h0 o18 .byte b8 ns) (hn : n < 128) (hl : ns.length = n) (hx1 : x < 256) (g_o18 : n0 ≤ o18) :
    ∃ (T' : State) (h' : Heap) (L' : List Loc), Stand p l e R s m args below meth c T' L' cells slots ∧ T'.heap = h' ∧ Fr n0 L' ∧ Keep h0 h' [o18] ∧ Av Z h' o18 .byte b8 (if 3 < n then ns.set 3 x else ns) ∧
      ∀ target, Steps p.tables e below (T'.setTop (mkF m 173 #[s0, s1, s2, s3, s4, .val (.int (Int32.ofNat n)), s6, s7, s8, s9, s10, s11, s12, s13, s14, .val (.int (Int32.ofNat x)), s16, s17, .val (.ref o18), s19, s20, s21, s22, s23, s24] [])) target → Steps p.tables e below (T0.setTop (mkF m 160 #[s0, s1, s2, s3, s4, .val (.int (Int32.ofNat n)), s6, s7, s8, s9, s10, s11, s12, s13, s14, .val (.int (Int32.ofNat x)), s16, s17, .val (.ref o18), s19, s20, s21, s22, s23, s24] [])) target := by
  by_cases cc : 3 < n
  · rw [if_pos cc]
    exact b0s3 s0 s1 s2 s3 s4 s6 s7 s8 s9 s10 s11 s12 s13 s14 s16 s17 o18 s19 s20 s21 s22 s23 s24 n x ns n0 X0 hx hZ hw hby hml hown e0 N0 Z0 A18 (by omega) (by omega) hx1 g_o18 (own_lt (i := 3) cc (by omega))
  · rw [if_neg cc]
    exact ⟨T0, h0, locs, X0, e0, N0, Keep.refl _ _, A18, fun target kt => b0n3 _ _ _ _ _ _ _ _ _ _ _ _ _ _ _ _ _ _ _ _ _ _ _ _ _ X0 hx hZ hby e0 (own_nlt (n := n) (i := 3) (by omega) (by decide)) _ kt⟩
set_option maxRecDepth 65536 in
set_option maxHeartbeats 40000000 in
theorem b0s4 {p : Program} {l : Launch} {e : Env} {R : Room} {s : State} {m : MethodId} {args : Array Value} {below : List Frame} {meth : Method} {c : Code} {T0 : State} {locs : List Loc} {cells slots : Nat} {Z : State} {a0 : Array Value} {h0 : Heap} (s0 : Slot) (s1 : Slot) (s2 : Slot) (s3 : Slot) (s4 : Slot) (s6 : Slot) (s7 : Slot) (s8 : Slot) (s9 : Slot) (s10 : Slot) (s11 : Slot) (s12 : Slot) (s13 : Slot) (s14 : Slot) (s15 : Slot) (s17 : Slot) (o18 : Addr) (s19 : Slot) (s20 : Slot) (s21 : Slot) (s22 : Slot) (s23 : Slot) (s24 : Slot) (n x : Nat) (ns : List Nat) (n0 : Nat)
    (X0 : Stand p l e R s m args below meth c T0 locs cells slots) (hx : p.tables.exec = Jvm.exec) (hZ : Z.Warmed39 s.vm) (hw : ∀ d ∈ tables_1, d.before a0 Z = true) (hby : c.code = code) (hml : c.maxLocals = 25) (hown : s.vm.findClass "com/example/gumzo/gumzo/core/TaggedBase64EncodePinLaw" = some m.cls) (e0 : T0.heap = h0) (N0 : Fr n0 locs) (Z0 : n0 ≤ h0.size) (A18 : Av Z h0 o18 .byte b8 ns) (hl : ns.length < 128) (hk : 4 < ns.length) (hx1 : x < 256) (g_o18 : n0 ≤ o18) (hc176 : (4 : Int32) < Int32.ofNat n) :
    ∃ (T' : State) (h' : Heap) (L' : List Loc), Stand p l e R s m args below meth c T' L' cells slots ∧ T'.heap = h' ∧ Fr n0 L' ∧ Keep h0 h' [o18] ∧ Av Z h' o18 .byte b8 (ns.set 4 x) ∧
      ∀ target, Steps p.tables e below (T'.setTop (mkF m 186 #[s0, s1, s2, s3, s4, .val (.int (Int32.ofNat n)), s6, s7, s8, s9, s10, s11, s12, s13, s14, s15, .val (.int (Int32.ofNat x)), s17, .val (.ref o18), s19, s20, s21, s22, s23, s24] [])) target → Steps p.tables e below (T0.setTop (mkF m 173 #[s0, s1, s2, s3, s4, .val (.int (Int32.ofNat n)), s6, s7, s8, s9, s10, s11, s12, s13, s14, s15, .val (.int (Int32.ofNat x)), s17, .val (.ref o18), s19, s20, s21, s22, s23, s24] [])) target := by
  obtain ⟨T6, h6, L6, X6, e6, N6, K6, A6, st6⟩ := stBv X0 hx hZ e0 N0 g_o18 A18 (by omega) 4 hk x rfl (own_bb x hx1) (g := (mkF m 185 #[s0, s1, s2, s3, s4, .val (.int (Int32.ofNat n)), s6, s7, s8, s9, s10, s11, s12, s13, s14, s15, .val (.int (Int32.ofNat x)), s17, .val (.ref o18), s19, s20, s21, s22, s23, s24] [(.int ((Int32.ofNat x).toInt8.toInt32)), (.int (4 : Int32)), (.ref o18)])) rfl rfl (hb hby at_185)
  refine ⟨T6, _, _, X6, e6, N6, K6, A6, fun target kt => ?_⟩
  show Steps p.tables e below (T0.setTop (mkF m 173 #[s0, s1, s2, s3, s4, .val (.int (Int32.ofNat n)), s6, s7, s8, s9, s10, s11, s12, s13, s14, s15, .val (.int (Int32.ofNat x)), s17, .val (.ref o18), s19, s20, s21, s22, s23, s24] [])) _
  refine XS.iload X0.here hx rfl (hb hby at_173) rfl ?_
  refine XS.iconst X0.here hx rfl (hb hby at_175) ?_
  refine XS.icmpNo X0.here hx rfl (hb hby at_176) rfl (tlt hc176).2.2.2 ?_
  refine XS.aload X0.here hx rfl (hb hby at_179) rfl rfl ?_
  refine XS.iconst X0.here hx rfl (hb hby at_181) ?_
  refine XS.iload X0.here hx rfl (hb hby at_182) rfl ?_
  refine XS.i2b X0.here hx rfl (hb hby at_184) rfl ?_
  show Steps p.tables e below (T0.setTop (mkF m 185 #[s0, s1, s2, s3, s4, .val (.int (Int32.ofNat n)), s6, s7, s8, s9, s10, s11, s12, s13, s14, s15, .val (.int (Int32.ofNat x)), s17, .val (.ref o18), s19, s20, s21, s22, s23, s24] [(.int ((Int32.ofNat x).toInt8.toInt32)), (.int (4 : Int32)), (.ref o18)])) _
  refine st6 _ ?_
  exact kt
set_option maxRecDepth 65536 in
set_option maxHeartbeats 40000000 in
theorem b0n4 {p : Program} {l : Launch} {e : Env} {R : Room} {s : State} {m : MethodId} {args : Array Value} {below : List Frame} {meth : Method} {c : Code} {T0 : State} {locs : List Loc} {cells slots : Nat} {Z : State} {h0 : Heap} (s0 : Slot) (s1 : Slot) (s2 : Slot) (s3 : Slot) (s4 : Slot) (i5 : Int32) (s6 : Slot) (s7 : Slot) (s8 : Slot) (s9 : Slot) (s10 : Slot) (s11 : Slot) (s12 : Slot) (s13 : Slot) (s14 : Slot) (s15 : Slot) (s16 : Slot) (s17 : Slot) (s18 : Slot) (s19 : Slot) (s20 : Slot) (s21 : Slot) (s22 : Slot) (s23 : Slot) (s24 : Slot) 
    (X0 : Stand p l e R s m args below meth c T0 locs cells slots) (hx : p.tables.exec = Jvm.exec) (hZ : Z.Warmed39 s.vm) (hby : c.code = code) (e0 : T0.heap = h0) (hc176 : ¬ ((4 : Int32) < i5))  :
    ∀ target, Steps p.tables e below (T0.setTop (mkF m 186 #[s0, s1, s2, s3, s4, .val (.int i5), s6, s7, s8, s9, s10, s11, s12, s13, s14, s15, s16, s17, s18, s19, s20, s21, s22, s23, s24] [])) target → Steps p.tables e below (T0.setTop (mkF m 173 #[s0, s1, s2, s3, s4, .val (.int i5), s6, s7, s8, s9, s10, s11, s12, s13, s14, s15, s16, s17, s18, s19, s20, s21, s22, s23, s24] [])) target := by
  intro target kt
  show Steps p.tables e below (T0.setTop (mkF m 173 #[s0, s1, s2, s3, s4, .val (.int i5), s6, s7, s8, s9, s10, s11, s12, s13, s14, s15, s16, s17, s18, s19, s20, s21, s22, s23, s24] [])) _
  refine XS.iload X0.here hx rfl (hb hby at_173) rfl ?_
  refine XS.iconst X0.here hx rfl (hb hby at_175) ?_
  refine XS.icmpYes X0.here hx rfl (pc0 := 176) (pc' := 186) rfl (hb hby at_176) rfl (flt hc176).2.2.2 (by decide) (by decide) ?_
  exact kt
set_option maxRecDepth 65536 in
set_option maxHeartbeats 40000000 in
theorem b0w4 {p : Program} {l : Launch} {e : Env} {R : Room} {s : State} {m : MethodId} {args : Array Value} {below : List Frame} {meth : Method} {c : Code} {T0 : State} {locs : List Loc} {cells slots : Nat} {Z : State} {a0 : Array Value} {h0 : Heap} (s0 : Slot) (s1 : Slot) (s2 : Slot) (s3 : Slot) (s4 : Slot) (s6 : Slot) (s7 : Slot) (s8 : Slot) (s9 : Slot) (s10 : Slot) (s11 : Slot) (s12 : Slot) (s13 : Slot) (s14 : Slot) (s15 : Slot) (s17 : Slot) (o18 : Addr) (s19 : Slot) (s20 : Slot) (s21 : Slot) (s22 : Slot) (s23 : Slot) (s24 : Slot) (n x : Nat) (ns : List Nat) (n0 : Nat)
    (X0 : Stand p l e R s m args below meth c T0 locs cells slots) (hx : p.tables.exec = Jvm.exec) (hZ : Z.Warmed39 s.vm) (hw : ∀ d ∈ tables_1, d.before a0 Z = true) (hby : c.code = code) (hml : c.maxLocals = 25) (hown : s.vm.findClass "com/example/gumzo/gumzo/core/TaggedBase64EncodePinLaw" = some m.cls) (e0 : T0.heap = h0) (N0 : Fr n0 locs) (Z0 : n0 ≤ h0.size) (A18 : Av Z h0 o18 .byte b8 ns) (hn : n < 128) (hl : ns.length = n) (hx1 : x < 256) (g_o18 : n0 ≤ o18) :
    ∃ (T' : State) (h' : Heap) (L' : List Loc), Stand p l e R s m args below meth c T' L' cells slots ∧ T'.heap = h' ∧ Fr n0 L' ∧ Keep h0 h' [o18] ∧ Av Z h' o18 .byte b8 (if 4 < n then ns.set 4 x else ns) ∧
      ∀ target, Steps p.tables e below (T'.setTop (mkF m 186 #[s0, s1, s2, s3, s4, .val (.int (Int32.ofNat n)), s6, s7, s8, s9, s10, s11, s12, s13, s14, s15, .val (.int (Int32.ofNat x)), s17, .val (.ref o18), s19, s20, s21, s22, s23, s24] [])) target → Steps p.tables e below (T0.setTop (mkF m 173 #[s0, s1, s2, s3, s4, .val (.int (Int32.ofNat n)), s6, s7, s8, s9, s10, s11, s12, s13, s14, s15, .val (.int (Int32.ofNat x)), s17, .val (.ref o18), s19, s20, s21, s22, s23, s24] [])) target := by
  by_cases cc : 4 < n
  · rw [if_pos cc]
    exact b0s4 s0 s1 s2 s3 s4 s6 s7 s8 s9 s10 s11 s12 s13 s14 s15 s17 o18 s19 s20 s21 s22 s23 s24 n x ns n0 X0 hx hZ hw hby hml hown e0 N0 Z0 A18 (by omega) (by omega) hx1 g_o18 (own_lt (i := 4) cc (by omega))
  · rw [if_neg cc]
    exact ⟨T0, h0, locs, X0, e0, N0, Keep.refl _ _, A18, fun target kt => b0n4 _ _ _ _ _ _ _ _ _ _ _ _ _ _ _ _ _ _ _ _ _ _ _ _ _ X0 hx hZ hby e0 (own_nlt (n := n) (i := 4) (by omega) (by decide)) _ kt⟩
set_option maxRecDepth 65536 in
set_option maxHeartbeats 40000000 in
theorem b0s5 {p : Program} {l : Launch} {e : Env} {R : Room} {s : State} {m : MethodId} {args : Array Value} {below : List Frame} {meth : Method} {c : Code} {T0 : State} {locs : List Loc} {cells slots : Nat} {Z : State} {a0 : Array Value} {h0 : Heap} (s0 : Slot) (s1 : Slot) (s2 : Slot) (s3 : Slot) (s4 : Slot) (s6 : Slot) (s7 : Slot) (s8 : Slot) (s9 : Slot) (s10 : Slot) (s11 : Slot) (s12 : Slot) (s13 : Slot) (s14 : Slot) (s15 : Slot) (s16 : Slot) (o18 : Addr) (s19 : Slot) (s20 : Slot) (s21 : Slot) (s22 : Slot) (s23 : Slot) (s24 : Slot) (n x : Nat) (ns : List Nat) (n0 : Nat)
    (X0 : Stand p l e R s m args below meth c T0 locs cells slots) (hx : p.tables.exec = Jvm.exec) (hZ : Z.Warmed39 s.vm) (hw : ∀ d ∈ tables_1, d.before a0 Z = true) (hby : c.code = code) (hml : c.maxLocals = 25) (hown : s.vm.findClass "com/example/gumzo/gumzo/core/TaggedBase64EncodePinLaw" = some m.cls) (e0 : T0.heap = h0) (N0 : Fr n0 locs) (Z0 : n0 ≤ h0.size) (A18 : Av Z h0 o18 .byte b8 ns) (hl : ns.length < 128) (hk : 5 < ns.length) (hx1 : x < 256) (g_o18 : n0 ≤ o18) (hc189 : (5 : Int32) < Int32.ofNat n) :
    ∃ (T' : State) (h' : Heap) (L' : List Loc), Stand p l e R s m args below meth c T' L' cells slots ∧ T'.heap = h' ∧ Fr n0 L' ∧ Keep h0 h' [o18] ∧ Av Z h' o18 .byte b8 (ns.set 5 x) ∧
      ∀ target, Steps p.tables e below (T'.setTop (mkF m 199 #[s0, s1, s2, s3, s4, .val (.int (Int32.ofNat n)), s6, s7, s8, s9, s10, s11, s12, s13, s14, s15, s16, .val (.int (Int32.ofNat x)), .val (.ref o18), s19, s20, s21, s22, s23, s24] [])) target → Steps p.tables e below (T0.setTop (mkF m 186 #[s0, s1, s2, s3, s4, .val (.int (Int32.ofNat n)), s6, s7, s8, s9, s10, s11, s12, s13, s14, s15, s16, .val (.int (Int32.ofNat x)), .val (.ref o18), s19, s20, s21, s22, s23, s24] [])) target := by
  obtain ⟨T6, h6, L6, X6, e6, N6, K6, A6, st6⟩ := stBv X0 hx hZ e0 N0 g_o18 A18 (by omega) 5 hk x rfl (own_bb x hx1) (g := (mkF m 198 #[s0, s1, s2, s3, s4, .val (.int (Int32.ofNat n)), s6, s7, s8, s9, s10, s11, s12, s13, s14, s15, s16, .val (.int (Int32.ofNat x)), .val (.ref o18), s19, s20, s21, s22, s23, s24] [(.int ((Int32.ofNat x).toInt8.toInt32)), (.int (5 : Int32)), (.ref o18)])) rfl rfl (hb hby at_198)
  refine ⟨T6, _, _, X6, e6, N6, K6, A6, fun target kt => ?_⟩
  show Steps p.tables e below (T0.setTop (mkF m 186 #[s0, s1, s2, s3, s4, .val (.int (Int32.ofNat n)), s6, s7, s8, s9, s10, s11, s12, s13, s14, s15, s16, .val (.int (Int32.ofNat x)), .val (.ref o18), s19, s20, s21, s22, s23, s24] [])) _
  refine XS.iload X0.here hx rfl (hb hby at_186) rfl ?_
  refine XS.iconst X0.here hx rfl (hb hby at_188) ?_
  refine XS.icmpNo X0.here hx rfl (hb hby at_189) rfl (tlt hc189).2.2.2 ?_
  refine XS.aload X0.here hx rfl (hb hby at_192) rfl rfl ?_
  refine XS.iconst X0.here hx rfl (hb hby at_194) ?_
  refine XS.iload X0.here hx rfl (hb hby at_195) rfl ?_
  refine XS.i2b X0.here hx rfl (hb hby at_197) rfl ?_
  show Steps p.tables e below (T0.setTop (mkF m 198 #[s0, s1, s2, s3, s4, .val (.int (Int32.ofNat n)), s6, s7, s8, s9, s10, s11, s12, s13, s14, s15, s16, .val (.int (Int32.ofNat x)), .val (.ref o18), s19, s20, s21, s22, s23, s24] [(.int ((Int32.ofNat x).toInt8.toInt32)), (.int (5 : Int32)), (.ref o18)])) _
  refine st6 _ ?_
  exact kt
set_option maxRecDepth 65536 in
set_option maxHeartbeats 40000000 in
theorem b0n5 {p : Program} {l : Launch} {e : Env} {R : Room} {s : State} {m : MethodId} {args : Array Value} {below : List Frame} {meth : Method} {c : Code} {T0 : State} {locs : List Loc} {cells slots : Nat} {Z : State} {h0 : Heap} (s0 : Slot) (s1 : Slot) (s2 : Slot) (s3 : Slot) (s4 : Slot) (i5 : Int32) (s6 : Slot) (s7 : Slot) (s8 : Slot) (s9 : Slot) (s10 : Slot) (s11 : Slot) (s12 : Slot) (s13 : Slot) (s14 : Slot) (s15 : Slot) (s16 : Slot) (s17 : Slot) (s18 : Slot) (s19 : Slot) (s20 : Slot) (s21 : Slot) (s22 : Slot) (s23 : Slot) (s24 : Slot) 
    (X0 : Stand p l e R s m args below meth c T0 locs cells slots) (hx : p.tables.exec = Jvm.exec) (hZ : Z.Warmed39 s.vm) (hby : c.code = code) (e0 : T0.heap = h0) (hc189 : ¬ ((5 : Int32) < i5))  :
    ∀ target, Steps p.tables e below (T0.setTop (mkF m 199 #[s0, s1, s2, s3, s4, .val (.int i5), s6, s7, s8, s9, s10, s11, s12, s13, s14, s15, s16, s17, s18, s19, s20, s21, s22, s23, s24] [])) target → Steps p.tables e below (T0.setTop (mkF m 186 #[s0, s1, s2, s3, s4, .val (.int i5), s6, s7, s8, s9, s10, s11, s12, s13, s14, s15, s16, s17, s18, s19, s20, s21, s22, s23, s24] [])) target := by
  intro target kt
  show Steps p.tables e below (T0.setTop (mkF m 186 #[s0, s1, s2, s3, s4, .val (.int i5), s6, s7, s8, s9, s10, s11, s12, s13, s14, s15, s16, s17, s18, s19, s20, s21, s22, s23, s24] [])) _
  refine XS.iload X0.here hx rfl (hb hby at_186) rfl ?_
  refine XS.iconst X0.here hx rfl (hb hby at_188) ?_
  refine XS.icmpYes X0.here hx rfl (pc0 := 189) (pc' := 199) rfl (hb hby at_189) rfl (flt hc189).2.2.2 (by decide) (by decide) ?_
  exact kt
set_option maxRecDepth 65536 in
set_option maxHeartbeats 40000000 in
theorem b0w5 {p : Program} {l : Launch} {e : Env} {R : Room} {s : State} {m : MethodId} {args : Array Value} {below : List Frame} {meth : Method} {c : Code} {T0 : State} {locs : List Loc} {cells slots : Nat} {Z : State} {a0 : Array Value} {h0 : Heap} (s0 : Slot) (s1 : Slot) (s2 : Slot) (s3 : Slot) (s4 : Slot) (s6 : Slot) (s7 : Slot) (s8 : Slot) (s9 : Slot) (s10 : Slot) (s11 : Slot) (s12 : Slot) (s13 : Slot) (s14 : Slot) (s15 : Slot) (s16 : Slot) (o18 : Addr) (s19 : Slot) (s20 : Slot) (s21 : Slot) (s22 : Slot) (s23 : Slot) (s24 : Slot) (n x : Nat) (ns : List Nat) (n0 : Nat)
    (X0 : Stand p l e R s m args below meth c T0 locs cells slots) (hx : p.tables.exec = Jvm.exec) (hZ : Z.Warmed39 s.vm) (hw : ∀ d ∈ tables_1, d.before a0 Z = true) (hby : c.code = code) (hml : c.maxLocals = 25) (hown : s.vm.findClass "com/example/gumzo/gumzo/core/TaggedBase64EncodePinLaw" = some m.cls) (e0 : T0.heap = h0) (N0 : Fr n0 locs) (Z0 : n0 ≤ h0.size) (A18 : Av Z h0 o18 .byte b8 ns) (hn : n < 128) (hl : ns.length = n) (hx1 : x < 256) (g_o18 : n0 ≤ o18) :
    ∃ (T' : State) (h' : Heap) (L' : List Loc), Stand p l e R s m args below meth c T' L' cells slots ∧ T'.heap = h' ∧ Fr n0 L' ∧ Keep h0 h' [o18] ∧ Av Z h' o18 .byte b8 (if 5 < n then ns.set 5 x else ns) ∧
      ∀ target, Steps p.tables e below (T'.setTop (mkF m 199 #[s0, s1, s2, s3, s4, .val (.int (Int32.ofNat n)), s6, s7, s8, s9, s10, s11, s12, s13, s14, s15, s16, .val (.int (Int32.ofNat x)), .val (.ref o18), s19, s20, s21, s22, s23, s24] [])) target → Steps p.tables e below (T0.setTop (mkF m 186 #[s0, s1, s2, s3, s4, .val (.int (Int32.ofNat n)), s6, s7, s8, s9, s10, s11, s12, s13, s14, s15, s16, .val (.int (Int32.ofNat x)), .val (.ref o18), s19, s20, s21, s22, s23, s24] [])) target := by
  by_cases cc : 5 < n
  · rw [if_pos cc]
    exact b0s5 s0 s1 s2 s3 s4 s6 s7 s8 s9 s10 s11 s12 s13 s14 s15 s16 o18 s19 s20 s21 s22 s23 s24 n x ns n0 X0 hx hZ hw hby hml hown e0 N0 Z0 A18 (by omega) (by omega) hx1 g_o18 (own_lt (i := 5) cc (by omega))
  · rw [if_neg cc]
    exact ⟨T0, h0, locs, X0, e0, N0, Keep.refl _ _, A18, fun target kt => b0n5 _ _ _ _ _ _ _ _ _ _ _ _ _ _ _ _ _ _ _ _ _ _ _ _ _ X0 hx hZ hby e0 (own_nlt (n := n) (i := 5) (by omega) (by decide)) _ kt⟩
theorem pd_0_0 : parseMethodDescriptor "(ICC)Ljava/lang/String;" = some ⟨[.int, .char, .char], some (.object "java/lang/String")⟩ := by decide +kernel
theorem os0_208 {s0 : Slot} {s1 : Slot} {s2 : Slot} {s3 : Slot} {s4 : Slot} {s5 : Slot} {z6 : Value} {s7 : Slot} {z8 : Value} {z9 : Value} {s10 : Slot} {s11 : Slot} {s12 : Slot} {s13 : Slot} {s14 : Slot} {s15 : Slot} {s16 : Slot} {s17 : Slot} {s18 : Slot} {s19 : Slot} {s20 : Slot} {s21 : Slot} {s22 : Slot} {s23 : Slot} {s24 : Slot} {v : Addr} (h : One s19) : storeLocals #[s0, s1, s2, s3, s4, s5, .val z6, s7, .val z8, .val z9, s10, s11, s12, s13, s14, s15, s16, s17, s18, s19, s20, s21, s22, s23, s24] 19 (.ref v) = some #[s0, s1, s2, s3, s4, s5, .val z6, s7, .val z8, .val z9, s10, s11, s12, s13, s14, s15, s16, s17, s18, .val (.ref v), s20, s21, s22, s23, s24] := by
  rcases h with rfl | ⟨w, rfl, hw⟩
  · rfl
  · cases w <;> first | rfl | (simp [Value.category] at hw)
set_option maxRecDepth 65536 in
set_option maxHeartbeats 40000000 in
theorem w2 {p : Program} {l : Launch} {e : Env} {s : State} {m : MethodId} {args : Array Value} {below : List Frame} {meth : Method} {c : Code} {T0 : State} {locs : List Loc} {Z : State} {a0 : Array Value} {h0 : Heap} (s0 : Slot) (s1 : Slot) (s2 : Slot) (s3 : Slot) (s4 : Slot) (s5 : Slot) (s7 : Slot) (s10 : Slot) (s11 : Slot) (s12 : Slot) (s13 : Slot) (s14 : Slot) (s15 : Slot) (s16 : Slot) (s17 : Slot) (s18 : Slot) (s19 : Slot) (s20 : Slot) (s21 : Slot) (s22 : Slot) (s23 : Slot) (s24 : Slot) (k x y : Nat) (n0 : Nat)
    (X0 : Stand p l e (room_1 : Room) s m args below meth c T0 locs 1 6) (hx : p.tables.exec = Jvm.exec) (hZ : Z.Warmed39 s.vm) (hw : ∀ d ∈ tables_1, d.before a0 Z = true) (hby : c.code = code) (hml : c.maxLocals = 25) (hown : s.vm.findClass "com/example/gumzo/gumzo/core/TaggedBase64EncodePinLaw" = some m.cls) (e0 : T0.heap = h0) (hs19 : One s19) (N0 : Fr n0 locs) (Z0 : n0 ≤ h0.size) (D : Wd Z h0) (hk : k < 3) (hx16 : x < 65536) (hy16 : y < 65536) (hCH : CHv Z ELs s.vm h0) :
    ∃ (T' : State) (h' : Heap) (L' : List Loc) (b6 : Addr), Stand p l e (room_1 : Room) (s.setVm T'.vm) m args below meth c T' L' 7 60 ∧ T'.heap = h' ∧ Fr n0 L' ∧ n0 ≤ b6 ∧ h0.size ≤ b6 ∧ Keep h0 h' [] ∧ Str Z h' b6 ([x, y].take k) ∧ s.Since T'.vm h'.size ∧ CHr Z ELs s.vm h0 T'.vm h' ∧
      ∀ target, Steps p.tables e below (T'.setTop (mkF m 210 #[s0, s1, s2, s3, s4, s5, .val (.int (Int32.ofNat k)), s7, .val (.int (Int32.ofNat x)), .val (.int (Int32.ofNat y)), s10, s11, s12, s13, s14, s15, s16, s17, s18, .val (.ref b6), s20, s21, s22, s23, s24] [])) target → Steps p.tables e below (T0.setTop (mkF m 199 #[s0, s1, s2, s3, s4, s5, .val (.int (Int32.ofNat k)), s7, .val (.int (Int32.ofNat x)), .val (.int (Int32.ofNat y)), s10, s11, s12, s13, s14, s15, s16, s17, s18, s19, s20, s21, s22, s23, s24] [])) target := by
  have hEL := own_ew hw
  obtain ⟨_, _, ⟨T6, L6, k6, n6⟩, -, X6, hS6, hg6, ⟨Lc6, hQ6, l6, y6, z6, hC6⟩, st6⟩ := callSS X0 hx (y := (⟨"com/example/gumzo/gumzo/core/TaggedBase64EncodePinLaw", "str", "(ICC)Ljava/lang/String;"⟩ : MethodName)) hown (mvT hZ (hw _ (List.mem_of_getElem? (i := 2) rfl))) (mvT hZ (hw _ (List.mem_of_getElem? (i := 3) rfl))) (mvT hZ (hw _ (List.mem_of_getElem? (i := 4) rfl))) (mvT hZ (hw _ (List.mem_of_getElem? (i := 5) rfl))) (by decide) (backOfSH (s := s) (vm0 := s.vm) (W := 0) (strw l Z a0 hw [] k x y h0 n0 Z0 D hk hx16 hy16) hZ (hw _ (List.mem_of_getElem? (i := 5) rfl)) (hw _ (List.mem_of_getElem? (i := 4) rfl)) (by decide) (by decide) hEL hCH) (g := (mkF m 205 #[s0, s1, s2, s3, s4, s5, .val (.int (Int32.ofNat k)), s7, .val (.int (Int32.ofNat x)), .val (.int (Int32.ofNat y)), s10, s11, s12, s13, s14, s15, s16, s17, s18, s19, s20, s21, s22, s23, s24] [(.int (Int32.ofNat y)), (.int (Int32.ofNat x)), (.int (Int32.ofNat k))])) rfl (by rw [hml]; rfl) (argsL := [(.int (Int32.ofNat k)), (.int (Int32.ofNat x)), (.int (Int32.ofNat y))]) (rest := []) (lenOf pd_0_0 rfl) rfl (by show 2 * 0 + _ ≤ _; exact Nat.le_of_eq rfl) (hb hby at_205) (fun _ _ => ⟨rfl, e0, (by decide : 1 + 0 + 6 ≤ _), (by decide : 6 + 0 + 54 ≤ _)⟩)
  dsimp only [Pt.U, Pt.locs, Pt.cells, Pt.slots] at X6 hS6 hg6 hC6 l6 y6 z6 st6 hQ6
  subst l6 y6 z6
  obtain ⟨b6, rfl, N6q, g6, z6s, K6, S6⟩ := hQ6
  refine ⟨T6, _, _, b6, X6, rfl, Fr.app N0 N6q, g6, z6s, K6, S6, hS6, hC6, fun target kt => ?_⟩
  show Steps p.tables e below (T0.setTop (mkF m 199 #[s0, s1, s2, s3, s4, s5, .val (.int (Int32.ofNat k)), s7, .val (.int (Int32.ofNat x)), .val (.int (Int32.ofNat y)), s10, s11, s12, s13, s14, s15, s16, s17, s18, s19, s20, s21, s22, s23, s24] [])) _
  refine XS.iload X0.here hx rfl (hb hby at_199) rfl ?_
  refine XS.iload X0.here hx rfl (hb hby at_201) rfl ?_
  refine XS.iload X0.here hx rfl (hb hby at_203) rfl ?_
  refine st6.trans ?_
  refine XS.astore X6.here hx rfl (hb hby at_208) rfl rfl (l' := #[s0, s1, s2, s3, s4, s5, .val (.int (Int32.ofNat k)), s7, .val (.int (Int32.ofNat x)), .val (.int (Int32.ofNat y)), s10, s11, s12, s13, s14, s15, s16, s17, s18, .val (.ref b6), s20, s21, s22, s23, s24]) (os0_208 hs19) ?_
  exact kt
theorem os0_219 {s0 : Slot} {s1 : Slot} {s2 : Slot} {s3 : Slot} {s4 : Slot} {s5 : Slot} {s6 : Slot} {z7 : Value} {s8 : Slot} {s9 : Slot} {z10 : Value} {z11 : Value} {s12 : Slot} {s13 : Slot} {s14 : Slot} {s15 : Slot} {s16 : Slot} {s17 : Slot} {s18 : Slot} {s19 : Slot} {s20 : Slot} {s21 : Slot} {s22 : Slot} {s23 : Slot} {s24 : Slot} {v : Addr} (h : One s20) : storeLocals #[s0, s1, s2, s3, s4, s5, s6, .val z7, s8, s9, .val z10, .val z11, s12, s13, s14, s15, s16, s17, s18, s19, s20, s21, s22, s23, s24] 20 (.ref v) = some #[s0, s1, s2, s3, s4, s5, s6, .val z7, s8, s9, .val z10, .val z11, s12, s13, s14, s15, s16, s17, s18, s19, .val (.ref v), s21, s22, s23, s24] := by
  rcases h with rfl | ⟨w, rfl, hw⟩
  · rfl
  · cases w <;> first | rfl | (simp [Value.category] at hw)
set_option maxRecDepth 65536 in
set_option maxHeartbeats 40000000 in
theorem w3 {p : Program} {l : Launch} {e : Env} {s : State} {m : MethodId} {args : Array Value} {below : List Frame} {meth : Method} {c : Code} {T0 : State} {locs : List Loc} {Z : State} {a0 : Array Value} {h0 : Heap} (s0 : Slot) (s1 : Slot) (s2 : Slot) (s3 : Slot) (s4 : Slot) (s5 : Slot) (s6 : Slot) (s8 : Slot) (s9 : Slot) (s12 : Slot) (s13 : Slot) (s14 : Slot) (s15 : Slot) (s16 : Slot) (s17 : Slot) (s18 : Slot) (s19 : Slot) (s20 : Slot) (s21 : Slot) (s22 : Slot) (s23 : Slot) (s24 : Slot) (k x y : Nat) (n0 : Nat)
    (X0 : Stand p l e (room_1 : Room) s m args below meth c T0 locs 7 60) (hx : p.tables.exec = Jvm.exec) (hZ : Z.Warmed39 s.vm) (hw : ∀ d ∈ tables_1, d.before a0 Z = true) (hby : c.code = code) (hml : c.maxLocals = 25) (hown : s.vm.findClass "com/example/gumzo/gumzo/core/TaggedBase64EncodePinLaw" = some m.cls) (e0 : T0.heap = h0) (hs20 : One s20) (N0 : Fr n0 locs) (Z0 : n0 ≤ h0.size) (D : Wd Z h0) (hk : k < 3) (hx16 : x < 65536) (hy16 : y < 65536) (hCH : CHv Z ELs s.vm h0) :
    ∃ (T' : State) (h' : Heap) (L' : List Loc) (b6 : Addr), Stand p l e (room_1 : Room) (s.setVm T'.vm) m args below meth c T' L' 13 114 ∧ T'.heap = h' ∧ Fr n0 L' ∧ n0 ≤ b6 ∧ h0.size ≤ b6 ∧ Keep h0 h' [] ∧ Str Z h' b6 ([x, y].take k) ∧ s.Since T'.vm h'.size ∧ CHr Z ELs s.vm h0 T'.vm h' ∧
      ∀ target, Steps p.tables e below (T'.setTop (mkF m 221 #[s0, s1, s2, s3, s4, s5, s6, .val (.int (Int32.ofNat k)), s8, s9, .val (.int (Int32.ofNat x)), .val (.int (Int32.ofNat y)), s12, s13, s14, s15, s16, s17, s18, s19, .val (.ref b6), s21, s22, s23, s24] [])) target → Steps p.tables e below (T0.setTop (mkF m 210 #[s0, s1, s2, s3, s4, s5, s6, .val (.int (Int32.ofNat k)), s8, s9, .val (.int (Int32.ofNat x)), .val (.int (Int32.ofNat y)), s12, s13, s14, s15, s16, s17, s18, s19, s20, s21, s22, s23, s24] [])) target := by
  have hEL := own_ew hw
  obtain ⟨_, _, ⟨T6, L6, k6, n6⟩, -, X6, hS6, hg6, ⟨Lc6, hQ6, l6, y6, z6, hC6⟩, st6⟩ := callSS X0 hx (y := (⟨"com/example/gumzo/gumzo/core/TaggedBase64EncodePinLaw", "str", "(ICC)Ljava/lang/String;"⟩ : MethodName)) hown (mvT hZ (hw _ (List.mem_of_getElem? (i := 2) rfl))) (mvT hZ (hw _ (List.mem_of_getElem? (i := 3) rfl))) (mvT hZ (hw _ (List.mem_of_getElem? (i := 4) rfl))) (mvT hZ (hw _ (List.mem_of_getElem? (i := 5) rfl))) (by decide) (backOfSH (s := s) (vm0 := s.vm) (W := 0) (strw l Z a0 hw [] k x y h0 n0 Z0 D hk hx16 hy16) hZ (hw _ (List.mem_of_getElem? (i := 5) rfl)) (hw _ (List.mem_of_getElem? (i := 4) rfl)) (by decide) (by decide) hEL hCH) (g := (mkF m 216 #[s0, s1, s2, s3, s4, s5, s6, .val (.int (Int32.ofNat k)), s8, s9, .val (.int (Int32.ofNat x)), .val (.int (Int32.ofNat y)), s12, s13, s14, s15, s16, s17, s18, s19, s20, s21, s22, s23, s24] [(.int (Int32.ofNat y)), (.int (Int32.ofNat x)), (.int (Int32.ofNat k))])) rfl (by rw [hml]; rfl) (argsL := [(.int (Int32.ofNat k)), (.int (Int32.ofNat x)), (.int (Int32.ofNat y))]) (rest := []) (lenOf pd_0_0 rfl) rfl (by show 2 * 0 + _ ≤ _; exact Nat.le_of_eq rfl) (hb hby at_216) (fun _ _ => ⟨rfl, e0, (by decide : 7 + 0 + 6 ≤ _), (by decide : 60 + 0 + 54 ≤ _)⟩)
  dsimp only [Pt.U, Pt.locs, Pt.cells, Pt.slots] at X6 hS6 hg6 hC6 l6 y6 z6 st6 hQ6
  subst l6 y6 z6
  obtain ⟨b6, rfl, N6q, g6, z6s, K6, S6⟩ := hQ6
  refine ⟨T6, _, _, b6, X6, rfl, Fr.app N0 N6q, g6, z6s, K6, S6, hS6, hC6, fun target kt => ?_⟩
  show Steps p.tables e below (T0.setTop (mkF m 210 #[s0, s1, s2, s3, s4, s5, s6, .val (.int (Int32.ofNat k)), s8, s9, .val (.int (Int32.ofNat x)), .val (.int (Int32.ofNat y)), s12, s13, s14, s15, s16, s17, s18, s19, s20, s21, s22, s23, s24] [])) _
  refine XS.iload X0.here hx rfl (hb hby at_210) rfl ?_
  refine XS.iload X0.here hx rfl (hb hby at_212) rfl ?_
  refine XS.iload X0.here hx rfl (hb hby at_214) rfl ?_
  refine st6.trans ?_
  refine XS.astore X6.here hx rfl (hb hby at_219) rfl rfl (l' := #[s0, s1, s2, s3, s4, s5, s6, .val (.int (Int32.ofNat k)), s8, s9, .val (.int (Int32.ofNat x)), .val (.int (Int32.ofNat y)), s12, s13, s14, s15, s16, s17, s18, s19, .val (.ref b6), s21, s22, s23, s24]) (os0_219 hs20) ?_
  exact kt
theorem os0_225 {s0 : Slot} {s1 : Slot} {s2 : Slot} {s3 : Slot} {s4 : Slot} {s5 : Slot} {s6 : Slot} {s7 : Slot} {s8 : Slot} {s9 : Slot} {s10 : Slot} {s11 : Slot} {s12 : Slot} {s13 : Slot} {s14 : Slot} {s15 : Slot} {s16 : Slot} {s17 : Slot} {s18 : Slot} {s19 : Slot} {s20 : Slot} {s21 : Slot} {s22 : Slot} {s23 : Slot} {s24 : Slot} {v : Addr} (h : One s21) : storeLocals #[s0, s1, s2, s3, s4, s5, s6, s7, s8, s9, s10, s11, s12, s13, s14, s15, s16, s17, s18, s19, s20, s21, s22, s23, s24] 21 (.ref v) = some #[s0, s1, s2, s3, s4, s5, s6, s7, s8, s9, s10, s11, s12, s13, s14, s15, s16, s17, s18, s19, s20, .val (.ref v), s22, s23, s24] := by
  rcases h with rfl | ⟨w, rfl, hw⟩
  · rfl
  · cases w <;> first | rfl | (simp [Value.category] at hw)
set_option maxRecDepth 65536 in
set_option maxHeartbeats 40000000 in
theorem w4 {p : Program} {l : Launch} {e : Env} {s : State} {m : MethodId} {args : Array Value} {below : List Frame} {meth : Method} {c : Code} {T0 : State} {locs : List Loc} {Z : State} {a0 : Array Value} {h0 : Heap} (s0 : Slot) (s1 : Slot) (s2 : Slot) (s3 : Slot) (s4 : Slot) (s5 : Slot) (s6 : Slot) (s7 : Slot) (s8 : Slot) (s9 : Slot) (s10 : Slot) (s11 : Slot) (s12 : Slot) (s13 : Slot) (s14 : Slot) (s15 : Slot) (s16 : Slot) (s17 : Slot) (s18 : Slot) (s19 : Slot) (s20 : Slot) (s21 : Slot) (s22 : Slot) (s23 : Slot) (s24 : Slot)  (n0 : Nat)
    (X0 : Stand p l e (room_1 : Room) s m args below meth c T0 locs 13 114) (hx : p.tables.exec = Jvm.exec) (hZ : Z.Warmed39 s.vm) (hw : ∀ d ∈ tables_1, d.before a0 Z = true) (hby : c.code = code) (hml : c.maxLocals = 25) (hown : s.vm.findClass "com/example/gumzo/gumzo/core/TaggedBase64EncodePinLaw" = some m.cls) (e0 : T0.heap = h0) (hs21 : One s21) (N0 : Fr n0 locs) (Z0 : n0 ≤ h0.size)  :
    ∃ (T' : State) (h' : Heap) (L' : List Loc) (b6 : Addr), Stand p l e (room_1 : Room) s m args below meth c T' L' 14 126 ∧ T'.heap = h' ∧ Fr n0 L' ∧ n0 ≤ b6 ∧ h0.size ≤ b6 ∧ Keep h0 h' [] ∧ Av Z h' b6 .char Int32.ofNat (List.replicate 12 0) ∧
      ∀ target, Steps p.tables e below (T'.setTop (mkF m 227 #[s0, s1, s2, s3, s4, s5, s6, s7, s8, s9, s10, s11, s12, s13, s14, s15, s16, s17, s18, s19, s20, .val (.ref b6), s22, s23, s24] [])) target → Steps p.tables e below (T0.setTop (mkF m 221 #[s0, s1, s2, s3, s4, s5, s6, s7, s8, s9, s10, s11, s12, s13, s14, s15, s16, s17, s18, s19, s20, s21, s22, s23, s24] [])) target := by
  obtain ⟨T6, h6, b6, X6, e6, E6, g_b6, sz_b6, A6, st6⟩ := newPv (a0 := a0) X0 hx hZ e0 Z0 (g := (mkF m 223 #[s0, s1, s2, s3, s4, s5, s6, s7, s8, s9, s10, s11, s12, s13, s14, s15, s16, s17, s18, s19, s20, s21, s22, s23, s24] [(.int (12 : Int32))])) rfl (hb hby at_223) rfl (hw _ (List.mem_of_getElem? (i := 9) rfl)) 12 (by decide) Int32.ofNat own_fc rfl rfl (cap := 12) (by decide) (by decide) (by decide) (by decide)
  refine ⟨T6, _, _, b6, X6, e6, N0, g_b6, sz_b6, (Keep.refl h0 []).ext E6, A6, fun target kt => ?_⟩
  show Steps p.tables e below (T0.setTop (mkF m 221 #[s0, s1, s2, s3, s4, s5, s6, s7, s8, s9, s10, s11, s12, s13, s14, s15, s16, s17, s18, s19, s20, s21, s22, s23, s24] [])) _
  refine XS.bipush X0.here hx rfl (hb hby at_221) ?_
  refine st6 _ ?_
  refine XS.astore X6.here hx rfl (hb hby at_225) rfl rfl (l' := #[s0, s1, s2, s3, s4, s5, s6, s7, s8, s9, s10, s11, s12, s13, s14, s15, s16, s17, s18, s19, s20, .val (.ref b6), s22, s23, s24]) (os0_225 hs21) ?_
  exact kt
set_option maxRecDepth 65536 in
set_option maxHeartbeats 40000000 in
theorem e0as {p : Program} {l : Launch} {e : Env} {R : Room} {s : State} {m : MethodId} {args : Array Value} {below : List Frame} {meth : Method} {c : Code} {T0 : State} {locs : List Loc} {cells slots : Nat} {Z : State} {a0 : Array Value} {h0 : Heap} (s0 : Slot) (s1 : Slot) (s2 : Slot) (s3 : Slot) (s4 : Slot) (s5 : Slot) (s7 : Slot) (s9 : Slot) (s10 : Slot) (s11 : Slot) (s12 : Slot) (s13 : Slot) (s14 : Slot) (s15 : Slot) (s16 : Slot) (s17 : Slot) (s18 : Slot) (s19 : Slot) (s20 : Slot) (o21 : Addr) (s22 : Slot) (s23 : Slot) (s24 : Slot) (n x : Nat) (ns : List Nat) (n0 : Nat)
    (X0 : Stand p l e R s m args below meth c T0 locs cells slots) (hx : p.tables.exec = Jvm.exec) (hZ : Z.Warmed39 s.vm) (hw : ∀ d ∈ tables_1, d.before a0 Z = true) (hby : c.code = code) (hml : c.maxLocals = 25) (hown : s.vm.findClass "com/example/gumzo/gumzo/core/TaggedBase64EncodePinLaw" = some m.cls) (e0 : T0.heap = h0) (N0 : Fr n0 locs) (Z0 : n0 ≤ h0.size) (A21 : Av Z h0 o21 .char Int32.ofNat ns) (hl : ns.length < 128) (hk : 0 < ns.length) (hx1 : x < 65536) (g_o21 : n0 ≤ o21) (hc229 : (0 : Int32) < Int32.ofNat n) :
    ∃ (T' : State) (h' : Heap) (L' : List Loc), Stand p l e R s m args below meth c T' L' cells slots ∧ T'.heap = h' ∧ Fr n0 L' ∧ Keep h0 h' [o21] ∧ Av Z h' o21 .char Int32.ofNat (ns.set (0) x) ∧
      ∀ target, Steps p.tables e below (T'.setTop (mkF m 238 #[s0, s1, s2, s3, s4, s5, .val (.int (Int32.ofNat n)), s7, .val (.int (Int32.ofNat x)), s9, s10, s11, s12, s13, s14, s15, s16, s17, s18, s19, s20, .val (.ref o21), s22, s23, s24] [])) target → Steps p.tables e below (T0.setTop (mkF m 227 #[s0, s1, s2, s3, s4, s5, .val (.int (Int32.ofNat n)), s7, .val (.int (Int32.ofNat x)), s9, s10, s11, s12, s13, s14, s15, s16, s17, s18, s19, s20, .val (.ref o21), s22, s23, s24] [])) target := by
  obtain ⟨T6, h6, L6, X6, e6, N6, K6, A6, st6⟩ := stCv X0 hx hZ e0 N0 g_o21 A21 (by omega) (0) hk x hx1 rfl rfl (g := (mkF m 237 #[s0, s1, s2, s3, s4, s5, .val (.int (Int32.ofNat n)), s7, .val (.int (Int32.ofNat x)), s9, s10, s11, s12, s13, s14, s15, s16, s17, s18, s19, s20, .val (.ref o21), s22, s23, s24] [(.int (Int32.ofNat x)), (.int (0 : Int32)), (.ref o21)])) rfl rfl (hb hby at_237)
  refine ⟨T6, _, _, X6, e6, N6, K6, A6, fun target kt => ?_⟩
  show Steps p.tables e below (T0.setTop (mkF m 227 #[s0, s1, s2, s3, s4, s5, .val (.int (Int32.ofNat n)), s7, .val (.int (Int32.ofNat x)), s9, s10, s11, s12, s13, s14, s15, s16, s17, s18, s19, s20, .val (.ref o21), s22, s23, s24] [])) _
  refine XS.iload X0.here hx rfl (hb hby at_227) rfl ?_
  refine XS.ifNo X0.here hx rfl (hb hby at_229) rfl ((if0 _ _).trans (tlt hc229).2.2.2) ?_
  refine XS.aload X0.here hx rfl (hb hby at_232) rfl rfl ?_
  refine XS.iconst X0.here hx rfl (hb hby at_234) ?_
  refine XS.iload X0.here hx rfl (hb hby at_235) rfl ?_
  refine st6 _ ?_
  exact kt
set_option maxRecDepth 65536 in
set_option maxHeartbeats 40000000 in
theorem e0an {p : Program} {l : Launch} {e : Env} {R : Room} {s : State} {m : MethodId} {args : Array Value} {below : List Frame} {meth : Method} {c : Code} {T0 : State} {locs : List Loc} {cells slots : Nat} {Z : State} {h0 : Heap} (s0 : Slot) (s1 : Slot) (s2 : Slot) (s3 : Slot) (s4 : Slot) (s5 : Slot) (i6 : Int32) (s7 : Slot) (s8 : Slot) (s9 : Slot) (s10 : Slot) (s11 : Slot) (s12 : Slot) (s13 : Slot) (s14 : Slot) (s15 : Slot) (s16 : Slot) (s17 : Slot) (s18 : Slot) (s19 : Slot) (s20 : Slot) (s21 : Slot) (s22 : Slot) (s23 : Slot) (s24 : Slot) 
    (X0 : Stand p l e R s m args below meth c T0 locs cells slots) (hx : p.tables.exec = Jvm.exec) (hZ : Z.Warmed39 s.vm) (hby : c.code = code) (e0 : T0.heap = h0) (hc229 : ¬ ((0 : Int32) < i6))  :
    ∀ target, Steps p.tables e below (T0.setTop (mkF m 238 #[s0, s1, s2, s3, s4, s5, .val (.int i6), s7, s8, s9, s10, s11, s12, s13, s14, s15, s16, s17, s18, s19, s20, s21, s22, s23, s24] [])) target → Steps p.tables e below (T0.setTop (mkF m 227 #[s0, s1, s2, s3, s4, s5, .val (.int i6), s7, s8, s9, s10, s11, s12, s13, s14, s15, s16, s17, s18, s19, s20, s21, s22, s23, s24] [])) target := by
  intro target kt
  show Steps p.tables e below (T0.setTop (mkF m 227 #[s0, s1, s2, s3, s4, s5, .val (.int i6), s7, s8, s9, s10, s11, s12, s13, s14, s15, s16, s17, s18, s19, s20, s21, s22, s23, s24] [])) _
  refine XS.iload X0.here hx rfl (hb hby at_227) rfl ?_
  refine XS.ifYes X0.here hx rfl (pc0 := 229) (pc' := 238) rfl (hb hby at_229) rfl ((if0 _ _).trans (flt hc229).2.2.2) (by decide) (by decide) ?_
  exact kt
set_option maxRecDepth 65536 in
set_option maxHeartbeats 40000000 in
theorem e0a {p : Program} {l : Launch} {e : Env} {R : Room} {s : State} {m : MethodId} {args : Array Value} {below : List Frame} {meth : Method} {c : Code} {T0 : State} {locs : List Loc} {cells slots : Nat} {Z : State} {a0 : Array Value} {h0 : Heap} (s0 : Slot) (s1 : Slot) (s2 : Slot) (s3 : Slot) (s4 : Slot) (s5 : Slot) (s7 : Slot) (s9 : Slot) (s10 : Slot) (s11 : Slot) (s12 : Slot) (s13 : Slot) (s14 : Slot) (s15 : Slot) (s16 : Slot) (s17 : Slot) (s18 : Slot) (s19 : Slot) (s20 : Slot) (o21 : Addr) (s22 : Slot) (s23 : Slot) (s24 : Slot) (n x : Nat) (ns : List Nat) (n0 : Nat)
    (X0 : Stand p l e R s m args below meth c T0 locs cells slots) (hx : p.tables.exec = Jvm.exec) (hZ : Z.Warmed39 s.vm) (hw : ∀ d ∈ tables_1, d.before a0 Z = true) (hby : c.code = code) (hml : c.maxLocals = 25) (hown : s.vm.findClass "com/example/gumzo/gumzo/core/TaggedBase64EncodePinLaw" = some m.cls) (e0 : T0.heap = h0) (N0 : Fr n0 locs) (Z0 : n0 ≤ h0.size) (A21 : Av Z h0 o21 .char Int32.ofNat ns) (hn : n < 128) (hl : ns.length < 128) (hk : 0 < n → 0 < ns.length) (hx1 : x < 65536) (g_o21 : n0 ≤ o21) :
    ∃ (T' : State) (h' : Heap) (L' : List Loc), Stand p l e R s m args below meth c T' L' cells slots ∧ T'.heap = h' ∧ Fr n0 L' ∧ Keep h0 h' [o21] ∧ Av Z h' o21 .char Int32.ofNat (if 0 < n then ns.set (0) x else ns) ∧
      ∀ target, Steps p.tables e below (T'.setTop (mkF m 238 #[s0, s1, s2, s3, s4, s5, .val (.int (Int32.ofNat n)), s7, .val (.int (Int32.ofNat x)), s9, s10, s11, s12, s13, s14, s15, s16, s17, s18, s19, s20, .val (.ref o21), s22, s23, s24] [])) target → Steps p.tables e below (T0.setTop (mkF m 227 #[s0, s1, s2, s3, s4, s5, .val (.int (Int32.ofNat n)), s7, .val (.int (Int32.ofNat x)), s9, s10, s11, s12, s13, s14, s15, s16, s17, s18, s19, s20, .val (.ref o21), s22, s23, s24] [])) target := by
  by_cases cc : 0 < n
  · rw [if_pos cc]
    exact e0as s0 s1 s2 s3 s4 s5 s7 s9 s10 s11 s12 s13 s14 s15 s16 s17 s18 s19 s20 o21 s22 s23 s24 n x ns n0 X0 hx hZ hw hby hml hown e0 N0 Z0 A21 (by omega) (hk cc) hx1 g_o21 (own_lt (i := 0) cc (by omega))
  · rw [if_neg cc]
    exact ⟨T0, h0, locs, X0, e0, N0, Keep.refl _ _, A21, fun target kt => e0an _ _ _ _ _ _ _ _ _ _ _ _ _ _ _ _ _ _ _ _ _ _ _ _ _ X0 hx hZ hby e0 (own_nlt (n := n) (i := 0) (by omega) (by decide)) _ kt⟩
set_option maxRecDepth 65536 in
set_option maxHeartbeats 40000000 in
theorem e0bs {p : Program} {l : Launch} {e : Env} {R : Room} {s : State} {m : MethodId} {args : Array Value} {below : List Frame} {meth : Method} {c : Code} {T0 : State} {locs : List Loc} {cells slots : Nat} {Z : State} {a0 : Array Value} {h0 : Heap} (s0 : Slot) (s1 : Slot) (s2 : Slot) (s3 : Slot) (s4 : Slot) (s5 : Slot) (s7 : Slot) (s8 : Slot) (s10 : Slot) (s11 : Slot) (s12 : Slot) (s13 : Slot) (s14 : Slot) (s15 : Slot) (s16 : Slot) (s17 : Slot) (s18 : Slot) (s19 : Slot) (s20 : Slot) (o21 : Addr) (s22 : Slot) (s23 : Slot) (s24 : Slot) (n x : Nat) (ns : List Nat) (n0 : Nat)
    (X0 : Stand p l e R s m args below meth c T0 locs cells slots) (hx : p.tables.exec = Jvm.exec) (hZ : Z.Warmed39 s.vm) (hw : ∀ d ∈ tables_1, d.before a0 Z = true) (hby : c.code = code) (hml : c.maxLocals = 25) (hown : s.vm.findClass "com/example/gumzo/gumzo/core/TaggedBase64EncodePinLaw" = some m.cls) (e0 : T0.heap = h0) (N0 : Fr n0 locs) (Z0 : n0 ≤ h0.size) (A21 : Av Z h0 o21 .char Int32.ofNat ns) (hl : ns.length < 128) (hk : 1 < ns.length) (hx1 : x < 65536) (g_o21 : n0 ≤ o21) (hc241 : (1 : Int32) < Int32.ofNat n) :
    ∃ (T' : State) (h' : Heap) (L' : List Loc), Stand p l e R s m args below meth c T' L' cells slots ∧ T'.heap = h' ∧ Fr n0 L' ∧ Keep h0 h' [o21] ∧ Av Z h' o21 .char Int32.ofNat (ns.set (1) x) ∧
      ∀ target, Steps p.tables e below (T'.setTop (mkF m 250 #[s0, s1, s2, s3, s4, s5, .val (.int (Int32.ofNat n)), s7, s8, .val (.int (Int32.ofNat x)), s10, s11, s12, s13, s14, s15, s16, s17, s18, s19, s20, .val (.ref o21), s22, s23, s24] [])) target → Steps p.tables e below (T0.setTop (mkF m 238 #[s0, s1, s2, s3, s4, s5, .val (.int (Int32.ofNat n)), s7, s8, .val (.int (Int32.ofNat x)), s10, s11, s12, s13, s14, s15, s16, s17, s18, s19, s20, .val (.ref o21), s22, s23, s24] [])) target := by
  obtain ⟨T6, h6, L6, X6, e6, N6, K6, A6, st6⟩ := stCv X0 hx hZ e0 N0 g_o21 A21 (by omega) (1) hk x hx1 rfl rfl (g := (mkF m 249 #[s0, s1, s2, s3, s4, s5, .val (.int (Int32.ofNat n)), s7, s8, .val (.int (Int32.ofNat x)), s10, s11, s12, s13, s14, s15, s16, s17, s18, s19, s20, .val (.ref o21), s22, s23, s24] [(.int (Int32.ofNat x)), (.int (1 : Int32)), (.ref o21)])) rfl rfl (hb hby at_249)
  refine ⟨T6, _, _, X6, e6, N6, K6, A6, fun target kt => ?_⟩
  show Steps p.tables e below (T0.setTop (mkF m 238 #[s0, s1, s2, s3, s4, s5, .val (.int (Int32.ofNat n)), s7, s8, .val (.int (Int32.ofNat x)), s10, s11, s12, s13, s14, s15, s16, s17, s18, s19, s20, .val (.ref o21), s22, s23, s24] [])) _
  refine XS.iload X0.here hx rfl (hb hby at_238) rfl ?_
  refine XS.iconst X0.here hx rfl (hb hby at_240) ?_
  refine XS.icmpNo X0.here hx rfl (hb hby at_241) rfl (tlt hc241).2.2.2 ?_
  refine XS.aload X0.here hx rfl (hb hby at_244) rfl rfl ?_
  refine XS.iconst X0.here hx rfl (hb hby at_246) ?_
  refine XS.iload X0.here hx rfl (hb hby at_247) rfl ?_
  refine st6 _ ?_
  exact kt
set_option maxRecDepth 65536 in
set_option maxHeartbeats 40000000 in
theorem e0bn {p : Program} {l : Launch} {e : Env} {R : Room} {s : State} {m : MethodId} {args : Array Value} {below : List Frame} {meth : Method} {c : Code} {T0 : State} {locs : List Loc} {cells slots : Nat} {Z : State} {h0 : Heap} (s0 : Slot) (s1 : Slot) (s2 : Slot) (s3 : Slot) (s4 : Slot) (s5 : Slot) (i6 : Int32) (s7 : Slot) (s8 : Slot) (s9 : Slot) (s10 : Slot) (s11 : Slot) (s12 : Slot) (s13 : Slot) (s14 : Slot) (s15 : Slot) (s16 : Slot) (s17 : Slot) (s18 : Slot) (s19 : Slot) (s20 : Slot) (s21 : Slot) (s22 : Slot) (s23 : Slot) (s24 : Slot) 
    (X0 : Stand p l e R s m args below meth c T0 locs cells slots) (hx : p.tables.exec = Jvm.exec) (hZ : Z.Warmed39 s.vm) (hby : c.code = code) (e0 : T0.heap = h0) (hc241 : ¬ ((1 : Int32) < i6))  :
    ∀ target, Steps p.tables e below (T0.setTop (mkF m 250 #[s0, s1, s2, s3, s4, s5, .val (.int i6), s7, s8, s9, s10, s11, s12, s13, s14, s15, s16, s17, s18, s19, s20, s21, s22, s23, s24] [])) target → Steps p.tables e below (T0.setTop (mkF m 238 #[s0, s1, s2, s3, s4, s5, .val (.int i6), s7, s8, s9, s10, s11, s12, s13, s14, s15, s16, s17, s18, s19, s20, s21, s22, s23, s24] [])) target := by
  intro target kt
  show Steps p.tables e below (T0.setTop (mkF m 238 #[s0, s1, s2, s3, s4, s5, .val (.int i6), s7, s8, s9, s10, s11, s12, s13, s14, s15, s16, s17, s18, s19, s20, s21, s22, s23, s24] [])) _
  refine XS.iload X0.here hx rfl (hb hby at_238) rfl ?_
  refine XS.iconst X0.here hx rfl (hb hby at_240) ?_
  refine XS.icmpYes X0.here hx rfl (pc0 := 241) (pc' := 250) rfl (hb hby at_241) rfl (flt hc241).2.2.2 (by decide) (by decide) ?_
  exact kt
set_option maxRecDepth 65536 in
set_option maxHeartbeats 40000000 in
theorem e0b {p : Program} {l : Launch} {e : Env} {R : Room} {s : State} {m : MethodId} {args : Array Value} {below : List Frame} {meth : Method} {c : Code} {T0 : State} {locs : List Loc} {cells slots : Nat} {Z : State} {a0 : Array Value} {h0 : Heap} (s0 : Slot) (s1 : Slot) (s2 : Slot) (s3 : Slot) (s4 : Slot) (s5 : Slot) (s7 : Slot) (s8 : Slot) (s10 : Slot) (s11 : Slot) (s12 : Slot) (s13 : Slot) (s14 : Slot) (s15 : Slot) (s16 : Slot) (s17 : Slot) (s18 : Slot) (s19 : Slot) (s20 : Slot) (o21 : Addr) (s22 : Slot) (s23 : Slot) (s24 : Slot) (n x : Nat) (ns : List Nat) (n0 : Nat)
    (X0 : Stand p l e R s m args below meth c T0 locs cells slots) (hx : p.tables.exec = Jvm.exec) (hZ : Z.Warmed39 s.vm) (hw : ∀ d ∈ tables_1, d.before a0 Z = true) (hby : c.code = code) (hml : c.maxLocals = 25) (hown : s.vm.findClass "com/example/gumzo/gumzo/core/TaggedBase64EncodePinLaw" = some m.cls) (e0 : T0.heap = h0) (N0 : Fr n0 locs) (Z0 : n0 ≤ h0.size) (A21 : Av Z h0 o21 .char Int32.ofNat ns) (hn : n < 128) (hl : ns.length < 128) (hk : 1 < n → 1 < ns.length) (hx1 : x < 65536) (g_o21 : n0 ≤ o21) :
    ∃ (T' : State) (h' : Heap) (L' : List Loc), Stand p l e R s m args below meth c T' L' cells slots ∧ T'.heap = h' ∧ Fr n0 L' ∧ Keep h0 h' [o21] ∧ Av Z h' o21 .char Int32.ofNat (if 1 < n then ns.set (1) x else ns) ∧
      ∀ target, Steps p.tables e below (T'.setTop (mkF m 250 #[s0, s1, s2, s3, s4, s5, .val (.int (Int32.ofNat n)), s7, s8, .val (.int (Int32.ofNat x)), s10, s11, s12, s13, s14, s15, s16, s17, s18, s19, s20, .val (.ref o21), s22, s23, s24] [])) target → Steps p.tables e below (T0.setTop (mkF m 238 #[s0, s1, s2, s3, s4, s5, .val (.int (Int32.ofNat n)), s7, s8, .val (.int (Int32.ofNat x)), s10, s11, s12, s13, s14, s15, s16, s17, s18, s19, s20, .val (.ref o21), s22, s23, s24] [])) target := by
  by_cases cc : 1 < n
  · rw [if_pos cc]
    exact e0bs s0 s1 s2 s3 s4 s5 s7 s8 s10 s11 s12 s13 s14 s15 s16 s17 s18 s19 s20 o21 s22 s23 s24 n x ns n0 X0 hx hZ hw hby hml hown e0 N0 Z0 A21 (by omega) (hk cc) hx1 g_o21 (own_lt (i := 1) cc (by omega))
  · rw [if_neg cc]
    exact ⟨T0, h0, locs, X0, e0, N0, Keep.refl _ _, A21, fun target kt => e0bn _ _ _ _ _ _ _ _ _ _ _ _ _ _ _ _ _ _ _ _ _ _ _ _ _ X0 hx hZ hby e0 (own_nlt (n := n) (i := 1) (by omega) (by decide)) _ kt⟩
theorem os0_252 {s0 : Slot} {s1 : Slot} {s2 : Slot} {s3 : Slot} {s4 : Slot} {s5 : Slot} {z6 : Value} {s7 : Slot} {s8 : Slot} {s9 : Slot} {s10 : Slot} {s11 : Slot} {s12 : Slot} {s13 : Slot} {s14 : Slot} {s15 : Slot} {s16 : Slot} {s17 : Slot} {s18 : Slot} {s19 : Slot} {s20 : Slot} {s21 : Slot} {s22 : Slot} {s23 : Slot} {s24 : Slot} {v : Int32} (h : One s22) : storeLocals #[s0, s1, s2, s3, s4, s5, .val z6, s7, s8, s9, s10, s11, s12, s13, s14, s15, s16, s17, s18, s19, s20, s21, s22, s23, s24] 22 (.int v) = some #[s0, s1, s2, s3, s4, s5, .val z6, s7, s8, s9, s10, s11, s12, s13, s14, s15, s16, s17, s18, s19, s20, s21, .val (.int v), s23, s24] := by
  rcases h with rfl | ⟨w, rfl, hw⟩
  · rfl
  · cases w <;> first | rfl | (simp [Value.category] at hw)
set_option maxRecDepth 65536 in
set_option maxHeartbeats 40000000 in
theorem w5 {p : Program} {l : Launch} {e : Env} {R : Room} {s : State} {m : MethodId} {args : Array Value} {below : List Frame} {meth : Method} {c : Code} {T0 : State} {locs : List Loc} {cells slots : Nat} {Z : State} {h0 : Heap} (s0 : Slot) (s1 : Slot) (s2 : Slot) (s3 : Slot) (s4 : Slot) (s5 : Slot) (i6 : Int32) (s7 : Slot) (s8 : Slot) (s9 : Slot) (s10 : Slot) (s11 : Slot) (s12 : Slot) (s13 : Slot) (s14 : Slot) (s15 : Slot) (s16 : Slot) (s17 : Slot) (s18 : Slot) (s19 : Slot) (s20 : Slot) (s21 : Slot) (s22 : Slot) (s23 : Slot) (s24 : Slot) 
    (X0 : Stand p l e R s m args below meth c T0 locs cells slots) (hx : p.tables.exec = Jvm.exec) (hZ : Z.Warmed39 s.vm) (hby : c.code = code) (e0 : T0.heap = h0) (hs22 : One s22)  :
    ∀ target, Steps p.tables e below (T0.setTop (mkF m 254 #[s0, s1, s2, s3, s4, s5, .val (.int i6), s7, s8, s9, s10, s11, s12, s13, s14, s15, s16, s17, s18, s19, s20, s21, .val (.int i6), s23, s24] [])) target → Steps p.tables e below (T0.setTop (mkF m 250 #[s0, s1, s2, s3, s4, s5, .val (.int i6), s7, s8, s9, s10, s11, s12, s13, s14, s15, s16, s17, s18, s19, s20, s21, s22, s23, s24] [])) target := by
  intro target kt
  show Steps p.tables e below (T0.setTop (mkF m 250 #[s0, s1, s2, s3, s4, s5, .val (.int i6), s7, s8, s9, s10, s11, s12, s13, s14, s15, s16, s17, s18, s19, s20, s21, s22, s23, s24] [])) _
  refine XS.iload X0.here hx rfl (hb hby at_250) rfl ?_
  refine XS.istore X0.here hx rfl (hb hby at_252) rfl (l' := #[s0, s1, s2, s3, s4, s5, .val (.int i6), s7, s8, s9, s10, s11, s12, s13, s14, s15, s16, s17, s18, s19, s20, s21, .val (.int i6), s23, s24]) (os0_252 hs22) ?_
  exact kt
set_option maxRecDepth 65536 in
set_option maxHeartbeats 40000000 in
theorem e0cs {p : Program} {l : Launch} {e : Env} {R : Room} {s : State} {m : MethodId} {args : Array Value} {below : List Frame} {meth : Method} {c : Code} {T0 : State} {locs : List Loc} {cells slots : Nat} {Z : State} {a0 : Array Value} {h0 : Heap} (s0 : Slot) (s1 : Slot) (s2 : Slot) (s3 : Slot) (s4 : Slot) (s5 : Slot) (s6 : Slot) (s8 : Slot) (s9 : Slot) (s11 : Slot) (s12 : Slot) (s13 : Slot) (s14 : Slot) (s15 : Slot) (s16 : Slot) (s17 : Slot) (s18 : Slot) (s19 : Slot) (s20 : Slot) (o21 : Addr) (s23 : Slot) (s24 : Slot) (n x pp : Nat) (ns : List Nat) (n0 : Nat)
    (X0 : Stand p l e R s m args below meth c T0 locs cells slots) (hx : p.tables.exec = Jvm.exec) (hZ : Z.Warmed39 s.vm) (hw : ∀ d ∈ tables_1, d.before a0 Z = true) (hby : c.code = code) (hml : c.maxLocals = 25) (hown : s.vm.findClass "com/example/gumzo/gumzo/core/TaggedBase64EncodePinLaw" = some m.cls) (e0 : T0.heap = h0) (N0 : Fr n0 locs) (Z0 : n0 ≤ h0.size) (A21 : Av Z h0 o21 .char Int32.ofNat ns) (hl : ns.length < 128) (hk : pp < ns.length) (hx1 : x < 65536) (g_o21 : n0 ≤ o21) (hc310 : (0 : Int32) < Int32.ofNat n) :
    ∃ (T' : State) (h' : Heap) (L' : List Loc), Stand p l e R s m args below meth c T' L' cells slots ∧ T'.heap = h' ∧ Fr n0 L' ∧ Keep h0 h' [o21] ∧ Av Z h' o21 .char Int32.ofNat (ns.set (pp) x) ∧
      ∀ target, Steps p.tables e below (T'.setTop (mkF m 320 #[s0, s1, s2, s3, s4, s5, s6, .val (.int (Int32.ofNat n)), s8, s9, .val (.int (Int32.ofNat x)), s11, s12, s13, s14, s15, s16, s17, s18, s19, s20, .val (.ref o21), .val (.int (Int32.ofNat pp)), s23, s24] [])) target → Steps p.tables e below (T0.setTop (mkF m 308 #[s0, s1, s2, s3, s4, s5, s6, .val (.int (Int32.ofNat n)), s8, s9, .val (.int (Int32.ofNat x)), s11, s12, s13, s14, s15, s16, s17, s18, s19, s20, .val (.ref o21), .val (.int (Int32.ofNat pp)), s23, s24] [])) target := by
  obtain ⟨T6, h6, L6, X6, e6, N6, K6, A6, st6⟩ := stCv X0 hx hZ e0 N0 g_o21 A21 (by omega) (pp) hk x hx1 rfl rfl (g := (mkF m 319 #[s0, s1, s2, s3, s4, s5, s6, .val (.int (Int32.ofNat n)), s8, s9, .val (.int (Int32.ofNat x)), s11, s12, s13, s14, s15, s16, s17, s18, s19, s20, .val (.ref o21), .val (.int (Int32.ofNat pp)), s23, s24] [(.int (Int32.ofNat x)), (.int (Int32.ofNat pp)), (.ref o21)])) rfl rfl (hb hby at_319)
  refine ⟨T6, _, _, X6, e6, N6, K6, A6, fun target kt => ?_⟩
  show Steps p.tables e below (T0.setTop (mkF m 308 #[s0, s1, s2, s3, s4, s5, s6, .val (.int (Int32.ofNat n)), s8, s9, .val (.int (Int32.ofNat x)), s11, s12, s13, s14, s15, s16, s17, s18, s19, s20, .val (.ref o21), .val (.int (Int32.ofNat pp)), s23, s24] [])) _
  refine XS.iload X0.here hx rfl (hb hby at_308) rfl ?_
  refine XS.ifNo X0.here hx rfl (hb hby at_310) rfl ((if0 _ _).trans (tlt hc310).2.2.2) ?_
  refine XS.aload X0.here hx rfl (hb hby at_313) rfl rfl ?_
  refine XS.iload X0.here hx rfl (hb hby at_315) rfl ?_
  refine XS.iload X0.here hx rfl (hb hby at_317) rfl ?_
  refine st6 _ ?_
  exact kt
set_option maxRecDepth 65536 in
set_option maxHeartbeats 40000000 in
theorem e0cn {p : Program} {l : Launch} {e : Env} {R : Room} {s : State} {m : MethodId} {args : Array Value} {below : List Frame} {meth : Method} {c : Code} {T0 : State} {locs : List Loc} {cells slots : Nat} {Z : State} {h0 : Heap} (s0 : Slot) (s1 : Slot) (s2 : Slot) (s3 : Slot) (s4 : Slot) (s5 : Slot) (s6 : Slot) (i7 : Int32) (s8 : Slot) (s9 : Slot) (s10 : Slot) (s11 : Slot) (s12 : Slot) (s13 : Slot) (s14 : Slot) (s15 : Slot) (s16 : Slot) (s17 : Slot) (s18 : Slot) (s19 : Slot) (s20 : Slot) (s21 : Slot) (s22 : Slot) (s23 : Slot) (s24 : Slot) 
    (X0 : Stand p l e R s m args below meth c T0 locs cells slots) (hx : p.tables.exec = Jvm.exec) (hZ : Z.Warmed39 s.vm) (hby : c.code = code) (e0 : T0.heap = h0) (hc310 : ¬ ((0 : Int32) < i7))  :
    ∀ target, Steps p.tables e below (T0.setTop (mkF m 320 #[s0, s1, s2, s3, s4, s5, s6, .val (.int i7), s8, s9, s10, s11, s12, s13, s14, s15, s16, s17, s18, s19, s20, s21, s22, s23, s24] [])) target → Steps p.tables e below (T0.setTop (mkF m 308 #[s0, s1, s2, s3, s4, s5, s6, .val (.int i7), s8, s9, s10, s11, s12, s13, s14, s15, s16, s17, s18, s19, s20, s21, s22, s23, s24] [])) target := by
  intro target kt
  show Steps p.tables e below (T0.setTop (mkF m 308 #[s0, s1, s2, s3, s4, s5, s6, .val (.int i7), s8, s9, s10, s11, s12, s13, s14, s15, s16, s17, s18, s19, s20, s21, s22, s23, s24] [])) _
  refine XS.iload X0.here hx rfl (hb hby at_308) rfl ?_
  refine XS.ifYes X0.here hx rfl (pc0 := 310) (pc' := 320) rfl (hb hby at_310) rfl ((if0 _ _).trans (flt hc310).2.2.2) (by decide) (by decide) ?_
  exact kt
set_option maxRecDepth 65536 in
set_option maxHeartbeats 40000000 in
theorem e0c {p : Program} {l : Launch} {e : Env} {R : Room} {s : State} {m : MethodId} {args : Array Value} {below : List Frame} {meth : Method} {c : Code} {T0 : State} {locs : List Loc} {cells slots : Nat} {Z : State} {a0 : Array Value} {h0 : Heap} (s0 : Slot) (s1 : Slot) (s2 : Slot) (s3 : Slot) (s4 : Slot) (s5 : Slot) (s6 : Slot) (s8 : Slot) (s9 : Slot) (s11 : Slot) (s12 : Slot) (s13 : Slot) (s14 : Slot) (s15 : Slot) (s16 : Slot) (s17 : Slot) (s18 : Slot) (s19 : Slot) (s20 : Slot) (o21 : Addr) (s23 : Slot) (s24 : Slot) (n x pp : Nat) (ns : List Nat) (n0 : Nat)
    (X0 : Stand p l e R s m args below meth c T0 locs cells slots) (hx : p.tables.exec = Jvm.exec) (hZ : Z.Warmed39 s.vm) (hw : ∀ d ∈ tables_1, d.before a0 Z = true) (hby : c.code = code) (hml : c.maxLocals = 25) (hown : s.vm.findClass "com/example/gumzo/gumzo/core/TaggedBase64EncodePinLaw" = some m.cls) (e0 : T0.heap = h0) (N0 : Fr n0 locs) (Z0 : n0 ≤ h0.size) (A21 : Av Z h0 o21 .char Int32.ofNat ns) (hn : n < 128) (hl : ns.length < 128) (hk : 0 < n → pp < ns.length) (hx1 : x < 65536) (g_o21 : n0 ≤ o21) :
    ∃ (T' : State) (h' : Heap) (L' : List Loc), Stand p l e R s m args below meth c T' L' cells slots ∧ T'.heap = h' ∧ Fr n0 L' ∧ Keep h0 h' [o21] ∧ Av Z h' o21 .char Int32.ofNat (if 0 < n then ns.set (pp) x else ns) ∧
      ∀ target, Steps p.tables e below (T'.setTop (mkF m 320 #[s0, s1, s2, s3, s4, s5, s6, .val (.int (Int32.ofNat n)), s8, s9, .val (.int (Int32.ofNat x)), s11, s12, s13, s14, s15, s16, s17, s18, s19, s20, .val (.ref o21), .val (.int (Int32.ofNat pp)), s23, s24] [])) target → Steps p.tables e below (T0.setTop (mkF m 308 #[s0, s1, s2, s3, s4, s5, s6, .val (.int (Int32.ofNat n)), s8, s9, .val (.int (Int32.ofNat x)), s11, s12, s13, s14, s15, s16, s17, s18, s19, s20, .val (.ref o21), .val (.int (Int32.ofNat pp)), s23, s24] [])) target := by
  by_cases cc : 0 < n
  · rw [if_pos cc]
    exact e0cs s0 s1 s2 s3 s4 s5 s6 s8 s9 s11 s12 s13 s14 s15 s16 s17 s18 s19 s20 o21 s23 s24 n x pp ns n0 X0 hx hZ hw hby hml hown e0 N0 Z0 A21 (by omega) (hk cc) hx1 g_o21 (own_lt (i := 0) cc (by omega))
  · rw [if_neg cc]
    exact ⟨T0, h0, locs, X0, e0, N0, Keep.refl _ _, A21, fun target kt => e0cn _ _ _ _ _ _ _ _ _ _ _ _ _ _ _ _ _ _ _ _ _ _ _ _ _ X0 hx hZ hby e0 (own_nlt (n := n) (i := 0) (by omega) (by decide)) _ kt⟩
set_option maxRecDepth 65536 in
set_option maxHeartbeats 40000000 in
theorem e0ds {p : Program} {l : Launch} {e : Env} {R : Room} {s : State} {m : MethodId} {args : Array Value} {below : List Frame} {meth : Method} {c : Code} {T0 : State} {locs : List Loc} {cells slots : Nat} {Z : State} {a0 : Array Value} {h0 : Heap} (s0 : Slot) (s1 : Slot) (s2 : Slot) (s3 : Slot) (s4 : Slot) (s5 : Slot) (s6 : Slot) (s8 : Slot) (s9 : Slot) (s10 : Slot) (s12 : Slot) (s13 : Slot) (s14 : Slot) (s15 : Slot) (s16 : Slot) (s17 : Slot) (s18 : Slot) (s19 : Slot) (s20 : Slot) (o21 : Addr) (s23 : Slot) (s24 : Slot) (n x pp : Nat) (ns : List Nat) (n0 : Nat)
    (X0 : Stand p l e R s m args below meth c T0 locs cells slots) (hx : p.tables.exec = Jvm.exec) (hZ : Z.Warmed39 s.vm) (hw : ∀ d ∈ tables_1, d.before a0 Z = true) (hby : c.code = code) (hml : c.maxLocals = 25) (hown : s.vm.findClass "com/example/gumzo/gumzo/core/TaggedBase64EncodePinLaw" = some m.cls) (e0 : T0.heap = h0) (N0 : Fr n0 locs) (Z0 : n0 ≤ h0.size) (A21 : Av Z h0 o21 .char Int32.ofNat ns) (hl : ns.length < 128) (hk : pp + 1 < ns.length) (hx1 : x < 65536) (g_o21 : n0 ≤ o21) (hc323 : (1 : Int32) < Int32.ofNat n) :
    ∃ (T' : State) (h' : Heap) (L' : List Loc), Stand p l e R s m args below meth c T' L' cells slots ∧ T'.heap = h' ∧ Fr n0 L' ∧ Keep h0 h' [o21] ∧ Av Z h' o21 .char Int32.ofNat (ns.set (pp + 1) x) ∧
      ∀ target, Steps p.tables e below (T'.setTop (mkF m 335 #[s0, s1, s2, s3, s4, s5, s6, .val (.int (Int32.ofNat n)), s8, s9, s10, .val (.int (Int32.ofNat x)), s12, s13, s14, s15, s16, s17, s18, s19, s20, .val (.ref o21), .val (.int (Int32.ofNat pp)), s23, s24] [])) target → Steps p.tables e below (T0.setTop (mkF m 320 #[s0, s1, s2, s3, s4, s5, s6, .val (.int (Int32.ofNat n)), s8, s9, s10, .val (.int (Int32.ofNat x)), s12, s13, s14, s15, s16, s17, s18, s19, s20, .val (.ref o21), .val (.int (Int32.ofNat pp)), s23, s24] [])) target := by
  obtain ⟨T6, h6, L6, X6, e6, N6, K6, A6, st6⟩ := stCv X0 hx hZ e0 N0 g_o21 A21 (by omega) (pp + 1) hk x hx1 (own_suc pp) rfl (g := (mkF m 334 #[s0, s1, s2, s3, s4, s5, s6, .val (.int (Int32.ofNat n)), s8, s9, s10, .val (.int (Int32.ofNat x)), s12, s13, s14, s15, s16, s17, s18, s19, s20, .val (.ref o21), .val (.int (Int32.ofNat pp)), s23, s24] [(.int (Int32.ofNat x)), (.int ((Int32.ofNat pp) + (1 : Int32))), (.ref o21)])) rfl rfl (hb hby at_334)
  refine ⟨T6, _, _, X6, e6, N6, K6, A6, fun target kt => ?_⟩
  show Steps p.tables e below (T0.setTop (mkF m 320 #[s0, s1, s2, s3, s4, s5, s6, .val (.int (Int32.ofNat n)), s8, s9, s10, .val (.int (Int32.ofNat x)), s12, s13, s14, s15, s16, s17, s18, s19, s20, .val (.ref o21), .val (.int (Int32.ofNat pp)), s23, s24] [])) _
  refine XS.iload X0.here hx rfl (hb hby at_320) rfl ?_
  refine XS.iconst X0.here hx rfl (hb hby at_322) ?_
  refine XS.icmpNo X0.here hx rfl (hb hby at_323) rfl (tlt hc323).2.2.2 ?_
  refine XS.aload X0.here hx rfl (hb hby at_326) rfl rfl ?_
  refine XS.iload X0.here hx rfl (hb hby at_328) rfl ?_
  refine XS.iconst X0.here hx rfl (hb hby at_330) ?_
  refine XS.iadd X0.here hx rfl (hb hby at_331) rfl ?_
  show Steps p.tables e below (T0.setTop (mkF m 332 #[s0, s1, s2, s3, s4, s5, s6, .val (.int (Int32.ofNat n)), s8, s9, s10, .val (.int (Int32.ofNat x)), s12, s13, s14, s15, s16, s17, s18, s19, s20, .val (.ref o21), .val (.int (Int32.ofNat pp)), s23, s24] [(.int ((Int32.ofNat pp) + (1 : Int32))), (.ref o21)])) _
  refine XS.iload X0.here hx rfl (hb hby at_332) rfl ?_
  refine st6 _ ?_
  exact kt
set_option maxRecDepth 65536 in
set_option maxHeartbeats 40000000 in
theorem e0dn {p : Program} {l : Launch} {e : Env} {R : Room} {s : State} {m : MethodId} {args : Array Value} {below : List Frame} {meth : Method} {c : Code} {T0 : State} {locs : List Loc} {cells slots : Nat} {Z : State} {h0 : Heap} (s0 : Slot) (s1 : Slot) (s2 : Slot) (s3 : Slot) (s4 : Slot) (s5 : Slot) (s6 : Slot) (i7 : Int32) (s8 : Slot) (s9 : Slot) (s10 : Slot) (s11 : Slot) (s12 : Slot) (s13 : Slot) (s14 : Slot) (s15 : Slot) (s16 : Slot) (s17 : Slot) (s18 : Slot) (s19 : Slot) (s20 : Slot) (s21 : Slot) (s22 : Slot) (s23 : Slot) (s24 : Slot) 
    (X0 : Stand p l e R s m args below meth c T0 locs cells slots) (hx : p.tables.exec = Jvm.exec) (hZ : Z.Warmed39 s.vm) (hby : c.code = code) (e0 : T0.heap = h0) (hc323 : ¬ ((1 : Int32) < i7))  :
    ∀ target, Steps p.tables e below (T0.setTop (mkF m 335 #[s0, s1, s2, s3, s4, s5, s6, .val (.int i7), s8, s9, s10, s11, s12, s13, s14, s15, s16, s17, s18, s19, s20, s21, s22, s23, s24] [])) target → Steps p.tables e below (T0.setTop (mkF m 320 #[s0, s1, s2, s3, s4, s5, s6, .val (.int i7), s8, s9, s10, s11, s12, s13, s14, s15, s16, s17, s18, s19, s20, s21, s22, s23, s24] [])) target := by
  intro target kt
  show Steps p.tables e below (T0.setTop (mkF m 320 #[s0, s1, s2, s3, s4, s5, s6, .val (.int i7), s8, s9, s10, s11, s12, s13, s14, s15, s16, s17, s18, s19, s20, s21, s22, s23, s24] [])) _
  refine XS.iload X0.here hx rfl (hb hby at_320) rfl ?_
  refine XS.iconst X0.here hx rfl (hb hby at_322) ?_
  refine XS.icmpYes X0.here hx rfl (pc0 := 323) (pc' := 335) rfl (hb hby at_323) rfl (flt hc323).2.2.2 (by decide) (by decide) ?_
  exact kt
set_option maxRecDepth 65536 in
set_option maxHeartbeats 40000000 in
theorem e0d {p : Program} {l : Launch} {e : Env} {R : Room} {s : State} {m : MethodId} {args : Array Value} {below : List Frame} {meth : Method} {c : Code} {T0 : State} {locs : List Loc} {cells slots : Nat} {Z : State} {a0 : Array Value} {h0 : Heap} (s0 : Slot) (s1 : Slot) (s2 : Slot) (s3 : Slot) (s4 : Slot) (s5 : Slot) (s6 : Slot) (s8 : Slot) (s9 : Slot) (s10 : Slot) (s12 : Slot) (s13 : Slot) (s14 : Slot) (s15 : Slot) (s16 : Slot) (s17 : Slot) (s18 : Slot) (s19 : Slot) (s20 : Slot) (o21 : Addr) (s23 : Slot) (s24 : Slot) (n x pp : Nat) (ns : List Nat) (n0 : Nat)
    (X0 : Stand p l e R s m args below meth c T0 locs cells slots) (hx : p.tables.exec = Jvm.exec) (hZ : Z.Warmed39 s.vm) (hw : ∀ d ∈ tables_1, d.before a0 Z = true) (hby : c.code = code) (hml : c.maxLocals = 25) (hown : s.vm.findClass "com/example/gumzo/gumzo/core/TaggedBase64EncodePinLaw" = some m.cls) (e0 : T0.heap = h0) (N0 : Fr n0 locs) (Z0 : n0 ≤ h0.size) (A21 : Av Z h0 o21 .char Int32.ofNat ns) (hn : n < 128) (hl : ns.length < 128) (hk : 1 < n → pp + 1 < ns.length) (hx1 : x < 65536) (g_o21 : n0 ≤ o21) :
    ∃ (T' : State) (h' : Heap) (L' : List Loc), Stand p l e R s m args below meth c T' L' cells slots ∧ T'.heap = h' ∧ Fr n0 L' ∧ Keep h0 h' [o21] ∧ Av Z h' o21 .char Int32.ofNat (if 1 < n then ns.set (pp + 1) x else ns) ∧
      ∀ target, Steps p.tables e below (T'.setTop (mkF m 335 #[s0, s1, s2, s3, s4, s5, s6, .val (.int (Int32.ofNat n)), s8, s9, s10, .val (.int (Int32.ofNat x)), s12, s13, s14, s15, s16, s17, s18, s19, s20, .val (.ref o21), .val (.int (Int32.ofNat pp)), s23, s24] [])) target → Steps p.tables e below (T0.setTop (mkF m 320 #[s0, s1, s2, s3, s4, s5, s6, .val (.int (Int32.ofNat n)), s8, s9, s10, .val (.int (Int32.ofNat x)), s12, s13, s14, s15, s16, s17, s18, s19, s20, .val (.ref o21), .val (.int (Int32.ofNat pp)), s23, s24] [])) target := by
  by_cases cc : 1 < n
  · rw [if_pos cc]
    exact e0ds s0 s1 s2 s3 s4 s5 s6 s8 s9 s10 s12 s13 s14 s15 s16 s17 s18 s19 s20 o21 s23 s24 n x pp ns n0 X0 hx hZ hw hby hml hown e0 N0 Z0 A21 (by omega) (hk cc) hx1 g_o21 (own_lt (i := 1) cc (by omega))
  · rw [if_neg cc]
    exact ⟨T0, h0, locs, X0, e0, N0, Keep.refl _ _, A21, fun target kt => e0dn _ _ _ _ _ _ _ _ _ _ _ _ _ _ _ _ _ _ _ _ _ _ _ _ _ X0 hx hZ hby e0 (own_nlt (n := n) (i := 1) (by omega) (by decide)) _ kt⟩
theorem pd_0_15 : parseMethodDescriptor "(II)I" = some ⟨[.int, .int], some .int⟩ := by decide +kernel
theorem pd_0_16 : parseMethodDescriptor "([CIIIII)V" = some ⟨[(.array .char), .int, .int, .int, .int, .int], none⟩ := by decide +kernel
set_option maxRecDepth 65536 in
set_option maxHeartbeats 40000000 in
theorem q0s {p : Program} {l : Launch} {e : Env} {s : State} {m : MethodId} {args : Array Value} {below : List Frame} {meth : Method} {c : Code} {T0 : State} {locs : List Loc} {Z : State} {a0 : Array Value} {h0 : Heap} (s0 : Slot) (s1 : Slot) (s2 : Slot) (s3 : Slot) (s4 : Slot) (s6 : Slot) (s7 : Slot) (s8 : Slot) (s9 : Slot) (s10 : Slot) (s11 : Slot) (s15 : Slot) (s16 : Slot) (s17 : Slot) (s18 : Slot) (s19 : Slot) (s20 : Slot) (o21 : Addr) (s23 : Slot) (s24 : Slot) (n x y z pp : Nat) (ns : List Nat) (n0 : Nat)
    (X0 : Stand p l e (room_1 : Room) s m args below meth c T0 locs 14 126) (hx : p.tables.exec = Jvm.exec) (hZ : Z.Warmed39 s.vm) (hw : ∀ d ∈ tables_1, d.before a0 Z = true) (hby : c.code = code) (hml : c.maxLocals = 25) (hown : s.vm.findClass "com/example/gumzo/gumzo/core/TaggedBase64EncodePinLaw" = some m.cls) (e0 : T0.heap = h0) (N0 : Fr n0 locs) (Z0 : n0 ≤ h0.size) (A21 : Av Z h0 o21 .char Int32.ofNat ns) (hl : ns.length < 128) (hx1 : x < 256) (hy1 : y < 256) (hz1 : z < 256) (g_o21 : n0 ≤ o21) (hn1 : 1 ≤ n) (hn : n < 7) (hk : pp + 3 < ns.length) (hc257 : ¬ (Int32.ofNat n < (1 : Int32))) :
    ∃ (T' : State) (h' : Heap) (L' : List Loc), Stand p l e (room_1 : Room) s m args below meth c T' L' 14 126 ∧ T'.heap = h' ∧ Fr n0 L' ∧ Keep h0 h' [o21] ∧ Av Z h' o21 .char Int32.ofNat (qd ns pp x y z (min n 3)) ∧
      ∀ target, Steps p.tables e below (T'.setTop (mkF m 282 #[s0, s1, s2, s3, s4, .val (.int (Int32.ofNat n)), s6, s7, s8, s9, s10, s11, .val (.int (Int32.ofNat x)), .val (.int (Int32.ofNat y)), .val (.int (Int32.ofNat z)), s15, s16, s17, s18, s19, s20, .val (.ref o21), .val (.int ((Int32.ofNat pp) + (4 : Int32))), s23, s24] [])) target → Steps p.tables e below (T0.setTop (mkF m 254 #[s0, s1, s2, s3, s4, .val (.int (Int32.ofNat n)), s6, s7, s8, s9, s10, s11, .val (.int (Int32.ofNat x)), .val (.int (Int32.ofNat y)), .val (.int (Int32.ofNat z)), s15, s16, s17, s18, s19, s20, .val (.ref o21), .val (.int (Int32.ofNat pp)), s23, s24] [])) target := by
  obtain ⟨_, _, ⟨T6, L6, k6, n6⟩, -, X6, ⟨Lc6, hQ6, l6, y6, z6⟩, st6⟩ := Jvm.LawKit.callS X0 hx (y := (⟨"java/lang/Math", "min", "(II)I"⟩ : MethodName)) hown (mvT hZ (hw _ (List.mem_of_getElem? (i := 80) rfl))) (mvT hZ (hw _ (List.mem_of_getElem? (i := 81) rfl))) (mvT hZ (hw _ (List.mem_of_getElem? (i := 82) rfl))) (mvT hZ (hw _ (List.mem_of_getElem? (i := 83) rfl))) (by decide) (backOf (W := 5) (minw l Z a0 hw [] n h0 n0 Z0 (by omega)) hZ (hw _ (List.mem_of_getElem? (i := 83) rfl)) (hw _ (List.mem_of_getElem? (i := 82) rfl)) (by decide) (by decide)) (g := (mkF m 273 #[s0, s1, s2, s3, s4, .val (.int (Int32.ofNat n)), s6, s7, s8, s9, s10, s11, .val (.int (Int32.ofNat x)), .val (.int (Int32.ofNat y)), .val (.int (Int32.ofNat z)), s15, s16, s17, s18, s19, s20, .val (.ref o21), .val (.int (Int32.ofNat pp)), s23, s24] [(.int (3 : Int32)), (.int (Int32.ofNat n)), (.int (Int32.ofNat z)), (.int (Int32.ofNat y)), (.int (Int32.ofNat x)), (.int (Int32.ofNat pp)), (.ref o21)])) rfl (by rw [hml]; rfl) (argsL := [(.int (Int32.ofNat n)), (.int (3 : Int32))]) (rest := [(.int (Int32.ofNat z)), (.int (Int32.ofNat y)), (.int (Int32.ofNat x)), (.int (Int32.ofNat pp)), (.ref o21)]) (lenOf pd_0_15 rfl) rfl (by show 2 * 0 + _ ≤ _; exact Nat.le_of_eq rfl) (hb hby at_273) (fun _ _ => ⟨rfl, e0, (by decide : 14 + 0 + 0 ≤ _), (by decide : 126 + 0 + 0 ≤ _)⟩)
  dsimp only [Pt.U, Pt.locs, Pt.cells, Pt.slots] at X6 l6 y6 z6 st6 hQ6
  subst l6 y6 z6
  obtain ⟨rfl, N6q, eq6⟩ := hQ6
  obtain ⟨_, _, ⟨T7, L7, k7, n7⟩, -, X7, ⟨Lc7, hQ7, l7, y7, z7⟩, st7⟩ := Jvm.LawKit.callS X6 hx (y := (⟨"com/example/gumzo/gumzo/core/TaggedBase64EncodePinLaw", "quad", "([CIIIII)V"⟩ : MethodName)) hown (mvT hZ (hw _ (List.mem_of_getElem? (i := 84) rfl))) (mvT hZ (hw _ (List.mem_of_getElem? (i := 85) rfl))) (mvT hZ (hw _ (List.mem_of_getElem? (i := 4) rfl))) (mvT hZ (hw _ (List.mem_of_getElem? (i := 86) rfl))) (by decide) (backOf (W := 0) (quadw l Z a0 hw [] o21 pp x y z (min n 3) ns h0 n0 Z0 A21 hl hk hx1 hy1 hz1 g_o21 (by omega) (by omega)) hZ (hw _ (List.mem_of_getElem? (i := 86) rfl)) (hw _ (List.mem_of_getElem? (i := 4) rfl)) (by decide) (by decide)) (g := (mkF m 276 #[s0, s1, s2, s3, s4, .val (.int (Int32.ofNat n)), s6, s7, s8, s9, s10, s11, .val (.int (Int32.ofNat x)), .val (.int (Int32.ofNat y)), .val (.int (Int32.ofNat z)), s15, s16, s17, s18, s19, s20, .val (.ref o21), .val (.int (Int32.ofNat pp)), s23, s24] [(.int (Int32.ofNat (min n 3))), (.int (Int32.ofNat z)), (.int (Int32.ofNat y)), (.int (Int32.ofNat x)), (.int (Int32.ofNat pp)), (.ref o21)])) rfl (by rw [hml]; rfl) (argsL := [(.ref o21), (.int (Int32.ofNat pp)), (.int (Int32.ofNat x)), (.int (Int32.ofNat y)), (.int (Int32.ofNat z)), (.int (Int32.ofNat (min n 3)))]) (rest := []) (lenOf pd_0_16 rfl) rfl (by show 2 * 0 + _ ≤ _; exact Nat.le_of_eq rfl) (hb hby at_276) (fun _ _ => ⟨rfl, eq6, (by decide : 14 + 0 + 0 ≤ _), (by decide : 126 + 0 + 0 ≤ _)⟩)
  dsimp only [Pt.U, Pt.locs, Pt.cells, Pt.slots] at X7 l7 y7 z7 st7 hQ7
  subst l7 y7 z7
  obtain ⟨rfl, N7q, K7, A7⟩ := hQ7
  have N7 := Fr.app (Fr.app N0 N6q) N7q
  refine ⟨T7, _, _, X7, rfl, N7, K7, A7, fun target kt => ?_⟩
  show Steps p.tables e below (T0.setTop (mkF m 254 #[s0, s1, s2, s3, s4, .val (.int (Int32.ofNat n)), s6, s7, s8, s9, s10, s11, .val (.int (Int32.ofNat x)), .val (.int (Int32.ofNat y)), .val (.int (Int32.ofNat z)), s15, s16, s17, s18, s19, s20, .val (.ref o21), .val (.int (Int32.ofNat pp)), s23, s24] [])) _
  refine XS.iload X0.here hx rfl (hb hby at_254) rfl ?_
  refine XS.iconst X0.here hx rfl (hb hby at_256) ?_
  refine XS.icmpNo X0.here hx rfl (hb hby at_257) rfl (flt hc257).1 ?_
  refine XS.aload X0.here hx rfl (hb hby at_260) rfl rfl ?_
  refine XS.iload X0.here hx rfl (hb hby at_262) rfl ?_
  refine XS.iload X0.here hx rfl (hb hby at_264) rfl ?_
  refine XS.iload X0.here hx rfl (hb hby at_266) rfl ?_
  show Steps p.tables e below (T0.setTop (mkF m 268 #[s0, s1, s2, s3, s4, .val (.int (Int32.ofNat n)), s6, s7, s8, s9, s10, s11, .val (.int (Int32.ofNat x)), .val (.int (Int32.ofNat y)), .val (.int (Int32.ofNat z)), s15, s16, s17, s18, s19, s20, .val (.ref o21), .val (.int (Int32.ofNat pp)), s23, s24] [(.int (Int32.ofNat y)), (.int (Int32.ofNat x)), (.int (Int32.ofNat pp)), (.ref o21)])) _
  refine XS.iload X0.here hx rfl (hb hby at_268) rfl ?_
  refine XS.iload X0.here hx rfl (hb hby at_270) rfl ?_
  refine XS.iconst X0.here hx rfl (hb hby at_272) ?_
  refine st6 _ ?_
  refine st7 _ ?_
  refine XS.iinc X7.here hx rfl (hb hby at_279) rfl (l' := #[s0, s1, s2, s3, s4, .val (.int (Int32.ofNat n)), s6, s7, s8, s9, s10, s11, .val (.int (Int32.ofNat x)), .val (.int (Int32.ofNat y)), .val (.int (Int32.ofNat z)), s15, s16, s17, s18, s19, s20, .val (.ref o21), .val (.int ((Int32.ofNat pp) + (4 : Int32))), s23, s24]) rfl ?_
  exact kt
set_option maxRecDepth 65536 in
set_option maxHeartbeats 40000000 in
theorem q0n {p : Program} {l : Launch} {e : Env} {R : Room} {s : State} {m : MethodId} {args : Array Value} {below : List Frame} {meth : Method} {c : Code} {T0 : State} {locs : List Loc} {cells slots : Nat} {Z : State} {h0 : Heap} (s0 : Slot) (s1 : Slot) (s2 : Slot) (s3 : Slot) (s4 : Slot) (i5 : Int32) (s6 : Slot) (s7 : Slot) (s8 : Slot) (s9 : Slot) (s10 : Slot) (s11 : Slot) (s12 : Slot) (s13 : Slot) (s14 : Slot) (s15 : Slot) (s16 : Slot) (s17 : Slot) (s18 : Slot) (s19 : Slot) (s20 : Slot) (s21 : Slot) (s22 : Slot) (s23 : Slot) (s24 : Slot) 
    (X0 : Stand p l e R s m args below meth c T0 locs cells slots) (hx : p.tables.exec = Jvm.exec) (hZ : Z.Warmed39 s.vm) (hby : c.code = code) (e0 : T0.heap = h0) (hc257 : i5 < (1 : Int32))  :
    ∀ target, Steps p.tables e below (T0.setTop (mkF m 282 #[s0, s1, s2, s3, s4, .val (.int i5), s6, s7, s8, s9, s10, s11, s12, s13, s14, s15, s16, s17, s18, s19, s20, s21, s22, s23, s24] [])) target → Steps p.tables e below (T0.setTop (mkF m 254 #[s0, s1, s2, s3, s4, .val (.int i5), s6, s7, s8, s9, s10, s11, s12, s13, s14, s15, s16, s17, s18, s19, s20, s21, s22, s23, s24] [])) target := by
  intro target kt
  show Steps p.tables e below (T0.setTop (mkF m 254 #[s0, s1, s2, s3, s4, .val (.int i5), s6, s7, s8, s9, s10, s11, s12, s13, s14, s15, s16, s17, s18, s19, s20, s21, s22, s23, s24] [])) _
  refine XS.iload X0.here hx rfl (hb hby at_254) rfl ?_
  refine XS.iconst X0.here hx rfl (hb hby at_256) ?_
  refine XS.icmpYes X0.here hx rfl (pc0 := 257) (pc' := 282) rfl (hb hby at_257) rfl (tlt hc257).1 (by decide) (by decide) ?_
  exact kt
theorem own_sb3 : ∀ n < 8, 4 ≤ n → Int32.ofNat n - (3 : Int32) = Int32.ofNat (n - 3) := by decide +kernel
set_option maxRecDepth 65536 in
set_option maxHeartbeats 40000000 in
theorem q1s {p : Program} {l : Launch} {e : Env} {s : State} {m : MethodId} {args : Array Value} {below : List Frame} {meth : Method} {c : Code} {T0 : State} {locs : List Loc} {Z : State} {a0 : Array Value} {h0 : Heap} (s0 : Slot) (s1 : Slot) (s2 : Slot) (s3 : Slot) (s4 : Slot) (s6 : Slot) (s7 : Slot) (s8 : Slot) (s9 : Slot) (s10 : Slot) (s11 : Slot) (s12 : Slot) (s13 : Slot) (s14 : Slot) (s18 : Slot) (s19 : Slot) (s20 : Slot) (o21 : Addr) (s23 : Slot) (s24 : Slot) (n x y z pp : Nat) (ns : List Nat) (n0 : Nat)
    (X0 : Stand p l e (room_1 : Room) s m args below meth c T0 locs 14 126) (hx : p.tables.exec = Jvm.exec) (hZ : Z.Warmed39 s.vm) (hw : ∀ d ∈ tables_1, d.before a0 Z = true) (hby : c.code = code) (hml : c.maxLocals = 25) (hown : s.vm.findClass "com/example/gumzo/gumzo/core/TaggedBase64EncodePinLaw" = some m.cls) (e0 : T0.heap = h0) (N0 : Fr n0 locs) (Z0 : n0 ≤ h0.size) (A21 : Av Z h0 o21 .char Int32.ofNat ns) (hl : ns.length < 128) (hx1 : x < 256) (hy1 : y < 256) (hz1 : z < 256) (g_o21 : n0 ≤ o21) (hn1 : 4 ≤ n) (hn : n < 7) (hk : pp + 3 < ns.length) (hc285 : ¬ (Int32.ofNat n < (4 : Int32))) :
    ∃ (T' : State) (h' : Heap) (L' : List Loc), Stand p l e (room_1 : Room) s m args below meth c T' L' 14 126 ∧ T'.heap = h' ∧ Fr n0 L' ∧ Keep h0 h' [o21] ∧ Av Z h' o21 .char Int32.ofNat (qd ns pp x y z (n - 3)) ∧
      ∀ target, Steps p.tables e below (T'.setTop (mkF m 308 #[s0, s1, s2, s3, s4, .val (.int (Int32.ofNat n)), s6, s7, s8, s9, s10, s11, s12, s13, s14, .val (.int (Int32.ofNat x)), .val (.int (Int32.ofNat y)), .val (.int (Int32.ofNat z)), s18, s19, s20, .val (.ref o21), .val (.int ((Int32.ofNat pp) + (4 : Int32))), s23, s24] [])) target → Steps p.tables e below (T0.setTop (mkF m 282 #[s0, s1, s2, s3, s4, .val (.int (Int32.ofNat n)), s6, s7, s8, s9, s10, s11, s12, s13, s14, .val (.int (Int32.ofNat x)), .val (.int (Int32.ofNat y)), .val (.int (Int32.ofNat z)), s18, s19, s20, .val (.ref o21), .val (.int (Int32.ofNat pp)), s23, s24] [])) target := by
  obtain ⟨_, _, ⟨T6, L6, k6, n6⟩, -, X6, ⟨Lc6, hQ6, l6, y6, z6⟩, st6⟩ := Jvm.LawKit.callS X0 hx (y := (⟨"com/example/gumzo/gumzo/core/TaggedBase64EncodePinLaw", "quad", "([CIIIII)V"⟩ : MethodName)) hown (mvT hZ (hw _ (List.mem_of_getElem? (i := 84) rfl))) (mvT hZ (hw _ (List.mem_of_getElem? (i := 85) rfl))) (mvT hZ (hw _ (List.mem_of_getElem? (i := 4) rfl))) (mvT hZ (hw _ (List.mem_of_getElem? (i := 86) rfl))) (by decide) (backOf (W := 0) (quadw l Z a0 hw [] o21 pp x y z (n - 3) ns h0 n0 Z0 A21 hl hk hx1 hy1 hz1 g_o21 (by omega) (by omega)) hZ (hw _ (List.mem_of_getElem? (i := 86) rfl)) (hw _ (List.mem_of_getElem? (i := 4) rfl)) (by decide) (by decide)) (g := (mkF m 302 #[s0, s1, s2, s3, s4, .val (.int (Int32.ofNat n)), s6, s7, s8, s9, s10, s11, s12, s13, s14, .val (.int (Int32.ofNat x)), .val (.int (Int32.ofNat y)), .val (.int (Int32.ofNat z)), s18, s19, s20, .val (.ref o21), .val (.int (Int32.ofNat pp)), s23, s24] [(.int ((Int32.ofNat n) - (3 : Int32))), (.int (Int32.ofNat z)), (.int (Int32.ofNat y)), (.int (Int32.ofNat x)), (.int (Int32.ofNat pp)), (.ref o21)])) rfl (by rw [hml]; rfl) (argsL := [(.ref o21), (.int (Int32.ofNat pp)), (.int (Int32.ofNat x)), (.int (Int32.ofNat y)), (.int (Int32.ofNat z)), (.int ((Int32.ofNat n) - (3 : Int32)))]) (rest := []) (lenOf pd_0_16 rfl) rfl (by show 2 * 0 + _ ≤ _; exact Nat.le_of_eq rfl) (hb hby at_302) (fun _ _ => ⟨by rw [own_sb3 n (by omega) hn1], e0, (by decide : 14 + 0 + 0 ≤ _), (by decide : 126 + 0 + 0 ≤ _)⟩)
  dsimp only [Pt.U, Pt.locs, Pt.cells, Pt.slots] at X6 l6 y6 z6 st6 hQ6
  subst l6 y6 z6
  obtain ⟨rfl, N6q, K6, A6⟩ := hQ6
  refine ⟨T6, _, _, X6, rfl, Fr.app N0 N6q, K6, A6, fun target kt => ?_⟩
  show Steps p.tables e below (T0.setTop (mkF m 282 #[s0, s1, s2, s3, s4, .val (.int (Int32.ofNat n)), s6, s7, s8, s9, s10, s11, s12, s13, s14, .val (.int (Int32.ofNat x)), .val (.int (Int32.ofNat y)), .val (.int (Int32.ofNat z)), s18, s19, s20, .val (.ref o21), .val (.int (Int32.ofNat pp)), s23, s24] [])) _
  refine XS.iload X0.here hx rfl (hb hby at_282) rfl ?_
  refine XS.iconst X0.here hx rfl (hb hby at_284) ?_
  refine XS.icmpNo X0.here hx rfl (hb hby at_285) rfl (flt hc285).1 ?_
  refine XS.aload X0.here hx rfl (hb hby at_288) rfl rfl ?_
  refine XS.iload X0.here hx rfl (hb hby at_290) rfl ?_
  refine XS.iload X0.here hx rfl (hb hby at_292) rfl ?_
  refine XS.iload X0.here hx rfl (hb hby at_294) rfl ?_
  show Steps p.tables e below (T0.setTop (mkF m 296 #[s0, s1, s2, s3, s4, .val (.int (Int32.ofNat n)), s6, s7, s8, s9, s10, s11, s12, s13, s14, .val (.int (Int32.ofNat x)), .val (.int (Int32.ofNat y)), .val (.int (Int32.ofNat z)), s18, s19, s20, .val (.ref o21), .val (.int (Int32.ofNat pp)), s23, s24] [(.int (Int32.ofNat y)), (.int (Int32.ofNat x)), (.int (Int32.ofNat pp)), (.ref o21)])) _
  refine XS.iload X0.here hx rfl (hb hby at_296) rfl ?_
  refine XS.iload X0.here hx rfl (hb hby at_298) rfl ?_
  refine XS.iconst X0.here hx rfl (hb hby at_300) ?_
  refine XS.isub X0.here hx rfl (hb hby at_301) rfl ?_
  refine st6 _ ?_
  refine XS.iinc X6.here hx rfl (hb hby at_305) rfl (l' := #[s0, s1, s2, s3, s4, .val (.int (Int32.ofNat n)), s6, s7, s8, s9, s10, s11, s12, s13, s14, .val (.int (Int32.ofNat x)), .val (.int (Int32.ofNat y)), .val (.int (Int32.ofNat z)), s18, s19, s20, .val (.ref o21), .val (.int ((Int32.ofNat pp) + (4 : Int32))), s23, s24]) rfl ?_
  exact kt
set_option maxRecDepth 65536 in
set_option maxHeartbeats 40000000 in
theorem q1n {p : Program} {l : Launch} {e : Env} {R : Room} {s : State} {m : MethodId} {args : Array Value} {below : List Frame} {meth : Method} {c : Code} {T0 : State} {locs : List Loc} {cells slots : Nat} {Z : State} {h0 : Heap} (s0 : Slot) (s1 : Slot) (s2 : Slot) (s3 : Slot) (s4 : Slot) (i5 : Int32) (s6 : Slot) (s7 : Slot) (s8 : Slot) (s9 : Slot) (s10 : Slot) (s11 : Slot) (s12 : Slot) (s13 : Slot) (s14 : Slot) (s15 : Slot) (s16 : Slot) (s17 : Slot) (s18 : Slot) (s19 : Slot) (s20 : Slot) (s21 : Slot) (s22 : Slot) (s23 : Slot) (s24 : Slot) 
    (X0 : Stand p l e R s m args below meth c T0 locs cells slots) (hx : p.tables.exec = Jvm.exec) (hZ : Z.Warmed39 s.vm) (hby : c.code = code) (e0 : T0.heap = h0) (hc285 : i5 < (4 : Int32))  :
    ∀ target, Steps p.tables e below (T0.setTop (mkF m 308 #[s0, s1, s2, s3, s4, .val (.int i5), s6, s7, s8, s9, s10, s11, s12, s13, s14, s15, s16, s17, s18, s19, s20, s21, s22, s23, s24] [])) target → Steps p.tables e below (T0.setTop (mkF m 282 #[s0, s1, s2, s3, s4, .val (.int i5), s6, s7, s8, s9, s10, s11, s12, s13, s14, s15, s16, s17, s18, s19, s20, s21, s22, s23, s24] [])) target := by
  intro target kt
  show Steps p.tables e below (T0.setTop (mkF m 282 #[s0, s1, s2, s3, s4, .val (.int i5), s6, s7, s8, s9, s10, s11, s12, s13, s14, s15, s16, s17, s18, s19, s20, s21, s22, s23, s24] [])) _
  refine XS.iload X0.here hx rfl (hb hby at_282) rfl ?_
  refine XS.iconst X0.here hx rfl (hb hby at_284) ?_
  refine XS.icmpYes X0.here hx rfl (pc0 := 285) (pc' := 308) rfl (hb hby at_285) rfl (tlt hc285).1 (by decide) (by decide) ?_
  exact kt
set_option maxRecDepth 65536 in
set_option maxHeartbeats 40000000 in
theorem q0w {p : Program} {l : Launch} {e : Env} {s : State} {m : MethodId} {args : Array Value} {below : List Frame} {meth : Method} {c : Code} {T0 : State} {locs : List Loc} {Z : State} {a0 : Array Value} {h0 : Heap} (s0 : Slot) (s1 : Slot) (s2 : Slot) (s3 : Slot) (s4 : Slot) (s6 : Slot) (s7 : Slot) (s8 : Slot) (s9 : Slot) (s10 : Slot) (s11 : Slot) (s15 : Slot) (s16 : Slot) (s17 : Slot) (s18 : Slot) (s19 : Slot) (s20 : Slot) (o21 : Addr) (s23 : Slot) (s24 : Slot) (n x y z pp : Nat) (ns : List Nat) (n0 : Nat)
    (X0 : Stand p l e (room_1 : Room) s m args below meth c T0 locs 14 126) (hx : p.tables.exec = Jvm.exec) (hZ : Z.Warmed39 s.vm) (hw : ∀ d ∈ tables_1, d.before a0 Z = true) (hby : c.code = code) (hml : c.maxLocals = 25) (hown : s.vm.findClass "com/example/gumzo/gumzo/core/TaggedBase64EncodePinLaw" = some m.cls) (e0 : T0.heap = h0) (N0 : Fr n0 locs) (Z0 : n0 ≤ h0.size) (A21 : Av Z h0 o21 .char Int32.ofNat ns) (hl : ns.length < 128) (hx1 : x < 256) (hy1 : y < 256) (hz1 : z < 256) (g_o21 : n0 ≤ o21) (hn : n < 7) (hk : 1 ≤ n → pp + 3 < ns.length) :
    ∃ (T' : State) (h' : Heap) (L' : List Loc), Stand p l e (room_1 : Room) s m args below meth c T' L' 14 126 ∧ T'.heap = h' ∧ Fr n0 L' ∧ Keep h0 h' [o21] ∧ Av Z h' o21 .char Int32.ofNat (if 1 ≤ n then qd ns pp x y z (min n 3) else ns) ∧
      ∀ target, Steps p.tables e below (T'.setTop (mkF m 282 #[s0, s1, s2, s3, s4, .val (.int (Int32.ofNat n)), s6, s7, s8, s9, s10, s11, .val (.int (Int32.ofNat x)), .val (.int (Int32.ofNat y)), .val (.int (Int32.ofNat z)), s15, s16, s17, s18, s19, s20, .val (.ref o21), .val (.int (Int32.ofNat (pp + (if 1 ≤ n then 4 else 0)))), s23, s24] [])) target → Steps p.tables e below (T0.setTop (mkF m 254 #[s0, s1, s2, s3, s4, .val (.int (Int32.ofNat n)), s6, s7, s8, s9, s10, s11, .val (.int (Int32.ofNat x)), .val (.int (Int32.ofNat y)), .val (.int (Int32.ofNat z)), s15, s16, s17, s18, s19, s20, .val (.ref o21), .val (.int (Int32.ofNat pp)), s23, s24] [])) target := by
  by_cases cc : 1 ≤ n
  · rw [if_pos cc]
    obtain ⟨T1, h1, L1, X1, e1, N1, K1, A1, st1⟩ := q0s s0 s1 s2 s3 s4 s6 s7 s8 s9 s10 s11 s15 s16 s17 s18 s19 s20 o21 s23 s24 n x y z pp ns n0 X0 hx hZ hw hby hml hown e0 N0 Z0 A21 hl hx1 hy1 hz1 g_o21 cc hn (hk cc) (own_nlt (n := 1) cc (by omega))
    rw [own_ad4] at st1
    simp only [if_pos cc]
    exact ⟨T1, h1, L1, X1, e1, N1, K1, A1, st1⟩
  · rw [if_neg cc]
    simp only [if_neg cc]
    exact ⟨T0, h0, locs, X0, e0, N0, Keep.refl _ _, A21, fun target kt => q0n _ _ _ _ _ _ _ _ _ _ _ _ _ _ _ _ _ _ _ _ _ _ _ _ _ X0 hx hZ hby e0 (own_lt (n := 1) (by omega) (by decide)) _ kt⟩
set_option maxRecDepth 65536 in
set_option maxHeartbeats 40000000 in
theorem q1w {p : Program} {l : Launch} {e : Env} {s : State} {m : MethodId} {args : Array Value} {below : List Frame} {meth : Method} {c : Code} {T0 : State} {locs : List Loc} {Z : State} {a0 : Array Value} {h0 : Heap} (s0 : Slot) (s1 : Slot) (s2 : Slot) (s3 : Slot) (s4 : Slot) (s6 : Slot) (s7 : Slot) (s8 : Slot) (s9 : Slot) (s10 : Slot) (s11 : Slot) (s12 : Slot) (s13 : Slot) (s14 : Slot) (s18 : Slot) (s19 : Slot) (s20 : Slot) (o21 : Addr) (s23 : Slot) (s24 : Slot) (n x y z pp : Nat) (ns : List Nat) (n0 : Nat)
    (X0 : Stand p l e (room_1 : Room) s m args below meth c T0 locs 14 126) (hx : p.tables.exec = Jvm.exec) (hZ : Z.Warmed39 s.vm) (hw : ∀ d ∈ tables_1, d.before a0 Z = true) (hby : c.code = code) (hml : c.maxLocals = 25) (hown : s.vm.findClass "com/example/gumzo/gumzo/core/TaggedBase64EncodePinLaw" = some m.cls) (e0 : T0.heap = h0) (N0 : Fr n0 locs) (Z0 : n0 ≤ h0.size) (A21 : Av Z h0 o21 .char Int32.ofNat ns) (hl : ns.length < 128) (hx1 : x < 256) (hy1 : y < 256) (hz1 : z < 256) (g_o21 : n0 ≤ o21) (hn : n < 7) (hk : 4 ≤ n → pp + 3 < ns.length) :
    ∃ (T' : State) (h' : Heap) (L' : List Loc), Stand p l e (room_1 : Room) s m args below meth c T' L' 14 126 ∧ T'.heap = h' ∧ Fr n0 L' ∧ Keep h0 h' [o21] ∧ Av Z h' o21 .char Int32.ofNat (if 4 ≤ n then qd ns pp x y z (n - 3) else ns) ∧
      ∀ target, Steps p.tables e below (T'.setTop (mkF m 308 #[s0, s1, s2, s3, s4, .val (.int (Int32.ofNat n)), s6, s7, s8, s9, s10, s11, s12, s13, s14, .val (.int (Int32.ofNat x)), .val (.int (Int32.ofNat y)), .val (.int (Int32.ofNat z)), s18, s19, s20, .val (.ref o21), .val (.int (Int32.ofNat (pp + (if 4 ≤ n then 4 else 0)))), s23, s24] [])) target → Steps p.tables e below (T0.setTop (mkF m 282 #[s0, s1, s2, s3, s4, .val (.int (Int32.ofNat n)), s6, s7, s8, s9, s10, s11, s12, s13, s14, .val (.int (Int32.ofNat x)), .val (.int (Int32.ofNat y)), .val (.int (Int32.ofNat z)), s18, s19, s20, .val (.ref o21), .val (.int (Int32.ofNat pp)), s23, s24] [])) target := by
  by_cases cc : 4 ≤ n
  · rw [if_pos cc]
    obtain ⟨T1, h1, L1, X1, e1, N1, K1, A1, st1⟩ := q1s s0 s1 s2 s3 s4 s6 s7 s8 s9 s10 s11 s12 s13 s14 s18 s19 s20 o21 s23 s24 n x y z pp ns n0 X0 hx hZ hw hby hml hown e0 N0 Z0 A21 hl hx1 hy1 hz1 g_o21 cc hn (hk cc) (own_nlt (n := 4) cc (by omega))
    rw [own_ad4] at st1
    simp only [if_pos cc]
    exact ⟨T1, h1, L1, X1, e1, N1, K1, A1, st1⟩
  · rw [if_neg cc]
    simp only [if_neg cc]
    exact ⟨T0, h0, locs, X0, e0, N0, Keep.refl _ _, A21, fun target kt => q1n _ _ _ _ _ _ _ _ _ _ _ _ _ _ _ _ _ _ _ _ _ _ _ _ _ X0 hx hZ hby e0 (own_lt (n := 4) (by omega) (by decide)) _ kt⟩
theorem os0_340 {s0 : Slot} {s1 : Slot} {s2 : Slot} {s3 : Slot} {s4 : Slot} {s5 : Slot} {s6 : Slot} {z7 : Value} {s8 : Slot} {s9 : Slot} {s10 : Slot} {s11 : Slot} {s12 : Slot} {s13 : Slot} {s14 : Slot} {s15 : Slot} {s16 : Slot} {s17 : Slot} {s18 : Slot} {s19 : Slot} {s20 : Slot} {s21 : Slot} {z22 : Value} {s23 : Slot} {s24 : Slot} {v : Int32} (h : One s23) : storeLocals #[s0, s1, s2, s3, s4, s5, s6, .val z7, s8, s9, s10, s11, s12, s13, s14, s15, s16, s17, s18, s19, s20, s21, .val z22, s23, s24] 23 (.int v) = some #[s0, s1, s2, s3, s4, s5, s6, .val z7, s8, s9, s10, s11, s12, s13, s14, s15, s16, s17, s18, s19, s20, s21, .val z22, .val (.int v), s24] := by
  rcases h with rfl | ⟨w, rfl, hw⟩
  · rfl
  · cases w <;> first | rfl | (simp [Value.category] at hw)
set_option maxRecDepth 65536 in
set_option maxHeartbeats 40000000 in
theorem w6 {p : Program} {l : Launch} {e : Env} {R : Room} {s : State} {m : MethodId} {args : Array Value} {below : List Frame} {meth : Method} {c : Code} {T0 : State} {locs : List Loc} {cells slots : Nat} {Z : State} {h0 : Heap} (s0 : Slot) (s1 : Slot) (s2 : Slot) (s3 : Slot) (s4 : Slot) (s5 : Slot) (s6 : Slot) (i7 : Int32) (s8 : Slot) (s9 : Slot) (s10 : Slot) (s11 : Slot) (s12 : Slot) (s13 : Slot) (s14 : Slot) (s15 : Slot) (s16 : Slot) (s17 : Slot) (s18 : Slot) (s19 : Slot) (s20 : Slot) (s21 : Slot) (i22 : Int32) (s23 : Slot) (s24 : Slot) 
    (X0 : Stand p l e R s m args below meth c T0 locs cells slots) (hx : p.tables.exec = Jvm.exec) (hZ : Z.Warmed39 s.vm) (hby : c.code = code) (e0 : T0.heap = h0) (hs23 : One s23)  :
    ∀ target, Steps p.tables e below (T0.setTop (mkF m 342 #[s0, s1, s2, s3, s4, s5, s6, .val (.int i7), s8, s9, s10, s11, s12, s13, s14, s15, s16, s17, s18, s19, s20, s21, .val (.int i22), .val (.int (i22 + i7)), s24] [])) target → Steps p.tables e below (T0.setTop (mkF m 335 #[s0, s1, s2, s3, s4, s5, s6, .val (.int i7), s8, s9, s10, s11, s12, s13, s14, s15, s16, s17, s18, s19, s20, s21, .val (.int i22), s23, s24] [])) target := by
  intro target kt
  show Steps p.tables e below (T0.setTop (mkF m 335 #[s0, s1, s2, s3, s4, s5, s6, .val (.int i7), s8, s9, s10, s11, s12, s13, s14, s15, s16, s17, s18, s19, s20, s21, .val (.int i22), s23, s24] [])) _
  refine XS.iload X0.here hx rfl (hb hby at_335) rfl ?_
  refine XS.iload X0.here hx rfl (hb hby at_337) rfl ?_
  refine XS.iadd X0.here hx rfl (hb hby at_339) rfl ?_
  refine XS.istore X0.here hx rfl (hb hby at_340) rfl (l' := #[s0, s1, s2, s3, s4, s5, s6, .val (.int i7), s8, s9, s10, s11, s12, s13, s14, s15, s16, s17, s18, s19, s20, s21, .val (.int i22), .val (.int (i22 + i7)), s24]) (os0_340 hs23) ?_
  exact kt
theorem pd_0_4 : parseMethodDescriptor "(Ljava/lang/String;[BLjava/lang/String;)Ljava/lang/String;" = some ⟨[(.object "java/lang/String"), (.array .byte), (.object "java/lang/String")], some (.object "java/lang/String")⟩ := by decide +kernel
theorem os0_351 {s0 : Slot} {s1 : Slot} {s2 : Slot} {s3 : Slot} {s4 : Slot} {s5 : Slot} {s6 : Slot} {s7 : Slot} {s8 : Slot} {s9 : Slot} {s10 : Slot} {s11 : Slot} {s12 : Slot} {s13 : Slot} {s14 : Slot} {s15 : Slot} {s16 : Slot} {s17 : Slot} {z18 : Value} {z19 : Value} {z20 : Value} {s21 : Slot} {s22 : Slot} {s23 : Slot} {s24 : Slot} {v : Addr} (h : One s24) : storeLocals #[s0, s1, s2, s3, s4, s5, s6, s7, s8, s9, s10, s11, s12, s13, s14, s15, s16, s17, .val z18, .val z19, .val z20, s21, s22, s23, s24] 24 (.ref v) = some #[s0, s1, s2, s3, s4, s5, s6, s7, s8, s9, s10, s11, s12, s13, s14, s15, s16, s17, .val z18, .val z19, .val z20, s21, s22, s23, .val (.ref v)] := by
  rcases h with rfl | ⟨w, rfl, hw⟩
  · rfl
  · cases w <;> first | rfl | (simp [Value.category] at hw)
set_option maxRecDepth 65536 in
set_option maxHeartbeats 40000000 in
theorem w7 {p : Program} {l : Launch} {e : Env} {s : State} {m : MethodId} {args : Array Value} {below : List Frame} {meth : Method} {c : Code} {T0 : State} {locs : List Loc} {Z : State} {a0 : Array Value} {h0 : Heap} (s0 : Slot) (s1 : Slot) (s2 : Slot) (s3 : Slot) (s4 : Slot) (s5 : Slot) (s6 : Slot) (s7 : Slot) (s8 : Slot) (s9 : Slot) (s10 : Slot) (s11 : Slot) (s12 : Slot) (s13 : Slot) (s14 : Slot) (s15 : Slot) (s16 : Slot) (s17 : Slot) (o18 : Addr) (o19 : Addr) (o20 : Addr) (s21 : Slot) (s22 : Slot) (s23 : Slot) (s24 : Slot) (sig bs suf : List Nat) (w : Addr) (n0 : Nat)
    (X0 : Stand p l e (room_1 : Room) s m args below meth c T0 locs 14 126) (hx : p.tables.exec = Jvm.exec) (hZ : Z.Warmed39 s.vm) (hw : ∀ d ∈ tables_1, d.before a0 Z = true) (hby : c.code = code) (hml : c.maxLocals = 25) (hown : s.vm.findClass "com/example/gumzo/gumzo/core/TaggedBase64EncodePinLaw" = some m.cls) (e0 : T0.heap = h0) (hs24 : One s24) (N0 : Fr n0 locs) (Z0 : n0 ≤ h0.size) (D : Wd Z h0) (S0 : Str Z h0 o19 sig) (S2 : Str Z h0 o20 suf) (Abs : Av Z h0 o18 .byte b8 bs) (Sw : Sta Z h0 "com/example/gumzo/gumzo/core/TaggedBase64" "ALPHABET" "[C" (.ref w)) (Aw : Av Z h0 w .char Int32.ofNat ALs) (hbl : bs.length < 7) (hb9 : ∀ x ∈ bs, x < 256) (hl0 : sig.length < 3) (hl2 : suf.length < 3) (hCH : CHv Z ELs s.vm h0) :
    ∃ (T' : State) (h' : Heap) (L' : List Loc) (b6 : Addr), Stand p l e (room_1 : Room) (s.setVm T'.vm) m args below meth c T' L' 20 190 ∧ T'.heap = h' ∧ Fr n0 L' ∧ n0 ≤ b6 ∧ h0.size ≤ b6 ∧ Keep h0 h' [] ∧ Str Z h' b6 (encL bs.length sig.length suf.length sig bs suf) ∧ s.Since T'.vm h'.size ∧ CHr Z ELs s.vm h0 T'.vm h' ∧
      ∀ target, Steps p.tables e below (T'.setTop (mkF m 353 #[s0, s1, s2, s3, s4, s5, s6, s7, s8, s9, s10, s11, s12, s13, s14, s15, s16, s17, .val (.ref o18), .val (.ref o19), .val (.ref o20), s21, s22, s23, .val (.ref b6)] [])) target → Steps p.tables e below (T0.setTop (mkF m 342 #[s0, s1, s2, s3, s4, s5, s6, s7, s8, s9, s10, s11, s12, s13, s14, s15, s16, s17, .val (.ref o18), .val (.ref o19), .val (.ref o20), s21, s22, s23, s24] [])) target := by
  have hEL := own_ew hw
  obtain ⟨_, _, ⟨T6, L6, k6, n6⟩, -, X6, hS6, hg6, ⟨Lc6, hQ6, l6, y6, z6, hC6⟩, st6⟩ := callSS X0 hx (y := (⟨"com/example/gumzo/gumzo/core/TaggedBase64", "encode", "(Ljava/lang/String;[BLjava/lang/String;)Ljava/lang/String;"⟩ : MethodName)) hown (mvT hZ (hw _ (List.mem_of_getElem? (i := 27) rfl))) (mvT hZ (hw _ (List.mem_of_getElem? (i := 28) rfl))) (mvT hZ (hw _ (List.mem_of_getElem? (i := 29) rfl))) (mvT hZ (hw _ (List.mem_of_getElem? (i := 30) rfl))) (by decide) (backOfSH (s := s) (vm0 := s.vm) (W := 0) (rm5 l Z a0 hw [] o19 o18 o20 sig bs suf w h0 n0 Z0 D S0 S2 Abs Sw Aw hbl hb9 hl0 hl2) hZ (hw _ (List.mem_of_getElem? (i := 30) rfl)) (hw _ (List.mem_of_getElem? (i := 29) rfl)) (by decide) (by decide) hEL hCH) (g := (mkF m 348 #[s0, s1, s2, s3, s4, s5, s6, s7, s8, s9, s10, s11, s12, s13, s14, s15, s16, s17, .val (.ref o18), .val (.ref o19), .val (.ref o20), s21, s22, s23, s24] [(.ref o20), (.ref o18), (.ref o19)])) rfl (by rw [hml]; rfl) (argsL := [(.ref o19), (.ref o18), (.ref o20)]) (rest := []) (lenOf pd_0_4 rfl) rfl (by show 2 * 0 + _ ≤ _; exact Nat.le_of_eq rfl) (hb hby at_348) (fun _ _ => ⟨rfl, e0, (by decide : 14 + 0 + 6 ≤ _), (by decide : 126 + 0 + 64 ≤ _)⟩)
  dsimp only [Pt.U, Pt.locs, Pt.cells, Pt.slots] at X6 hS6 hg6 hC6 l6 y6 z6 st6 hQ6
  subst l6 y6 z6
  obtain ⟨b6, rfl, N6q, g6, z6s, K6, S6⟩ := hQ6
  refine ⟨T6, _, _, b6, X6, rfl, Fr.app N0 N6q, g6, z6s, K6, S6, hS6, hC6, fun target kt => ?_⟩
  show Steps p.tables e below (T0.setTop (mkF m 342 #[s0, s1, s2, s3, s4, s5, s6, s7, s8, s9, s10, s11, s12, s13, s14, s15, s16, s17, .val (.ref o18), .val (.ref o19), .val (.ref o20), s21, s22, s23, s24] [])) _
  refine XS.aload X0.here hx rfl (hb hby at_342) rfl rfl ?_
  refine XS.aload X0.here hx rfl (hb hby at_344) rfl rfl ?_
  refine XS.aload X0.here hx rfl (hb hby at_346) rfl rfl ?_
  refine st6.trans ?_
  refine XS.astore X6.here hx rfl (hb hby at_351) rfl rfl (l' := #[s0, s1, s2, s3, s4, s5, s6, s7, s8, s9, s10, s11, s12, s13, s14, s15, s16, s17, .val (.ref o18), .val (.ref o19), .val (.ref o20), s21, s22, s23, .val (.ref b6)]) (os0_351 hs24) ?_
  exact kt
theorem pd_0_5 : parseMethodDescriptor "()I" = some ⟨[], some .int⟩ := by decide +kernel
set_option maxRecDepth 65536 in
set_option maxHeartbeats 40000000 in
theorem w8 {p : Program} {l : Launch} {e : Env} {s : State} {m : MethodId} {args : Array Value} {below : List Frame} {meth : Method} {c : Code} {T0 : State} {locs : List Loc} {Z : State} {a0 : Array Value} {h0 : Heap} (s0 : Slot) (s1 : Slot) (s2 : Slot) (s3 : Slot) (s4 : Slot) (s5 : Slot) (s6 : Slot) (s7 : Slot) (s8 : Slot) (s9 : Slot) (s10 : Slot) (s11 : Slot) (s12 : Slot) (s13 : Slot) (s14 : Slot) (s15 : Slot) (s16 : Slot) (s17 : Slot) (s18 : Slot) (s19 : Slot) (s20 : Slot) (s21 : Slot) (s22 : Slot) (o24 : Addr) (cs : List Nat) (n0 : Nat)
    (X0 : Stand p l e (room_1 : Room) s m args below meth c T0 locs 20 190) (hx : p.tables.exec = Jvm.exec) (hZ : Z.Warmed39 s.vm) (hw : ∀ d ∈ tables_1, d.before a0 Z = true) (hby : c.code = code) (hml : c.maxLocals = 25) (hown : s.vm.findClass "com/example/gumzo/gumzo/core/TaggedBase64EncodePinLaw" = some m.cls) (e0 : T0.heap = h0) (N0 : Fr n0 locs) (Z0 : n0 ≤ h0.size) (D : Wd Z h0) (S : Str Z h0 o24 cs) :
    ∃ (T' : State) (h' : Heap) (L' : List Loc), Stand p l e (room_1 : Room) s m args below meth c T' L' 20 190 ∧ T'.heap = h' ∧ Fr n0 L' ∧ h' = h0 ∧
      ∀ target, Steps p.tables e below (T'.setTop (mkF m 365 #[s0, s1, s2, s3, s4, s5, s6, s7, s8, s9, s10, s11, s12, s13, s14, s15, s16, s17, s18, s19, s20, s21, s22, .val (.int (Int32.ofNat cs.length)), .val (.ref o24)] [])) target → Steps p.tables e below (T0.setTop (mkF m 353 #[s0, s1, s2, s3, s4, s5, s6, s7, s8, s9, s10, s11, s12, s13, s14, s15, s16, s17, s18, s19, s20, s21, s22, .val (.int (Int32.ofNat cs.length)), .val (.ref o24)] [])) target := by
  obtain ⟨cq6, kq6, q6a, q6b, q6c⟩ := isOf hZ e0 S.1
  obtain ⟨_, _, ⟨T6, L6, k6, n6⟩, -, X6, ⟨Lc6, hQ6, l6, y6, z6⟩, st6⟩ := X0.virtualBack hx (y := (⟨"java/lang/String", "length", "()I"⟩ : MethodName)) (z := (⟨"java/lang/String", "length", "()I"⟩ : MethodName)) hown (mvT hZ (hw _ (List.mem_of_getElem? (i := 76) rfl))) (mvT hZ (hw _ (List.mem_of_getElem? (i := 32) rfl))) (notFace_of_selects (args := #[]) (mvT hZ (hw _ (List.mem_of_getElem? (i := 34) rfl)))) (mvT hZ (hw _ (List.mem_of_getElem? (i := 34) rfl))) (mvT hZ (hw _ (List.mem_of_getElem? (i := 33) rfl))) (by decide) (backOf (W := 0) (len l Z a0 hw [] o24 cs h0 n0 Z0 D S) hZ (hw _ (List.mem_of_getElem? (i := 35) rfl)) (hw _ (List.mem_of_getElem? (i := 8) rfl)) (by decide) (by decide)) q6a q6c (g := (mkF m 355 #[s0, s1, s2, s3, s4, s5, s6, s7, s8, s9, s10, s11, s12, s13, s14, s15, s16, s17, s18, s19, s20, s21, s22, .val (.int (Int32.ofNat cs.length)), .val (.ref o24)] [(.ref o24)])) rfl (by rw [hml]; rfl) (Steps.refl _) (argsL := []) (rest := []) (lenOf pd_0_5 rfl) rfl (by show 2 * 0 + _ ≤ _; exact Nat.le_of_eq rfl) (hb hby at_355) (fun _ _ => ⟨rfl, e0, (by decide : 20 + 0 + 0 ≤ _), (by decide : 190 + 0 + 0 ≤ _)⟩)
  dsimp only [Pt.U, Pt.locs, Pt.cells, Pt.slots] at X6 l6 y6 z6 st6 hQ6
  subst l6 y6 z6
  obtain ⟨rfl, N6q, eq6⟩ := hQ6
  refine ⟨T6, _, _, X6, rfl, Fr.app N0 N6q, eq6, fun target kt => ?_⟩
  show Steps p.tables e below (T0.setTop (mkF m 353 #[s0, s1, s2, s3, s4, s5, s6, s7, s8, s9, s10, s11, s12, s13, s14, s15, s16, s17, s18, s19, s20, s21, s22, .val (.int (Int32.ofNat cs.length)), .val (.ref o24)] [])) _
  refine XS.aload X0.here hx rfl (hb hby at_353) rfl rfl ?_
  refine st6.trans ?_
  refine XS.iload X6.here hx rfl (hb hby at_358) rfl ?_
  refine XS.icmpYes X6.here hx rfl (pc0 := 360) (pc' := 365) rfl (hb hby at_360) rfl (teq (rfl : (Int32.ofNat cs.length) = (Int32.ofNat cs.length))).1 (by decide) (by decide) ?_
  exact kt
theorem pd_0_14 : parseMethodDescriptor "(Ljava/lang/String;[CII)Z" = some ⟨[(.object "java/lang/String"), (.array .char), .int, .int], some .boolean⟩ := by decide +kernel
set_option maxRecDepth 65536 in
set_option maxHeartbeats 40000000 in
theorem c0 {p : Program} {l : Launch} {e : Env} {s : State} {m : MethodId} {args : Array Value} {below : List Frame} {meth : Method} {c : Code} {T0 : State} {locs : List Loc} {Z : State} {a0 : Array Value} {h0 : Heap} (s0 : Slot) (s1 : Slot) (s2 : Slot) (s3 : Slot) (s4 : Slot) (s5 : Slot) (s6 : Slot) (s7 : Slot) (s8 : Slot) (s9 : Slot) (s10 : Slot) (s11 : Slot) (s12 : Slot) (s13 : Slot) (s14 : Slot) (s15 : Slot) (s16 : Slot) (s17 : Slot) (s18 : Slot) (s19 : Slot) (s20 : Slot) (o21 : Addr) (s22 : Slot) (o24 : Addr) (cs es : List Nat) (n0 : Nat)
    (X0 : Stand p l e (room_1 : Room) s m args below meth c T0 locs 20 190) (hx : p.tables.exec = Jvm.exec) (hZ : Z.Warmed39 s.vm) (hw : ∀ d ∈ tables_1, d.before a0 Z = true) (hby : c.code = code) (hml : c.maxLocals = 25) (hown : s.vm.findClass "com/example/gumzo/gumzo/core/TaggedBase64EncodePinLaw" = some m.cls) (e0 : T0.heap = h0) (N0 : Fr n0 locs) (Z0 : n0 ≤ h0.size) (D : Wd Z h0) (S : Str Z h0 o24 cs) (A21 : Av Z h0 o21 .char Int32.ofNat es) (hl : es.length < 128) (hq : 0 < cs.length → cs[0]? = es[0]?) :
    ∃ (T' : State) (h' : Heap) (L' : List Loc), Stand p l e (room_1 : Room) s m args below meth c T' L' 20 190 ∧ T'.heap = h' ∧ Fr n0 L' ∧ h' = h0 ∧
      ∀ target, Steps p.tables e below (T'.setTop (mkF m 378 #[s0, s1, s2, s3, s4, s5, s6, s7, s8, s9, s10, s11, s12, s13, s14, s15, s16, s17, s18, s19, s20, .val (.ref o21), s22, .val (.int (Int32.ofNat cs.length)), .val (.ref o24)] [])) target → Steps p.tables e below (T0.setTop (mkF m 365 #[s0, s1, s2, s3, s4, s5, s6, s7, s8, s9, s10, s11, s12, s13, s14, s15, s16, s17, s18, s19, s20, .val (.ref o21), s22, .val (.int (Int32.ofNat cs.length)), .val (.ref o24)] [])) target := by
  obtain ⟨_, _, ⟨T6, L6, k6, n6⟩, -, X6, ⟨Lc6, hQ6, l6, y6, z6⟩, st6⟩ := Jvm.LawKit.callS X0 hx (y := (⟨"com/example/gumzo/gumzo/core/TaggedBase64EncodePinLaw", "same", "(Ljava/lang/String;[CII)Z"⟩ : MethodName)) hown (mvT hZ (hw _ (List.mem_of_getElem? (i := 77) rfl))) (mvT hZ (hw _ (List.mem_of_getElem? (i := 78) rfl))) (mvT hZ (hw _ (List.mem_of_getElem? (i := 4) rfl))) (mvT hZ (hw _ (List.mem_of_getElem? (i := 79) rfl))) (by decide) (backOf (W := 0) (samew l Z a0 hw [] o24 o21 0 cs es h0 n0 Z0 D S A21 hl (by decide) hq) hZ (hw _ (List.mem_of_getElem? (i := 79) rfl)) (hw _ (List.mem_of_getElem? (i := 4) rfl)) (by decide) (by decide)) (g := (mkF m 372 #[s0, s1, s2, s3, s4, s5, s6, s7, s8, s9, s10, s11, s12, s13, s14, s15, s16, s17, s18, s19, s20, .val (.ref o21), s22, .val (.int (Int32.ofNat cs.length)), .val (.ref o24)] [(.int (0 : Int32)), (.int (Int32.ofNat cs.length)), (.ref o21), (.ref o24)])) rfl (by rw [hml]; rfl) (argsL := [(.ref o24), (.ref o21), (.int (Int32.ofNat cs.length)), (.int (0 : Int32))]) (rest := []) (lenOf pd_0_14 rfl) rfl (by show 2 * 0 + _ ≤ _; exact Nat.le_of_eq rfl) (hb hby at_372) (fun _ _ => ⟨rfl, e0, (by decide : 20 + 0 + 0 ≤ _), (by decide : 190 + 0 + 0 ≤ _)⟩)
  dsimp only [Pt.U, Pt.locs, Pt.cells, Pt.slots] at X6 l6 y6 z6 st6 hQ6
  subst l6 y6 z6
  obtain ⟨rfl, N6q, eq6⟩ := hQ6
  refine ⟨T6, _, _, X6, rfl, Fr.app N0 N6q, eq6, fun target kt => ?_⟩
  show Steps p.tables e below (T0.setTop (mkF m 365 #[s0, s1, s2, s3, s4, s5, s6, s7, s8, s9, s10, s11, s12, s13, s14, s15, s16, s17, s18, s19, s20, .val (.ref o21), s22, .val (.int (Int32.ofNat cs.length)), .val (.ref o24)] [])) _
  refine XS.aload X0.here hx rfl (hb hby at_365) rfl rfl ?_
  refine XS.aload X0.here hx rfl (hb hby at_367) rfl rfl ?_
  refine XS.iload X0.here hx rfl (hb hby at_369) rfl ?_
  refine XS.iconst X0.here hx rfl (hb hby at_371) ?_
  refine st6 _ ?_
  refine XS.ifNo X6.here hx rfl (hb hby at_375) rfl ((if0 _ _).trans (feq ((by decide) : ¬ ((1 : Int32) = (0 : Int32)))).1) ?_
  exact kt
set_option maxRecDepth 65536 in
set_option maxHeartbeats 40000000 in
theorem c1 {p : Program} {l : Launch} {e : Env} {s : State} {m : MethodId} {args : Array Value} {below : List Frame} {meth : Method} {c : Code} {T0 : State} {locs : List Loc} {Z : State} {a0 : Array Value} {h0 : Heap} (s0 : Slot) (s1 : Slot) (s2 : Slot) (s3 : Slot) (s4 : Slot) (s5 : Slot) (s6 : Slot) (s7 : Slot) (s8 : Slot) (s9 : Slot) (s10 : Slot) (s11 : Slot) (s12 : Slot) (s13 : Slot) (s14 : Slot) (s15 : Slot) (s16 : Slot) (s17 : Slot) (s18 : Slot) (s19 : Slot) (s20 : Slot) (o21 : Addr) (s22 : Slot) (o24 : Addr) (cs es : List Nat) (n0 : Nat)
    (X0 : Stand p l e (room_1 : Room) s m args below meth c T0 locs 20 190) (hx : p.tables.exec = Jvm.exec) (hZ : Z.Warmed39 s.vm) (hw : ∀ d ∈ tables_1, d.before a0 Z = true) (hby : c.code = code) (hml : c.maxLocals = 25) (hown : s.vm.findClass "com/example/gumzo/gumzo/core/TaggedBase64EncodePinLaw" = some m.cls) (e0 : T0.heap = h0) (N0 : Fr n0 locs) (Z0 : n0 ≤ h0.size) (D : Wd Z h0) (S : Str Z h0 o24 cs) (A21 : Av Z h0 o21 .char Int32.ofNat es) (hl : es.length < 128) (hq : 1 < cs.length → cs[1]? = es[1]?) :
    ∃ (T' : State) (h' : Heap) (L' : List Loc), Stand p l e (room_1 : Room) s m args below meth c T' L' 20 190 ∧ T'.heap = h' ∧ Fr n0 L' ∧ h' = h0 ∧
      ∀ target, Steps p.tables e below (T'.setTop (mkF m 391 #[s0, s1, s2, s3, s4, s5, s6, s7, s8, s9, s10, s11, s12, s13, s14, s15, s16, s17, s18, s19, s20, .val (.ref o21), s22, .val (.int (Int32.ofNat cs.length)), .val (.ref o24)] [])) target → Steps p.tables e below (T0.setTop (mkF m 378 #[s0, s1, s2, s3, s4, s5, s6, s7, s8, s9, s10, s11, s12, s13, s14, s15, s16, s17, s18, s19, s20, .val (.ref o21), s22, .val (.int (Int32.ofNat cs.length)), .val (.ref o24)] [])) target := by
  obtain ⟨_, _, ⟨T6, L6, k6, n6⟩, -, X6, ⟨Lc6, hQ6, l6, y6, z6⟩, st6⟩ := Jvm.LawKit.callS X0 hx (y := (⟨"com/example/gumzo/gumzo/core/TaggedBase64EncodePinLaw", "same", "(Ljava/lang/String;[CII)Z"⟩ : MethodName)) hown (mvT hZ (hw _ (List.mem_of_getElem? (i := 77) rfl))) (mvT hZ (hw _ (List.mem_of_getElem? (i := 78) rfl))) (mvT hZ (hw _ (List.mem_of_getElem? (i := 4) rfl))) (mvT hZ (hw _ (List.mem_of_getElem? (i := 79) rfl))) (by decide) (backOf (W := 0) (samew l Z a0 hw [] o24 o21 1 cs es h0 n0 Z0 D S A21 hl (by decide) hq) hZ (hw _ (List.mem_of_getElem? (i := 79) rfl)) (hw _ (List.mem_of_getElem? (i := 4) rfl)) (by decide) (by decide)) (g := (mkF m 385 #[s0, s1, s2, s3, s4, s5, s6, s7, s8, s9, s10, s11, s12, s13, s14, s15, s16, s17, s18, s19, s20, .val (.ref o21), s22, .val (.int (Int32.ofNat cs.length)), .val (.ref o24)] [(.int (1 : Int32)), (.int (Int32.ofNat cs.length)), (.ref o21), (.ref o24)])) rfl (by rw [hml]; rfl) (argsL := [(.ref o24), (.ref o21), (.int (Int32.ofNat cs.length)), (.int (1 : Int32))]) (rest := []) (lenOf pd_0_14 rfl) rfl (by show 2 * 0 + _ ≤ _; exact Nat.le_of_eq rfl) (hb hby at_385) (fun _ _ => ⟨rfl, e0, (by decide : 20 + 0 + 0 ≤ _), (by decide : 190 + 0 + 0 ≤ _)⟩)
  dsimp only [Pt.U, Pt.locs, Pt.cells, Pt.slots] at X6 l6 y6 z6 st6 hQ6
  subst l6 y6 z6
  obtain ⟨rfl, N6q, eq6⟩ := hQ6
  refine ⟨T6, _, _, X6, rfl, Fr.app N0 N6q, eq6, fun target kt => ?_⟩
  show Steps p.tables e below (T0.setTop (mkF m 378 #[s0, s1, s2, s3, s4, s5, s6, s7, s8, s9, s10, s11, s12, s13, s14, s15, s16, s17, s18, s19, s20, .val (.ref o21), s22, .val (.int (Int32.ofNat cs.length)), .val (.ref o24)] [])) _
  refine XS.aload X0.here hx rfl (hb hby at_378) rfl rfl ?_
  refine XS.aload X0.here hx rfl (hb hby at_380) rfl rfl ?_
  refine XS.iload X0.here hx rfl (hb hby at_382) rfl ?_
  refine XS.iconst X0.here hx rfl (hb hby at_384) ?_
  refine st6 _ ?_
  refine XS.ifNo X6.here hx rfl (hb hby at_388) rfl ((if0 _ _).trans (feq ((by decide) : ¬ ((1 : Int32) = (0 : Int32)))).1) ?_
  exact kt
set_option maxRecDepth 65536 in
set_option maxHeartbeats 40000000 in
theorem c2 {p : Program} {l : Launch} {e : Env} {s : State} {m : MethodId} {args : Array Value} {below : List Frame} {meth : Method} {c : Code} {T0 : State} {locs : List Loc} {Z : State} {a0 : Array Value} {h0 : Heap} (s0 : Slot) (s1 : Slot) (s2 : Slot) (s3 : Slot) (s4 : Slot) (s5 : Slot) (s6 : Slot) (s7 : Slot) (s8 : Slot) (s9 : Slot) (s10 : Slot) (s11 : Slot) (s12 : Slot) (s13 : Slot) (s14 : Slot) (s15 : Slot) (s16 : Slot) (s17 : Slot) (s18 : Slot) (s19 : Slot) (s20 : Slot) (o21 : Addr) (s22 : Slot) (o24 : Addr) (cs es : List Nat) (n0 : Nat)
    (X0 : Stand p l e (room_1 : Room) s m args below meth c T0 locs 20 190) (hx : p.tables.exec = Jvm.exec) (hZ : Z.Warmed39 s.vm) (hw : ∀ d ∈ tables_1, d.before a0 Z = true) (hby : c.code = code) (hml : c.maxLocals = 25) (hown : s.vm.findClass "com/example/gumzo/gumzo/core/TaggedBase64EncodePinLaw" = some m.cls) (e0 : T0.heap = h0) (N0 : Fr n0 locs) (Z0 : n0 ≤ h0.size) (D : Wd Z h0) (S : Str Z h0 o24 cs) (A21 : Av Z h0 o21 .char Int32.ofNat es) (hl : es.length < 128) (hq : 2 < cs.length → cs[2]? = es[2]?) :
    ∃ (T' : State) (h' : Heap) (L' : List Loc), Stand p l e (room_1 : Room) s m args below meth c T' L' 20 190 ∧ T'.heap = h' ∧ Fr n0 L' ∧ h' = h0 ∧
      ∀ target, Steps p.tables e below (T'.setTop (mkF m 404 #[s0, s1, s2, s3, s4, s5, s6, s7, s8, s9, s10, s11, s12, s13, s14, s15, s16, s17, s18, s19, s20, .val (.ref o21), s22, .val (.int (Int32.ofNat cs.length)), .val (.ref o24)] [])) target → Steps p.tables e below (T0.setTop (mkF m 391 #[s0, s1, s2, s3, s4, s5, s6, s7, s8, s9, s10, s11, s12, s13, s14, s15, s16, s17, s18, s19, s20, .val (.ref o21), s22, .val (.int (Int32.ofNat cs.length)), .val (.ref o24)] [])) target := by
  obtain ⟨_, _, ⟨T6, L6, k6, n6⟩, -, X6, ⟨Lc6, hQ6, l6, y6, z6⟩, st6⟩ := Jvm.LawKit.callS X0 hx (y := (⟨"com/example/gumzo/gumzo/core/TaggedBase64EncodePinLaw", "same", "(Ljava/lang/String;[CII)Z"⟩ : MethodName)) hown (mvT hZ (hw _ (List.mem_of_getElem? (i := 77) rfl))) (mvT hZ (hw _ (List.mem_of_getElem? (i := 78) rfl))) (mvT hZ (hw _ (List.mem_of_getElem? (i := 4) rfl))) (mvT hZ (hw _ (List.mem_of_getElem? (i := 79) rfl))) (by decide) (backOf (W := 0) (samew l Z a0 hw [] o24 o21 2 cs es h0 n0 Z0 D S A21 hl (by decide) hq) hZ (hw _ (List.mem_of_getElem? (i := 79) rfl)) (hw _ (List.mem_of_getElem? (i := 4) rfl)) (by decide) (by decide)) (g := (mkF m 398 #[s0, s1, s2, s3, s4, s5, s6, s7, s8, s9, s10, s11, s12, s13, s14, s15, s16, s17, s18, s19, s20, .val (.ref o21), s22, .val (.int (Int32.ofNat cs.length)), .val (.ref o24)] [(.int (2 : Int32)), (.int (Int32.ofNat cs.length)), (.ref o21), (.ref o24)])) rfl (by rw [hml]; rfl) (argsL := [(.ref o24), (.ref o21), (.int (Int32.ofNat cs.length)), (.int (2 : Int32))]) (rest := []) (lenOf pd_0_14 rfl) rfl (by show 2 * 0 + _ ≤ _; exact Nat.le_of_eq rfl) (hb hby at_398) (fun _ _ => ⟨rfl, e0, (by decide : 20 + 0 + 0 ≤ _), (by decide : 190 + 0 + 0 ≤ _)⟩)
  dsimp only [Pt.U, Pt.locs, Pt.cells, Pt.slots] at X6 l6 y6 z6 st6 hQ6
  subst l6 y6 z6
  obtain ⟨rfl, N6q, eq6⟩ := hQ6
  refine ⟨T6, _, _, X6, rfl, Fr.app N0 N6q, eq6, fun target kt => ?_⟩
  show Steps p.tables e below (T0.setTop (mkF m 391 #[s0, s1, s2, s3, s4, s5, s6, s7, s8, s9, s10, s11, s12, s13, s14, s15, s16, s17, s18, s19, s20, .val (.ref o21), s22, .val (.int (Int32.ofNat cs.length)), .val (.ref o24)] [])) _
  refine XS.aload X0.here hx rfl (hb hby at_391) rfl rfl ?_
  refine XS.aload X0.here hx rfl (hb hby at_393) rfl rfl ?_
  refine XS.iload X0.here hx rfl (hb hby at_395) rfl ?_
  refine XS.iconst X0.here hx rfl (hb hby at_397) ?_
  refine st6 _ ?_
  refine XS.ifNo X6.here hx rfl (hb hby at_401) rfl ((if0 _ _).trans (feq ((by decide) : ¬ ((1 : Int32) = (0 : Int32)))).1) ?_
  exact kt
set_option maxRecDepth 65536 in
set_option maxHeartbeats 40000000 in
theorem c3 {p : Program} {l : Launch} {e : Env} {s : State} {m : MethodId} {args : Array Value} {below : List Frame} {meth : Method} {c : Code} {T0 : State} {locs : List Loc} {Z : State} {a0 : Array Value} {h0 : Heap} (s0 : Slot) (s1 : Slot) (s2 : Slot) (s3 : Slot) (s4 : Slot) (s5 : Slot) (s6 : Slot) (s7 : Slot) (s8 : Slot) (s9 : Slot) (s10 : Slot) (s11 : Slot) (s12 : Slot) (s13 : Slot) (s14 : Slot) (s15 : Slot) (s16 : Slot) (s17 : Slot) (s18 : Slot) (s19 : Slot) (s20 : Slot) (o21 : Addr) (s22 : Slot) (o24 : Addr) (cs es : List Nat) (n0 : Nat)
    (X0 : Stand p l e (room_1 : Room) s m args below meth c T0 locs 20 190) (hx : p.tables.exec = Jvm.exec) (hZ : Z.Warmed39 s.vm) (hw : ∀ d ∈ tables_1, d.before a0 Z = true) (hby : c.code = code) (hml : c.maxLocals = 25) (hown : s.vm.findClass "com/example/gumzo/gumzo/core/TaggedBase64EncodePinLaw" = some m.cls) (e0 : T0.heap = h0) (N0 : Fr n0 locs) (Z0 : n0 ≤ h0.size) (D : Wd Z h0) (S : Str Z h0 o24 cs) (A21 : Av Z h0 o21 .char Int32.ofNat es) (hl : es.length < 128) (hq : 3 < cs.length → cs[3]? = es[3]?) :
    ∃ (T' : State) (h' : Heap) (L' : List Loc), Stand p l e (room_1 : Room) s m args below meth c T' L' 20 190 ∧ T'.heap = h' ∧ Fr n0 L' ∧ h' = h0 ∧
      ∀ target, Steps p.tables e below (T'.setTop (mkF m 417 #[s0, s1, s2, s3, s4, s5, s6, s7, s8, s9, s10, s11, s12, s13, s14, s15, s16, s17, s18, s19, s20, .val (.ref o21), s22, .val (.int (Int32.ofNat cs.length)), .val (.ref o24)] [])) target → Steps p.tables e below (T0.setTop (mkF m 404 #[s0, s1, s2, s3, s4, s5, s6, s7, s8, s9, s10, s11, s12, s13, s14, s15, s16, s17, s18, s19, s20, .val (.ref o21), s22, .val (.int (Int32.ofNat cs.length)), .val (.ref o24)] [])) target := by
  obtain ⟨_, _, ⟨T6, L6, k6, n6⟩, -, X6, ⟨Lc6, hQ6, l6, y6, z6⟩, st6⟩ := Jvm.LawKit.callS X0 hx (y := (⟨"com/example/gumzo/gumzo/core/TaggedBase64EncodePinLaw", "same", "(Ljava/lang/String;[CII)Z"⟩ : MethodName)) hown (mvT hZ (hw _ (List.mem_of_getElem? (i := 77) rfl))) (mvT hZ (hw _ (List.mem_of_getElem? (i := 78) rfl))) (mvT hZ (hw _ (List.mem_of_getElem? (i := 4) rfl))) (mvT hZ (hw _ (List.mem_of_getElem? (i := 79) rfl))) (by decide) (backOf (W := 0) (samew l Z a0 hw [] o24 o21 3 cs es h0 n0 Z0 D S A21 hl (by decide) hq) hZ (hw _ (List.mem_of_getElem? (i := 79) rfl)) (hw _ (List.mem_of_getElem? (i := 4) rfl)) (by decide) (by decide)) (g := (mkF m 411 #[s0, s1, s2, s3, s4, s5, s6, s7, s8, s9, s10, s11, s12, s13, s14, s15, s16, s17, s18, s19, s20, .val (.ref o21), s22, .val (.int (Int32.ofNat cs.length)), .val (.ref o24)] [(.int (3 : Int32)), (.int (Int32.ofNat cs.length)), (.ref o21), (.ref o24)])) rfl (by rw [hml]; rfl) (argsL := [(.ref o24), (.ref o21), (.int (Int32.ofNat cs.length)), (.int (3 : Int32))]) (rest := []) (lenOf pd_0_14 rfl) rfl (by show 2 * 0 + _ ≤ _; exact Nat.le_of_eq rfl) (hb hby at_411) (fun _ _ => ⟨rfl, e0, (by decide : 20 + 0 + 0 ≤ _), (by decide : 190 + 0 + 0 ≤ _)⟩)
  dsimp only [Pt.U, Pt.locs, Pt.cells, Pt.slots] at X6 l6 y6 z6 st6 hQ6
  subst l6 y6 z6
  obtain ⟨rfl, N6q, eq6⟩ := hQ6
  refine ⟨T6, _, _, X6, rfl, Fr.app N0 N6q, eq6, fun target kt => ?_⟩
  show Steps p.tables e below (T0.setTop (mkF m 404 #[s0, s1, s2, s3, s4, s5, s6, s7, s8, s9, s10, s11, s12, s13, s14, s15, s16, s17, s18, s19, s20, .val (.ref o21), s22, .val (.int (Int32.ofNat cs.length)), .val (.ref o24)] [])) _
  refine XS.aload X0.here hx rfl (hb hby at_404) rfl rfl ?_
  refine XS.aload X0.here hx rfl (hb hby at_406) rfl rfl ?_
  refine XS.iload X0.here hx rfl (hb hby at_408) rfl ?_
  refine XS.iconst X0.here hx rfl (hb hby at_410) ?_
  refine st6 _ ?_
  refine XS.ifNo X6.here hx rfl (hb hby at_414) rfl ((if0 _ _).trans (feq ((by decide) : ¬ ((1 : Int32) = (0 : Int32)))).1) ?_
  exact kt
set_option maxRecDepth 65536 in
set_option maxHeartbeats 40000000 in
theorem c4 {p : Program} {l : Launch} {e : Env} {s : State} {m : MethodId} {args : Array Value} {below : List Frame} {meth : Method} {c : Code} {T0 : State} {locs : List Loc} {Z : State} {a0 : Array Value} {h0 : Heap} (s0 : Slot) (s1 : Slot) (s2 : Slot) (s3 : Slot) (s4 : Slot) (s5 : Slot) (s6 : Slot) (s7 : Slot) (s8 : Slot) (s9 : Slot) (s10 : Slot) (s11 : Slot) (s12 : Slot) (s13 : Slot) (s14 : Slot) (s15 : Slot) (s16 : Slot) (s17 : Slot) (s18 : Slot) (s19 : Slot) (s20 : Slot) (o21 : Addr) (s22 : Slot) (o24 : Addr) (cs es : List Nat) (n0 : Nat)
    (X0 : Stand p l e (room_1 : Room) s m args below meth c T0 locs 20 190) (hx : p.tables.exec = Jvm.exec) (hZ : Z.Warmed39 s.vm) (hw : ∀ d ∈ tables_1, d.before a0 Z = true) (hby : c.code = code) (hml : c.maxLocals = 25) (hown : s.vm.findClass "com/example/gumzo/gumzo/core/TaggedBase64EncodePinLaw" = some m.cls) (e0 : T0.heap = h0) (N0 : Fr n0 locs) (Z0 : n0 ≤ h0.size) (D : Wd Z h0) (S : Str Z h0 o24 cs) (A21 : Av Z h0 o21 .char Int32.ofNat es) (hl : es.length < 128) (hq : 4 < cs.length → cs[4]? = es[4]?) :
    ∃ (T' : State) (h' : Heap) (L' : List Loc), Stand p l e (room_1 : Room) s m args below meth c T' L' 20 190 ∧ T'.heap = h' ∧ Fr n0 L' ∧ h' = h0 ∧
      ∀ target, Steps p.tables e below (T'.setTop (mkF m 430 #[s0, s1, s2, s3, s4, s5, s6, s7, s8, s9, s10, s11, s12, s13, s14, s15, s16, s17, s18, s19, s20, .val (.ref o21), s22, .val (.int (Int32.ofNat cs.length)), .val (.ref o24)] [])) target → Steps p.tables e below (T0.setTop (mkF m 417 #[s0, s1, s2, s3, s4, s5, s6, s7, s8, s9, s10, s11, s12, s13, s14, s15, s16, s17, s18, s19, s20, .val (.ref o21), s22, .val (.int (Int32.ofNat cs.length)), .val (.ref o24)] [])) target := by
  obtain ⟨_, _, ⟨T6, L6, k6, n6⟩, -, X6, ⟨Lc6, hQ6, l6, y6, z6⟩, st6⟩ := Jvm.LawKit.callS X0 hx (y := (⟨"com/example/gumzo/gumzo/core/TaggedBase64EncodePinLaw", "same", "(Ljava/lang/String;[CII)Z"⟩ : MethodName)) hown (mvT hZ (hw _ (List.mem_of_getElem? (i := 77) rfl))) (mvT hZ (hw _ (List.mem_of_getElem? (i := 78) rfl))) (mvT hZ (hw _ (List.mem_of_getElem? (i := 4) rfl))) (mvT hZ (hw _ (List.mem_of_getElem? (i := 79) rfl))) (by decide) (backOf (W := 0) (samew l Z a0 hw [] o24 o21 4 cs es h0 n0 Z0 D S A21 hl (by decide) hq) hZ (hw _ (List.mem_of_getElem? (i := 79) rfl)) (hw _ (List.mem_of_getElem? (i := 4) rfl)) (by decide) (by decide)) (g := (mkF m 424 #[s0, s1, s2, s3, s4, s5, s6, s7, s8, s9, s10, s11, s12, s13, s14, s15, s16, s17, s18, s19, s20, .val (.ref o21), s22, .val (.int (Int32.ofNat cs.length)), .val (.ref o24)] [(.int (4 : Int32)), (.int (Int32.ofNat cs.length)), (.ref o21), (.ref o24)])) rfl (by rw [hml]; rfl) (argsL := [(.ref o24), (.ref o21), (.int (Int32.ofNat cs.length)), (.int (4 : Int32))]) (rest := []) (lenOf pd_0_14 rfl) rfl (by show 2 * 0 + _ ≤ _; exact Nat.le_of_eq rfl) (hb hby at_424) (fun _ _ => ⟨rfl, e0, (by decide : 20 + 0 + 0 ≤ _), (by decide : 190 + 0 + 0 ≤ _)⟩)
  dsimp only [Pt.U, Pt.locs, Pt.cells, Pt.slots] at X6 l6 y6 z6 st6 hQ6
  subst l6 y6 z6
  obtain ⟨rfl, N6q, eq6⟩ := hQ6
  refine ⟨T6, _, _, X6, rfl, Fr.app N0 N6q, eq6, fun target kt => ?_⟩
  show Steps p.tables e below (T0.setTop (mkF m 417 #[s0, s1, s2, s3, s4, s5, s6, s7, s8, s9, s10, s11, s12, s13, s14, s15, s16, s17, s18, s19, s20, .val (.ref o21), s22, .val (.int (Int32.ofNat cs.length)), .val (.ref o24)] [])) _
  refine XS.aload X0.here hx rfl (hb hby at_417) rfl rfl ?_
  refine XS.aload X0.here hx rfl (hb hby at_419) rfl rfl ?_
  refine XS.iload X0.here hx rfl (hb hby at_421) rfl ?_
  refine XS.iconst X0.here hx rfl (hb hby at_423) ?_
  refine st6 _ ?_
  refine XS.ifNo X6.here hx rfl (hb hby at_427) rfl ((if0 _ _).trans (feq ((by decide) : ¬ ((1 : Int32) = (0 : Int32)))).1) ?_
  exact kt
set_option maxRecDepth 65536 in
set_option maxHeartbeats 40000000 in
theorem c5 {p : Program} {l : Launch} {e : Env} {s : State} {m : MethodId} {args : Array Value} {below : List Frame} {meth : Method} {c : Code} {T0 : State} {locs : List Loc} {Z : State} {a0 : Array Value} {h0 : Heap} (s0 : Slot) (s1 : Slot) (s2 : Slot) (s3 : Slot) (s4 : Slot) (s5 : Slot) (s6 : Slot) (s7 : Slot) (s8 : Slot) (s9 : Slot) (s10 : Slot) (s11 : Slot) (s12 : Slot) (s13 : Slot) (s14 : Slot) (s15 : Slot) (s16 : Slot) (s17 : Slot) (s18 : Slot) (s19 : Slot) (s20 : Slot) (o21 : Addr) (s22 : Slot) (o24 : Addr) (cs es : List Nat) (n0 : Nat)
    (X0 : Stand p l e (room_1 : Room) s m args below meth c T0 locs 20 190) (hx : p.tables.exec = Jvm.exec) (hZ : Z.Warmed39 s.vm) (hw : ∀ d ∈ tables_1, d.before a0 Z = true) (hby : c.code = code) (hml : c.maxLocals = 25) (hown : s.vm.findClass "com/example/gumzo/gumzo/core/TaggedBase64EncodePinLaw" = some m.cls) (e0 : T0.heap = h0) (N0 : Fr n0 locs) (Z0 : n0 ≤ h0.size) (D : Wd Z h0) (S : Str Z h0 o24 cs) (A21 : Av Z h0 o21 .char Int32.ofNat es) (hl : es.length < 128) (hq : 5 < cs.length → cs[5]? = es[5]?) :
    ∃ (T' : State) (h' : Heap) (L' : List Loc), Stand p l e (room_1 : Room) s m args below meth c T' L' 20 190 ∧ T'.heap = h' ∧ Fr n0 L' ∧ h' = h0 ∧
      ∀ target, Steps p.tables e below (T'.setTop (mkF m 443 #[s0, s1, s2, s3, s4, s5, s6, s7, s8, s9, s10, s11, s12, s13, s14, s15, s16, s17, s18, s19, s20, .val (.ref o21), s22, .val (.int (Int32.ofNat cs.length)), .val (.ref o24)] [])) target → Steps p.tables e below (T0.setTop (mkF m 430 #[s0, s1, s2, s3, s4, s5, s6, s7, s8, s9, s10, s11, s12, s13, s14, s15, s16, s17, s18, s19, s20, .val (.ref o21), s22, .val (.int (Int32.ofNat cs.length)), .val (.ref o24)] [])) target := by
  obtain ⟨_, _, ⟨T6, L6, k6, n6⟩, -, X6, ⟨Lc6, hQ6, l6, y6, z6⟩, st6⟩ := Jvm.LawKit.callS X0 hx (y := (⟨"com/example/gumzo/gumzo/core/TaggedBase64EncodePinLaw", "same", "(Ljava/lang/String;[CII)Z"⟩ : MethodName)) hown (mvT hZ (hw _ (List.mem_of_getElem? (i := 77) rfl))) (mvT hZ (hw _ (List.mem_of_getElem? (i := 78) rfl))) (mvT hZ (hw _ (List.mem_of_getElem? (i := 4) rfl))) (mvT hZ (hw _ (List.mem_of_getElem? (i := 79) rfl))) (by decide) (backOf (W := 0) (samew l Z a0 hw [] o24 o21 5 cs es h0 n0 Z0 D S A21 hl (by decide) hq) hZ (hw _ (List.mem_of_getElem? (i := 79) rfl)) (hw _ (List.mem_of_getElem? (i := 4) rfl)) (by decide) (by decide)) (g := (mkF m 437 #[s0, s1, s2, s3, s4, s5, s6, s7, s8, s9, s10, s11, s12, s13, s14, s15, s16, s17, s18, s19, s20, .val (.ref o21), s22, .val (.int (Int32.ofNat cs.length)), .val (.ref o24)] [(.int (5 : Int32)), (.int (Int32.ofNat cs.length)), (.ref o21), (.ref o24)])) rfl (by rw [hml]; rfl) (argsL := [(.ref o24), (.ref o21), (.int (Int32.ofNat cs.length)), (.int (5 : Int32))]) (rest := []) (lenOf pd_0_14 rfl) rfl (by show 2 * 0 + _ ≤ _; exact Nat.le_of_eq rfl) (hb hby at_437) (fun _ _ => ⟨rfl, e0, (by decide : 20 + 0 + 0 ≤ _), (by decide : 190 + 0 + 0 ≤ _)⟩)
  dsimp only [Pt.U, Pt.locs, Pt.cells, Pt.slots] at X6 l6 y6 z6 st6 hQ6
  subst l6 y6 z6
  obtain ⟨rfl, N6q, eq6⟩ := hQ6
  refine ⟨T6, _, _, X6, rfl, Fr.app N0 N6q, eq6, fun target kt => ?_⟩
  show Steps p.tables e below (T0.setTop (mkF m 430 #[s0, s1, s2, s3, s4, s5, s6, s7, s8, s9, s10, s11, s12, s13, s14, s15, s16, s17, s18, s19, s20, .val (.ref o21), s22, .val (.int (Int32.ofNat cs.length)), .val (.ref o24)] [])) _
  refine XS.aload X0.here hx rfl (hb hby at_430) rfl rfl ?_
  refine XS.aload X0.here hx rfl (hb hby at_432) rfl rfl ?_
  refine XS.iload X0.here hx rfl (hb hby at_434) rfl ?_
  refine XS.iconst X0.here hx rfl (hb hby at_436) ?_
  refine st6 _ ?_
  refine XS.ifNo X6.here hx rfl (hb hby at_440) rfl ((if0 _ _).trans (feq ((by decide) : ¬ ((1 : Int32) = (0 : Int32)))).1) ?_
  exact kt
set_option maxRecDepth 65536 in
set_option maxHeartbeats 40000000 in
theorem c6 {p : Program} {l : Launch} {e : Env} {s : State} {m : MethodId} {args : Array Value} {below : List Frame} {meth : Method} {c : Code} {T0 : State} {locs : List Loc} {Z : State} {a0 : Array Value} {h0 : Heap} (s0 : Slot) (s1 : Slot) (s2 : Slot) (s3 : Slot) (s4 : Slot) (s5 : Slot) (s6 : Slot) (s7 : Slot) (s8 : Slot) (s9 : Slot) (s10 : Slot) (s11 : Slot) (s12 : Slot) (s13 : Slot) (s14 : Slot) (s15 : Slot) (s16 : Slot) (s17 : Slot) (s18 : Slot) (s19 : Slot) (s20 : Slot) (o21 : Addr) (s22 : Slot) (o24 : Addr) (cs es : List Nat) (n0 : Nat)
    (X0 : Stand p l e (room_1 : Room) s m args below meth c T0 locs 20 190) (hx : p.tables.exec = Jvm.exec) (hZ : Z.Warmed39 s.vm) (hw : ∀ d ∈ tables_1, d.before a0 Z = true) (hby : c.code = code) (hml : c.maxLocals = 25) (hown : s.vm.findClass "com/example/gumzo/gumzo/core/TaggedBase64EncodePinLaw" = some m.cls) (e0 : T0.heap = h0) (N0 : Fr n0 locs) (Z0 : n0 ≤ h0.size) (D : Wd Z h0) (S : Str Z h0 o24 cs) (A21 : Av Z h0 o21 .char Int32.ofNat es) (hl : es.length < 128) (hq : 6 < cs.length → cs[6]? = es[6]?) :
    ∃ (T' : State) (h' : Heap) (L' : List Loc), Stand p l e (room_1 : Room) s m args below meth c T' L' 20 190 ∧ T'.heap = h' ∧ Fr n0 L' ∧ h' = h0 ∧
      ∀ target, Steps p.tables e below (T'.setTop (mkF m 457 #[s0, s1, s2, s3, s4, s5, s6, s7, s8, s9, s10, s11, s12, s13, s14, s15, s16, s17, s18, s19, s20, .val (.ref o21), s22, .val (.int (Int32.ofNat cs.length)), .val (.ref o24)] [])) target → Steps p.tables e below (T0.setTop (mkF m 443 #[s0, s1, s2, s3, s4, s5, s6, s7, s8, s9, s10, s11, s12, s13, s14, s15, s16, s17, s18, s19, s20, .val (.ref o21), s22, .val (.int (Int32.ofNat cs.length)), .val (.ref o24)] [])) target := by
  obtain ⟨_, _, ⟨T6, L6, k6, n6⟩, -, X6, ⟨Lc6, hQ6, l6, y6, z6⟩, st6⟩ := Jvm.LawKit.callS X0 hx (y := (⟨"com/example/gumzo/gumzo/core/TaggedBase64EncodePinLaw", "same", "(Ljava/lang/String;[CII)Z"⟩ : MethodName)) hown (mvT hZ (hw _ (List.mem_of_getElem? (i := 77) rfl))) (mvT hZ (hw _ (List.mem_of_getElem? (i := 78) rfl))) (mvT hZ (hw _ (List.mem_of_getElem? (i := 4) rfl))) (mvT hZ (hw _ (List.mem_of_getElem? (i := 79) rfl))) (by decide) (backOf (W := 0) (samew l Z a0 hw [] o24 o21 6 cs es h0 n0 Z0 D S A21 hl (by decide) hq) hZ (hw _ (List.mem_of_getElem? (i := 79) rfl)) (hw _ (List.mem_of_getElem? (i := 4) rfl)) (by decide) (by decide)) (g := (mkF m 451 #[s0, s1, s2, s3, s4, s5, s6, s7, s8, s9, s10, s11, s12, s13, s14, s15, s16, s17, s18, s19, s20, .val (.ref o21), s22, .val (.int (Int32.ofNat cs.length)), .val (.ref o24)] [(.int (6 : Int32)), (.int (Int32.ofNat cs.length)), (.ref o21), (.ref o24)])) rfl (by rw [hml]; rfl) (argsL := [(.ref o24), (.ref o21), (.int (Int32.ofNat cs.length)), (.int (6 : Int32))]) (rest := []) (lenOf pd_0_14 rfl) rfl (by show 2 * 0 + _ ≤ _; exact Nat.le_of_eq rfl) (hb hby at_451) (fun _ _ => ⟨rfl, e0, (by decide : 20 + 0 + 0 ≤ _), (by decide : 190 + 0 + 0 ≤ _)⟩)
  dsimp only [Pt.U, Pt.locs, Pt.cells, Pt.slots] at X6 l6 y6 z6 st6 hQ6
  subst l6 y6 z6
  obtain ⟨rfl, N6q, eq6⟩ := hQ6
  refine ⟨T6, _, _, X6, rfl, Fr.app N0 N6q, eq6, fun target kt => ?_⟩
  show Steps p.tables e below (T0.setTop (mkF m 443 #[s0, s1, s2, s3, s4, s5, s6, s7, s8, s9, s10, s11, s12, s13, s14, s15, s16, s17, s18, s19, s20, .val (.ref o21), s22, .val (.int (Int32.ofNat cs.length)), .val (.ref o24)] [])) _
  refine XS.aload X0.here hx rfl (hb hby at_443) rfl rfl ?_
  refine XS.aload X0.here hx rfl (hb hby at_445) rfl rfl ?_
  refine XS.iload X0.here hx rfl (hb hby at_447) rfl ?_
  refine XS.bipush X0.here hx rfl (hb hby at_449) ?_
  refine st6 _ ?_
  refine XS.ifNo X6.here hx rfl (hb hby at_454) rfl ((if0 _ _).trans (feq ((by decide) : ¬ ((1 : Int32) = (0 : Int32)))).1) ?_
  exact kt
set_option maxRecDepth 65536 in
set_option maxHeartbeats 40000000 in
theorem c7 {p : Program} {l : Launch} {e : Env} {s : State} {m : MethodId} {args : Array Value} {below : List Frame} {meth : Method} {c : Code} {T0 : State} {locs : List Loc} {Z : State} {a0 : Array Value} {h0 : Heap} (s0 : Slot) (s1 : Slot) (s2 : Slot) (s3 : Slot) (s4 : Slot) (s5 : Slot) (s6 : Slot) (s7 : Slot) (s8 : Slot) (s9 : Slot) (s10 : Slot) (s11 : Slot) (s12 : Slot) (s13 : Slot) (s14 : Slot) (s15 : Slot) (s16 : Slot) (s17 : Slot) (s18 : Slot) (s19 : Slot) (s20 : Slot) (o21 : Addr) (s22 : Slot) (o24 : Addr) (cs es : List Nat) (n0 : Nat)
    (X0 : Stand p l e (room_1 : Room) s m args below meth c T0 locs 20 190) (hx : p.tables.exec = Jvm.exec) (hZ : Z.Warmed39 s.vm) (hw : ∀ d ∈ tables_1, d.before a0 Z = true) (hby : c.code = code) (hml : c.maxLocals = 25) (hown : s.vm.findClass "com/example/gumzo/gumzo/core/TaggedBase64EncodePinLaw" = some m.cls) (e0 : T0.heap = h0) (N0 : Fr n0 locs) (Z0 : n0 ≤ h0.size) (D : Wd Z h0) (S : Str Z h0 o24 cs) (A21 : Av Z h0 o21 .char Int32.ofNat es) (hl : es.length < 128) (hq : 7 < cs.length → cs[7]? = es[7]?) :
    ∃ (T' : State) (h' : Heap) (L' : List Loc), Stand p l e (room_1 : Room) s m args below meth c T' L' 20 190 ∧ T'.heap = h' ∧ Fr n0 L' ∧ h' = h0 ∧
      ∀ target, Steps p.tables e below (T'.setTop (mkF m 471 #[s0, s1, s2, s3, s4, s5, s6, s7, s8, s9, s10, s11, s12, s13, s14, s15, s16, s17, s18, s19, s20, .val (.ref o21), s22, .val (.int (Int32.ofNat cs.length)), .val (.ref o24)] [])) target → Steps p.tables e below (T0.setTop (mkF m 457 #[s0, s1, s2, s3, s4, s5, s6, s7, s8, s9, s10, s11, s12, s13, s14, s15, s16, s17, s18, s19, s20, .val (.ref o21), s22, .val (.int (Int32.ofNat cs.length)), .val (.ref o24)] [])) target := by
  obtain ⟨_, _, ⟨T6, L6, k6, n6⟩, -, X6, ⟨Lc6, hQ6, l6, y6, z6⟩, st6⟩ := Jvm.LawKit.callS X0 hx (y := (⟨"com/example/gumzo/gumzo/core/TaggedBase64EncodePinLaw", "same", "(Ljava/lang/String;[CII)Z"⟩ : MethodName)) hown (mvT hZ (hw _ (List.mem_of_getElem? (i := 77) rfl))) (mvT hZ (hw _ (List.mem_of_getElem? (i := 78) rfl))) (mvT hZ (hw _ (List.mem_of_getElem? (i := 4) rfl))) (mvT hZ (hw _ (List.mem_of_getElem? (i := 79) rfl))) (by decide) (backOf (W := 0) (samew l Z a0 hw [] o24 o21 7 cs es h0 n0 Z0 D S A21 hl (by decide) hq) hZ (hw _ (List.mem_of_getElem? (i := 79) rfl)) (hw _ (List.mem_of_getElem? (i := 4) rfl)) (by decide) (by decide)) (g := (mkF m 465 #[s0, s1, s2, s3, s4, s5, s6, s7, s8, s9, s10, s11, s12, s13, s14, s15, s16, s17, s18, s19, s20, .val (.ref o21), s22, .val (.int (Int32.ofNat cs.length)), .val (.ref o24)] [(.int (7 : Int32)), (.int (Int32.ofNat cs.length)), (.ref o21), (.ref o24)])) rfl (by rw [hml]; rfl) (argsL := [(.ref o24), (.ref o21), (.int (Int32.ofNat cs.length)), (.int (7 : Int32))]) (rest := []) (lenOf pd_0_14 rfl) rfl (by show 2 * 0 + _ ≤ _; exact Nat.le_of_eq rfl) (hb hby at_465) (fun _ _ => ⟨rfl, e0, (by decide : 20 + 0 + 0 ≤ _), (by decide : 190 + 0 + 0 ≤ _)⟩)
  dsimp only [Pt.U, Pt.locs, Pt.cells, Pt.slots] at X6 l6 y6 z6 st6 hQ6
  subst l6 y6 z6
  obtain ⟨rfl, N6q, eq6⟩ := hQ6
  refine ⟨T6, _, _, X6, rfl, Fr.app N0 N6q, eq6, fun target kt => ?_⟩
  show Steps p.tables e below (T0.setTop (mkF m 457 #[s0, s1, s2, s3, s4, s5, s6, s7, s8, s9, s10, s11, s12, s13, s14, s15, s16, s17, s18, s19, s20, .val (.ref o21), s22, .val (.int (Int32.ofNat cs.length)), .val (.ref o24)] [])) _
  refine XS.aload X0.here hx rfl (hb hby at_457) rfl rfl ?_
  refine XS.aload X0.here hx rfl (hb hby at_459) rfl rfl ?_
  refine XS.iload X0.here hx rfl (hb hby at_461) rfl ?_
  refine XS.bipush X0.here hx rfl (hb hby at_463) ?_
  refine st6 _ ?_
  refine XS.ifNo X6.here hx rfl (hb hby at_468) rfl ((if0 _ _).trans (feq ((by decide) : ¬ ((1 : Int32) = (0 : Int32)))).1) ?_
  exact kt
set_option maxRecDepth 65536 in
set_option maxHeartbeats 40000000 in
theorem c8 {p : Program} {l : Launch} {e : Env} {s : State} {m : MethodId} {args : Array Value} {below : List Frame} {meth : Method} {c : Code} {T0 : State} {locs : List Loc} {Z : State} {a0 : Array Value} {h0 : Heap} (s0 : Slot) (s1 : Slot) (s2 : Slot) (s3 : Slot) (s4 : Slot) (s5 : Slot) (s6 : Slot) (s7 : Slot) (s8 : Slot) (s9 : Slot) (s10 : Slot) (s11 : Slot) (s12 : Slot) (s13 : Slot) (s14 : Slot) (s15 : Slot) (s16 : Slot) (s17 : Slot) (s18 : Slot) (s19 : Slot) (s20 : Slot) (o21 : Addr) (s22 : Slot) (o24 : Addr) (cs es : List Nat) (n0 : Nat)
    (X0 : Stand p l e (room_1 : Room) s m args below meth c T0 locs 20 190) (hx : p.tables.exec = Jvm.exec) (hZ : Z.Warmed39 s.vm) (hw : ∀ d ∈ tables_1, d.before a0 Z = true) (hby : c.code = code) (hml : c.maxLocals = 25) (hown : s.vm.findClass "com/example/gumzo/gumzo/core/TaggedBase64EncodePinLaw" = some m.cls) (e0 : T0.heap = h0) (N0 : Fr n0 locs) (Z0 : n0 ≤ h0.size) (D : Wd Z h0) (S : Str Z h0 o24 cs) (A21 : Av Z h0 o21 .char Int32.ofNat es) (hl : es.length < 128) (hq : 8 < cs.length → cs[8]? = es[8]?) :
    ∃ (T' : State) (h' : Heap) (L' : List Loc), Stand p l e (room_1 : Room) s m args below meth c T' L' 20 190 ∧ T'.heap = h' ∧ Fr n0 L' ∧ h' = h0 ∧
      ∀ target, Steps p.tables e below (T'.setTop (mkF m 485 #[s0, s1, s2, s3, s4, s5, s6, s7, s8, s9, s10, s11, s12, s13, s14, s15, s16, s17, s18, s19, s20, .val (.ref o21), s22, .val (.int (Int32.ofNat cs.length)), .val (.ref o24)] [])) target → Steps p.tables e below (T0.setTop (mkF m 471 #[s0, s1, s2, s3, s4, s5, s6, s7, s8, s9, s10, s11, s12, s13, s14, s15, s16, s17, s18, s19, s20, .val (.ref o21), s22, .val (.int (Int32.ofNat cs.length)), .val (.ref o24)] [])) target := by
  obtain ⟨_, _, ⟨T6, L6, k6, n6⟩, -, X6, ⟨Lc6, hQ6, l6, y6, z6⟩, st6⟩ := Jvm.LawKit.callS X0 hx (y := (⟨"com/example/gumzo/gumzo/core/TaggedBase64EncodePinLaw", "same", "(Ljava/lang/String;[CII)Z"⟩ : MethodName)) hown (mvT hZ (hw _ (List.mem_of_getElem? (i := 77) rfl))) (mvT hZ (hw _ (List.mem_of_getElem? (i := 78) rfl))) (mvT hZ (hw _ (List.mem_of_getElem? (i := 4) rfl))) (mvT hZ (hw _ (List.mem_of_getElem? (i := 79) rfl))) (by decide) (backOf (W := 0) (samew l Z a0 hw [] o24 o21 8 cs es h0 n0 Z0 D S A21 hl (by decide) hq) hZ (hw _ (List.mem_of_getElem? (i := 79) rfl)) (hw _ (List.mem_of_getElem? (i := 4) rfl)) (by decide) (by decide)) (g := (mkF m 479 #[s0, s1, s2, s3, s4, s5, s6, s7, s8, s9, s10, s11, s12, s13, s14, s15, s16, s17, s18, s19, s20, .val (.ref o21), s22, .val (.int (Int32.ofNat cs.length)), .val (.ref o24)] [(.int (8 : Int32)), (.int (Int32.ofNat cs.length)), (.ref o21), (.ref o24)])) rfl (by rw [hml]; rfl) (argsL := [(.ref o24), (.ref o21), (.int (Int32.ofNat cs.length)), (.int (8 : Int32))]) (rest := []) (lenOf pd_0_14 rfl) rfl (by show 2 * 0 + _ ≤ _; exact Nat.le_of_eq rfl) (hb hby at_479) (fun _ _ => ⟨rfl, e0, (by decide : 20 + 0 + 0 ≤ _), (by decide : 190 + 0 + 0 ≤ _)⟩)
  dsimp only [Pt.U, Pt.locs, Pt.cells, Pt.slots] at X6 l6 y6 z6 st6 hQ6
  subst l6 y6 z6
  obtain ⟨rfl, N6q, eq6⟩ := hQ6
  refine ⟨T6, _, _, X6, rfl, Fr.app N0 N6q, eq6, fun target kt => ?_⟩
  show Steps p.tables e below (T0.setTop (mkF m 471 #[s0, s1, s2, s3, s4, s5, s6, s7, s8, s9, s10, s11, s12, s13, s14, s15, s16, s17, s18, s19, s20, .val (.ref o21), s22, .val (.int (Int32.ofNat cs.length)), .val (.ref o24)] [])) _
  refine XS.aload X0.here hx rfl (hb hby at_471) rfl rfl ?_
  refine XS.aload X0.here hx rfl (hb hby at_473) rfl rfl ?_
  refine XS.iload X0.here hx rfl (hb hby at_475) rfl ?_
  refine XS.bipush X0.here hx rfl (hb hby at_477) ?_
  refine st6 _ ?_
  refine XS.ifNo X6.here hx rfl (hb hby at_482) rfl ((if0 _ _).trans (feq ((by decide) : ¬ ((1 : Int32) = (0 : Int32)))).1) ?_
  exact kt
set_option maxRecDepth 65536 in
set_option maxHeartbeats 40000000 in
theorem c9 {p : Program} {l : Launch} {e : Env} {s : State} {m : MethodId} {args : Array Value} {below : List Frame} {meth : Method} {c : Code} {T0 : State} {locs : List Loc} {Z : State} {a0 : Array Value} {h0 : Heap} (s0 : Slot) (s1 : Slot) (s2 : Slot) (s3 : Slot) (s4 : Slot) (s5 : Slot) (s6 : Slot) (s7 : Slot) (s8 : Slot) (s9 : Slot) (s10 : Slot) (s11 : Slot) (s12 : Slot) (s13 : Slot) (s14 : Slot) (s15 : Slot) (s16 : Slot) (s17 : Slot) (s18 : Slot) (s19 : Slot) (s20 : Slot) (o21 : Addr) (s22 : Slot) (o24 : Addr) (cs es : List Nat) (n0 : Nat)
    (X0 : Stand p l e (room_1 : Room) s m args below meth c T0 locs 20 190) (hx : p.tables.exec = Jvm.exec) (hZ : Z.Warmed39 s.vm) (hw : ∀ d ∈ tables_1, d.before a0 Z = true) (hby : c.code = code) (hml : c.maxLocals = 25) (hown : s.vm.findClass "com/example/gumzo/gumzo/core/TaggedBase64EncodePinLaw" = some m.cls) (e0 : T0.heap = h0) (N0 : Fr n0 locs) (Z0 : n0 ≤ h0.size) (D : Wd Z h0) (S : Str Z h0 o24 cs) (A21 : Av Z h0 o21 .char Int32.ofNat es) (hl : es.length < 128) (hq : 9 < cs.length → cs[9]? = es[9]?) :
    ∃ (T' : State) (h' : Heap) (L' : List Loc), Stand p l e (room_1 : Room) s m args below meth c T' L' 20 190 ∧ T'.heap = h' ∧ Fr n0 L' ∧ h' = h0 ∧
      ∀ target, Steps p.tables e below (T'.setTop (mkF m 499 #[s0, s1, s2, s3, s4, s5, s6, s7, s8, s9, s10, s11, s12, s13, s14, s15, s16, s17, s18, s19, s20, .val (.ref o21), s22, .val (.int (Int32.ofNat cs.length)), .val (.ref o24)] [])) target → Steps p.tables e below (T0.setTop (mkF m 485 #[s0, s1, s2, s3, s4, s5, s6, s7, s8, s9, s10, s11, s12, s13, s14, s15, s16, s17, s18, s19, s20, .val (.ref o21), s22, .val (.int (Int32.ofNat cs.length)), .val (.ref o24)] [])) target := by
  obtain ⟨_, _, ⟨T6, L6, k6, n6⟩, -, X6, ⟨Lc6, hQ6, l6, y6, z6⟩, st6⟩ := Jvm.LawKit.callS X0 hx (y := (⟨"com/example/gumzo/gumzo/core/TaggedBase64EncodePinLaw", "same", "(Ljava/lang/String;[CII)Z"⟩ : MethodName)) hown (mvT hZ (hw _ (List.mem_of_getElem? (i := 77) rfl))) (mvT hZ (hw _ (List.mem_of_getElem? (i := 78) rfl))) (mvT hZ (hw _ (List.mem_of_getElem? (i := 4) rfl))) (mvT hZ (hw _ (List.mem_of_getElem? (i := 79) rfl))) (by decide) (backOf (W := 0) (samew l Z a0 hw [] o24 o21 9 cs es h0 n0 Z0 D S A21 hl (by decide) hq) hZ (hw _ (List.mem_of_getElem? (i := 79) rfl)) (hw _ (List.mem_of_getElem? (i := 4) rfl)) (by decide) (by decide)) (g := (mkF m 493 #[s0, s1, s2, s3, s4, s5, s6, s7, s8, s9, s10, s11, s12, s13, s14, s15, s16, s17, s18, s19, s20, .val (.ref o21), s22, .val (.int (Int32.ofNat cs.length)), .val (.ref o24)] [(.int (9 : Int32)), (.int (Int32.ofNat cs.length)), (.ref o21), (.ref o24)])) rfl (by rw [hml]; rfl) (argsL := [(.ref o24), (.ref o21), (.int (Int32.ofNat cs.length)), (.int (9 : Int32))]) (rest := []) (lenOf pd_0_14 rfl) rfl (by show 2 * 0 + _ ≤ _; exact Nat.le_of_eq rfl) (hb hby at_493) (fun _ _ => ⟨rfl, e0, (by decide : 20 + 0 + 0 ≤ _), (by decide : 190 + 0 + 0 ≤ _)⟩)
  dsimp only [Pt.U, Pt.locs, Pt.cells, Pt.slots] at X6 l6 y6 z6 st6 hQ6
  subst l6 y6 z6
  obtain ⟨rfl, N6q, eq6⟩ := hQ6
  refine ⟨T6, _, _, X6, rfl, Fr.app N0 N6q, eq6, fun target kt => ?_⟩
  show Steps p.tables e below (T0.setTop (mkF m 485 #[s0, s1, s2, s3, s4, s5, s6, s7, s8, s9, s10, s11, s12, s13, s14, s15, s16, s17, s18, s19, s20, .val (.ref o21), s22, .val (.int (Int32.ofNat cs.length)), .val (.ref o24)] [])) _
  refine XS.aload X0.here hx rfl (hb hby at_485) rfl rfl ?_
  refine XS.aload X0.here hx rfl (hb hby at_487) rfl rfl ?_
  refine XS.iload X0.here hx rfl (hb hby at_489) rfl ?_
  refine XS.bipush X0.here hx rfl (hb hby at_491) ?_
  refine st6 _ ?_
  refine XS.ifNo X6.here hx rfl (hb hby at_496) rfl ((if0 _ _).trans (feq ((by decide) : ¬ ((1 : Int32) = (0 : Int32)))).1) ?_
  exact kt
set_option maxRecDepth 65536 in
set_option maxHeartbeats 40000000 in
theorem c10 {p : Program} {l : Launch} {e : Env} {s : State} {m : MethodId} {args : Array Value} {below : List Frame} {meth : Method} {c : Code} {T0 : State} {locs : List Loc} {Z : State} {a0 : Array Value} {h0 : Heap} (s0 : Slot) (s1 : Slot) (s2 : Slot) (s3 : Slot) (s4 : Slot) (s5 : Slot) (s6 : Slot) (s7 : Slot) (s8 : Slot) (s9 : Slot) (s10 : Slot) (s11 : Slot) (s12 : Slot) (s13 : Slot) (s14 : Slot) (s15 : Slot) (s16 : Slot) (s17 : Slot) (s18 : Slot) (s19 : Slot) (s20 : Slot) (o21 : Addr) (s22 : Slot) (o24 : Addr) (cs es : List Nat) (n0 : Nat)
    (X0 : Stand p l e (room_1 : Room) s m args below meth c T0 locs 20 190) (hx : p.tables.exec = Jvm.exec) (hZ : Z.Warmed39 s.vm) (hw : ∀ d ∈ tables_1, d.before a0 Z = true) (hby : c.code = code) (hml : c.maxLocals = 25) (hown : s.vm.findClass "com/example/gumzo/gumzo/core/TaggedBase64EncodePinLaw" = some m.cls) (e0 : T0.heap = h0) (N0 : Fr n0 locs) (Z0 : n0 ≤ h0.size) (D : Wd Z h0) (S : Str Z h0 o24 cs) (A21 : Av Z h0 o21 .char Int32.ofNat es) (hl : es.length < 128) (hq : 10 < cs.length → cs[10]? = es[10]?) :
    ∃ (T' : State) (h' : Heap) (L' : List Loc), Stand p l e (room_1 : Room) s m args below meth c T' L' 20 190 ∧ T'.heap = h' ∧ Fr n0 L' ∧ h' = h0 ∧
      ∀ target, Steps p.tables e below (T'.setTop (mkF m 513 #[s0, s1, s2, s3, s4, s5, s6, s7, s8, s9, s10, s11, s12, s13, s14, s15, s16, s17, s18, s19, s20, .val (.ref o21), s22, .val (.int (Int32.ofNat cs.length)), .val (.ref o24)] [])) target → Steps p.tables e below (T0.setTop (mkF m 499 #[s0, s1, s2, s3, s4, s5, s6, s7, s8, s9, s10, s11, s12, s13, s14, s15, s16, s17, s18, s19, s20, .val (.ref o21), s22, .val (.int (Int32.ofNat cs.length)), .val (.ref o24)] [])) target := by
  obtain ⟨_, _, ⟨T6, L6, k6, n6⟩, -, X6, ⟨Lc6, hQ6, l6, y6, z6⟩, st6⟩ := Jvm.LawKit.callS X0 hx (y := (⟨"com/example/gumzo/gumzo/core/TaggedBase64EncodePinLaw", "same", "(Ljava/lang/String;[CII)Z"⟩ : MethodName)) hown (mvT hZ (hw _ (List.mem_of_getElem? (i := 77) rfl))) (mvT hZ (hw _ (List.mem_of_getElem? (i := 78) rfl))) (mvT hZ (hw _ (List.mem_of_getElem? (i := 4) rfl))) (mvT hZ (hw _ (List.mem_of_getElem? (i := 79) rfl))) (by decide) (backOf (W := 0) (samew l Z a0 hw [] o24 o21 10 cs es h0 n0 Z0 D S A21 hl (by decide) hq) hZ (hw _ (List.mem_of_getElem? (i := 79) rfl)) (hw _ (List.mem_of_getElem? (i := 4) rfl)) (by decide) (by decide)) (g := (mkF m 507 #[s0, s1, s2, s3, s4, s5, s6, s7, s8, s9, s10, s11, s12, s13, s14, s15, s16, s17, s18, s19, s20, .val (.ref o21), s22, .val (.int (Int32.ofNat cs.length)), .val (.ref o24)] [(.int (10 : Int32)), (.int (Int32.ofNat cs.length)), (.ref o21), (.ref o24)])) rfl (by rw [hml]; rfl) (argsL := [(.ref o24), (.ref o21), (.int (Int32.ofNat cs.length)), (.int (10 : Int32))]) (rest := []) (lenOf pd_0_14 rfl) rfl (by show 2 * 0 + _ ≤ _; exact Nat.le_of_eq rfl) (hb hby at_507) (fun _ _ => ⟨rfl, e0, (by decide : 20 + 0 + 0 ≤ _), (by decide : 190 + 0 + 0 ≤ _)⟩)
  dsimp only [Pt.U, Pt.locs, Pt.cells, Pt.slots] at X6 l6 y6 z6 st6 hQ6
  subst l6 y6 z6
  obtain ⟨rfl, N6q, eq6⟩ := hQ6
  refine ⟨T6, _, _, X6, rfl, Fr.app N0 N6q, eq6, fun target kt => ?_⟩
  show Steps p.tables e below (T0.setTop (mkF m 499 #[s0, s1, s2, s3, s4, s5, s6, s7, s8, s9, s10, s11, s12, s13, s14, s15, s16, s17, s18, s19, s20, .val (.ref o21), s22, .val (.int (Int32.ofNat cs.length)), .val (.ref o24)] [])) _
  refine XS.aload X0.here hx rfl (hb hby at_499) rfl rfl ?_
  refine XS.aload X0.here hx rfl (hb hby at_501) rfl rfl ?_
  refine XS.iload X0.here hx rfl (hb hby at_503) rfl ?_
  refine XS.bipush X0.here hx rfl (hb hby at_505) ?_
  refine st6 _ ?_
  refine XS.ifNo X6.here hx rfl (hb hby at_510) rfl ((if0 _ _).trans (feq ((by decide) : ¬ ((1 : Int32) = (0 : Int32)))).1) ?_
  exact kt
set_option maxRecDepth 65536 in
set_option maxHeartbeats 40000000 in
theorem c11 {p : Program} {l : Launch} {e : Env} {s : State} {m : MethodId} {args : Array Value} {below : List Frame} {meth : Method} {c : Code} {T0 : State} {locs : List Loc} {Z : State} {a0 : Array Value} {h0 : Heap} (s0 : Slot) (s1 : Slot) (s2 : Slot) (s3 : Slot) (s4 : Slot) (s5 : Slot) (s6 : Slot) (s7 : Slot) (s8 : Slot) (s9 : Slot) (s10 : Slot) (s11 : Slot) (s12 : Slot) (s13 : Slot) (s14 : Slot) (s15 : Slot) (s16 : Slot) (s17 : Slot) (s18 : Slot) (s19 : Slot) (s20 : Slot) (o21 : Addr) (s22 : Slot) (o24 : Addr) (cs es : List Nat) (n0 : Nat)
    (X0 : Stand p l e (room_1 : Room) s m args below meth c T0 locs 20 190) (hx : p.tables.exec = Jvm.exec) (hZ : Z.Warmed39 s.vm) (hw : ∀ d ∈ tables_1, d.before a0 Z = true) (hby : c.code = code) (hml : c.maxLocals = 25) (hown : s.vm.findClass "com/example/gumzo/gumzo/core/TaggedBase64EncodePinLaw" = some m.cls) (e0 : T0.heap = h0) (N0 : Fr n0 locs) (Z0 : n0 ≤ h0.size) (D : Wd Z h0) (S : Str Z h0 o24 cs) (A21 : Av Z h0 o21 .char Int32.ofNat es) (hl : es.length < 128) (hq : 11 < cs.length → cs[11]? = es[11]?) :
    ∃ (T' : State) (h' : Heap) (L' : List Loc), Stand p l e (room_1 : Room) s m args below meth c T' L' 20 190 ∧ T'.heap = h' ∧ Fr n0 L' ∧ h' = h0 ∧
      ∀ target, Steps p.tables e below (T'.setTop (mkF m 527 #[s0, s1, s2, s3, s4, s5, s6, s7, s8, s9, s10, s11, s12, s13, s14, s15, s16, s17, s18, s19, s20, .val (.ref o21), s22, .val (.int (Int32.ofNat cs.length)), .val (.ref o24)] [])) target → Steps p.tables e below (T0.setTop (mkF m 513 #[s0, s1, s2, s3, s4, s5, s6, s7, s8, s9, s10, s11, s12, s13, s14, s15, s16, s17, s18, s19, s20, .val (.ref o21), s22, .val (.int (Int32.ofNat cs.length)), .val (.ref o24)] [])) target := by
  obtain ⟨_, _, ⟨T6, L6, k6, n6⟩, -, X6, ⟨Lc6, hQ6, l6, y6, z6⟩, st6⟩ := Jvm.LawKit.callS X0 hx (y := (⟨"com/example/gumzo/gumzo/core/TaggedBase64EncodePinLaw", "same", "(Ljava/lang/String;[CII)Z"⟩ : MethodName)) hown (mvT hZ (hw _ (List.mem_of_getElem? (i := 77) rfl))) (mvT hZ (hw _ (List.mem_of_getElem? (i := 78) rfl))) (mvT hZ (hw _ (List.mem_of_getElem? (i := 4) rfl))) (mvT hZ (hw _ (List.mem_of_getElem? (i := 79) rfl))) (by decide) (backOf (W := 0) (samew l Z a0 hw [] o24 o21 11 cs es h0 n0 Z0 D S A21 hl (by decide) hq) hZ (hw _ (List.mem_of_getElem? (i := 79) rfl)) (hw _ (List.mem_of_getElem? (i := 4) rfl)) (by decide) (by decide)) (g := (mkF m 521 #[s0, s1, s2, s3, s4, s5, s6, s7, s8, s9, s10, s11, s12, s13, s14, s15, s16, s17, s18, s19, s20, .val (.ref o21), s22, .val (.int (Int32.ofNat cs.length)), .val (.ref o24)] [(.int (11 : Int32)), (.int (Int32.ofNat cs.length)), (.ref o21), (.ref o24)])) rfl (by rw [hml]; rfl) (argsL := [(.ref o24), (.ref o21), (.int (Int32.ofNat cs.length)), (.int (11 : Int32))]) (rest := []) (lenOf pd_0_14 rfl) rfl (by show 2 * 0 + _ ≤ _; exact Nat.le_of_eq rfl) (hb hby at_521) (fun _ _ => ⟨rfl, e0, (by decide : 20 + 0 + 0 ≤ _), (by decide : 190 + 0 + 0 ≤ _)⟩)
  dsimp only [Pt.U, Pt.locs, Pt.cells, Pt.slots] at X6 l6 y6 z6 st6 hQ6
  subst l6 y6 z6
  obtain ⟨rfl, N6q, eq6⟩ := hQ6
  refine ⟨T6, _, _, X6, rfl, Fr.app N0 N6q, eq6, fun target kt => ?_⟩
  show Steps p.tables e below (T0.setTop (mkF m 513 #[s0, s1, s2, s3, s4, s5, s6, s7, s8, s9, s10, s11, s12, s13, s14, s15, s16, s17, s18, s19, s20, .val (.ref o21), s22, .val (.int (Int32.ofNat cs.length)), .val (.ref o24)] [])) _
  refine XS.aload X0.here hx rfl (hb hby at_513) rfl rfl ?_
  refine XS.aload X0.here hx rfl (hb hby at_515) rfl rfl ?_
  refine XS.iload X0.here hx rfl (hb hby at_517) rfl ?_
  refine XS.bipush X0.here hx rfl (hb hby at_519) ?_
  refine st6 _ ?_
  refine XS.ifNo X6.here hx rfl (hb hby at_524) rfl ((if0 _ _).trans (feq ((by decide) : ¬ ((1 : Int32) = (0 : Int32)))).1) ?_
  exact kt
theorem pn_0 : plainName "com/example/gumzo/gumzo/core/TaggedBase64EncodePinLaw" = true := by first | (simp [plainName, overriddenIn]; done) | decide +kernel
theorem ef_0 (m : MethodId) (x0 x1 x2 x3 x4 : Int32) : entryFrame m #[(.int x0), (.int x1), (.int x2), (.int x3), (.int x4)] maxLocals = mkF m 0 #[.val (.int x0), .val (.int x1), .val (.int x2), .val (.int x3), .val (.int x4), .unset, .unset, .unset, .unset, .unset, .unset, .unset, .unset, .unset, .unset, .unset, .unset, .unset, .unset, .unset, .unset, .unset, .unset, .unset, .unset] [] := by first | (simp [entryFrame, mkF, argsToLocals, Value.category, maxLocals]; done) | rfl
set_option maxRecDepth 65536 in
set_option maxHeartbeats 40000000 in
theorem rm0 (l : Launch) (Z : State) (a0 : Array Value) (hw : ∀ d ∈ tables_1, d.before a0 Z = true) (ws : List Jvm.Cond) (p1 p2 p3 p4 p5 : Int32) (w : Addr) (h0 : Heap) (n0 : Nat) (Z0 : n0 ≤ h0.size) (D : Wd Z h0) (Sw : Sta Z h0 "com/example/gumzo/gumzo/core/TaggedBase64" "ALPHABET" "[C" (.ref w)) (Aw : Av Z h0 w .char Int32.ofNat ALs) :
    MetFree l x (head1 (Jvm.Cond.code x code maxLocals ret :: ws) room_1) (fun a U => a = #[(.int p1), (.int p2), (.int p3), (.int p4), (.int p5)] ∧ Z.Warmed39 U.vm ∧ U.heap = h0 ∧ CHv Z ELs U.vm h0) (fun _ _ _ _ _ => True) (fun _ U o U' => ∃ v L, o = .returned v ∧ (v = some (.int (1 : Int32)) ∧ Fr n0 L) ∧ ReturnedEndW U o U' L room_1.cells room_1.slots) := by
  refine MetFree.of_bodySF (plainFor_of_name pn_0) hisR ?_
  intro p e s m args below meth c s₁ Bd hml0 hP hK
  obtain ⟨rfl, hZ, hh, hCH⟩ := hP
  have hx := Bd.exec
  have hby := Bd.bytes
  have hml : c.maxLocals = 25 := hml0
  have hown : s.vm.findClass "com/example/gumzo/gumzo/core/TaggedBase64EncodePinLaw" = some m.cls := findClass_of_methodNamed Bd.named
  have X0 : Stand p l e room_1 s m #[(.int p1), (.int p2), (.int p3), (.int p4), (.int p5)] below meth c s₁ [] 0 0 := Stand.of_body Bd
  have e0 : s₁.heap = h0 := by rw [← hh, Bd.state]; rfl
  have N0 := Fr.nil n0
  have pre0 : ∀ t, Steps p.tables e below (s₁.setTop (mkF m 0 #[.val (.int p1), .val (.int p2), .val (.int p3), .val (.int p4), .val (.int p5), .unset, .unset, .unset, .unset, .unset, .unset, .unset, .unset, .unset, .unset, .unset, .unset, .unset, .unset, .unset, .unset, .unset, .unset, .unset, .unset] [])) t → Steps p.tables e below (s₁.setTop (entryFrame m #[(.int p1), (.int p2), (.int p3), (.int p4), (.int p5)] maxLocals)) t := fun t k => castTop (ef_0 m p1 p2 p3 p4 p5) k
  obtain ⟨n, hn, en⟩ := own_mod (p1 &&& (65535 : Int32)) 7 7 (by decide) (by decide) (c_and p1 65535 (by decide)).1 (by decide)
  obtain ⟨sl, hsl, esl⟩ := own_mod (((p1.toUInt32 >>> ((16 : Int32) &&& 31).toUInt32).toInt32) &&& (255 : Int32)) 3 3 (by decide) (by decide) (c_and _ 255 (by decide)).1 (by decide)
  obtain ⟨xl, hxl, exl⟩ := own_mod (((p1.toUInt32 >>> ((24 : Int32) &&& 31).toUInt32).toInt32) &&& (127 : Int32)) 3 3 (by decide) (by decide) (c_and _ 127 (by decide)).1 (by decide)
  obtain ⟨sa, hsa, esa⟩ := own_lt16 (p4 &&& (65535 : Int32))
  obtain ⟨sb, hsb, esb⟩ := own_lt16 ((p4.toUInt32 >>> ((16 : Int32) &&& 31).toUInt32).toInt32)
  obtain ⟨ta, hta, eta⟩ := own_lt16 (p5 &&& (65535 : Int32))
  obtain ⟨tb, htb, etb⟩ := own_lt16 ((p5.toUInt32 >>> ((16 : Int32) &&& 31).toUInt32).toInt32)
  obtain ⟨x0, hx0, ex0⟩ := own_255 p2
  obtain ⟨x1, hx1, ex1⟩ := own_255 ((p2.toUInt32 >>> ((8 : Int32) &&& 31).toUInt32).toInt32)
  obtain ⟨x2, hx2, ex2⟩ := own_255 ((p2.toUInt32 >>> ((16 : Int32) &&& 31).toUInt32).toInt32)
  obtain ⟨x3, hx3, ex3⟩ := own_255 p3
  obtain ⟨x4, hx4, ex4⟩ := own_255 ((p3.toUInt32 >>> ((8 : Int32) &&& 31).toUInt32).toInt32)
  obtain ⟨x5, hx5, ex5⟩ := own_255 ((p3.toUInt32 >>> ((16 : Int32) &&& 31).toUInt32).toInt32)
  have st0 := w0 (p1) (p2) (p3) (p4) (p5) .unset .unset .unset .unset .unset .unset .unset .unset .unset .unset .unset .unset .unset .unset .unset .unset .unset .unset .unset .unset X0 hx hZ hw hby hown e0 One.u One.u One.u One.u One.u One.u One.u One.u One.u One.u One.u One.u One.u
  rw [en, esl, exl, esa, esb, eta, etb, ex0, ex1, ex2, ex3, ex4, ex5] at st0
  obtain ⟨T1, h1, L1, b1, X1, e1, N1, g1, z1, KK1, A1, st1⟩ := w1 (.val (.int p1)) (.val (.int p2)) (.val (.int p3)) (.val (.int p4)) (.val (.int p5)) (.val (.int (Int32.ofNat sl))) (.val (.int (Int32.ofNat xl))) (.val (.int (Int32.ofNat sa))) (.val (.int (Int32.ofNat sb))) (.val (.int (Int32.ofNat ta))) (.val (.int (Int32.ofNat tb))) (.val (.int (Int32.ofNat x0))) (.val (.int (Int32.ofNat x1))) (.val (.int (Int32.ofNat x2))) (.val (.int (Int32.ofNat x3))) (.val (.int (Int32.ofNat x4))) (.val (.int (Int32.ofNat x5))) .unset .unset .unset .unset .unset .unset .unset n n0 X0 hx hZ hw hby hml hown e0 One.u N0 Z0 hn
  have q1 : (List.replicate n 0).length = n := List.length_replicate
  obtain ⟨T2, h2, L2, X2, e2, N2, K2, A2, st2⟩ := b0w0 (.val (.int p1)) (.val (.int p2)) (.val (.int p3)) (.val (.int p4)) (.val (.int p5)) (.val (.int (Int32.ofNat sl))) (.val (.int (Int32.ofNat xl))) (.val (.int (Int32.ofNat sa))) (.val (.int (Int32.ofNat sb))) (.val (.int (Int32.ofNat ta))) (.val (.int (Int32.ofNat tb))) (.val (.int (Int32.ofNat x1))) (.val (.int (Int32.ofNat x2))) (.val (.int (Int32.ofNat x3))) (.val (.int (Int32.ofNat x4))) (.val (.int (Int32.ofNat x5))) b1 .unset .unset .unset .unset .unset .unset n x0 _ n0 X1 hx hZ hw hby hml hown e1 N1 (Nat.le_trans Z0 KK1.1) A1 (by omega) q1 hx0 g1
  have KK2 := own_kn KK1 K2 z1
  obtain ⟨T3, h3, L3, X3, e3, N3, K3, A3, st3⟩ := b0w1 (.val (.int p1)) (.val (.int p2)) (.val (.int p3)) (.val (.int p4)) (.val (.int p5)) (.val (.int (Int32.ofNat sl))) (.val (.int (Int32.ofNat xl))) (.val (.int (Int32.ofNat sa))) (.val (.int (Int32.ofNat sb))) (.val (.int (Int32.ofNat ta))) (.val (.int (Int32.ofNat tb))) (.val (.int (Int32.ofNat x0))) (.val (.int (Int32.ofNat x2))) (.val (.int (Int32.ofNat x3))) (.val (.int (Int32.ofNat x4))) (.val (.int (Int32.ofNat x5))) b1 .unset .unset .unset .unset .unset .unset n x1 _ n0 X2 hx hZ hw hby hml hown e2 N2 (Nat.le_trans Z0 KK2.1) A2 (by omega) (by simp only [own_il]; exact q1) hx1 g1
  have KK3 := own_kn KK2 K3 z1
  obtain ⟨T4, h4, L4, X4, e4, N4, K4, A4, st4⟩ := b0w2 (.val (.int p1)) (.val (.int p2)) (.val (.int p3)) (.val (.int p4)) (.val (.int p5)) (.val (.int (Int32.ofNat sl))) (.val (.int (Int32.ofNat xl))) (.val (.int (Int32.ofNat sa))) (.val (.int (Int32.ofNat sb))) (.val (.int (Int32.ofNat ta))) (.val (.int (Int32.ofNat tb))) (.val (.int (Int32.ofNat x0))) (.val (.int (Int32.ofNat x1))) (.val (.int (Int32.ofNat x3))) (.val (.int (Int32.ofNat x4))) (.val (.int (Int32.ofNat x5))) b1 .unset .unset .unset .unset .unset .unset n x2 _ n0 X3 hx hZ hw hby hml hown e3 N3 (Nat.le_trans Z0 KK3.1) A3 (by omega) (by simp only [own_il]; exact q1) hx2 g1
  have KK4 := own_kn KK3 K4 z1
  obtain ⟨T5, h5, L5, X5, e5, N5, K5, A5, st5⟩ := b0w3 (.val (.int p1)) (.val (.int p2)) (.val (.int p3)) (.val (.int p4)) (.val (.int p5)) (.val (.int (Int32.ofNat sl))) (.val (.int (Int32.ofNat xl))) (.val (.int (Int32.ofNat sa))) (.val (.int (Int32.ofNat sb))) (.val (.int (Int32.ofNat ta))) (.val (.int (Int32.ofNat tb))) (.val (.int (Int32.ofNat x0))) (.val (.int (Int32.ofNat x1))) (.val (.int (Int32.ofNat x2))) (.val (.int (Int32.ofNat x4))) (.val (.int (Int32.ofNat x5))) b1 .unset .unset .unset .unset .unset .unset n x3 _ n0 X4 hx hZ hw hby hml hown e4 N4 (Nat.le_trans Z0 KK4.1) A4 (by omega) (by simp only [own_il]; exact q1) hx3 g1
  have KK5 := own_kn KK4 K5 z1
  obtain ⟨T6, h6, L6, X6, e6, N6, K6, A6, st6⟩ := b0w4 (.val (.int p1)) (.val (.int p2)) (.val (.int p3)) (.val (.int p4)) (.val (.int p5)) (.val (.int (Int32.ofNat sl))) (.val (.int (Int32.ofNat xl))) (.val (.int (Int32.ofNat sa))) (.val (.int (Int32.ofNat sb))) (.val (.int (Int32.ofNat ta))) (.val (.int (Int32.ofNat tb))) (.val (.int (Int32.ofNat x0))) (.val (.int (Int32.ofNat x1))) (.val (.int (Int32.ofNat x2))) (.val (.int (Int32.ofNat x3))) (.val (.int (Int32.ofNat x5))) b1 .unset .unset .unset .unset .unset .unset n x4 _ n0 X5 hx hZ hw hby hml hown e5 N5 (Nat.le_trans Z0 KK5.1) A5 (by omega) (by simp only [own_il]; exact q1) hx4 g1
  have KK6 := own_kn KK5 K6 z1
  obtain ⟨T7, h7, L7, X7, e7, N7, K7, A7, st7⟩ := b0w5 (.val (.int p1)) (.val (.int p2)) (.val (.int p3)) (.val (.int p4)) (.val (.int p5)) (.val (.int (Int32.ofNat sl))) (.val (.int (Int32.ofNat xl))) (.val (.int (Int32.ofNat sa))) (.val (.int (Int32.ofNat sb))) (.val (.int (Int32.ofNat ta))) (.val (.int (Int32.ofNat tb))) (.val (.int (Int32.ofNat x0))) (.val (.int (Int32.ofNat x1))) (.val (.int (Int32.ofNat x2))) (.val (.int (Int32.ofNat x3))) (.val (.int (Int32.ofNat x4))) b1 .unset .unset .unset .unset .unset .unset n x5 _ n0 X6 hx hZ hw hby hml hown e6 N6 (Nat.le_trans Z0 KK6.1) A6 (by omega) (by simp only [own_il]; exact q1) hx5 g1
  have KK7 := own_kn KK6 K7 z1
  have Ab : Av Z h7 b1 .byte b8 ([x0, x1, x2, x3, x4, x5].take n) := by rw [← own_bs n x0 x1 x2 x3 x4 x5 hn]; exact A7
  obtain ⟨T8, h8, L8, bS, X8, e8, N8, g8, z8, K8, S8, hS8, hC8, st8⟩ := w2 (.val (.int p1)) (.val (.int p2)) (.val (.int p3)) (.val (.int p4)) (.val (.int p5)) (.val (.int (Int32.ofNat n))) (.val (.int (Int32.ofNat xl))) (.val (.int (Int32.ofNat ta))) (.val (.int (Int32.ofNat tb))) (.val (.int (Int32.ofNat x0))) (.val (.int (Int32.ofNat x1))) (.val (.int (Int32.ofNat x2))) (.val (.int (Int32.ofNat x3))) (.val (.int (Int32.ofNat x4))) (.val (.int (Int32.ofNat x5))) (.val (.ref b1)) .unset .unset .unset .unset .unset .unset sl sa sb n0 X7 hx hZ hw hby hml hown e7 One.u N7 (Nat.le_trans Z0 KK7.1) (D.keep KK7 own_ns0) hsl hsa hsb (CHv.keep KK7 (fun _ q => nomatch q) hCH)
  have X8 : Stand p l e room_1 (s.setVm T8.vm) m #[(.int p1), (.int p2), (.int p3), (.int p4), (.int p5)] below meth c T8 L8 7 60 := X8
  have hS8 : s.Since T8.vm h8.size := hS8
  have hZ8 : Z.Warmed39 (s.setVm T8.vm).vm := State.Warmed39.trans hZ hS8.1
  have hown8 : (s.setVm T8.vm).vm.findClass "com/example/gumzo/gumzo/core/TaggedBase64EncodePinLaw" = some m.cls := (hS8.1.alike.findClass _ _).trans hown
  have KK8 := own_k0 KK7 K8
  obtain ⟨T9, h9, L9, bX, X9, e9, N9, g9, z9, K9, S9, hS9, hC9, st9⟩ := w3 (.val (.int p1)) (.val (.int p2)) (.val (.int p3)) (.val (.int p4)) (.val (.int p5)) (.val (.int (Int32.ofNat n))) (.val (.int (Int32.ofNat sl))) (.val (.int (Int32.ofNat sa))) (.val (.int (Int32.ofNat sb))) (.val (.int (Int32.ofNat x0))) (.val (.int (Int32.ofNat x1))) (.val (.int (Int32.ofNat x2))) (.val (.int (Int32.ofNat x3))) (.val (.int (Int32.ofNat x4))) (.val (.int (Int32.ofNat x5))) (.val (.ref b1)) (.val (.ref bS)) .unset .unset .unset .unset .unset xl ta tb n0 X8 hx hZ8 hw hby hml hown8 e8 One.u N8 (Nat.le_trans Z0 KK8.1) (D.keep KK8 own_ns0) hxl hta htb hC8.1
  have X9 : Stand p l e room_1 (s.setVm T9.vm) m #[(.int p1), (.int p2), (.int p3), (.int p4), (.int p5)] below meth c T9 L9 13 114 := X9
  have hS9 : s.Since T9.vm h9.size := hS8.trans hS9 K9.1
  have hZ9 : Z.Warmed39 (s.setVm T9.vm).vm := State.Warmed39.trans hZ hS9.1
  have hown9 : (s.setVm T9.vm).vm.findClass "com/example/gumzo/gumzo/core/TaggedBase64EncodePinLaw" = some m.cls := (hS9.1.alike.findClass _ _).trans hown
  have KK9 := own_k0 KK8 K9
  obtain ⟨T10, h10, L10, bE, X10, e10, N10, g10, z10, K10, A10, st10⟩ := w4 (.val (.int p1)) (.val (.int p2)) (.val (.int p3)) (.val (.int p4)) (.val (.int p5)) (.val (.int (Int32.ofNat n))) (.val (.int (Int32.ofNat sl))) (.val (.int (Int32.ofNat xl))) (.val (.int (Int32.ofNat sa))) (.val (.int (Int32.ofNat sb))) (.val (.int (Int32.ofNat ta))) (.val (.int (Int32.ofNat tb))) (.val (.int (Int32.ofNat x0))) (.val (.int (Int32.ofNat x1))) (.val (.int (Int32.ofNat x2))) (.val (.int (Int32.ofNat x3))) (.val (.int (Int32.ofNat x4))) (.val (.int (Int32.ofNat x5))) (.val (.ref b1)) (.val (.ref bS)) (.val (.ref bX)) .unset .unset .unset .unset n0 X9 hx hZ9 hw hby hml hown9 e9 One.u N9 (Nat.le_trans Z0 KK9.1)
  have KE10 : Keep h9 h10 [] := K10
  obtain ⟨T11, h11, L11, X11, e11, N11, K11, A11, st11⟩ := e0a (.val (.int p1)) (.val (.int p2)) (.val (.int p3)) (.val (.int p4)) (.val (.int p5)) (.val (.int (Int32.ofNat n))) (.val (.int (Int32.ofNat xl))) (.val (.int (Int32.ofNat sb))) (.val (.int (Int32.ofNat ta))) (.val (.int (Int32.ofNat tb))) (.val (.int (Int32.ofNat x0))) (.val (.int (Int32.ofNat x1))) (.val (.int (Int32.ofNat x2))) (.val (.int (Int32.ofNat x3))) (.val (.int (Int32.ofNat x4))) (.val (.int (Int32.ofNat x5))) (.val (.ref b1)) (.val (.ref bS)) (.val (.ref bX)) bE .unset .unset .unset sl sa _ n0 X10 hx hZ9 hw hby hml hown9 e10 N10 (Nat.le_trans Z0 (Nat.le_trans KK9.1 KE10.1)) A10 (by omega) (by rw [List.length_replicate]; decide) (fun _ => by rw [List.length_replicate]; decide) hsa g10
  have KE11 := own_kn KE10 K11 z10
  obtain ⟨T12, h12, L12, X12, e12, N12, K12, A12, st12⟩ := e0b (.val (.int p1)) (.val (.int p2)) (.val (.int p3)) (.val (.int p4)) (.val (.int p5)) (.val (.int (Int32.ofNat n))) (.val (.int (Int32.ofNat xl))) (.val (.int (Int32.ofNat sa))) (.val (.int (Int32.ofNat ta))) (.val (.int (Int32.ofNat tb))) (.val (.int (Int32.ofNat x0))) (.val (.int (Int32.ofNat x1))) (.val (.int (Int32.ofNat x2))) (.val (.int (Int32.ofNat x3))) (.val (.int (Int32.ofNat x4))) (.val (.int (Int32.ofNat x5))) (.val (.ref b1)) (.val (.ref bS)) (.val (.ref bX)) bE .unset .unset .unset sl sb _ n0 X11 hx hZ9 hw hby hml hown9 e11 N11 (Nat.le_trans Z0 (Nat.le_trans KK9.1 KE11.1)) A11 (by omega) (by simp only [own_il, own_ql, List.length_replicate]; decide) (fun _ => by simp only [own_il, own_ql, List.length_replicate]; omega) hsb g10
  have KE12 := own_kn KE11 K12 z10
  obtain ⟨T13, h13, L13, X13, e13, N13, K13, A13, st13⟩ := q0w (.val (.int p1)) (.val (.int p2)) (.val (.int p3)) (.val (.int p4)) (.val (.int p5)) (.val (.int (Int32.ofNat sl))) (.val (.int (Int32.ofNat xl))) (.val (.int (Int32.ofNat sa))) (.val (.int (Int32.ofNat sb))) (.val (.int (Int32.ofNat ta))) (.val (.int (Int32.ofNat tb))) (.val (.int (Int32.ofNat x3))) (.val (.int (Int32.ofNat x4))) (.val (.int (Int32.ofNat x5))) (.val (.ref b1)) (.val (.ref bS)) (.val (.ref bX)) bE .unset .unset n x0 x1 x2 sl _ n0 X12 hx hZ9 hw hby hml hown9 e12 N12 (Nat.le_trans Z0 (Nat.le_trans KK9.1 KE12.1)) A12 (by simp only [own_il, own_ql, List.length_replicate]; decide) hx0 hx1 hx2 g10 hn (fun _ => by simp only [own_il, own_ql, List.length_replicate]; omega)
  have KE13 := own_kn KE12 K13 z10
  obtain ⟨T14, h14, L14, X14, e14, N14, K14, A14, st14⟩ := q1w (.val (.int p1)) (.val (.int p2)) (.val (.int p3)) (.val (.int p4)) (.val (.int p5)) (.val (.int (Int32.ofNat sl))) (.val (.int (Int32.ofNat xl))) (.val (.int (Int32.ofNat sa))) (.val (.int (Int32.ofNat sb))) (.val (.int (Int32.ofNat ta))) (.val (.int (Int32.ofNat tb))) (.val (.int (Int32.ofNat x0))) (.val (.int (Int32.ofNat x1))) (.val (.int (Int32.ofNat x2))) (.val (.ref b1)) (.val (.ref bS)) (.val (.ref bX)) bE .unset .unset n x3 x4 x5 (sl + (if 1 ≤ n then 4 else 0)) _ n0 X13 hx hZ9 hw hby hml hown9 e13 N13 (Nat.le_trans Z0 (Nat.le_trans KK9.1 KE13.1)) A13 (by simp only [own_il, own_ql, List.length_replicate]; decide) hx3 hx4 hx5 g10 hn (fun _ => by simp only [own_il, own_ql, List.length_replicate]; split <;> omega)
  have KE14 := own_kn KE13 K14 z10
  obtain ⟨T15, h15, L15, X15, e15, N15, K15, A15, st15⟩ := e0c (.val (.int p1)) (.val (.int p2)) (.val (.int p3)) (.val (.int p4)) (.val (.int p5)) (.val (.int (Int32.ofNat n))) (.val (.int (Int32.ofNat sl))) (.val (.int (Int32.ofNat sa))) (.val (.int (Int32.ofNat sb))) (.val (.int (Int32.ofNat tb))) (.val (.int (Int32.ofNat x0))) (.val (.int (Int32.ofNat x1))) (.val (.int (Int32.ofNat x2))) (.val (.int (Int32.ofNat x3))) (.val (.int (Int32.ofNat x4))) (.val (.int (Int32.ofNat x5))) (.val (.ref b1)) (.val (.ref bS)) (.val (.ref bX)) bE .unset .unset xl ta ((sl + (if 1 ≤ n then 4 else 0) + (if 4 ≤ n then 4 else 0))) _ n0 X14 hx hZ9 hw hby hml hown9 e14 N14 (Nat.le_trans Z0 (Nat.le_trans KK9.1 KE14.1)) A14 (by omega) (by simp only [own_il, own_ql, List.length_replicate]; decide) (fun _ => by simp only [own_il, own_ql, List.length_replicate]; split <;> split <;> omega) hta g10
  have KE15 := own_kn KE14 K15 z10
  obtain ⟨T16, h16, L16, X16, e16, N16, K16, A16, st16⟩ := e0d (.val (.int p1)) (.val (.int p2)) (.val (.int p3)) (.val (.int p4)) (.val (.int p5)) (.val (.int (Int32.ofNat n))) (.val (.int (Int32.ofNat sl))) (.val (.int (Int32.ofNat sa))) (.val (.int (Int32.ofNat sb))) (.val (.int (Int32.ofNat ta))) (.val (.int (Int32.ofNat x0))) (.val (.int (Int32.ofNat x1))) (.val (.int (Int32.ofNat x2))) (.val (.int (Int32.ofNat x3))) (.val (.int (Int32.ofNat x4))) (.val (.int (Int32.ofNat x5))) (.val (.ref b1)) (.val (.ref bS)) (.val (.ref bX)) bE .unset .unset xl tb ((sl + (if 1 ≤ n then 4 else 0) + (if 4 ≤ n then 4 else 0))) _ n0 X15 hx hZ9 hw hby hml hown9 e15 N15 (Nat.le_trans Z0 (Nat.le_trans KK9.1 KE15.1)) A15 (by omega) (by simp only [own_il, own_ql, List.length_replicate]; decide) (fun _ => by simp only [own_il, own_ql, List.length_replicate]; split <;> split <;> omega) htb g10
  have KE16 := own_kn KE15 K16 z10
  obtain ⟨es, hes⟩ : ∃ es, es = expL n sl xl x0 x1 x2 x3 x4 x5 sa sb ta tb := ⟨_, rfl⟩
  obtain ⟨cs, hcs⟩ : ∃ cs, cs = es.take (expP n sl + xl) := ⟨_, rfl⟩
  have hel : es.length = 12 := by rw [hes]; exact own_exl ..
  have hcl : cs.length = (sl + (if 1 ≤ n then 4 else 0) + (if 4 ≤ n then 4 else 0)) + xl := by
    have := own_tot n sl xl hn hsl hxl
    rw [hcs, List.length_take, hel]
    show min (expP n sl + xl) 12 = expP n sl + xl
    omega
  have hqq : ∀ i, i < cs.length → cs[i]? = es[i]? := fun i h => by rw [hcs] at h ⊢; exact own_tkq es _ i h
  have AE : Av Z h16 bE .char Int32.ofNat es := by rw [hes]; exact A16
  have st16b := w6 (.val (.int p1)) (.val (.int p2)) (.val (.int p3)) (.val (.int p4)) (.val (.int p5)) (.val (.int (Int32.ofNat n))) (.val (.int (Int32.ofNat sl))) ((Int32.ofNat xl)) (.val (.int (Int32.ofNat sa))) (.val (.int (Int32.ofNat sb))) (.val (.int (Int32.ofNat ta))) (.val (.int (Int32.ofNat tb))) (.val (.int (Int32.ofNat x0))) (.val (.int (Int32.ofNat x1))) (.val (.int (Int32.ofNat x2))) (.val (.int (Int32.ofNat x3))) (.val (.int (Int32.ofNat x4))) (.val (.int (Int32.ofNat x5))) (.val (.ref b1)) (.val (.ref bS)) (.val (.ref bX)) (.val (.ref bE)) ((Int32.ofNat (sl + (if 1 ≤ n then 4 else 0) + (if 4 ≤ n then 4 else 0)))) .unset .unset X16 hx hZ9 hby e16 One.u
  rw [own_add, ← hcl] at st16b
  have KK16 := own_k0 KK9 KE16
  obtain ⟨T17, h17, L17, bR, X17, e17, N17, g17, z17, K17, S17, hS17, hC17, st17⟩ := w7 (.val (.int p1)) (.val (.int p2)) (.val (.int p3)) (.val (.int p4)) (.val (.int p5)) (.val (.int (Int32.ofNat n))) (.val (.int (Int32.ofNat sl))) (.val (.int (Int32.ofNat xl))) (.val (.int (Int32.ofNat sa))) (.val (.int (Int32.ofNat sb))) (.val (.int (Int32.ofNat ta))) (.val (.int (Int32.ofNat tb))) (.val (.int (Int32.ofNat x0))) (.val (.int (Int32.ofNat x1))) (.val (.int (Int32.ofNat x2))) (.val (.int (Int32.ofNat x3))) (.val (.int (Int32.ofNat x4))) (.val (.int (Int32.ofNat x5))) b1 bS bX (.val (.ref bE)) (.val (.int (Int32.ofNat (sl + (if 1 ≤ n then 4 else 0) + (if 4 ≤ n then 4 else 0))))) (.val (.int (Int32.ofNat cs.length))) .unset ([sa, sb].take sl) ([x0, x1, x2, x3, x4, x5].take n) ([ta, tb].take xl) w n0 X16 hx hZ9 hw hby hml hown9 e16 One.u N16 (Nat.le_trans Z0 (Nat.le_trans KK9.1 KE16.1)) (D.keep KK16 own_ns0) ((S8.keep K9).keep KE16) (S9.keep KE16) (((Ab.keep K8 (by simp)).keep K9 (by simp)).keep KE16 (by simp)) (own_stk KK16 own_ns0 Sw) (Aw.keep KK16 (by simp)) (by rw [own_tk6 _ _ _ _ _ _ _ hn]; exact hn) (own_bt (by simp [hx0, hx1, hx2, hx3, hx4, hx5])) (by rw [own_tk2 _ _ _ hsl]; exact hsl) (by rw [own_tk2 _ _ _ hxl]; exact hxl) (CHv.keep KE16 (fun _ q => nomatch q) hC9.1)
  have X17 : Stand p l e room_1 (s.setVm T17.vm) m #[(.int p1), (.int p2), (.int p3), (.int p4), (.int p5)] below meth c T17 L17 20 190 := X17
  have hS17 : s.Since T17.vm h17.size := hS9.trans hS17 (Nat.le_trans KE16.1 K17.1)
  have hZ17 : Z.Warmed39 (s.setVm T17.vm).vm := State.Warmed39.trans hZ hS17.1
  have hown17 : (s.setVm T17.vm).vm.findClass "com/example/gumzo/gumzo/core/TaggedBase64EncodePinLaw" = some m.cls := (hS17.1.alike.findClass _ _).trans hown
  have SR : Str Z h17 bR cs := by
    rw [own_tk6 _ _ _ _ _ _ _ hn, own_tk2 _ _ _ hsl, own_tk2 _ _ _ hxl, own_fin n sl xl x0 x1 x2 x3 x4 x5 sa sb ta tb hn hsl hxl, ← hes, ← hcs] at S17
    exact S17
  have DR := D.keep (own_k0 KK16 K17) own_ns0
  have AR := AE.keep K17 (by simp)
  have Z17 : n0 ≤ h17.size := Nat.le_trans Z0 (own_k0 KK16 K17).1
  obtain ⟨T18, h18, L18, X18, e18, N18, eq18, st18⟩ := w8 (.val (.int p1)) (.val (.int p2)) (.val (.int p3)) (.val (.int p4)) (.val (.int p5)) (.val (.int (Int32.ofNat n))) (.val (.int (Int32.ofNat sl))) (.val (.int (Int32.ofNat xl))) (.val (.int (Int32.ofNat sa))) (.val (.int (Int32.ofNat sb))) (.val (.int (Int32.ofNat ta))) (.val (.int (Int32.ofNat tb))) (.val (.int (Int32.ofNat x0))) (.val (.int (Int32.ofNat x1))) (.val (.int (Int32.ofNat x2))) (.val (.int (Int32.ofNat x3))) (.val (.int (Int32.ofNat x4))) (.val (.int (Int32.ofNat x5))) (.val (.ref b1)) (.val (.ref bS)) (.val (.ref bX)) (.val (.ref bE)) (.val (.int (Int32.ofNat (sl + (if 1 ≤ n then 4 else 0) + (if 4 ≤ n then 4 else 0))))) bR cs n0 X17 hx hZ17 hw hby hml hown17 e17 N17 Z17 DR SR
  subst eq18
  obtain ⟨T19, h19, L19, X19, e19, N19, eq19, st19⟩ := c0 (.val (.int p1)) (.val (.int p2)) (.val (.int p3)) (.val (.int p4)) (.val (.int p5)) (.val (.int (Int32.ofNat n))) (.val (.int (Int32.ofNat sl))) (.val (.int (Int32.ofNat xl))) (.val (.int (Int32.ofNat sa))) (.val (.int (Int32.ofNat sb))) (.val (.int (Int32.ofNat ta))) (.val (.int (Int32.ofNat tb))) (.val (.int (Int32.ofNat x0))) (.val (.int (Int32.ofNat x1))) (.val (.int (Int32.ofNat x2))) (.val (.int (Int32.ofNat x3))) (.val (.int (Int32.ofNat x4))) (.val (.int (Int32.ofNat x5))) (.val (.ref b1)) (.val (.ref bS)) (.val (.ref bX)) bE (.val (.int (Int32.ofNat (sl + (if 1 ≤ n then 4 else 0) + (if 4 ≤ n then 4 else 0))))) bR cs es n0 X18 hx hZ17 hw hby hml hown17 e18 N18 Z17 DR SR AR (by rw [hel]; decide) (hqq 0)
  subst eq19
  obtain ⟨T20, h20, L20, X20, e20, N20, eq20, st20⟩ := c1 (.val (.int p1)) (.val (.int p2)) (.val (.int p3)) (.val (.int p4)) (.val (.int p5)) (.val (.int (Int32.ofNat n))) (.val (.int (Int32.ofNat sl))) (.val (.int (Int32.ofNat xl))) (.val (.int (Int32.ofNat sa))) (.val (.int (Int32.ofNat sb))) (.val (.int (Int32.ofNat ta))) (.val (.int (Int32.ofNat tb))) (.val (.int (Int32.ofNat x0))) (.val (.int (Int32.ofNat x1))) (.val (.int (Int32.ofNat x2))) (.val (.int (Int32.ofNat x3))) (.val (.int (Int32.ofNat x4))) (.val (.int (Int32.ofNat x5))) (.val (.ref b1)) (.val (.ref bS)) (.val (.ref bX)) bE (.val (.int (Int32.ofNat (sl + (if 1 ≤ n then 4 else 0) + (if 4 ≤ n then 4 else 0))))) bR cs es n0 X19 hx hZ17 hw hby hml hown17 e19 N19 Z17 DR SR AR (by rw [hel]; decide) (hqq 1)
  subst eq20
  obtain ⟨T21, h21, L21, X21, e21, N21, eq21, st21⟩ := c2 (.val (.int p1)) (.val (.int p2)) (.val (.int p3)) (.val (.int p4)) (.val (.int p5)) (.val (.int (Int32.ofNat n))) (.val (.int (Int32.ofNat sl))) (.val (.int (Int32.ofNat xl))) (.val (.int (Int32.ofNat sa))) (.val (.int (Int32.ofNat sb))) (.val (.int (Int32.ofNat ta))) (.val (.int (Int32.ofNat tb))) (.val (.int (Int32.ofNat x0))) (.val (.int (Int32.ofNat x1))) (.val (.int (Int32.ofNat x2))) (.val (.int (Int32.ofNat x3))) (.val (.int (Int32.ofNat x4))) (.val (.int (Int32.ofNat x5))) (.val (.ref b1)) (.val (.ref bS)) (.val (.ref bX)) bE (.val (.int (Int32.ofNat (sl + (if 1 ≤ n then 4 else 0) + (if 4 ≤ n then 4 else 0))))) bR cs es n0 X20 hx hZ17 hw hby hml hown17 e20 N20 Z17 DR SR AR (by rw [hel]; decide) (hqq 2)
  subst eq21
  obtain ⟨T22, h22, L22, X22, e22, N22, eq22, st22⟩ := c3 (.val (.int p1)) (.val (.int p2)) (.val (.int p3)) (.val (.int p4)) (.val (.int p5)) (.val (.int (Int32.ofNat n))) (.val (.int (Int32.ofNat sl))) (.val (.int (Int32.ofNat xl))) (.val (.int (Int32.ofNat sa))) (.val (.int (Int32.ofNat sb))) (.val (.int (Int32.ofNat ta))) (.val (.int (Int32.ofNat tb))) (.val (.int (Int32.ofNat x0))) (.val (.int (Int32.ofNat x1))) (.val (.int (Int32.ofNat x2))) (.val (.int (Int32.ofNat x3))) (.val (.int (Int32.ofNat x4))) (.val (.int (Int32.ofNat x5))) (.val (.ref b1)) (.val (.ref bS)) (.val (.ref bX)) bE (.val (.int (Int32.ofNat (sl + (if 1 ≤ n then 4 else 0) + (if 4 ≤ n then 4 else 0))))) bR cs es n0 X21 hx hZ17 hw hby hml hown17 e21 N21 Z17 DR SR AR (by rw [hel]; decide) (hqq 3)
  subst eq22
  obtain ⟨T23, h23, L23, X23, e23, N23, eq23, st23⟩ := c4 (.val (.int p1)) (.val (.int p2)) (.val (.int p3)) (.val (.int p4)) (.val (.int p5)) (.val (.int (Int32.ofNat n))) (.val (.int (Int32.ofNat sl))) (.val (.int (Int32.ofNat xl))) (.val (.int (Int32.ofNat sa))) (.val (.int (Int32.ofNat sb))) (.val (.int (Int32.ofNat ta))) (.val (.int (Int32.ofNat tb))) (.val (.int (Int32.ofNat x0))) (.val (.int (Int32.ofNat x1))) (.val (.int (Int32.ofNat x2))) (.val (.int (Int32.ofNat x3))) (.val (.int (Int32.ofNat x4))) (.val (.int (Int32.ofNat x5))) (.val (.ref b1)) (.val (.ref bS)) (.val (.ref bX)) bE (.val (.int (Int32.ofNat (sl + (if 1 ≤ n then 4 else 0) + (if 4 ≤ n then 4 else 0))))) bR cs es n0 X22 hx hZ17 hw hby hml hown17 e22 N22 Z17 DR SR AR (by rw [hel]; decide) (hqq 4)
  subst eq23
  obtain ⟨T24, h24, L24, X24, e24, N24, eq24, st24⟩ := c5 (.val (.int p1)) (.val (.int p2)) (.val (.int p3)) (.val (.int p4)) (.val (.int p5)) (.val (.int (Int32.ofNat n))) (.val (.int (Int32.ofNat sl))) (.val (.int (Int32.ofNat xl))) (.val (.int (Int32.ofNat sa))) (.val (.int (Int32.ofNat sb))) (.val (.int (Int32.ofNat ta))) (.val (.int (Int32.ofNat tb))) (.val (.int (Int32.ofNat x0))) (.val (.int (Int32.ofNat x1))) (.val (.int (Int32.ofNat x2))) (.val (.int (Int32.ofNat x3))) (.val (.int (Int32.ofNat x4))) (.val (.int (Int32.ofNat x5))) (.val (.ref b1)) (.val (.ref bS)) (.val (.ref bX)) bE (.val (.int (Int32.ofNat (sl + (if 1 ≤ n then 4 else 0) + (if 4 ≤ n then 4 else 0))))) bR cs es n0 X23 hx hZ17 hw hby hml hown17 e23 N23 Z17 DR SR AR (by rw [hel]; decide) (hqq 5)
  subst eq24
  obtain ⟨T25, h25, L25, X25, e25, N25, eq25, st25⟩ := c6 (.val (.int p1)) (.val (.int p2)) (.val (.int p3)) (.val (.int p4)) (.val (.int p5)) (.val (.int (Int32.ofNat n))) (.val (.int (Int32.ofNat sl))) (.val (.int (Int32.ofNat xl))) (.val (.int (Int32.ofNat sa))) (.val (.int (Int32.ofNat sb))) (.val (.int (Int32.ofNat ta))) (.val (.int (Int32.ofNat tb))) (.val (.int (Int32.ofNat x0))) (.val (.int (Int32.ofNat x1))) (.val (.int (Int32.ofNat x2))) (.val (.int (Int32.ofNat x3))) (.val (.int (Int32.ofNat x4))) (.val (.int (Int32.ofNat x5))) (.val (.ref b1)) (.val (.ref bS)) (.val (.ref bX)) bE (.val (.int (Int32.ofNat (sl + (if 1 ≤ n then 4 else 0) + (if 4 ≤ n then 4 else 0))))) bR cs es n0 X24 hx hZ17 hw hby hml hown17 e24 N24 Z17 DR SR AR (by rw [hel]; decide) (hqq 6)
  subst eq25
  obtain ⟨T26, h26, L26, X26, e26, N26, eq26, st26⟩ := c7 (.val (.int p1)) (.val (.int p2)) (.val (.int p3)) (.val (.int p4)) (.val (.int p5)) (.val (.int (Int32.ofNat n))) (.val (.int (Int32.ofNat sl))) (.val (.int (Int32.ofNat xl))) (.val (.int (Int32.ofNat sa))) (.val (.int (Int32.ofNat sb))) (.val (.int (Int32.ofNat ta))) (.val (.int (Int32.ofNat tb))) (.val (.int (Int32.ofNat x0))) (.val (.int (Int32.ofNat x1))) (.val (.int (Int32.ofNat x2))) (.val (.int (Int32.ofNat x3))) (.val (.int (Int32.ofNat x4))) (.val (.int (Int32.ofNat x5))) (.val (.ref b1)) (.val (.ref bS)) (.val (.ref bX)) bE (.val (.int (Int32.ofNat (sl + (if 1 ≤ n then 4 else 0) + (if 4 ≤ n then 4 else 0))))) bR cs es n0 X25 hx hZ17 hw hby hml hown17 e25 N25 Z17 DR SR AR (by rw [hel]; decide) (hqq 7)
  subst eq26
  obtain ⟨T27, h27, L27, X27, e27, N27, eq27, st27⟩ := c8 (.val (.int p1)) (.val (.int p2)) (.val (.int p3)) (.val (.int p4)) (.val (.int p5)) (.val (.int (Int32.ofNat n))) (.val (.int (Int32.ofNat sl))) (.val (.int (Int32.ofNat xl))) (.val (.int (Int32.ofNat sa))) (.val (.int (Int32.ofNat sb))) (.val (.int (Int32.ofNat ta))) (.val (.int (Int32.ofNat tb))) (.val (.int (Int32.ofNat x0))) (.val (.int (Int32.ofNat x1))) (.val (.int (Int32.ofNat x2))) (.val (.int (Int32.ofNat x3))) (.val (.int (Int32.ofNat x4))) (.val (.int (Int32.ofNat x5))) (.val (.ref b1)) (.val (.ref bS)) (.val (.ref bX)) bE (.val (.int (Int32.ofNat (sl + (if 1 ≤ n then 4 else 0) + (if 4 ≤ n then 4 else 0))))) bR cs es n0 X26 hx hZ17 hw hby hml hown17 e26 N26 Z17 DR SR AR (by rw [hel]; decide) (hqq 8)
  subst eq27
  obtain ⟨T28, h28, L28, X28, e28, N28, eq28, st28⟩ := c9 (.val (.int p1)) (.val (.int p2)) (.val (.int p3)) (.val (.int p4)) (.val (.int p5)) (.val (.int (Int32.ofNat n))) (.val (.int (Int32.ofNat sl))) (.val (.int (Int32.ofNat xl))) (.val (.int (Int32.ofNat sa))) (.val (.int (Int32.ofNat sb))) (.val (.int (Int32.ofNat ta))) (.val (.int (Int32.ofNat tb))) (.val (.int (Int32.ofNat x0))) (.val (.int (Int32.ofNat x1))) (.val (.int (Int32.ofNat x2))) (.val (.int (Int32.ofNat x3))) (.val (.int (Int32.ofNat x4))) (.val (.int (Int32.ofNat x5))) (.val (.ref b1)) (.val (.ref bS)) (.val (.ref bX)) bE (.val (.int (Int32.ofNat (sl + (if 1 ≤ n then 4 else 0) + (if 4 ≤ n then 4 else 0))))) bR cs es n0 X27 hx hZ17 hw hby hml hown17 e27 N27 Z17 DR SR AR (by rw [hel]; decide) (hqq 9)
  subst eq28
  obtain ⟨T29, h29, L29, X29, e29, N29, eq29, st29⟩ := c10 (.val (.int p1)) (.val (.int p2)) (.val (.int p3)) (.val (.int p4)) (.val (.int p5)) (.val (.int (Int32.ofNat n))) (.val (.int (Int32.ofNat sl))) (.val (.int (Int32.ofNat xl))) (.val (.int (Int32.ofNat sa))) (.val (.int (Int32.ofNat sb))) (.val (.int (Int32.ofNat ta))) (.val (.int (Int32.ofNat tb))) (.val (.int (Int32.ofNat x0))) (.val (.int (Int32.ofNat x1))) (.val (.int (Int32.ofNat x2))) (.val (.int (Int32.ofNat x3))) (.val (.int (Int32.ofNat x4))) (.val (.int (Int32.ofNat x5))) (.val (.ref b1)) (.val (.ref bS)) (.val (.ref bX)) bE (.val (.int (Int32.ofNat (sl + (if 1 ≤ n then 4 else 0) + (if 4 ≤ n then 4 else 0))))) bR cs es n0 X28 hx hZ17 hw hby hml hown17 e28 N28 Z17 DR SR AR (by rw [hel]; decide) (hqq 10)
  subst eq29
  obtain ⟨T30, h30, L30, X30, e30, N30, eq30, st30⟩ := c11 (.val (.int p1)) (.val (.int p2)) (.val (.int p3)) (.val (.int p4)) (.val (.int p5)) (.val (.int (Int32.ofNat n))) (.val (.int (Int32.ofNat sl))) (.val (.int (Int32.ofNat xl))) (.val (.int (Int32.ofNat sa))) (.val (.int (Int32.ofNat sb))) (.val (.int (Int32.ofNat ta))) (.val (.int (Int32.ofNat tb))) (.val (.int (Int32.ofNat x0))) (.val (.int (Int32.ofNat x1))) (.val (.int (Int32.ofNat x2))) (.val (.int (Int32.ofNat x3))) (.val (.int (Int32.ofNat x4))) (.val (.int (Int32.ofNat x5))) (.val (.ref b1)) (.val (.ref bS)) (.val (.ref bX)) bE (.val (.int (Int32.ofNat (sl + (if 1 ≤ n then 4 else 0) + (if 4 ≤ n then 4 else 0))))) bR cs es n0 X29 hx hZ17 hw hby hml hown17 e29 N29 Z17 DR SR AR (by rw [hel]; decide) (hqq 11)
  subst eq30
  obtain ⟨fs, hr, hrun, hended, hend⟩ := X30.leaveW hS17 (by rw [e30]; exact Nat.le_refl _) (v := some (.int (1 : Int32))) (fun h => by rw [Bd.returns] at h; cases h)
  refine ⟨_, _, pre0 _ ?_, hrun, hended, _, _, rfl, ⟨rfl, N30⟩, hend.1, hend.2.1, hend.2.2.1, hend.2.2.2.mono (by decide) (by decide)⟩
  refine st0 _ ?_
  refine st1 _ ?_
  refine st2 _ ?_
  refine st3 _ ?_
  refine st4 _ ?_
  refine st5 _ ?_
  refine st6 _ ?_
  refine st7 _ ?_
  refine st8 _ ?_
  refine st9 _ ?_
  refine st10 _ ?_
  refine st11 _ ?_
  refine st12 _ ?_
  refine w5 _ _ _ _ _ _ _ _ _ _ _ _ _ _ _ _ _ _ _ _ _ _ _ _ _ X12 hx hZ9 hby e12 One.u _ ?_
  refine st13 _ ?_
  refine st14 _ ?_
  refine st15 _ ?_
  refine st16 _ ?_
  refine st16b _ ?_
  refine st17 _ ?_
  refine st18 _ ?_
  refine st19 _ ?_
  refine st20 _ ?_
  refine st21 _ ?_
  refine st22 _ ?_
  refine st23 _ ?_
  refine st24 _ ?_
  refine st25 _ ?_
  refine st26 _ ?_
  refine st27 _ ?_
  refine st28 _ ?_
  refine st29 _ ?_
  refine st30 _ ?_
  refine XS.iconst X30.here hx rfl (hb hby at_527) ?_
  refine XS.goto X30.here hx rfl (pc0 := 528) (pc' := 532) rfl (hb hby at_528) (by decide) (by decide) ?_
  exact retN X30 hx (t := .boolean) Bd.returns (by simp) (hb hby at_532) hr
theorem own_orr {args : Array Value} {s : State} {idx : List Nat} {a b : Jvm.Cond} (h : (Jvm.Cond.or a b).value args s none s idx = some true) (ha : a.value args s none s idx = some false) : b.value args s none s idx = some true := by
  simp only [Jvm.Cond.value, ha] at h; exact h
theorem own_evi {args : Array Value} {s : State} {C n d : String} {v : Value} {idx : List Nat} (h : (Term.static C n d).eval args s none [] s = some v) : (Term.static C n d).eval args s none idx s = some v := by
  first | exact h | simpa [Term.eval] using h
theorem own_sub {args : Array Value} {s : State} {idx : List Nat} {t u : Term} {x y : Int32} (ha : t.eval args s none idx s = some (.int x)) (hb : u.eval args s none idx s = some (.int y)) : (Term.sub t u).eval args s none idx s = some (.int (x - y)) := by simp [Term.eval, ha, hb]
theorem own_len {args : Array Value} {s : State} {t : Term} {a : Addr} {cl : Cell} {ty : FieldType} {k : Int32} (ht : t.eval args s none [] s = some (.ref a)) (A : Arr s s.heap a cl ty) (h : (Term.length t).eval args s none [] s = some (.int k)) : cl.slots.size < 2 ^ 31 ∧ cl.slots.size.toInt32 = k := by
  have ha := A.fin (Vm.Alike.refl _)
  by_cases hl : cl.slots.size < 2 ^ 31
  · rw [len_f ht ha hl] at h
    cases h
    exact ⟨hl, rfl⟩
  · exfalso
    simp [Term.eval, ht, ha, hl] at h
theorem own_size {n : Nat} {k : Int32} (h : n < 2 ^ 31 ∧ n.toInt32 = k) (j : Nat) (hj : k.toInt = j) : n = j := by
  have q := len_toInt h.1
  rw [h.2, hj] at q
  omega
theorem own_i2l {args : Array Value} {s : State} {idx : List Nat} {t : Term} {y : Int64} (h : (Term.op1 .i2l t).eval args s none idx s = some (.long y)) : t.eval args s none idx s = some (.int y.toInt32) := by
  obtain ⟨v, h1, h2⟩ := op1_v h
  cases v <;> simp [Unary.apply] at h2
  rw [h1, ← h2, Int32.toInt32_toInt64]
theorem own_al1 : ∀ k < 26, ((Int32.ofNat k).toInt64 + (65 : Int64)).toInt32 = Int32.ofNat (k + 65) := by decide +kernel
theorem own_al2 : ∀ k < 52, ((Int32.ofNat k).toInt64 + (71 : Int64)).toInt32 = Int32.ofNat (k + 71) := by decide +kernel
theorem own_al3 : ∀ k < 62, ¬ k < 52 → Int32.ofNat k - (4 : Int32) = Int32.ofNat (k - 4) := by decide +kernel
theorem own_alph {Z : State} {args : Array Value} {t : Term} {a : Addr} {cl : Cell} (et : ∀ idx, t.eval args Z none idx Z = some (.ref a)) (A : Arr Z Z.heap a cl .char) (hsz : cl.slots.size = 64)
    (h1 : (Jvm.Cond.all t (Jvm.Cond.or (Jvm.Cond.le (Term.int 26) (Term.index 0)) (Jvm.Cond.eq (Term.op1 .i2l (Term.elem t (Term.index 0))) (Term.op2 .ladd (Term.op1 .i2l (Term.index 0)) (Term.long 65))))).value args Z none Z [] = some true)
    (h2 : (Jvm.Cond.all t (Jvm.Cond.or (Jvm.Cond.lt (Term.index 0) (Term.int 26)) (Jvm.Cond.or (Jvm.Cond.le (Term.int 52) (Term.index 0)) (Jvm.Cond.eq (Term.op1 .i2l (Term.elem t (Term.index 0))) (Term.op2 .ladd (Term.op1 .i2l (Term.index 0)) (Term.long 71)))))).value args Z none Z [] = some true)
    (h3 : (Jvm.Cond.all t (Jvm.Cond.or (Jvm.Cond.lt (Term.index 0) (Term.int 52)) (Jvm.Cond.or (Jvm.Cond.le (Term.int 62) (Term.index 0)) (Jvm.Cond.eq (Term.elem t (Term.index 0)) (Term.sub (Term.index 0) (Term.int 4)))))).value args Z none Z [] = some true)
    (h4 : (Jvm.Cond.eq (Term.elem t (Term.int 62)) (Term.int 43)).value args Z none Z [] = some true) (h5 : (Jvm.Cond.eq (Term.elem t (Term.int 63)) (Term.int 47)).value args Z none Z [] = some true) : Av Z Z.heap a .char Int32.ofNat ALs := by
  refine ⟨cl, A, ?_⟩
  have F := A.fin (Vm.Alike.refl _)
  have key : ∀ k < 64, cl.slots[k]? = some (.int (Int32.ofNat (al k))) := fun k hk => by
    have nn : ¬ (Int32.ofNat k < 0) := (own_n k (by omega)).2
    have tk : (Int32.ofNat k).toNatClampNeg = k := (own_n k (by omega)).1
    have hi : (Int32.ofNat k).toNatClampNeg < cl.slots.size := by rw [tk, hsz]; exact hk
    have ix := idx_at (args := args) (s := Z) (first := Z) (o := none) nn
    have le : ∀ (b : Nat), b < 64 → ¬ b ≤ k → (Jvm.Cond.le (Term.int (Int32.ofNat b)) (Term.index 0)).value args Z none Z [(Int32.ofNat k).toNatClampNeg] = some false := fun b hb hbk => by
      rw [Jvm.Cond.le_ints (Term.int_eval _) ix]
      have : ¬ (Int32.ofNat b ≤ Int32.ofNat k) := by rw [Int32.le_iff_toInt_le, Int32.toInt_ofNat_of_lt (by omega), Int32.toInt_ofNat_of_lt (by omega)]; omega
      simp [this]
    have lt : ∀ (b : Nat), b < 64 → ¬ k < b → (Jvm.Cond.lt (Term.index 0) (Term.int (Int32.ofNat b))).value args Z none Z [(Int32.ofNat k).toNatClampNeg] = some false := fun b hb hbk => by
      rw [Jvm.Cond.lt_ints ix (Term.int_eval _)]
      have : ¬ (Int32.ofNat k < Int32.ofNat b) := own_nlt (by omega) (by omega)
      simp [this]
    have el : ∀ v, (Term.elem t (Term.index 0)).eval args Z none [(Int32.ofNat k).toNatClampNeg] Z = some v → cl.slots[k]? = some v := fun v h => by
      rw [elem_f (et _) ix F nn, tk] at h; exact h
    by_cases c1 : k < 26
    · have u := own_orr (Jvm.Cond.all_elim (et []) F h1 _ hi) (le 26 (by decide) (by omega))
      have z := own_i2l (eqv_l (op2_f (i2l_at ix) (show (Term.long 65).eval args Z none _ Z = some (.long 65) from rfl)) u)
      rw [el _ z, own_al1 k c1, show al k = k + 65 by unfold al; rw [if_pos c1]]
    by_cases c2 : k < 52
    · have u := own_orr (own_orr (Jvm.Cond.all_elim (et []) F h2 _ hi) (lt 26 (by decide) c1)) (le 52 (by decide) (by omega))
      have z := own_i2l (eqv_l (op2_f (i2l_at ix) (show (Term.long 71).eval args Z none _ Z = some (.long 71) from rfl)) u)
      rw [el _ z, own_al2 k c2, show al k = k + 71 by unfold al; rw [if_neg c1, if_pos c2]]
    by_cases c3 : k < 62
    · have u := own_orr (own_orr (Jvm.Cond.all_elim (et []) F h3 _ hi) (lt 52 (by decide) c2)) (le 62 (by decide) (by omega))
      have z := eqv_i (own_sub ix (Term.int_eval 4)) u
      rw [el _ z, own_al3 k c3 c2, show al k = k - 4 by unfold al; rw [if_neg c1, if_neg c2, if_pos c3]]
    by_cases c4 : k = 62
    · subst c4
      have z := eqv_i (Term.int_eval 43) h4
      rw [elem_f (et []) (Term.int_eval 62) F (by decide)] at z
      exact z
    · have c5 : k = 63 := by omega
      subst c5
      have z := eqv_i (Term.int_eval 47) h5
      rw [elem_f (et []) (Term.int_eval 63) F (by decide)] at z
      exact z
  apply List.ext_getElem?
  intro k
  rw [Array.getElem?_toList, List.getElem?_map]
  by_cases hk : k < 64
  · rw [key k hk, own_als k hk]; rfl
  · rw [Array.getElem?_eq_none (by omega), List.getElem?_eq_none (by rw [own_all]; omega)]; rfl
set_option maxRecDepth 65536 in
set_option maxHeartbeats 40000000 in
theorem comes_1 {Post : Tables → Env → Array Value → State → Outcome → State → Prop} (hpost : ∀ tb e args s v u, (limb_1_1.after args s (.returned v) u = true ∧ limb_1_2.after args s (.returned v) u = true ∧ True) → ReturnedEndW s (.returned v) u (Jvm.fieldLocs frame_1_writes args s ++ Jvm.arrayLocs frame_1_arrays args s ++ Jvm.staticLocs frame_1_statics s) 40 1280 → Post tb e args s (.returned v) u) :
    ArmFor flags0 classFile x code maxLocals ret World_1 tables_1 room_1 Calls_1 rest_1 Pre_1 Post := by
  intro l hfl _ _ p e ha hc hk s m args below hf hA hF happ hP
  obtain ⟨hcalls, hrest, hpre⟩ := hP
  obtain ⟨-, -, -, hnamed, -, -, -, hat⟩ := (Spec.applies_iff hf).mp happ
  obtain ⟨hg, hn⟩ := and_e (Cond.before_iff.mp (show (Jvm.Cond.and given_1 narrow_1).before args s = true from hpre))
  obtain ⟨g18, g19⟩ := and_e hg
  obtain ⟨g20, g21⟩ := and_e g19
  obtain ⟨g22, g23⟩ := and_e g21
  obtain ⟨g24, g25⟩ := and_e g23
  obtain ⟨g26, g27⟩ := and_e g25
  obtain ⟨w0, w1, w2, w3, w4, rfl⟩ : ∃ w0 w1 w2 w3 w4 : Value, args = #[w0, w1, w2, w3, w4] := by
    have hs : args.size = 5 := by simpa [Cond.value, given_1] using g18
    obtain ⟨L⟩ := args
    match L, hs with
    | [w0, w1, w2, w3, w4], _ => exact ⟨w0, w1, w2, w3, w4, rfl⟩
  have hw := fun d (hd : d ∈ tables_1) => atoms_spec (ws := Jvm.Cond.code x code maxLocals ret :: tables_1) hat d (List.mem_cons_of_mem _ hd)
  obtain ⟨hsets, hown0⟩ := atoms_of _ (rest_1_c_eq ▸ (show rest_1_c.before _ s = true from hrest))
  obtain ⟨i0, ei0⟩ := is_v g20
  obtain rfl : w0 = (.int i0) := Option.some.inj ei0
  obtain ⟨i1, ei1⟩ := is_v g22
  obtain rfl : w1 = (.int i1) := Option.some.inj ei1
  obtain ⟨i2, ei2⟩ := is_v g24
  obtain rfl : w2 = (.int i2) := Option.some.inj ei2
  obtain ⟨i3, ei3⟩ := is_v g26
  obtain rfl : w3 = (.int i3) := Option.some.inj ei3
  obtain ⟨i4, ei4⟩ := is_v g27
  obtain rfl : w4 = (.int i4) := Option.some.inj ei4
  have n3 := not_v (Cond.before_iff.mp (hsets _ (List.mem_of_getElem? (i := 2) rfl)))
  obtain ⟨i7, e6⟩ := is_v (Cond.before_iff.mp (hsets _ (List.mem_of_getElem? (i := 1) rfl)))
  have S8 : Sta s s.heap "java/lang/String" "COMPACT_STRINGS" "Z" (.int i7) := Sta.start e6 (Or.inl (hsets _ (List.mem_of_getElem? (i := 0) rfl)))
  have c9 : ¬ (i7 = (0 : Int32)) := gotF (Cond.eq_ints e6 (Term.int_eval (0))) n3
  obtain ⟨vS, eS, rS⟩ := isR_v (Cond.before_iff.mp (hsets _ (List.mem_of_getElem? (i := 8) rfl)))
  have SS := Sta.start eS (Or.inl (hsets _ (List.mem_of_getElem? (i := 7) rfl)))
  have SA := Sta.start (own_eqi (Cond.before_iff.mp (hsets _ (List.mem_of_getElem? (i := 12) rfl)))) (Or.inl (hsets _ (List.mem_of_getElem? (i := 11) rfl)))
  have SH := Sta.start (own_eqi (Cond.before_iff.mp (hsets _ (List.mem_of_getElem? (i := 15) rfl)))) (Or.inl (hsets _ (List.mem_of_getElem? (i := 14) rfl)))
  have SLo := Sta.start (own_eqi (Cond.before_iff.mp (hsets _ (List.mem_of_getElem? (i := 18) rfl)))) (Or.inl (hsets _ (List.mem_of_getElem? (i := 17) rfl)))
  have D : Wd s s.heap := ⟨⟨⟨vS, rS⟩, SS⟩, ⟨i7, c9, S8⟩, SA, SH, SLo⟩
  obtain ⟨k_arr, r0⟩ := and_e hn
  obtain ⟨k_len, r1⟩ := and_e r0
  obtain ⟨k_a1, r2⟩ := and_e r1
  obtain ⟨k_a2, r3⟩ := and_e r2
  obtain ⟨k_a3, r4⟩ := and_e r3
  obtain ⟨k_62, k_63⟩ := and_e r4
  obtain ⟨w, ev⟩ := arr_v k_arr
  have Sw := Sta.start ev (Or.inr ⟨(hw _ (List.mem_of_getElem? (i := 29) rfl)), (hw _ (List.mem_of_getElem? (i := 91) rfl))⟩)
  obtain ⟨cl, AV⟩ := Arr.start ev k_arr
  have hsz : cl.slots.size = 64 := own_size (own_len ev AV (own_eqi k_len)) 64 (by decide)
  have Aw := own_alph (fun idx => own_evi ev) AV hsz k_a1 k_a2 k_a3 k_62 k_63
  have hCH : CHv s ELs s.vm s.heap := CHv.start (own_ew hw) (fun q hq => hcalls.1 q hq) (hsets _ (List.mem_of_getElem? (i := 2) rfl)) (hw _ (List.mem_of_getElem? (i := 1) rfl)) (hw _ (List.mem_of_getElem? (i := 7) rfl))
  obtain ⟨n, o, h1, h2, h3, _, L, rfl, ⟨rfl, N⟩, hq⟩ := rm0 l s _ hw tables_1 i0 i1 i2 i3 i4 w s.heap s.heap.size (Nat.le_refl _) D Sw Aw p e ha hc hk s m _ below hf ((Spec.applies_iff_loose hf).mp happ).1 ⟨rfl, State.Warmed39.refl s, rfl, hCH⟩ trivial
  refine ⟨n, _, h1, h2, h3, hpost _ _ _ _ _ _ ⟨Cond.after_iff.mpr rfl, Cond.after_iff.mpr (eq_i res_at (Term.int_eval (1)) rfl), trivial⟩ ⟨hq.1, hq.2.1, hq.2.2.1, (hq.2.2.2.sift fun y hy => Or.inr (N y hy)).mono (by decide) (by decide)⟩⟩
theorem main_1_1 : Claimed_1_1 := comes_1 fun _ _ _ _ _ _ h hF => ⟨h.1, hF⟩
theorem main_1_2 : Claimed_1_2 := comes_1 fun _ _ _ _ _ _ h hF => ⟨h.2.1, hF⟩
end Jvm.Pilot.@@N@@
namespace Jvm.Pilot.@@N@@
open Jvm Jvm.ClassFile Sem Op Lib Jvm.Free Jvm.Stand Jvm.Pilot.@@N@@.Jvm.D
/-! MADE BY PROGRAM (witnessworld.py) out of the Statement's table words and the real class files: 19 classes; the members and pool entries that the words name. The judged class is class 1, her method 5. -/
namespace start1
open Jvm.ClassFile
def u (s : String) : CpInfo := .utf8 (stringToUtf16 s)
/-- a pool by its gaps: so many unusable entries, then the entry; so many at the end -/
def gap : Nat → List CpInfo → List CpInfo
  | 0, r => r
  | n + 1, r => .unusable :: gap n r
def poolList (es : List (Nat × CpInfo)) (last : Nat) : List CpInfo := es.foldr (fun e r => gap e.1 (e.2 :: r)) (gap last [])
def pool (es : List (Nat × CpInfo)) (last : Nat) : Array CpInfo := ⟨poolList es last⟩
def fileOf (pool : Array CpInfo) (this : Nat) (attrs : Array Attribute := #[]) (ms : Array MethodInfo := #[]) (fl : Nat := 33) (sup : Nat := 0) (ifs : Array Nat := #[]) (fds : Array FieldInfo := #[]) : ClassFile where
  minorVersion := 0
  majorVersion := 65
  constantPool := pool
  accessFlags := fl
  thisClass := this
  superClass := sup
  interfaces := ifs
  fields := fds
  methods := ms
  attributes := attrs
def plain (name : String) (sup : Option ClassId) : Class where
  name := name
  kind := .ordinary
  loader := none
  accessFlags := 33
  super := sup
  interfaces := #[]
  cf := none
  fields := #[]
  methods := #[]
  instanceTypes := #[]
  staticTypes := #[]
  resolved := #[]
  callSites := []
  init := .initialized
  statics := none
  mirror := none

def pool0 : Array CpInfo := pool [(5, u "<init>"), (0, u "()V"), (1, .class_ 10), (1, u "java/lang/Object")] 113

def k0c0 : Code := { maxStack := 0, maxLocals := 1, code := object_method_1_code, exceptionTable := #[], attributes := #[] }
def k0m0 : Method := { name := "<init>", desc := "()V", sig := { parameters := [], returnType := none }, accessFlags := 1, code := some k0c0 }
/-- java/lang/Object -/
def k0 : Class := { plain "java/lang/Object" none with
  accessFlags := 33
  interfaces := #[]
  cf := some (fileOf pool0 8 #[] #[{ accessFlags := 1, nameIndex := 5, descriptorIndex := 6, attributes := #[] }] 33 0 #[] #[])
  fields := #[]
  methods := #[k0m0]
  instanceTypes := #[]
  staticTypes := #[]
  resolved := Array.replicate 124 none
  statics := none }

def pool1 : Array CpInfo := pool [(2, .class_ 4), (1, u "java/lang/Object"), (0, u "<init>"), (0, u "()V"), (0, .methodref 8 9), (0, .class_ 10), (0, .nameAndType 11 12), (0, u "com/example/gumzo/gumzo/core/TaggedBase64EncodePinLaw"), (0, u "sym"), (0, u "(I)C"), (0, .class_ 14), (0, u "java/lang/String"), (0, .methodref 13 16), (0, .nameAndType 5 17), (0, u "([C)V"), (0, .methodref 13 19), (0, .nameAndType 20 21), (0, u "valueOf"), (0, u "(C)Ljava/lang/String;"), (0, .methodref 13 23), (0, .nameAndType 24 12), (0, u "charAt"), (0, .integer 65535), (0, .methodref 8 27), (0, .nameAndType 28 29), (0, u "str"), (0, u "(ICC)Ljava/lang/String;"), (0, .methodref 31 32), (0, .class_ 33), (0, .nameAndType 34 35), (0, u "java/lang/Math"), (0, u "min"), (0, u "(II)I"), (0, .methodref 8 37), (0, .nameAndType 38 39), (0, u "quad"), (0, u "([CIIIII)V"), (0, .methodref 41 42), (0, .class_ 43), (0, .nameAndType 44 45), (0, u "com/example/gumzo/gumzo/core/TaggedBase64"), (0, u "encode"), (0, u "(Ljava/lang/String;[BLjava/lang/String;)Ljava/lang/String;"), (0, .methodref 13 47), (0, .nameAndType 48 49), (0, u "length"), (0, u "()I"), (0, .methodref 8 51), (0, .nameAndType 52 53), (0, u "same"), (0, u "(Ljava/lang/String;[CII)Z"), (5, u "law"), (0, u "(IIIII)Z")] 4

def k1m0 : Method := { name := "<init>", desc := "()V", sig := { parameters := [], returnType := none }, accessFlags := 1, code := none }
def k1c1 : Code := { maxStack := 3, maxLocals := 1, code := method_2_code, exceptionTable := #[], attributes := #[] }
def k1m1 : Method := { name := "sym", desc := "(I)C", sig := { parameters := [.int], returnType := some .char }, accessFlags := 10, code := some k1c1 }
def k1c2 : Code := { maxStack := 5, maxLocals := 8, code := method_3_code, exceptionTable := #[], attributes := #[] }
def k1m2 : Method := { name := "quad", desc := "([CIIIII)V", sig := { parameters := [(.array .char), .int, .int, .int, .int, .int], returnType := none }, accessFlags := 10, code := some k1c2 }
def k1c3 : Code := { maxStack := 6, maxLocals := 3, code := method_4_code, exceptionTable := #[], attributes := #[] }
def k1m3 : Method := { name := "str", desc := "(ICC)Ljava/lang/String;", sig := { parameters := [.int, .char, .char], returnType := some (.object "java/lang/String") }, accessFlags := 10, code := some k1c3 }
def k1c4 : Code := { maxStack := 3, maxLocals := 4, code := method_5_code, exceptionTable := #[], attributes := #[] }
def k1m4 : Method := { name := "same", desc := "(Ljava/lang/String;[CII)Z", sig := { parameters := [(.object "java/lang/String"), (.array .char), .int, .int], returnType := some .boolean }, accessFlags := 10, code := some k1c4 }
def k1c5 : Code := { maxStack := 7, maxLocals := 25, code := code, exceptionTable := #[], attributes := #[] }
def k1m5 : Method := { name := "law", desc := "(IIIII)Z", sig := { parameters := [.int, .int, .int, .int, .int], returnType := some .boolean }, accessFlags := 9, code := some k1c5 }
/-- com/example/gumzo/gumzo/core/TaggedBase64EncodePinLaw -/
def k1 : Class := { plain "com/example/gumzo/gumzo/core/TaggedBase64EncodePinLaw" (some 0) with
  accessFlags := 49
  interfaces := #[]
  cf := some (fileOf pool1 8 #[] #[{ accessFlags := 1, nameIndex := 5, descriptorIndex := 6, attributes := #[] }, { accessFlags := 10, nameIndex := 11, descriptorIndex := 12, attributes := #[] }, { accessFlags := 10, nameIndex := 38, descriptorIndex := 39, attributes := #[] }, { accessFlags := 10, nameIndex := 28, descriptorIndex := 29, attributes := #[] }, { accessFlags := 10, nameIndex := 52, descriptorIndex := 53, attributes := #[] }, { accessFlags := 9, nameIndex := 59, descriptorIndex := 60, attributes := #[] }] 49 2 #[] #[])
  fields := #[]
  methods := #[k1m0, k1m1, k1m2, k1m3, k1m4, k1m5]
  instanceTypes := #[]
  staticTypes := #[]
  resolved := Array.replicate 65 none
  statics := none }

def pool2 : Array CpInfo := pool [(1, .class_ 2), (0, u "java/io/Serializable"), (0, .class_ 4), (0, u "java/lang/Object")] 2

/-- java/io/Serializable -/
def k2 : Class := { plain "java/io/Serializable" (some 0) with
  accessFlags := 1537
  interfaces := #[]
  cf := some (fileOf pool2 1 #[] #[] 1537 3 #[] #[])
  fields := #[]
  methods := #[]
  instanceTypes := #[]
  staticTypes := #[]
  resolved := Array.replicate 7 none
  statics := none }

def pool3 : Array CpInfo := pool [(1, .class_ 2), (0, u "java/lang/Comparable"), (0, .class_ 4), (0, u "java/lang/Object")] 7

/-- java/lang/Comparable -/
def k3 : Class := { plain "java/lang/Comparable" (some 0) with
  accessFlags := 1537
  interfaces := #[]
  cf := some (fileOf pool3 1 #[] #[] 1537 3 #[] #[])
  fields := #[]
  methods := #[]
  instanceTypes := #[]
  staticTypes := #[]
  resolved := Array.replicate 12 none
  statics := none }

def pool4 : Array CpInfo := pool [(2, .class_ 4), (1, u "java/lang/CharSequence"), (42, .class_ 48), (0, u "java/lang/CharSequence$1CodePointIterator"), (10, .class_ 60), (0, u "java/lang/CharSequence$1CharIterator"), (5, .class_ 67), (0, u "java/lang/Object")] 63

/-- java/lang/CharSequence -/
def k4 : Class := { plain "java/lang/CharSequence" (some 0) with
  accessFlags := 1537
  interfaces := #[]
  cf := some (fileOf pool4 2 #[.nestMembers #[47, 59]] #[] 1537 66 #[] #[])
  fields := #[]
  methods := #[]
  instanceTypes := #[]
  staticTypes := #[]
  resolved := Array.replicate 131 none
  statics := none }

def pool5 : Array CpInfo := pool [(1, .class_ 2), (0, u "java/lang/constant/Constable"), (0, .class_ 4), (0, u "java/lang/Object")] 6

/-- java/lang/constant/Constable -/
def k5 : Class := { plain "java/lang/constant/Constable" (some 0) with
  accessFlags := 1537
  interfaces := #[]
  cf := some (fileOf pool5 1 #[] #[] 1537 3 #[] #[])
  fields := #[]
  methods := #[]
  instanceTypes := #[]
  staticTypes := #[]
  resolved := Array.replicate 11 none
  statics := none }

def pool6 : Array CpInfo := pool [(1, .class_ 2), (0, u "java/lang/constant/ConstantDesc"), (0, .class_ 4), (0, u "java/lang/Object")] 32

/-- java/lang/constant/ConstantDesc -/
def k6 : Class := { plain "java/lang/constant/ConstantDesc" (some 0) with
  accessFlags := 1537
  interfaces := #[]
  cf := some (fileOf pool6 1 #[] #[] 1537 3 #[] #[])
  fields := #[]
  methods := #[]
  instanceTypes := #[]
  staticTypes := #[]
  resolved := Array.replicate 37 none
  statics := none }

def pool7 : Array CpInfo := pool [(1, .methodref 2 3), (0, .class_ 4), (0, .nameAndType 5 6), (0, u "java/lang/Object"), (0, u "<init>"), (0, u "()V"), (0, .string 8), (0, u ""), (0, .fieldref 10 11), (0, .class_ 12), (0, .nameAndType 13 14), (0, u "java/lang/String"), (0, u "value"), (0, u "[B"), (0, .fieldref 10 16), (0, .nameAndType 17 18), (0, u "coder"), (0, u "B"), (2, u "hash"), (0, u "I"), (2, u "hashIsZero"), (0, u "Z"), (0, .methodref 10 28), (0, .nameAndType 5 29), (0, u "([CIILjava/lang/Void;)V"), (4, .methodref 10 35), (0, .nameAndType 36 37), (0, u "checkBoundsOffCount"), (0, u "(III)I"), (0, .fieldref 10 39), (0, .nameAndType 40 26), (0, u "COMPACT_STRINGS"), (1, .class_ 44), (1, u "java/lang/StringUTF16"), (0, u "compress"), (1, .methodref 42 48), (0, .nameAndType 49 50), (0, u "coderFromArrayLen"), (0, u "([BI)B"), (2, u "toBytes"), (53, .class_ 109), (1, u "java/lang/StringLatin1"), (32, u "()Z"), (34, .methodref 42 178), (0, .nameAndType 45 179), (0, u "([CII)[B"), (29, .methodref 10 210), (0, .nameAndType 5 211), (0, u "([BB)V"), (122, u "()I"), (0, .methodref 10 336), (0, .nameAndType 17 337), (0, u "()B"), (25, u "([BI)C"), (5, u "(C)Z"), (21, u "(II)V"), (35, u "(I)C"), (64, .methodref 10 493), (0, .nameAndType 494 142), (0, u "isLatin1"), (0, .methodref 107 496), (0, .nameAndType 497 363), (0, u "charAt"), (0, .methodref 42 496), (2, u "checkIndex"), (3, .methodref 10 506), (0, .nameAndType 507 334), (0, u "length"), (5, u "checkFromToIndex"), (7, .methodref 10 522), (0, .nameAndType 523 524), (0, u "checkBoundsBeginEnd"), (0, u "(III)V"), (0, .methodref 107 526), (0, .nameAndType 527 528), (0, u "getChars"), (0, u "([BII[CI)V"), (0, .methodref 42 526), (45, .class_ 576), (0, u "java/lang/CharSequence"), (22, u "CASE_INSENSITIVE_ORDER"), (0, u "Ljava/util/Comparator;"), (181, u "valueOf"), (0, u "(C)Ljava/lang/String;"), (226, u "([C)V"), (4, .methodref 107 1016), (0, .nameAndType 1017 369), (0, u "canEncode"), (0, .methodref 107 1019), (0, .nameAndType 53 1020), (0, u "(C)[B"), (0, .methodref 42 1019), (31, .fieldref 1054 1055), (0, .class_ 1056), (0, .nameAndType 1057 1058), (0, u "jdk/internal/util/Preconditions"), (0, u "SIOOBE_FORMATTER"), (0, u "Ljava/util/function/BiFunction;"), (0, .methodref 1054 1060), (0, .nameAndType 501 1061), (0, u "(IILjava/util/function/BiFunction;)I"), (0, .methodref 1054 1063), (0, .nameAndType 513 1064), (0, u "(IIILjava/util/function/BiFunction;)I"), (0, .methodref 1054 1066), (0, .nameAndType 1067 1064), (0, u "checkFromIndexSize"), (33, u "serialPersistentFields"), (0, u "[Ljava/io/ObjectStreamField;"), (0, .class_ 1104), (0, u "java/lang/String$CaseInsensitiveComparator"), (1, .class_ 1107), (0, u "java/io/Serializable"), (0, .class_ 1109), (0, u "java/lang/Comparable"), (0, .class_ 1111), (0, u "java/lang/constant/Constable"), (0, .class_ 1113), (0, u "java/lang/constant/ConstantDesc"), (2, u "serialVersionUID"), (0, u "J"), (3, u "REPL"), (0, u "C"), (2, u "LATIN1"), (1, u "UTF16"), (112, u "(II[CI)V")] 210

def k7m0 : Method := { name := "<init>", desc := "()V", sig := { parameters := [], returnType := none }, accessFlags := 1, code := none }
def k7c1 : Code := { maxStack := 5, maxLocals := 2, code := jdk_42_method_3_code, exceptionTable := #[], attributes := #[] }
def k7m1 : Method := { name := "<init>", desc := "([C)V", sig := { parameters := [(.array .char)], returnType := none }, accessFlags := 1, code := some k7c1 }
def k7c2 : Code := { maxStack := 2, maxLocals := 1, code := jdk_42_method_54_code, exceptionTable := #[], attributes := #[] }
def k7m2 : Method := { name := "length", desc := "()I", sig := { parameters := [], returnType := some .int }, accessFlags := 1, code := some k7c2 }
def k7c3 : Code := { maxStack := 2, maxLocals := 2, code := jdk_42_method_56_code, exceptionTable := #[], attributes := #[] }
def k7m3 : Method := { name := "charAt", desc := "(I)C", sig := { parameters := [.int], returnType := some .char }, accessFlags := 1, code := some k7c3 }
def k7c4 : Code := { maxStack := 5, maxLocals := 5, code := jdk_42_method_61_code, exceptionTable := #[], attributes := #[] }
def k7m4 : Method := { name := "getChars", desc := "(II[CI)V", sig := { parameters := [.int, .int, (.array .char), .int], returnType := none }, accessFlags := 1, code := some k7c4 }
def k7c5 : Code := { maxStack := 4, maxLocals := 1, code := jdk_42_method_139_code, exceptionTable := #[], attributes := #[] }
def k7m5 : Method := { name := "valueOf", desc := "(C)Ljava/lang/String;", sig := { parameters := [.char], returnType := some (.object "java/lang/String") }, accessFlags := 9, code := some k7c5 }
def k7c6 : Code := { maxStack := 4, maxLocals := 6, code := jdk_42_method_149_code, exceptionTable := #[], attributes := #[] }
def k7m6 : Method := { name := "<init>", desc := "([CIILjava/lang/Void;)V", sig := { parameters := [(.array .char), .int, .int, (.object "java/lang/Void")], returnType := none }, accessFlags := 2, code := some k7c6 }
def k7c7 : Code := { maxStack := 2, maxLocals := 3, code := jdk_42_method_151_code, exceptionTable := #[], attributes := #[] }
def k7m7 : Method := { name := "<init>", desc := "([BB)V", sig := { parameters := [(.array .byte), .byte], returnType := none }, accessFlags := 0, code := some k7c7 }
def k7c8 : Code := { maxStack := 1, maxLocals := 1, code := jdk_42_method_152_code, exceptionTable := #[], attributes := #[] }
def k7m8 : Method := { name := "coder", desc := "()B", sig := { parameters := [], returnType := some .byte }, accessFlags := 0, code := some k7c8 }
def k7c9 : Code := { maxStack := 1, maxLocals := 1, code := jdk_42_method_154_code, exceptionTable := #[], attributes := #[] }
def k7m9 : Method := { name := "isLatin1", desc := "()Z", sig := { parameters := [], returnType := some .boolean }, accessFlags := 0, code := some k7c9 }
def k7c10 : Code := { maxStack := 3, maxLocals := 2, code := jdk_42_method_155_code, exceptionTable := #[], attributes := #[] }
def k7m10 : Method := { name := "checkIndex", desc := "(II)V", sig := { parameters := [.int, .int], returnType := none }, accessFlags := 8, code := some k7c10 }
def k7c11 : Code := { maxStack := 4, maxLocals := 3, code := jdk_42_method_157_code, exceptionTable := #[], attributes := #[] }
def k7m11 : Method := { name := "checkBoundsOffCount", desc := "(III)I", sig := { parameters := [.int, .int, .int], returnType := some .int }, accessFlags := 8, code := some k7c11 }
def k7c12 : Code := { maxStack := 4, maxLocals := 3, code := jdk_42_method_158_code, exceptionTable := #[], attributes := #[] }
def k7m12 : Method := { name := "checkBoundsBeginEnd", desc := "(III)V", sig := { parameters := [.int, .int, .int], returnType := none }, accessFlags := 8, code := some k7c12 }
/-- java/lang/String -/
def k7 : Class := { plain "java/lang/String" (some 0) with
  accessFlags := 49
  interfaces := #[2, 3, 4, 5, 6]
  cf := some (fileOf pool7 10 #[.nestMembers #[1103]] #[{ accessFlags := 1, nameIndex := 5, descriptorIndex := 6, attributes := #[] }, { accessFlags := 1, nameIndex := 5, descriptorIndex := 1010, attributes := #[] }, { accessFlags := 1, nameIndex := 507, descriptorIndex := 334, attributes := #[] }, { accessFlags := 1, nameIndex := 497, descriptorIndex := 427, attributes := #[] }, { accessFlags := 1, nameIndex := 527, descriptorIndex := 1240, attributes := #[] }, { accessFlags := 9, nameIndex := 782, descriptorIndex := 783, attributes := #[] }, { accessFlags := 2, nameIndex := 5, descriptorIndex := 29, attributes := #[] }, { accessFlags := 0, nameIndex := 5, descriptorIndex := 211, attributes := #[] }, { accessFlags := 0, nameIndex := 17, descriptorIndex := 337, attributes := #[] }, { accessFlags := 0, nameIndex := 494, descriptorIndex := 142, attributes := #[] }, { accessFlags := 8, nameIndex := 501, descriptorIndex := 391, attributes := #[] }, { accessFlags := 8, nameIndex := 36, descriptorIndex := 37, attributes := #[] }, { accessFlags := 8, nameIndex := 523, descriptorIndex := 524, attributes := #[] }] 49 2 #[1106, 1108, 575, 1110, 1112] #[{ accessFlags := 18, nameIndex := 13, descriptorIndex := 14, attributes := #[] }, { accessFlags := 18, nameIndex := 17, descriptorIndex := 18, attributes := #[] }, { accessFlags := 2, nameIndex := 21, descriptorIndex := 22, attributes := #[] }, { accessFlags := 2, nameIndex := 25, descriptorIndex := 26, attributes := #[] }, { accessFlags := 26, nameIndex := 1116, descriptorIndex := 1117, attributes := #[] }, { accessFlags := 24, nameIndex := 40, descriptorIndex := 26, attributes := #[] }, { accessFlags := 26, nameIndex := 1101, descriptorIndex := 1102, attributes := #[] }, { accessFlags := 26, nameIndex := 1121, descriptorIndex := 1122, attributes := #[] }, { accessFlags := 25, nameIndex := 599, descriptorIndex := 600, attributes := #[] }, { accessFlags := 24, nameIndex := 1125, descriptorIndex := 18, attributes := #[] }, { accessFlags := 24, nameIndex := 1127, descriptorIndex := 18, attributes := #[] }])
  fields := #[{ name := "value", type := (.array .byte), accessFlags := 18, slot := 0, constantValue := 0 }, { name := "coder", type := .byte, accessFlags := 18, slot := 1, constantValue := 0 }, { name := "hash", type := .int, accessFlags := 2, slot := 2, constantValue := 0 }, { name := "hashIsZero", type := .boolean, accessFlags := 2, slot := 3, constantValue := 0 }, { name := "serialVersionUID", type := .long, accessFlags := 26, slot := 0, constantValue := 0 }, { name := "COMPACT_STRINGS", type := .boolean, accessFlags := 24, slot := 1, constantValue := 0 }, { name := "serialPersistentFields", type := (.array (.object "java/io/ObjectStreamField")), accessFlags := 26, slot := 2, constantValue := 0 }, { name := "REPL", type := .char, accessFlags := 26, slot := 3, constantValue := 0 }, { name := "CASE_INSENSITIVE_ORDER", type := (.object "java/util/Comparator"), accessFlags := 25, slot := 4, constantValue := 0 }, { name := "LATIN1", type := .byte, accessFlags := 24, slot := 5, constantValue := 0 }, { name := "UTF16", type := .byte, accessFlags := 24, slot := 6, constantValue := 0 }]
  methods := #[k7m0, k7m1, k7m2, k7m3, k7m4, k7m5, k7m6, k7m7, k7m8, k7m9, k7m10, k7m11, k7m12]
  instanceTypes := #[(.array .byte), .byte, .int, .boolean]
  staticTypes := #[.long, .boolean, (.array (.object "java/io/ObjectStreamField")), .char, (.object "java/util/Comparator"), .byte, .byte]
  resolved := Array.replicate 1451 none
  statics := some 0 }

def pool8 : Array CpInfo := pool [(2, .class_ 4), (1, u "java/lang/Object"), (0, u "<init>"), (0, u "()V"), (0, .methodref 8 9), (0, .class_ 10), (0, .nameAndType 11 12), (0, u "java/lang/String"), (0, u "length"), (0, u "()I"), (0, .methodref 8 14), (0, .nameAndType 15 16), (0, u "getChars"), (0, u "(II[CI)V"), (0, .fieldref 18 19), (0, .class_ 20), (0, .nameAndType 21 22), (0, u "com/example/gumzo/gumzo/core/TaggedBase64"), (0, u "ALPHABET"), (0, u "[C"), (0, .methodref 8 24), (0, .nameAndType 5 25), (0, u "([C)V"), (38, u "VALUES"), (0, u "[I"), (18, u "PADDING"), (0, u "C"), (4, u "encode"), (0, u "(Ljava/lang/String;[BLjava/lang/String;)Ljava/lang/String;")] 31

def k8m0 : Method := { name := "<init>", desc := "()V", sig := { parameters := [], returnType := none }, accessFlags := 2, code := none }
def k8c1 : Code := { maxStack := 5, maxLocals := 9, code := prog_5_method_2_code, exceptionTable := #[], attributes := #[] }
def k8m1 : Method := { name := "encode", desc := "(Ljava/lang/String;[BLjava/lang/String;)Ljava/lang/String;", sig := { parameters := [(.object "java/lang/String"), (.array .byte), (.object "java/lang/String")], returnType := some (.object "java/lang/String") }, accessFlags := 8, code := some k8c1 }
/-- com/example/gumzo/gumzo/core/TaggedBase64 -/
def k8 : Class := { plain "com/example/gumzo/gumzo/core/TaggedBase64" (some 0) with
  accessFlags := 48
  interfaces := #[]
  cf := some (fileOf pool8 18 #[] #[{ accessFlags := 2, nameIndex := 5, descriptorIndex := 6, attributes := #[] }, { accessFlags := 8, nameIndex := 90, descriptorIndex := 91, attributes := #[] }] 48 2 #[] #[{ accessFlags := 26, nameIndex := 21, descriptorIndex := 22, attributes := #[] }, { accessFlags := 26, nameIndex := 84, descriptorIndex := 85, attributes := #[] }, { accessFlags := 26, nameIndex := 64, descriptorIndex := 65, attributes := #[] }])
  fields := #[{ name := "ALPHABET", type := (.array .char), accessFlags := 26, slot := 0, constantValue := 0 }, { name := "PADDING", type := .char, accessFlags := 26, slot := 1, constantValue := 0 }, { name := "VALUES", type := (.array .int), accessFlags := 26, slot := 2, constantValue := 0 }]
  methods := #[k8m0, k8m1]
  instanceTypes := #[]
  staticTypes := #[(.array .char), .char, (.array .int)]
  resolved := Array.replicate 123 none
  statics := some 1 }

def pool9 : Array CpInfo := pool [(2, .class_ 4), (1, u "java/lang/Object"), (0, u "<init>"), (0, u "()V"), (17, .class_ 26), (1, u "jdk/internal/util/Preconditions"), (6, u "checkIndex"), (13, u "checkFromToIndex"), (1, u "checkFromIndexSize"), (5, .class_ 56), (0, u "jdk/internal/util/Preconditions$4"), (57, .class_ 115), (0, u "jdk/internal/util/Preconditions$1"), (7, u "SIOOBE_FORMATTER"), (0, u "Ljava/util/function/BiFunction;"), (0, .class_ 126), (0, u "jdk/internal/util/Preconditions$2"), (3, u "AIOOBE_FORMATTER"), (0, .class_ 132), (0, u "jdk/internal/util/Preconditions$3"), (3, u "IOOBE_FORMATTER"), (41, u "(IILjava/util/function/BiFunction;)I"), (4, u "(IIILjava/util/function/BiFunction;)I")] 10

def k9m0 : Method := { name := "<init>", desc := "()V", sig := { parameters := [], returnType := none }, accessFlags := 1, code := none }
def k9c1 : Code := { maxStack := 3, maxLocals := 3, code := jdk_41_method_11_code, exceptionTable := #[], attributes := #[] }
def k9m1 : Method := { name := "checkIndex", desc := "(IILjava/util/function/BiFunction;)I", sig := { parameters := [.int, .int, (.object "java/util/function/BiFunction")], returnType := some .int }, accessFlags := 9, code := some k9c1 }
def k9c2 : Code := { maxStack := 4, maxLocals := 4, code := jdk_41_method_12_code, exceptionTable := #[], attributes := #[] }
def k9m2 : Method := { name := "checkFromToIndex", desc := "(IIILjava/util/function/BiFunction;)I", sig := { parameters := [.int, .int, .int, (.object "java/util/function/BiFunction")], returnType := some .int }, accessFlags := 9, code := some k9c2 }
def k9c3 : Code := { maxStack := 4, maxLocals := 4, code := jdk_41_method_13_code, exceptionTable := #[], attributes := #[] }
def k9m3 : Method := { name := "checkFromIndexSize", desc := "(IIILjava/util/function/BiFunction;)I", sig := { parameters := [.int, .int, .int, (.object "java/util/function/BiFunction")], returnType := some .int }, accessFlags := 9, code := some k9c3 }
/-- jdk/internal/util/Preconditions -/
def k9 : Class := { plain "jdk/internal/util/Preconditions" (some 0) with
  accessFlags := 33
  interfaces := #[]
  cf := some (fileOf pool9 24 #[.nestMembers #[55, 131, 125, 114]] #[{ accessFlags := 1, nameIndex := 5, descriptorIndex := 6, attributes := #[] }, { accessFlags := 9, nameIndex := 33, descriptorIndex := 178, attributes := #[] }, { accessFlags := 9, nameIndex := 47, descriptorIndex := 183, attributes := #[] }, { accessFlags := 9, nameIndex := 49, descriptorIndex := 183, attributes := #[] }] 33 2 #[] #[{ accessFlags := 25, nameIndex := 123, descriptorIndex := 124, attributes := #[] }, { accessFlags := 25, nameIndex := 130, descriptorIndex := 124, attributes := #[] }, { accessFlags := 25, nameIndex := 136, descriptorIndex := 124, attributes := #[] }])
  fields := #[{ name := "SIOOBE_FORMATTER", type := (.object "java/util/function/BiFunction"), accessFlags := 25, slot := 0, constantValue := 0 }, { name := "AIOOBE_FORMATTER", type := (.object "java/util/function/BiFunction"), accessFlags := 25, slot := 1, constantValue := 0 }, { name := "IOOBE_FORMATTER", type := (.object "java/util/function/BiFunction"), accessFlags := 25, slot := 2, constantValue := 0 }]
  methods := #[k9m0, k9m1, k9m2, k9m3]
  instanceTypes := #[]
  staticTypes := #[(.object "java/util/function/BiFunction"), (.object "java/util/function/BiFunction"), (.object "java/util/function/BiFunction")]
  resolved := Array.replicate 194 none
  statics := some 2 }

def pool10 : Array CpInfo := pool [(1, .class_ 2), (0, u "java/lang/String"), (1, .class_ 6), (1, u "java/lang/Object"), (0, u "<init>"), (0, u "()V"), (0, .methodref 1 10), (0, .nameAndType 11 12), (0, u "checkIndex"), (0, u "(II)V"), (0, .methodref 14 15), (0, .class_ 16), (0, .nameAndType 17 18), (0, u "java/lang/StringLatin1"), (0, u "inflate"), (0, u "([BI[CII)V"), (34, u "([BI)C"), (36, u "canEncode"), (14, u "(C)Z"), (15, u "$assertionsDisabled"), (0, u "Z"), (98, .class_ 223), (1, u "java/lang/StringLatin1$LinesSpliterator"), (28, u "charAt"), (21, u "getChars"), (0, u "([BII[CI)V"), (104, u "toBytes"), (1, u "(C)[B"), (7, .class_ 391), (0, u "java/lang/StringLatin1$CharsSpliterator")] 3

def k10m0 : Method := { name := "<init>", desc := "()V", sig := { parameters := [], returnType := none }, accessFlags := 0, code := none }
def k10c1 : Code := { maxStack := 2, maxLocals := 2, code := jdk_43_method_2_code, exceptionTable := #[], attributes := #[] }
def k10m1 : Method := { name := "charAt", desc := "([BI)C", sig := { parameters := [(.array .byte), .int], returnType := some .char }, accessFlags := 9, code := some k10c1 }
def k10c2 : Code := { maxStack := 2, maxLocals := 1, code := jdk_43_method_3_code, exceptionTable := #[], attributes := #[] }
def k10m2 : Method := { name := "canEncode", desc := "(C)Z", sig := { parameters := [.char], returnType := some .boolean }, accessFlags := 9, code := some k10c2 }
def k10c3 : Code := { maxStack := 6, maxLocals := 5, code := jdk_43_method_11_code, exceptionTable := #[], attributes := #[] }
def k10m3 : Method := { name := "getChars", desc := "([BII[CI)V", sig := { parameters := [(.array .byte), .int, .int, (.array .char), .int], returnType := none }, accessFlags := 9, code := some k10c3 }
def k10c4 : Code := { maxStack := 4, maxLocals := 1, code := jdk_43_method_46_code, exceptionTable := #[], attributes := #[] }
def k10m4 : Method := { name := "toBytes", desc := "(C)[B", sig := { parameters := [.char], returnType := some (.array .byte) }, accessFlags := 9, code := some k10c4 }
def k10c5 : Code := { maxStack := 4, maxLocals := 6, code := jdk_43_method_49_code, exceptionTable := #[], attributes := #[] }
def k10m5 : Method := { name := "inflate", desc := "([BI[CII)V", sig := { parameters := [(.array .byte), .int, (.array .char), .int, .int], returnType := none }, accessFlags := 9, code := some k10c5 }
/-- java/lang/StringLatin1 -/
def k10 : Class := { plain "java/lang/StringLatin1" (some 0) with
  accessFlags := 48
  interfaces := #[]
  cf := some (fileOf pool10 14 #[.nestMembers #[390, 221]] #[{ accessFlags := 0, nameIndex := 7, descriptorIndex := 8, attributes := #[] }, { accessFlags := 9, nameIndex := 252, descriptorIndex := 53, attributes := #[] }, { accessFlags := 9, nameIndex := 90, descriptorIndex := 105, attributes := #[] }, { accessFlags := 9, nameIndex := 274, descriptorIndex := 275, attributes := #[] }, { accessFlags := 9, nameIndex := 380, descriptorIndex := 382, attributes := #[] }, { accessFlags := 9, nameIndex := 17, descriptorIndex := 18, attributes := #[] }] 48 4 #[] #[{ accessFlags := 4120, nameIndex := 121, descriptorIndex := 122, attributes := #[] }])
  fields := #[{ name := "$assertionsDisabled", type := .boolean, accessFlags := 4120, slot := 0, constantValue := 0 }]
  methods := #[k10m0, k10m1, k10m2, k10m3, k10m4, k10m5]
  instanceTypes := #[]
  staticTypes := #[.boolean]
  resolved := Array.replicate 395 none
  statics := none }

def pool11 : Array CpInfo := pool [(1, .class_ 2), (0, u "java/lang/Math"), (1, .class_ 6), (1, u "java/lang/Object"), (0, u "<init>"), (0, u "()V"), (89, .class_ 100), (1, u "java/lang/Math$RandomNumberGeneratorHolder"), (71, u "negativeZeroFloatBits"), (0, u "J"), (2, u "negativeZeroDoubleBits"), (24, u "min"), (43, u "$assertionsDisabled"), (0, u "Z"), (88, u "(II)I"), (2, u "twoToTheDoubleScaleDown"), (0, u "D"), (4, u "twoToTheDoubleScaleUp"), (9, u "E"), (3, u "PI"), (2, u "TAU"), (2, u "DEGREES_TO_RADIANS"), (0, u "RADIANS_TO_DEGREES")] 94

def k11m0 : Method := { name := "<init>", desc := "()V", sig := { parameters := [], returnType := none }, accessFlags := 2, code := none }
def k11c1 : Code := { maxStack := 2, maxLocals := 2, code := jdk_29_method_69_code, exceptionTable := #[], attributes := #[] }
def k11m1 : Method := { name := "min", desc := "(II)I", sig := { parameters := [.int, .int], returnType := some .int }, accessFlags := 9, code := some k11c1 }
/-- java/lang/Math -/
def k11 : Class := { plain "java/lang/Math" (some 0) with
  accessFlags := 49
  interfaces := #[]
  cf := some (fileOf pool11 1 #[.nestMembers #[98]] #[{ accessFlags := 2, nameIndex := 7, descriptorIndex := 8, attributes := #[] }, { accessFlags := 9, nameIndex := 201, descriptorIndex := 335, attributes := #[] }] 49 4 #[] #[{ accessFlags := 25, nameIndex := 354, descriptorIndex := 339, attributes := #[] }, { accessFlags := 25, nameIndex := 358, descriptorIndex := 339, attributes := #[] }, { accessFlags := 25, nameIndex := 361, descriptorIndex := 339, attributes := #[] }, { accessFlags := 26, nameIndex := 364, descriptorIndex := 339, attributes := #[] }, { accessFlags := 26, nameIndex := 365, descriptorIndex := 339, attributes := #[] }, { accessFlags := 26, nameIndex := 172, descriptorIndex := 173, attributes := #[] }, { accessFlags := 26, nameIndex := 176, descriptorIndex := 173, attributes := #[] }, { accessFlags := 8, nameIndex := 344, descriptorIndex := 339, attributes := #[] }, { accessFlags := 8, nameIndex := 338, descriptorIndex := 339, attributes := #[] }, { accessFlags := 4120, nameIndex := 245, descriptorIndex := 246, attributes := #[] }])
  fields := #[{ name := "E", type := .double, accessFlags := 25, slot := 0, constantValue := 0 }, { name := "PI", type := .double, accessFlags := 25, slot := 1, constantValue := 0 }, { name := "TAU", type := .double, accessFlags := 25, slot := 2, constantValue := 0 }, { name := "DEGREES_TO_RADIANS", type := .double, accessFlags := 26, slot := 3, constantValue := 0 }, { name := "RADIANS_TO_DEGREES", type := .double, accessFlags := 26, slot := 4, constantValue := 0 }, { name := "negativeZeroFloatBits", type := .long, accessFlags := 26, slot := 5, constantValue := 0 }, { name := "negativeZeroDoubleBits", type := .long, accessFlags := 26, slot := 6, constantValue := 0 }, { name := "twoToTheDoubleScaleUp", type := .double, accessFlags := 8, slot := 7, constantValue := 0 }, { name := "twoToTheDoubleScaleDown", type := .double, accessFlags := 8, slot := 8, constantValue := 0 }, { name := "$assertionsDisabled", type := .boolean, accessFlags := 4120, slot := 9, constantValue := 0 }]
  methods := #[k11m0, k11m1]
  instanceTypes := #[]
  staticTypes := #[.double, .double, .double, .double, .double, .long, .long, .double, .double, .boolean]
  resolved := Array.replicate 460 none
  statics := none }

def pool12 : Array CpInfo := pool [(3, .class_ 4), (0, u "java/lang/String"), (1, .class_ 8), (1, u "java/lang/Object"), (0, u "<init>"), (0, u "()V"), (0, .methodref 12 13), (0, .class_ 14), (0, .nameAndType 15 16), (0, u "java/lang/StringUTF16"), (0, u "newBytesLength"), (0, u "(I)I"), (3, .integer 1073741823), (23, .fieldref 12 45), (0, .nameAndType 46 47), (0, u "$assertionsDisabled"), (0, u "Z"), (0, .methodref 12 49), (0, .nameAndType 50 51), (0, u "length"), (0, u "([B)I"), (7, .fieldref 12 60), (0, .nameAndType 61 62), (0, u "HI_BYTE_SHIFT"), (0, u "I"), (0, .fieldref 12 64), (0, .nameAndType 65 62), (0, u "LO_BYTE_SHIFT"), (1, .methodref 12 68), (0, .nameAndType 69 70), (0, u "checkIndex"), (0, u "(I[B)V"), (0, .methodref 12 72), (0, .nameAndType 73 74), (0, u "getChar"), (0, u "([BI)C"), (24, u "(II[B)V"), (5, u "getChars"), (0, u "([BII[CI)V"), (0, .methodref 12 108), (0, .nameAndType 109 110), (0, u "newBytesFor"), (0, u "(I)[B"), (0, .methodref 12 112), (0, .nameAndType 113 114), (0, u "putChar"), (0, u "([BII)V"), (0, .methodref 12 116), (0, .nameAndType 117 118), (0, u "compress"), (0, u "([CI[BII)I"), (0, .methodref 12 120), (0, .nameAndType 121 122), (0, u "toBytes"), (0, u "([CII)[B"), (50, .methodref 12 174), (0, .nameAndType 175 99), (0, u "checkBoundsOffCount"), (85, u "coderFromArrayLen"), (0, u "([BI)B"), (18, u "(III)I"), (87, .class_ 371), (1, u "java/lang/StringUTF16$LinesSpliterator"), (20, u "charAt"), (21, .methodref 3 415), (0, .nameAndType 69 416), (0, u "(II)V"), (2, .methodref 3 420), (0, .nameAndType 175 281), (9, u "MAX_LENGTH"), (44, u "(C)[B"), (151, .class_ 628), (0, u "java/lang/StringUTF16$CodePointsSpliterator"), (0, .class_ 630), (0, u "java/lang/StringUTF16$CharsSpliterator")] 4

def k12m0 : Method := { name := "<init>", desc := "()V", sig := { parameters := [], returnType := none }, accessFlags := 0, code := none }
def k12c1 : Code := { maxStack := 1, maxLocals := 1, code := jdk_52_method_2_code, exceptionTable := #[], attributes := #[] }
def k12m1 : Method := { name := "newBytesFor", desc := "(I)[B", sig := { parameters := [.int], returnType := some (.array .byte) }, accessFlags := 9, code := some k12c1 }
def k12c2 : Code := { maxStack := 4, maxLocals := 1, code := jdk_52_method_3_code, exceptionTable := #[], attributes := #[] }
def k12m2 : Method := { name := "newBytesLength", desc := "(I)I", sig := { parameters := [.int], returnType := some .int }, accessFlags := 9, code := some k12c2 }
def k12c3 : Code := { maxStack := 4, maxLocals := 3, code := jdk_52_method_4_code, exceptionTable := #[], attributes := #[] }
def k12m3 : Method := { name := "putChar", desc := "([BII)V", sig := { parameters := [(.array .byte), .int, .int], returnType := none }, accessFlags := 8, code := some k12c3 }
def k12c4 : Code := { maxStack := 3, maxLocals := 2, code := jdk_52_method_5_code, exceptionTable := #[], attributes := #[] }
def k12m4 : Method := { name := "getChar", desc := "([BI)C", sig := { parameters := [(.array .byte), .int], returnType := some .char }, accessFlags := 8, code := some k12c4 }
def k12c5 : Code := { maxStack := 2, maxLocals := 1, code := jdk_52_method_6_code, exceptionTable := #[], attributes := #[] }
def k12m5 : Method := { name := "length", desc := "([B)I", sig := { parameters := [(.array .byte)], returnType := some .int }, accessFlags := 9, code := some k12c5 }
def k12c6 : Code := { maxStack := 4, maxLocals := 5, code := jdk_52_method_14_code, exceptionTable := #[], attributes := #[] }
def k12m6 : Method := { name := "toBytes", desc := "([CII)[B", sig := { parameters := [(.array .char), .int, .int], returnType := some (.array .byte) }, accessFlags := 9, code := some k12c6 }
def k12c7 : Code := { maxStack := 2, maxLocals := 2, code := jdk_52_method_15_code, exceptionTable := #[], attributes := #[] }
def k12m7 : Method := { name := "coderFromArrayLen", desc := "([BI)B", sig := { parameters := [(.array .byte), .int], returnType := some .byte }, accessFlags := 8, code := some k12c7 }
def k12c8 : Code := { maxStack := 5, maxLocals := 6, code := jdk_52_method_16_code, exceptionTable := #[], attributes := #[] }
def k12m8 : Method := { name := "compress", desc := "([CII)[B", sig := { parameters := [(.array .char), .int, .int], returnType := some (.array .byte) }, accessFlags := 9, code := some k12c8 }
def k12c9 : Code := { maxStack := 3, maxLocals := 7, code := jdk_52_method_21_code, exceptionTable := #[], attributes := #[] }
def k12m9 : Method := { name := "compress", desc := "([CI[BII)I", sig := { parameters := [(.array .char), .int, (.array .byte), .int, .int], returnType := some .int }, accessFlags := 9, code := some k12c9 }
def k12c10 : Code := { maxStack := 3, maxLocals := 2, code := jdk_52_method_24_code, exceptionTable := #[], attributes := #[] }
def k12m10 : Method := { name := "toBytes", desc := "(C)[B", sig := { parameters := [.char], returnType := some (.array .byte) }, accessFlags := 9, code := some k12c10 }
def k12c11 : Code := { maxStack := 4, maxLocals := 6, code := jdk_52_method_26_code, exceptionTable := #[], attributes := #[] }
def k12m11 : Method := { name := "getChars", desc := "([BII[CI)V", sig := { parameters := [(.array .byte), .int, .int, (.array .char), .int], returnType := none }, accessFlags := 9, code := some k12c11 }
def k12c12 : Code := { maxStack := 2, maxLocals := 2, code := jdk_52_method_83_code, exceptionTable := #[], attributes := #[] }
def k12m12 : Method := { name := "charAt", desc := "([BI)C", sig := { parameters := [(.array .byte), .int], returnType := some .char }, accessFlags := 9, code := some k12c12 }
def k12c13 : Code := { maxStack := 2, maxLocals := 2, code := jdk_52_method_91_code, exceptionTable := #[], attributes := #[] }
def k12m13 : Method := { name := "checkIndex", desc := "(I[B)V", sig := { parameters := [.int, (.array .byte)], returnType := none }, accessFlags := 9, code := some k12c13 }
def k12c14 : Code := { maxStack := 3, maxLocals := 3, code := jdk_52_method_94_code, exceptionTable := #[], attributes := #[] }
def k12m14 : Method := { name := "checkBoundsOffCount", desc := "(II[B)V", sig := { parameters := [.int, .int, (.array .byte)], returnType := none }, accessFlags := 9, code := some k12c14 }
/-- java/lang/StringUTF16 -/
def k12 : Class := { plain "java/lang/StringUTF16" (some 0) with
  accessFlags := 48
  interfaces := #[]
  cf := some (fileOf pool12 12 #[.nestMembers #[627, 629, 369]] #[{ accessFlags := 0, nameIndex := 9, descriptorIndex := 10, attributes := #[] }, { accessFlags := 9, nameIndex := 109, descriptorIndex := 110, attributes := #[] }, { accessFlags := 9, nameIndex := 15, descriptorIndex := 16, attributes := #[] }, { accessFlags := 8, nameIndex := 113, descriptorIndex := 114, attributes := #[] }, { accessFlags := 8, nameIndex := 73, descriptorIndex := 74, attributes := #[] }, { accessFlags := 9, nameIndex := 50, descriptorIndex := 51, attributes := #[] }, { accessFlags := 9, nameIndex := 121, descriptorIndex := 122, attributes := #[] }, { accessFlags := 8, nameIndex := 261, descriptorIndex := 262, attributes := #[] }, { accessFlags := 9, nameIndex := 117, descriptorIndex := 122, attributes := #[] }, { accessFlags := 9, nameIndex := 117, descriptorIndex := 118, attributes := #[] }, { accessFlags := 9, nameIndex := 121, descriptorIndex := 475, attributes := #[] }, { accessFlags := 9, nameIndex := 105, descriptorIndex := 106, attributes := #[] }, { accessFlags := 9, nameIndex := 392, descriptorIndex := 74, attributes := #[] }, { accessFlags := 9, nameIndex := 69, descriptorIndex := 70, attributes := #[] }, { accessFlags := 9, nameIndex := 175, descriptorIndex := 99, attributes := #[] }] 48 6 #[] #[{ accessFlags := 26, nameIndex := 61, descriptorIndex := 62, attributes := #[] }, { accessFlags := 26, nameIndex := 65, descriptorIndex := 62, attributes := #[] }, { accessFlags := 24, nameIndex := 430, descriptorIndex := 62, attributes := #[] }, { accessFlags := 4120, nameIndex := 46, descriptorIndex := 47, attributes := #[] }])
  fields := #[{ name := "HI_BYTE_SHIFT", type := .int, accessFlags := 26, slot := 0, constantValue := 0 }, { name := "LO_BYTE_SHIFT", type := .int, accessFlags := 26, slot := 1, constantValue := 0 }, { name := "MAX_LENGTH", type := .int, accessFlags := 24, slot := 2, constantValue := 0 }, { name := "$assertionsDisabled", type := .boolean, accessFlags := 4120, slot := 3, constantValue := 0 }]
  methods := #[k12m0, k12m1, k12m2, k12m3, k12m4, k12m5, k12m6, k12m7, k12m8, k12m9, k12m10, k12m11, k12m12, k12m13, k12m14]
  instanceTypes := #[]
  staticTypes := #[.int, .int, .int, .boolean]
  resolved := Array.replicate 635 none
  statics := some 3 }

def pool13 : Array CpInfo := pool [(9, u "<init>"), (6, .class_ 18), (1, u "java/lang/Object"), (0, u "()V"), (1, .class_ 23), (1, u "jdk/internal/util/ArraysSupport"), (0, u "LOG2_ARRAY_LONG_INDEX_SCALE"), (0, u "I"), (2, u "U"), (0, u "Ljdk/internal/misc/Unsafe;"), (8, u "BIG_ENDIAN"), (0, u "Z"), (8, u "LOG2_BYTE_BIT_SIZE"), (4, u "LOG2_ARRAY_INT_INDEX_SCALE"), (54, u "JLA"), (0, u "Ljdk/internal/access/JavaLangAccess;"), (11, u "LOG2_ARRAY_BOOLEAN_INDEX_SCALE"), (9, u "LOG2_ARRAY_BYTE_INDEX_SCALE"), (5, u "LOG2_ARRAY_CHAR_INDEX_SCALE"), (5, u "LOG2_ARRAY_SHORT_INDEX_SCALE"), (18, u "LOG2_ARRAY_FLOAT_INDEX_SCALE"), (24, u "LOG2_ARRAY_DOUBLE_INDEX_SCALE"), (89, u "T_BOOLEAN"), (2, u "T_CHAR"), (1, u "T_FLOAT"), (1, u "T_DOUBLE"), (1, u "T_BYTE"), (1, u "T_SHORT"), (1, u "T_INT"), (1, u "T_LONG"), (1, u "SOFT_MAX_ARRAY_LENGTH")] 83

def k13m0 : Method := { name := "<init>", desc := "()V", sig := { parameters := [], returnType := none }, accessFlags := 2, code := none }
/-- jdk/internal/util/ArraysSupport -/
def k13 : Class := { plain "jdk/internal/util/ArraysSupport" (some 0) with
  accessFlags := 33
  interfaces := #[]
  cf := some (fileOf pool13 21 #[] #[{ accessFlags := 2, nameIndex := 9, descriptorIndex := 19, attributes := #[] }] 33 16 #[] #[{ accessFlags := 24, nameIndex := 28, descriptorIndex := 29, attributes := #[] }, { accessFlags := 26, nameIndex := 38, descriptorIndex := 39, attributes := #[] }, { accessFlags := 25, nameIndex := 121, descriptorIndex := 25, attributes := #[] }, { accessFlags := 25, nameIndex := 131, descriptorIndex := 25, attributes := #[] }, { accessFlags := 25, nameIndex := 137, descriptorIndex := 25, attributes := #[] }, { accessFlags := 25, nameIndex := 143, descriptorIndex := 25, attributes := #[] }, { accessFlags := 25, nameIndex := 53, descriptorIndex := 25, attributes := #[] }, { accessFlags := 25, nameIndex := 24, descriptorIndex := 25, attributes := #[] }, { accessFlags := 25, nameIndex := 162, descriptorIndex := 25, attributes := #[] }, { accessFlags := 25, nameIndex := 187, descriptorIndex := 25, attributes := #[] }, { accessFlags := 26, nameIndex := 48, descriptorIndex := 25, attributes := #[] }, { accessFlags := 25, nameIndex := 277, descriptorIndex := 25, attributes := #[] }, { accessFlags := 25, nameIndex := 280, descriptorIndex := 25, attributes := #[] }, { accessFlags := 25, nameIndex := 282, descriptorIndex := 25, attributes := #[] }, { accessFlags := 25, nameIndex := 284, descriptorIndex := 25, attributes := #[] }, { accessFlags := 25, nameIndex := 286, descriptorIndex := 25, attributes := #[] }, { accessFlags := 25, nameIndex := 288, descriptorIndex := 25, attributes := #[] }, { accessFlags := 25, nameIndex := 290, descriptorIndex := 25, attributes := #[] }, { accessFlags := 25, nameIndex := 292, descriptorIndex := 25, attributes := #[] }, { accessFlags := 26, nameIndex := 108, descriptorIndex := 109, attributes := #[] }, { accessFlags := 25, nameIndex := 294, descriptorIndex := 25, attributes := #[] }])
  fields := #[{ name := "U", type := (.object "jdk/internal/misc/Unsafe"), accessFlags := 24, slot := 0, constantValue := 0 }, { name := "BIG_ENDIAN", type := .boolean, accessFlags := 26, slot := 1, constantValue := 0 }, { name := "LOG2_ARRAY_BOOLEAN_INDEX_SCALE", type := .int, accessFlags := 25, slot := 2, constantValue := 0 }, { name := "LOG2_ARRAY_BYTE_INDEX_SCALE", type := .int, accessFlags := 25, slot := 3, constantValue := 0 }, { name := "LOG2_ARRAY_CHAR_INDEX_SCALE", type := .int, accessFlags := 25, slot := 4, constantValue := 0 }, { name := "LOG2_ARRAY_SHORT_INDEX_SCALE", type := .int, accessFlags := 25, slot := 5, constantValue := 0 }, { name := "LOG2_ARRAY_INT_INDEX_SCALE", type := .int, accessFlags := 25, slot := 6, constantValue := 0 }, { name := "LOG2_ARRAY_LONG_INDEX_SCALE", type := .int, accessFlags := 25, slot := 7, constantValue := 0 }, { name := "LOG2_ARRAY_FLOAT_INDEX_SCALE", type := .int, accessFlags := 25, slot := 8, constantValue := 0 }, { name := "LOG2_ARRAY_DOUBLE_INDEX_SCALE", type := .int, accessFlags := 25, slot := 9, constantValue := 0 }, { name := "LOG2_BYTE_BIT_SIZE", type := .int, accessFlags := 26, slot := 10, constantValue := 0 }, { name := "T_BOOLEAN", type := .int, accessFlags := 25, slot := 11, constantValue := 0 }, { name := "T_CHAR", type := .int, accessFlags := 25, slot := 12, constantValue := 0 }, { name := "T_FLOAT", type := .int, accessFlags := 25, slot := 13, constantValue := 0 }, { name := "T_DOUBLE", type := .int, accessFlags := 25, slot := 14, constantValue := 0 }, { name := "T_BYTE", type := .int, accessFlags := 25, slot := 15, constantValue := 0 }, { name := "T_SHORT", type := .int, accessFlags := 25, slot := 16, constantValue := 0 }, { name := "T_INT", type := .int, accessFlags := 25, slot := 17, constantValue := 0 }, { name := "T_LONG", type := .int, accessFlags := 25, slot := 18, constantValue := 0 }, { name := "JLA", type := (.object "jdk/internal/access/JavaLangAccess"), accessFlags := 26, slot := 19, constantValue := 0 }, { name := "SOFT_MAX_ARRAY_LENGTH", type := .int, accessFlags := 25, slot := 20, constantValue := 0 }]
  methods := #[k13m0]
  instanceTypes := #[]
  staticTypes := #[(.object "jdk/internal/misc/Unsafe"), .boolean, .int, .int, .int, .int, .int, .int, .int, .int, .int, .int, .int, .int, .int, .int, .int, .int, .int, (.object "jdk/internal/access/JavaLangAccess"), .int]
  resolved := Array.replicate 378 none
  statics := none }

def pool14 : Array CpInfo := pool [(1, u "java/lang/Cloneable"), (0, .class_ 1), (0, u "java/lang/Object"), (0, .class_ 3)] 3

/-- java/lang/Cloneable -/
def k14 : Class := { plain "java/lang/Cloneable" (some 0) with
  accessFlags := 1537
  interfaces := #[]
  cf := some (fileOf pool14 2 #[] #[] 1537 4 #[] #[])
  fields := #[]
  methods := #[]
  instanceTypes := #[]
  staticTypes := #[]
  resolved := Array.replicate 8 none
  statics := none }

/-- the primitive byte -/
def k15 : Class := { plain "byte" none with kind := .primitive 'B', accessFlags := 0x411 }
/-- [B -/
def k16 : Class := { plain "[B" (some 0) with kind := .array 15 .byte, interfaces := #[14, 2], accessFlags := 1041 }

/-- the primitive char -/
def k17 : Class := { plain "char" none with kind := .primitive 'C', accessFlags := 0x411 }
/-- [C -/
def k18 : Class := { plain "[C" (some 0) with kind := .array 17 .char, interfaces := #[14, 2], accessFlags := 1041 }

def heap : Heap := #[{ cls := 7, slots := #[.long 0, .int 1, .null, .int 0, .null, .int 0, .int 0], vm := .statics 7 },
  { cls := 8, slots := #[.ref 4, .int 0, .null], vm := .statics 8 },
  { cls := 9, slots := #[.null, .null, .null], vm := .statics 9 },
  { cls := 12, slots := #[.int 0, .int 8, .int 0, .int 1], vm := .statics 12 },
  { cls := 18, slots := #[.int 65, .int 66, .int 67, .int 68, .int 69, .int 70, .int 71, .int 72, .int 73, .int 74, .int 75, .int 76, .int 77, .int 78, .int 79, .int 80, .int 81, .int 82, .int 83, .int 84, .int 85, .int 86, .int 87, .int 88, .int 89, .int 90, .int 97, .int 98, .int 99, .int 100, .int 101, .int 102, .int 103, .int 104, .int 105, .int 106, .int 107, .int 108, .int 109, .int 110, .int 111, .int 112, .int 113, .int 114, .int 115, .int 116, .int 117, .int 118, .int 119, .int 120, .int 121, .int 122, .int 48, .int 49, .int 50, .int 51, .int 52, .int 53, .int 54, .int 55, .int 56, .int 57, .int 43, .int 47], vm := .none }]
def classes : Array Class := #[k0, k1, k2, k3, k4, k5, k6, k7, k8, k9, k10, k11, k12, k13, k14, k15, k16, k17, k18]
def interned : List (Array UInt16 × Addr) := []
def slotsUsed : Nat := 81
def theMethod : MethodId := ⟨1, 5⟩
def args0 : Array Value := #[.int 66053, .int 1, .int 2, .int 3, .int 4]
def aboutOver (below : List Frame) : State where
  vm := { classes := classes, interned := interned.toArray }
  heap := heap
  slotsUsed := slotsUsed
  threads := #[{ frames := .invoking theMethod args0 :: below }]
def below0 : List Frame := [.native { method := ⟨0, 0⟩, args := #[] }]
def about1 : State := aboutOver below0
def p0 : Program := .bare "" "" ""
def e0 : Env := launch0.env 0 0 0
theorem w_frames : about1.frames = Frame.invoking theMethod args0 :: below0 := rfl
set_option maxRecDepth 65536 in
theorem w_args : argsFit about1.vm theMethod args0 = true := by decide +kernel
set_option maxRecDepth 65536 in
theorem w_heap : heapFits about1 = true := by decide +kernel
set_option maxRecDepth 65536 in
theorem w_runnable : about1.curStatus? = some .runnable := by decide +kernel
set_option maxRecDepth 65536 in
theorem w_alone : about1.alone = true := by decide +kernel
set_option maxRecDepth 65536 in
theorem w_named : about1.methodNamed? x = some theMethod := by decide +kernel
set_option maxRecDepth 65536 in
theorem w_hears : about1.hears theMethod below0 = true := by decide +kernel
set_option maxRecDepth 65536 in
theorem w_ripe : about1.ripe theMethod args0 below0 = true := by decide +kernel
theorem w_running : about1.status = .running := rfl
set_option maxRecDepth 65536 in
theorem w_room : about1.hasRoom e0.platform room_1 = true :=
  launch0.hasRoom_least _ room_1 (by decide +kernel) (by decide +kernel) (by decide +kernel) (by decide +kernel) (by decide +kernel) (by decide +kernel)
theorem allAtoms_all (ts : List Jvm.Cond) (a : Array Jvm.Value) (st : Jvm.State) : (allAtoms ts).before a st = ts.all (fun c => c.before a st) := by
  induction ts with
  | nil => rfl
  | cons c t ih =>
    show (Jvm.Cond.and c (allAtoms t)).before a st = _
    rw [Jvm.Cond.before_and, ih, List.all_cons]
def words1 : List Jvm.Cond := Jvm.Cond.code x code maxLocals ret :: tables_1
/-- a 'code' word, met by the world's own term for the bytes: nothing is compared byte by byte -/
theorem code_word {y : MethodName} {bytes : ByteArray} {mx : Nat} {rt : Option FieldType} {a : Array Value} {s : State} {m : MethodId} {meth : Method} {c : Code} (h1 : s.methodNamed? y = some m) (h2 : s.vm.method? m = some meth) (h3 : meth.code = some c) (h4 : c.code = bytes)
    (h5 : (c.maxLocals == mx && c.exceptionTable.isEmpty && decide (c.maxStack ≤ mostOperands) && decide (meth.sig.returnType = rt) && !meth.locks && decide (parseMethodDescriptor y.desc = some meth.sig)) = true) : (Jvm.Cond.code y bytes mx rt).before a s = true := by
  simp only [Bool.and_eq_true, beq_iff_eq, Bool.not_eq_true', decide_eq_true_eq] at h5
  obtain ⟨⟨⟨⟨⟨g1, g2⟩, g3⟩, g4⟩, g5⟩, g6⟩ := h5
  simp [Cond.before, Cond.holds, Cond.value, h1, h2, h3, h4, g1, g2, g3, g4, g5, g6]
def isCode : Jvm.Cond → Bool
  | .code _ _ _ _ => true
  | _ => false
theorem all_split {L : List Jvm.Cond} {P : Jvm.Cond → Bool} (h1 : L.all (fun c => isCode c || P c) = true) (h2 : ∀ c ∈ L.filter isCode, P c = true) : L.all P = true := by
  refine List.all_eq_true.mpr fun c hc => ?_
  have h := List.all_eq_true.mp h1 c hc
  rcases Bool.eq_false_or_eq_true (isCode c) with hi | hi
  · exact h2 c (List.mem_filter.mpr ⟨hc, hi⟩)
  · simpa [hi] using h
set_option maxRecDepth 65536 in
theorem w_c0 : (Jvm.Cond.code x code maxLocals ret).before args0 about1 = true := code_word (m := ⟨1, 5⟩) (meth := k1m5) (c := k1c5) (by decide +kernel) rfl rfl rfl (by decide +kernel)
set_option maxRecDepth 65536 in
theorem w_c1 : (Jvm.Cond.code ({ cls := "com/example/gumzo/gumzo/core/TaggedBase64EncodePinLaw", name := "str", desc := "(ICC)Ljava/lang/String;" } : Jvm.MethodName) method_4_code (3 : Nat) (Option.some (Jvm.ClassFile.FieldType.object "java/lang/String"))).before args0 about1 = true := code_word (m := ⟨1, 3⟩) (meth := k1m3) (c := k1c3) (by decide +kernel) rfl rfl rfl (by decide +kernel)
set_option maxRecDepth 65536 in
theorem w_c2 : (Jvm.Cond.code ({ cls := "java/lang/String", name := "<init>", desc := "([C)V" } : Jvm.MethodName) jdk_42_method_3_code (2 : Nat) (Option.none : Option Jvm.ClassFile.FieldType)).before args0 about1 = true := code_word (m := ⟨7, 1⟩) (meth := k7m1) (c := k7c1) (by decide +kernel) rfl rfl rfl (by decide +kernel)
set_option maxRecDepth 65536 in
theorem w_c3 : (Jvm.Cond.code ({ cls := "java/lang/String", name := "<init>", desc := "([CIILjava/lang/Void;)V" } : Jvm.MethodName) jdk_42_method_149_code (6 : Nat) (Option.none : Option Jvm.ClassFile.FieldType)).before args0 about1 = true := code_word (m := ⟨7, 6⟩) (meth := k7m6) (c := k7c6) (by decide +kernel) rfl rfl rfl (by decide +kernel)
set_option maxRecDepth 65536 in
theorem w_c4 : (Jvm.Cond.code ({ cls := "java/lang/Object", name := "<init>", desc := "()V" } : Jvm.MethodName) object_method_1_code (1 : Nat) (Option.none : Option Jvm.ClassFile.FieldType)).before args0 about1 = true := code_word (m := ⟨0, 0⟩) (meth := k0m0) (c := k0c0) (by decide +kernel) rfl rfl rfl (by decide +kernel)
set_option maxRecDepth 65536 in
theorem w_c5 : (Jvm.Cond.code ({ cls := "com/example/gumzo/gumzo/core/TaggedBase64", name := "encode", desc := "(Ljava/lang/String;[BLjava/lang/String;)Ljava/lang/String;" } : Jvm.MethodName) prog_5_method_2_code (9 : Nat) (Option.some (Jvm.ClassFile.FieldType.object "java/lang/String"))).before args0 about1 = true := code_word (m := ⟨8, 1⟩) (meth := k8m1) (c := k8c1) (by decide +kernel) rfl rfl rfl (by decide +kernel)
set_option maxRecDepth 65536 in
theorem w_c6 : (Jvm.Cond.code ({ cls := "java/lang/String", name := "length", desc := "()I" } : Jvm.MethodName) jdk_42_method_54_code (1 : Nat) (Option.some Jvm.ClassFile.FieldType.int)).before args0 about1 = true := code_word (m := ⟨7, 2⟩) (meth := k7m2) (c := k7c2) (by decide +kernel) rfl rfl rfl (by decide +kernel)
set_option maxRecDepth 65536 in
theorem w_c7 : (Jvm.Cond.code ({ cls := "java/lang/String", name := "coder", desc := "()B" } : Jvm.MethodName) jdk_42_method_152_code (1 : Nat) (Option.some Jvm.ClassFile.FieldType.byte)).before args0 about1 = true := code_word (m := ⟨7, 8⟩) (meth := k7m8) (c := k7c8) (by decide +kernel) rfl rfl rfl (by decide +kernel)
set_option maxRecDepth 65536 in
theorem w_c8 : (Jvm.Cond.code ({ cls := "java/lang/String", name := "getChars", desc := "(II[CI)V" } : Jvm.MethodName) jdk_42_method_61_code (5 : Nat) (Option.none : Option Jvm.ClassFile.FieldType)).before args0 about1 = true := code_word (m := ⟨7, 4⟩) (meth := k7m4) (c := k7c4) (by decide +kernel) rfl rfl rfl (by decide +kernel)
set_option maxRecDepth 65536 in
theorem w_c9 : (Jvm.Cond.code ({ cls := "java/lang/String", name := "checkBoundsBeginEnd", desc := "(III)V" } : Jvm.MethodName) jdk_42_method_158_code (3 : Nat) (Option.none : Option Jvm.ClassFile.FieldType)).before args0 about1 = true := code_word (m := ⟨7, 12⟩) (meth := k7m12) (c := k7c12) (by decide +kernel) rfl rfl rfl (by decide +kernel)
set_option maxRecDepth 65536 in
theorem w_c10 : (Jvm.Cond.code ({ cls := "jdk/internal/util/Preconditions", name := "checkFromToIndex", desc := "(IIILjava/util/function/BiFunction;)I" } : Jvm.MethodName) jdk_41_method_12_code (4 : Nat) (Option.some Jvm.ClassFile.FieldType.int)).before args0 about1 = true := code_word (m := ⟨9, 2⟩) (meth := k9m2) (c := k9c2) (by decide +kernel) rfl rfl rfl (by decide +kernel)
set_option maxRecDepth 65536 in
theorem w_c11 : (Jvm.Cond.code ({ cls := "java/lang/String", name := "checkBoundsOffCount", desc := "(III)I" } : Jvm.MethodName) jdk_42_method_157_code (3 : Nat) (Option.some Jvm.ClassFile.FieldType.int)).before args0 about1 = true := code_word (m := ⟨7, 11⟩) (meth := k7m11) (c := k7c11) (by decide +kernel) rfl rfl rfl (by decide +kernel)
set_option maxRecDepth 65536 in
theorem w_c12 : (Jvm.Cond.code ({ cls := "jdk/internal/util/Preconditions", name := "checkFromIndexSize", desc := "(IIILjava/util/function/BiFunction;)I" } : Jvm.MethodName) jdk_41_method_13_code (4 : Nat) (Option.some Jvm.ClassFile.FieldType.int)).before args0 about1 = true := code_word (m := ⟨9, 3⟩) (meth := k9m3) (c := k9c3) (by decide +kernel) rfl rfl rfl (by decide +kernel)
set_option maxRecDepth 65536 in
theorem w_c13 : (Jvm.Cond.code ({ cls := "java/lang/String", name := "isLatin1", desc := "()Z" } : Jvm.MethodName) jdk_42_method_154_code (1 : Nat) (Option.some Jvm.ClassFile.FieldType.boolean)).before args0 about1 = true := code_word (m := ⟨7, 9⟩) (meth := k7m9) (c := k7c9) (by decide +kernel) rfl rfl rfl (by decide +kernel)
set_option maxRecDepth 65536 in
theorem w_c14 : (Jvm.Cond.code ({ cls := "java/lang/StringLatin1", name := "getChars", desc := "([BII[CI)V" } : Jvm.MethodName) jdk_43_method_11_code (5 : Nat) (Option.none : Option Jvm.ClassFile.FieldType)).before args0 about1 = true := code_word (m := ⟨10, 3⟩) (meth := k10m3) (c := k10c3) (by decide +kernel) rfl rfl rfl (by decide +kernel)
set_option maxRecDepth 65536 in
theorem w_c15 : (Jvm.Cond.code ({ cls := "java/lang/StringLatin1", name := "inflate", desc := "([BI[CII)V" } : Jvm.MethodName) jdk_43_method_49_code (6 : Nat) (Option.none : Option Jvm.ClassFile.FieldType)).before args0 about1 = true := code_word (m := ⟨10, 5⟩) (meth := k10m5) (c := k10c5) (by decide +kernel) rfl rfl rfl (by decide +kernel)
set_option maxRecDepth 65536 in
theorem w_c16 : (Jvm.Cond.code ({ cls := "com/example/gumzo/gumzo/core/TaggedBase64EncodePinLaw", name := "same", desc := "(Ljava/lang/String;[CII)Z" } : Jvm.MethodName) method_5_code (4 : Nat) (Option.some Jvm.ClassFile.FieldType.boolean)).before args0 about1 = true := code_word (m := ⟨1, 4⟩) (meth := k1m4) (c := k1c4) (by decide +kernel) rfl rfl rfl (by decide +kernel)
set_option maxRecDepth 65536 in
theorem w_c17 : (Jvm.Cond.code ({ cls := "java/lang/Math", name := "min", desc := "(II)I" } : Jvm.MethodName) jdk_29_method_69_code (2 : Nat) (Option.some Jvm.ClassFile.FieldType.int)).before args0 about1 = true := code_word (m := ⟨11, 1⟩) (meth := k11m1) (c := k11c1) (by decide +kernel) rfl rfl rfl (by decide +kernel)
set_option maxRecDepth 65536 in
theorem w_c18 : (Jvm.Cond.code ({ cls := "com/example/gumzo/gumzo/core/TaggedBase64EncodePinLaw", name := "quad", desc := "([CIIIII)V" } : Jvm.MethodName) method_3_code (8 : Nat) (Option.none : Option Jvm.ClassFile.FieldType)).before args0 about1 = true := code_word (m := ⟨1, 2⟩) (meth := k1m2) (c := k1c2) (by decide +kernel) rfl rfl rfl (by decide +kernel)
set_option maxRecDepth 65536 in
theorem w_c19 : (Jvm.Cond.code ({ cls := "com/example/gumzo/gumzo/core/TaggedBase64EncodePinLaw", name := "sym", desc := "(I)C" } : Jvm.MethodName) method_2_code (1 : Nat) (Option.some Jvm.ClassFile.FieldType.char)).before args0 about1 = true := code_word (m := ⟨1, 1⟩) (meth := k1m1) (c := k1c1) (by decide +kernel) rfl rfl rfl (by decide +kernel)
set_option maxRecDepth 65536 in
theorem w_c20 : (Jvm.Cond.code ({ cls := "java/lang/StringUTF16", name := "compress", desc := "([CII)[B" } : Jvm.MethodName) jdk_52_method_16_code (6 : Nat) (Option.some (Jvm.ClassFile.FieldType.array Jvm.ClassFile.FieldType.byte))).before args0 about1 = true := code_word (m := ⟨12, 8⟩) (meth := k12m8) (c := k12c8) (by decide +kernel) rfl rfl rfl (by decide +kernel)
set_option maxRecDepth 65536 in
theorem w_c21 : (Jvm.Cond.code ({ cls := "java/lang/StringUTF16", name := "compress", desc := "([CI[BII)I" } : Jvm.MethodName) jdk_52_method_21_code (7 : Nat) (Option.some Jvm.ClassFile.FieldType.int)).before args0 about1 = true := code_word (m := ⟨12, 9⟩) (meth := k12m9) (c := k12c9) (by decide +kernel) rfl rfl rfl (by decide +kernel)
set_option maxRecDepth 65536 in
theorem w_c22 : (Jvm.Cond.code ({ cls := "java/lang/StringUTF16", name := "coderFromArrayLen", desc := "([BI)B" } : Jvm.MethodName) jdk_52_method_15_code (2 : Nat) (Option.some Jvm.ClassFile.FieldType.byte)).before args0 about1 = true := code_word (m := ⟨12, 7⟩) (meth := k12m7) (c := k12c7) (by decide +kernel) rfl rfl rfl (by decide +kernel)
set_option maxRecDepth 65536 in
theorem w_c23 : (Jvm.Cond.code ({ cls := "java/lang/String", name := "charAt", desc := "(I)C" } : Jvm.MethodName) jdk_42_method_56_code (2 : Nat) (Option.some Jvm.ClassFile.FieldType.char)).before args0 about1 = true := code_word (m := ⟨7, 3⟩) (meth := k7m3) (c := k7c3) (by decide +kernel) rfl rfl rfl (by decide +kernel)
set_option maxRecDepth 65536 in
theorem w_c24 : (Jvm.Cond.code ({ cls := "java/lang/StringLatin1", name := "charAt", desc := "([BI)C" } : Jvm.MethodName) jdk_43_method_2_code (2 : Nat) (Option.some Jvm.ClassFile.FieldType.char)).before args0 about1 = true := code_word (m := ⟨10, 1⟩) (meth := k10m1) (c := k10c1) (by decide +kernel) rfl rfl rfl (by decide +kernel)
set_option maxRecDepth 65536 in
theorem w_c25 : (Jvm.Cond.code ({ cls := "java/lang/String", name := "checkIndex", desc := "(II)V" } : Jvm.MethodName) jdk_42_method_155_code (2 : Nat) (Option.none : Option Jvm.ClassFile.FieldType)).before args0 about1 = true := code_word (m := ⟨7, 10⟩) (meth := k7m10) (c := k7c10) (by decide +kernel) rfl rfl rfl (by decide +kernel)
set_option maxRecDepth 65536 in
theorem w_c26 : (Jvm.Cond.code ({ cls := "jdk/internal/util/Preconditions", name := "checkIndex", desc := "(IILjava/util/function/BiFunction;)I" } : Jvm.MethodName) jdk_41_method_11_code (3 : Nat) (Option.some Jvm.ClassFile.FieldType.int)).before args0 about1 = true := code_word (m := ⟨9, 1⟩) (meth := k9m1) (c := k9c1) (by decide +kernel) rfl rfl rfl (by decide +kernel)
set_option maxRecDepth 65536 in
theorem w_c27 : (Jvm.Cond.code ({ cls := "java/lang/StringUTF16", name := "toBytes", desc := "([CII)[B" } : Jvm.MethodName) jdk_52_method_14_code (5 : Nat) (Option.some (Jvm.ClassFile.FieldType.array Jvm.ClassFile.FieldType.byte))).before args0 about1 = true := code_word (m := ⟨12, 6⟩) (meth := k12m6) (c := k12c6) (by decide +kernel) rfl rfl rfl (by decide +kernel)
set_option maxRecDepth 65536 in
theorem w_c28 : (Jvm.Cond.code ({ cls := "java/lang/StringUTF16", name := "newBytesFor", desc := "(I)[B" } : Jvm.MethodName) jdk_52_method_2_code (1 : Nat) (Option.some (Jvm.ClassFile.FieldType.array Jvm.ClassFile.FieldType.byte))).before args0 about1 = true := code_word (m := ⟨12, 1⟩) (meth := k12m1) (c := k12c1) (by decide +kernel) rfl rfl rfl (by decide +kernel)
set_option maxRecDepth 65536 in
theorem w_c29 : (Jvm.Cond.code ({ cls := "java/lang/StringUTF16", name := "newBytesLength", desc := "(I)I" } : Jvm.MethodName) jdk_52_method_3_code (1 : Nat) (Option.some Jvm.ClassFile.FieldType.int)).before args0 about1 = true := code_word (m := ⟨12, 2⟩) (meth := k12m2) (c := k12c2) (by decide +kernel) rfl rfl rfl (by decide +kernel)
set_option maxRecDepth 65536 in
theorem w_c30 : (Jvm.Cond.code ({ cls := "java/lang/StringUTF16", name := "putChar", desc := "([BII)V" } : Jvm.MethodName) jdk_52_method_4_code (3 : Nat) (Option.none : Option Jvm.ClassFile.FieldType)).before args0 about1 = true := code_word (m := ⟨12, 3⟩) (meth := k12m3) (c := k12c3) (by decide +kernel) rfl rfl rfl (by decide +kernel)
set_option maxRecDepth 65536 in
theorem w_c31 : (Jvm.Cond.code ({ cls := "java/lang/StringUTF16", name := "getChar", desc := "([BI)C" } : Jvm.MethodName) jdk_52_method_5_code (2 : Nat) (Option.some Jvm.ClassFile.FieldType.char)).before args0 about1 = true := code_word (m := ⟨12, 4⟩) (meth := k12m4) (c := k12c4) (by decide +kernel) rfl rfl rfl (by decide +kernel)
set_option maxRecDepth 65536 in
theorem w_c32 : (Jvm.Cond.code ({ cls := "java/lang/StringUTF16", name := "getChars", desc := "([BII[CI)V" } : Jvm.MethodName) jdk_52_method_26_code (6 : Nat) (Option.none : Option Jvm.ClassFile.FieldType)).before args0 about1 = true := code_word (m := ⟨12, 11⟩) (meth := k12m11) (c := k12c11) (by decide +kernel) rfl rfl rfl (by decide +kernel)
set_option maxRecDepth 65536 in
theorem w_c33 : (Jvm.Cond.code ({ cls := "java/lang/StringUTF16", name := "checkBoundsOffCount", desc := "(II[B)V" } : Jvm.MethodName) jdk_52_method_94_code (3 : Nat) (Option.none : Option Jvm.ClassFile.FieldType)).before args0 about1 = true := code_word (m := ⟨12, 14⟩) (meth := k12m14) (c := k12c14) (by decide +kernel) rfl rfl rfl (by decide +kernel)
set_option maxRecDepth 65536 in
theorem w_c34 : (Jvm.Cond.code ({ cls := "java/lang/StringUTF16", name := "length", desc := "([B)I" } : Jvm.MethodName) jdk_52_method_6_code (1 : Nat) (Option.some Jvm.ClassFile.FieldType.int)).before args0 about1 = true := code_word (m := ⟨12, 5⟩) (meth := k12m5) (c := k12c5) (by decide +kernel) rfl rfl rfl (by decide +kernel)
set_option maxRecDepth 65536 in
theorem w_c35 : (Jvm.Cond.code ({ cls := "java/lang/StringUTF16", name := "charAt", desc := "([BI)C" } : Jvm.MethodName) jdk_52_method_83_code (2 : Nat) (Option.some Jvm.ClassFile.FieldType.char)).before args0 about1 = true := code_word (m := ⟨12, 12⟩) (meth := k12m12) (c := k12c12) (by decide +kernel) rfl rfl rfl (by decide +kernel)
set_option maxRecDepth 65536 in
theorem w_c36 : (Jvm.Cond.code ({ cls := "java/lang/StringUTF16", name := "checkIndex", desc := "(I[B)V" } : Jvm.MethodName) jdk_52_method_91_code (2 : Nat) (Option.none : Option Jvm.ClassFile.FieldType)).before args0 about1 = true := code_word (m := ⟨12, 13⟩) (meth := k12m13) (c := k12c13) (by decide +kernel) rfl rfl rfl (by decide +kernel)
set_option maxRecDepth 65536 in
theorem w_c37 : (Jvm.Cond.code ({ cls := "java/lang/String", name := "valueOf", desc := "(C)Ljava/lang/String;" } : Jvm.MethodName) jdk_42_method_139_code (1 : Nat) (Option.some (Jvm.ClassFile.FieldType.object "java/lang/String"))).before args0 about1 = true := code_word (m := ⟨7, 5⟩) (meth := k7m5) (c := k7c5) (by decide +kernel) rfl rfl rfl (by decide +kernel)
set_option maxRecDepth 65536 in
theorem w_c38 : (Jvm.Cond.code ({ cls := "java/lang/StringLatin1", name := "canEncode", desc := "(C)Z" } : Jvm.MethodName) jdk_43_method_3_code (1 : Nat) (Option.some Jvm.ClassFile.FieldType.boolean)).before args0 about1 = true := code_word (m := ⟨10, 2⟩) (meth := k10m2) (c := k10c2) (by decide +kernel) rfl rfl rfl (by decide +kernel)
set_option maxRecDepth 65536 in
theorem w_c39 : (Jvm.Cond.code ({ cls := "java/lang/StringLatin1", name := "toBytes", desc := "(C)[B" } : Jvm.MethodName) jdk_43_method_46_code (1 : Nat) (Option.some (Jvm.ClassFile.FieldType.array Jvm.ClassFile.FieldType.byte))).before args0 about1 = true := code_word (m := ⟨10, 4⟩) (meth := k10m4) (c := k10c4) (by decide +kernel) rfl rfl rfl (by decide +kernel)
set_option maxRecDepth 65536 in
theorem w_c40 : (Jvm.Cond.code ({ cls := "java/lang/String", name := "<init>", desc := "([BB)V" } : Jvm.MethodName) jdk_42_method_151_code (3 : Nat) (Option.none : Option Jvm.ClassFile.FieldType)).before args0 about1 = true := code_word (m := ⟨7, 7⟩) (meth := k7m7) (c := k7c7) (by decide +kernel) rfl rfl rfl (by decide +kernel)
set_option maxRecDepth 65536 in
theorem w_c41 : (Jvm.Cond.code ({ cls := "java/lang/StringUTF16", name := "toBytes", desc := "(C)[B" } : Jvm.MethodName) jdk_52_method_24_code (2 : Nat) (Option.some (Jvm.ClassFile.FieldType.array Jvm.ClassFile.FieldType.byte))).before args0 about1 = true := code_word (m := ⟨12, 10⟩) (meth := k12m10) (c := k12c10) (by decide +kernel) rfl rfl rfl (by decide +kernel)
def codes1 : List Jvm.Cond := [Jvm.Cond.code x code maxLocals ret, Jvm.Cond.code ({ cls := "com/example/gumzo/gumzo/core/TaggedBase64EncodePinLaw", name := "str", desc := "(ICC)Ljava/lang/String;" } : Jvm.MethodName) method_4_code (3 : Nat) (Option.some (Jvm.ClassFile.FieldType.object "java/lang/String")), Jvm.Cond.code ({ cls := "java/lang/String", name := "<init>", desc := "([C)V" } : Jvm.MethodName) jdk_42_method_3_code (2 : Nat) (Option.none : Option Jvm.ClassFile.FieldType), Jvm.Cond.code ({ cls := "java/lang/String", name := "<init>", desc := "([CIILjava/lang/Void;)V" } : Jvm.MethodName) jdk_42_method_149_code (6 : Nat) (Option.none : Option Jvm.ClassFile.FieldType), Jvm.Cond.code ({ cls := "java/lang/Object", name := "<init>", desc := "()V" } : Jvm.MethodName) object_method_1_code (1 : Nat) (Option.none : Option Jvm.ClassFile.FieldType), Jvm.Cond.code ({ cls := "com/example/gumzo/gumzo/core/TaggedBase64", name := "encode", desc := "(Ljava/lang/String;[BLjava/lang/String;)Ljava/lang/String;" } : Jvm.MethodName) prog_5_method_2_code (9 : Nat) (Option.some (Jvm.ClassFile.FieldType.object "java/lang/String")), Jvm.Cond.code ({ cls := "java/lang/String", name := "length", desc := "()I" } : Jvm.MethodName) jdk_42_method_54_code (1 : Nat) (Option.some Jvm.ClassFile.FieldType.int), Jvm.Cond.code ({ cls := "java/lang/String", name := "coder", desc := "()B" } : Jvm.MethodName) jdk_42_method_152_code (1 : Nat) (Option.some Jvm.ClassFile.FieldType.byte), Jvm.Cond.code ({ cls := "java/lang/String", name := "getChars", desc := "(II[CI)V" } : Jvm.MethodName) jdk_42_method_61_code (5 : Nat) (Option.none : Option Jvm.ClassFile.FieldType), Jvm.Cond.code ({ cls := "java/lang/String", name := "checkBoundsBeginEnd", desc := "(III)V" } : Jvm.MethodName) jdk_42_method_158_code (3 : Nat) (Option.none : Option Jvm.ClassFile.FieldType), Jvm.Cond.code ({ cls := "jdk/internal/util/Preconditions", name := "checkFromToIndex", desc := "(IIILjava/util/function/BiFunction;)I" } : Jvm.MethodName) jdk_41_method_12_code (4 : Nat) (Option.some Jvm.ClassFile.FieldType.int), Jvm.Cond.code ({ cls := "java/lang/String", name := "checkBoundsOffCount", desc := "(III)I" } : Jvm.MethodName) jdk_42_method_157_code (3 : Nat) (Option.some Jvm.ClassFile.FieldType.int), Jvm.Cond.code ({ cls := "jdk/internal/util/Preconditions", name := "checkFromIndexSize", desc := "(IIILjava/util/function/BiFunction;)I" } : Jvm.MethodName) jdk_41_method_13_code (4 : Nat) (Option.some Jvm.ClassFile.FieldType.int), Jvm.Cond.code ({ cls := "java/lang/String", name := "isLatin1", desc := "()Z" } : Jvm.MethodName) jdk_42_method_154_code (1 : Nat) (Option.some Jvm.ClassFile.FieldType.boolean), Jvm.Cond.code ({ cls := "java/lang/StringLatin1", name := "getChars", desc := "([BII[CI)V" } : Jvm.MethodName) jdk_43_method_11_code (5 : Nat) (Option.none : Option Jvm.ClassFile.FieldType), Jvm.Cond.code ({ cls := "java/lang/StringLatin1", name := "inflate", desc := "([BI[CII)V" } : Jvm.MethodName) jdk_43_method_49_code (6 : Nat) (Option.none : Option Jvm.ClassFile.FieldType), Jvm.Cond.code ({ cls := "com/example/gumzo/gumzo/core/TaggedBase64EncodePinLaw", name := "same", desc := "(Ljava/lang/String;[CII)Z" } : Jvm.MethodName) method_5_code (4 : Nat) (Option.some Jvm.ClassFile.FieldType.boolean), Jvm.Cond.code ({ cls := "java/lang/Math", name := "min", desc := "(II)I" } : Jvm.MethodName) jdk_29_method_69_code (2 : Nat) (Option.some Jvm.ClassFile.FieldType.int), Jvm.Cond.code ({ cls := "com/example/gumzo/gumzo/core/TaggedBase64EncodePinLaw", name := "quad", desc := "([CIIIII)V" } : Jvm.MethodName) method_3_code (8 : Nat) (Option.none : Option Jvm.ClassFile.FieldType), Jvm.Cond.code ({ cls := "com/example/gumzo/gumzo/core/TaggedBase64EncodePinLaw", name := "sym", desc := "(I)C" } : Jvm.MethodName) method_2_code (1 : Nat) (Option.some Jvm.ClassFile.FieldType.char), Jvm.Cond.code ({ cls := "java/lang/StringUTF16", name := "compress", desc := "([CII)[B" } : Jvm.MethodName) jdk_52_method_16_code (6 : Nat) (Option.some (Jvm.ClassFile.FieldType.array Jvm.ClassFile.FieldType.byte)), Jvm.Cond.code ({ cls := "java/lang/StringUTF16", name := "compress", desc := "([CI[BII)I" } : Jvm.MethodName) jdk_52_method_21_code (7 : Nat) (Option.some Jvm.ClassFile.FieldType.int), Jvm.Cond.code ({ cls := "java/lang/StringUTF16", name := "coderFromArrayLen", desc := "([BI)B" } : Jvm.MethodName) jdk_52_method_15_code (2 : Nat) (Option.some Jvm.ClassFile.FieldType.byte), Jvm.Cond.code ({ cls := "java/lang/String", name := "charAt", desc := "(I)C" } : Jvm.MethodName) jdk_42_method_56_code (2 : Nat) (Option.some Jvm.ClassFile.FieldType.char), Jvm.Cond.code ({ cls := "java/lang/StringLatin1", name := "charAt", desc := "([BI)C" } : Jvm.MethodName) jdk_43_method_2_code (2 : Nat) (Option.some Jvm.ClassFile.FieldType.char), Jvm.Cond.code ({ cls := "java/lang/String", name := "checkIndex", desc := "(II)V" } : Jvm.MethodName) jdk_42_method_155_code (2 : Nat) (Option.none : Option Jvm.ClassFile.FieldType), Jvm.Cond.code ({ cls := "jdk/internal/util/Preconditions", name := "checkIndex", desc := "(IILjava/util/function/BiFunction;)I" } : Jvm.MethodName) jdk_41_method_11_code (3 : Nat) (Option.some Jvm.ClassFile.FieldType.int), Jvm.Cond.code ({ cls := "java/lang/StringUTF16", name := "toBytes", desc := "([CII)[B" } : Jvm.MethodName) jdk_52_method_14_code (5 : Nat) (Option.some (Jvm.ClassFile.FieldType.array Jvm.ClassFile.FieldType.byte)), Jvm.Cond.code ({ cls := "java/lang/StringUTF16", name := "newBytesFor", desc := "(I)[B" } : Jvm.MethodName) jdk_52_method_2_code (1 : Nat) (Option.some (Jvm.ClassFile.FieldType.array Jvm.ClassFile.FieldType.byte)), Jvm.Cond.code ({ cls := "java/lang/StringUTF16", name := "newBytesLength", desc := "(I)I" } : Jvm.MethodName) jdk_52_method_3_code (1 : Nat) (Option.some Jvm.ClassFile.FieldType.int), Jvm.Cond.code ({ cls := "java/lang/StringUTF16", name := "putChar", desc := "([BII)V" } : Jvm.MethodName) jdk_52_method_4_code (3 : Nat) (Option.none : Option Jvm.ClassFile.FieldType), Jvm.Cond.code ({ cls := "java/lang/StringUTF16", name := "getChar", desc := "([BI)C" } : Jvm.MethodName) jdk_52_method_5_code (2 : Nat) (Option.some Jvm.ClassFile.FieldType.char), Jvm.Cond.code ({ cls := "java/lang/StringUTF16", name := "getChars", desc := "([BII[CI)V" } : Jvm.MethodName) jdk_52_method_26_code (6 : Nat) (Option.none : Option Jvm.ClassFile.FieldType), Jvm.Cond.code ({ cls := "java/lang/StringUTF16", name := "checkBoundsOffCount", desc := "(II[B)V" } : Jvm.MethodName) jdk_52_method_94_code (3 : Nat) (Option.none : Option Jvm.ClassFile.FieldType), Jvm.Cond.code ({ cls := "java/lang/StringUTF16", name := "length", desc := "([B)I" } : Jvm.MethodName) jdk_52_method_6_code (1 : Nat) (Option.some Jvm.ClassFile.FieldType.int), Jvm.Cond.code ({ cls := "java/lang/StringUTF16", name := "charAt", desc := "([BI)C" } : Jvm.MethodName) jdk_52_method_83_code (2 : Nat) (Option.some Jvm.ClassFile.FieldType.char), Jvm.Cond.code ({ cls := "java/lang/StringUTF16", name := "checkIndex", desc := "(I[B)V" } : Jvm.MethodName) jdk_52_method_91_code (2 : Nat) (Option.none : Option Jvm.ClassFile.FieldType), Jvm.Cond.code ({ cls := "java/lang/String", name := "valueOf", desc := "(C)Ljava/lang/String;" } : Jvm.MethodName) jdk_42_method_139_code (1 : Nat) (Option.some (Jvm.ClassFile.FieldType.object "java/lang/String")), Jvm.Cond.code ({ cls := "java/lang/StringLatin1", name := "canEncode", desc := "(C)Z" } : Jvm.MethodName) jdk_43_method_3_code (1 : Nat) (Option.some Jvm.ClassFile.FieldType.boolean), Jvm.Cond.code ({ cls := "java/lang/StringLatin1", name := "toBytes", desc := "(C)[B" } : Jvm.MethodName) jdk_43_method_46_code (1 : Nat) (Option.some (Jvm.ClassFile.FieldType.array Jvm.ClassFile.FieldType.byte)), Jvm.Cond.code ({ cls := "java/lang/String", name := "<init>", desc := "([BB)V" } : Jvm.MethodName) jdk_42_method_151_code (3 : Nat) (Option.none : Option Jvm.ClassFile.FieldType), Jvm.Cond.code ({ cls := "java/lang/StringUTF16", name := "toBytes", desc := "(C)[B" } : Jvm.MethodName) jdk_52_method_24_code (2 : Nat) (Option.some (Jvm.ClassFile.FieldType.array Jvm.ClassFile.FieldType.byte))]
set_option maxRecDepth 65536 in
theorem codes_eq : words1.filter isCode = codes1 := rfl
theorem w_codes : ∀ c ∈ words1.filter isCode, c.before args0 about1 = true := by
  rw [codes_eq]
  intro c hc
  simp only [codes1, List.mem_cons, List.not_mem_nil, or_false] at hc
  rcases hc with rfl | rfl | rfl | rfl | rfl | rfl | rfl | rfl | rfl | rfl | rfl | rfl | rfl | rfl | rfl | rfl | rfl | rfl | rfl | rfl | rfl | rfl | rfl | rfl | rfl | rfl | rfl | rfl | rfl | rfl | rfl | rfl | rfl | rfl | rfl | rfl | rfl | rfl | rfl | rfl | rfl | rfl
  · exact w_c0
  · exact w_c1
  · exact w_c2
  · exact w_c3
  · exact w_c4
  · exact w_c5
  · exact w_c6
  · exact w_c7
  · exact w_c8
  · exact w_c9
  · exact w_c10
  · exact w_c11
  · exact w_c12
  · exact w_c13
  · exact w_c14
  · exact w_c15
  · exact w_c16
  · exact w_c17
  · exact w_c18
  · exact w_c19
  · exact w_c20
  · exact w_c21
  · exact w_c22
  · exact w_c23
  · exact w_c24
  · exact w_c25
  · exact w_c26
  · exact w_c27
  · exact w_c28
  · exact w_c29
  · exact w_c30
  · exact w_c31
  · exact w_c32
  · exact w_c33
  · exact w_c34
  · exact w_c35
  · exact w_c36
  · exact w_c37
  · exact w_c38
  · exact w_c39
  · exact w_c40
  · exact w_c41
set_option maxRecDepth 65536 in
theorem w_t1 : (words1.take 24).all (fun c => isCode c || c.before args0 about1) = true := by decide +kernel
set_option maxRecDepth 65536 in
theorem w_t2 : ((words1.drop 24).take 24).all (fun c => isCode c || c.before args0 about1) = true := by decide +kernel
set_option maxRecDepth 65536 in
theorem w_t3 : (((words1.drop 24).drop 24).take 24).all (fun c => isCode c || c.before args0 about1) = true := by decide +kernel
set_option maxRecDepth 65536 in
theorem w_t4 : ((((words1.drop 24).drop 24).drop 24).take 24).all (fun c => isCode c || c.before args0 about1) = true := by decide +kernel
set_option maxRecDepth 65536 in
theorem w_t5 : (((((words1.drop 24).drop 24).drop 24).drop 24).take 24).all (fun c => isCode c || c.before args0 about1) = true := by decide +kernel
set_option maxRecDepth 65536 in
theorem w_t6 : ((((((words1.drop 24).drop 24).drop 24).drop 24).drop 24).take 24).all (fun c => isCode c || c.before args0 about1) = true := by decide +kernel
set_option maxRecDepth 65536 in
theorem w_t7 : (((((((words1.drop 24).drop 24).drop 24).drop 24).drop 24).drop 24).take 24).all (fun c => isCode c || c.before args0 about1) = true := by decide +kernel
set_option maxRecDepth 65536 in
theorem w_t8 : (((((((words1.drop 24).drop 24).drop 24).drop 24).drop 24).drop 24).drop 24).all (fun c => isCode c || c.before args0 about1) = true := by decide +kernel
theorem w_tables : (allAtoms (Jvm.Cond.code x code maxLocals ret :: tables_1)).before args0 about1 = true := by
  rw [allAtoms_all]
  show words1.all (fun c => c.before args0 about1) = true
  refine all_split ?_ w_codes
  rw [← List.take_append_drop 24 words1, List.all_append, w_t1, ← List.take_append_drop 24 (words1.drop 24), List.all_append, w_t2, ← List.take_append_drop 24 ((words1.drop 24).drop 24), List.all_append, w_t3, ← List.take_append_drop 24 (((words1.drop 24).drop 24).drop 24), List.all_append, w_t4, ← List.take_append_drop 24 ((((words1.drop 24).drop 24).drop 24).drop 24), List.all_append, w_t5, ← List.take_append_drop 24 (((((words1.drop 24).drop 24).drop 24).drop 24).drop 24), List.all_append, w_t6, ← List.take_append_drop 24 ((((((words1.drop 24).drop 24).drop 24).drop 24).drop 24).drop 24), List.all_append, w_t7, w_t8]
  rfl
set_option maxRecDepth 65536 in
theorem w_rest : rest_1_c.before args0 about1 = true := by decide +kernel
set_option maxRecDepth 65536 in
theorem w_case : (Jvm.Cond.and given_1 narrow_1).before args0 about1 = true := by decide +kernel
set_option maxRecDepth 65536 in
theorem w_consts : constsHeld consts_1 about1 := Jvm.Lit.constsHeldB_iff.mp (by decide +kernel)
theorem w_applies : (headSpec (Jvm.Cond.code x code maxLocals ret :: tables_1) room_1).applies x e0.platform about1 = true :=
  (Spec.applies_iff w_frames).mpr ⟨w_running, w_runnable, w_alone, w_named, w_hears, w_ripe, w_room, w_tables⟩
theorem atStart : AtStart classFile x code maxLocals ret World_1 tables_1 room_1 Calls_1 rest_1 Pre_1 launch0 p0 e0 about1 theMethod args0 below0 :=
  ⟨lists_1, trivial, launch0.admits_env _ _ _, launch0.least_env, fairChoices_fair.cas, fairChoices_fair.clock, w_frames, w_args, w_heap, w_applies, ⟨w_consts, trivial⟩, w_rest, w_case⟩
end start1
theorem witness_1 : WitnessClaimed_1 := ⟨start1.p0, start1.e0, start1.about1, start1.theMethod, start1.args0, start1.below0, start1.atStart⟩
end Jvm.Pilot.@@N@@
