import JvmDerived
import JvmDerived.Pilot.@@N@@Statement
import JvmDerived.Pilot.@@N@@Code
set_option linter.unusedVariables false
set_option linter.unusedSimpArgs false
namespace Jvm.RoadKit
open Sem ClassFile Op Lib Jvm.Stand Jvm.Free Jvm.LawKit
section New
variable {p : Program} {l : Launch} {e : Env} {R : Room} {s : State} {m : MethodId} {args : Array Value} {below : List Frame} {meth : Method} {c : Code} {T : State} {locs : List Loc} {cells slots : Nat}
theorem retI (X : Stand p l e R s m args below meth c T locs cells slots) (hx : p.tables.exec = Jvm.exec) {pc : Nat} {Ls : Array Slot} {z : Int32} {rest : List Value} (hret : meth.sig.returnType = some .int) (hd : decode c.code pc = .ok (.ireturn, 1)) {fs : List Frame}
    (hl : ∀ (f : JFrame) (acts : List Action), f.method = m → f.locked = none → f.entered = [] → (doReturn e (T.setTop f) acts (some (.int z))).1 = T.setFrames fs) : Steps p.tables e below (T.setTop (mkF m pc Ls (.int z :: rest))) (T.setFrames fs) := by
  have hm' : T.vm.method? m = some meth := X.method'
  have hn : narrow .int (.int z) = .int z := rfl
  show Steps p.tables e below (T.setTop { method := m, pc := pc, locals := Ls, stack := _ :: rest, locked := none }) _
  jvm_step X.here [X.here.top, hx, hd, hm', hret, hn]
  first | (intro acts; rw [hl _ acts rfl rfl rfl]) | rw [hl _ _ rfl rfl rfl]
  exact Steps.refl _
end New
end Jvm.RoadKit
namespace Jvm.Pilot.@@N@@
open Jvm Jvm.ClassFile Sem Op Lib Jvm.Free Jvm.Stand Jvm.LawKit Jvm.RoadKit Bundle Jvm.Pilot.@@N@@.Jvm.D
theorem own_fldI {args : Array Value} {s : State} {t : Term} {C n d : String} {x : Addr} {k : Int32} (ht : t.eval args s none [] s = some (.ref x)) (h : (Cond.eq (.field t C n d) (.int k)).value args s none s [] = some true) : Fld s s.heap x C n d (.int k) := by
  obtain ⟨v, y, e1, e2, k1, k2⟩ := cmp_v (Or.inl h)
  have e2' : y = .int k := (Option.some.inj e2).symm
  subst e2'
  obtain ⟨z, rfl⟩ := k2
  have q : z = k := gotT (Cond.eq_ints e1 (Term.int_eval k)) h
  subst q
  exact Fld.start ((fld_at ht).symm.trans e1)
theorem own_fldR {args : Array Value} {s : State} {t u : Term} {C n d : String} {x r : Addr} (ht : t.eval args s none [] s = some (.ref x)) (hu : u.eval args s none [] s = some (.ref r)) (h : (Cond.eq (.field t C n d) u).value args s none s [] = some true) : Fld s s.heap x C n d (.ref r) := by
  obtain ⟨v, y, e1, e2, k1, k2⟩ := cmp_v (Or.inl h)
  have e2' : y = .ref r := Option.some.inj (e2.symm.trans hu)
  subst e2'
  have hv : v.isRef = true := k2.2
  have q := gotT (eq_R e1 e2 hv rfl) h
  subst q
  exact Fld.start ((fld_at ht).symm.trans e1)
theorem d1_0 : decode prog_75_method_6_code 0 = .ok (.aload_n 0, 1) := by decide +kernel
theorem d1_1 : decode prog_75_method_6_code 1 = .ok (.getfield 46, 3) := by decide +kernel
theorem d1_4 : decode prog_75_method_6_code 4 = .ok (.getstatic 54, 3) := by decide +kernel
theorem d1_7 : decode prog_75_method_6_code 7 = .ok (.if_acmp .ne 7, 3) := by decide +kernel
theorem d1_14 : decode prog_75_method_6_code 14 = .ok (.iconst 0, 1) := by decide +kernel
theorem d1_15 : decode prog_75_method_6_code 15 = .ok (.ireturn, 1) := by decide +kernel
theorem pn_1 : plainName "com/example/margrave/margrave/margin/Tier" = true := by first | (simp [plainName, overriddenIn]; done) | decide +kernel
theorem ef_1 (m : MethodId) (x0 : Addr) : entryFrame m #[(.ref x0)] 1 = mkF m 0 #[.val (.ref x0)] [] := by first | (simp [entryFrame, mkF, argsToLocals, Value.category]; done) | rfl
def Q1a (Z : State) (a1 : Addr) (w2 : Addr) (w4 : Addr) (h0 : Heap) (n0 : Nat) (v : Option Value) (h : Heap) (L : List Loc) : Prop := v = some (.int (0 : Int32)) ∧ Fr n0 L ∧ h = h0
set_option maxRecDepth 65536 in
set_option maxHeartbeats 40000000 in
theorem rm1a (l : Launch) (Z : State) (a0 : Array Value) (hw : ∀ d ∈ tables_1, d.before a0 Z = true) (ws : List Jvm.Cond) (a1 : Addr) (w2 : Addr) (w4 : Addr) (h0 : Heap) (n0 : Nat) (Z0 : n0 ≤ h0.size) (F_method_a1 : Fld Z h0 a1 "com/example/margrave/margrave/margin/Tier" "method" "Lcom/example/margrave/margrave/core/Method;" (.ref w2)) (S_RATIO : Sta Z h0 "com/example/margrave/margrave/core/Method" "RATIO" "Lcom/example/margrave/margrave/core/Method;" (.ref w4)) (ha7 : ¬ (w2 = w4)) :
    MetFree l (⟨"com/example/margrave/margrave/margin/Tier", "isPercentage", "()Z"⟩ : MethodName) (head1 (Jvm.Cond.code (⟨"com/example/margrave/margrave/margin/Tier", "isPercentage", "()Z"⟩ : MethodName) prog_75_method_6_code 1 (some .boolean) :: ws) ({ frames := 0, cells := 0, slots := 0, locals := 0 } : Room)) (fun a U => a = #[(.ref a1)] ∧ Z.Warmed39 U.vm ∧ U.heap = h0) (fun _ _ _ _ _ => True) (fun _ U o U' => ∃ v L, o = .returned v ∧ Q1a Z a1 w2 w4 h0 n0 v U'.heap L ∧ FrameEnd U o U' L ({ frames := 0, cells := 0, slots := 0, locals := 0 } : Room).cells ({ frames := 0, cells := 0, slots := 0, locals := 0 } : Room).slots) := by
  refine MetFree.of_bodySF (plainFor_of_name pn_1) hisR ?_
  intro p e s m args below meth c s₁ Bd hml0 hP hK
  obtain ⟨rfl, hZ, hh⟩ := hP
  have hx := Bd.exec
  have hby := Bd.bytes
  have hml : c.maxLocals = 1 := hml0
  have hown : s.vm.findClass "com/example/margrave/margrave/margin/Tier" = some m.cls := findClass_of_methodNamed Bd.named
  have hnm := (name_of_methodNamed Bd.named Bd.method).1
  have X0 : Stand p l e ({ frames := 0, cells := 0, slots := 0, locals := 0 } : Room) s m #[(.ref a1)] below meth c s₁ [] 0 0 := Stand.of_body Bd
  have e0 : s₁.heap = h0 := by rw [← hh, Bd.state]; rfl
  have N0 := Fr.nil n0
  have pre0 : ∀ t, Steps p.tables e below (s₁.setTop (mkF m 0 #[.val (.ref a1)] [])) t → Steps p.tables e below (s₁.setTop (entryFrame m #[(.ref a1)] 1)) t := fun t k => castTop (ef_1 m a1) k
  -- 3. LAWS
  obtain ⟨T3, X3, e3, st3⟩ := getF X0 hx hZ hown (host := "") (Or.inl (hw _ (List.mem_of_getElem? (i := 9) rfl))) Via.refl e0 F_method_a1 (g := (mkF m 1 #[.val (.ref a1)] [(.ref a1)])) rfl rfl (hb hby d1_1)
  obtain ⟨T5, X5, e5, st5⟩ := getS2 X3 hx hZ hown (host := "") (Or.inl (hw _ (List.mem_of_getElem? (i := 13) rfl))) Via.refl e3 S_RATIO (g := (mkF m 4 #[.val (.ref a1)] [(.ref w2)])) rfl (hb hby d1_4)
  obtain ⟨fs, hr, hrun, hended, hW, hsame⟩ := X5.leave (v := some (.int (0 : Int32))) (fun h => by rw [Bd.returns] at h; cases h)
  refine ⟨_, _, pre0 _ ?_, hrun, hended, _, _, rfl, ?_, ⟨_, rfl⟩, hW, hsame.mono (by decide) (by decide)⟩
  -- 4. STEPS
  · show Steps p.tables e below (s₁.setTop (mkF m 0 #[.val (.ref a1)] [])) _
    refine XS.aloadN X0.here hx rfl (hb hby d1_0) rfl rfl ?_
    show Steps p.tables e below (s₁.setTop (mkF m 1 #[.val (.ref a1)] [(.ref a1)])) _
    refine st3 _ ?_
    show Steps p.tables e below (T3.setTop (mkF m 4 #[.val (.ref a1)] [(.ref w2)])) _
    refine st5 _ ?_
    show Steps p.tables e below (T5.setTop (mkF m 7 #[.val (.ref a1)] [(.ref w4), (.ref w2)])) _
    refine Jvm.RoadKit.acmp (g := (mkF m 7 #[.val (.ref a1)] [(.ref w4), (.ref w2)])) X5 hx rfl rfl rfl (pc0 := 7) (pc' := 14) (same := false) rfl (hb hby d1_7) rfl (decide_eq_false fun q => ha7 (Value.ref.inj q)) (by decide) (by decide) ?_
    show Steps p.tables e below (T5.setTop (mkF m 14 #[.val (.ref a1)] [])) _
    refine XS.iconst X5.here hx rfl (hb hby d1_14) ?_
    show Steps p.tables e below (T5.setTop (mkF m 15 #[.val (.ref a1)] [(.int (0 : Int32))])) _
    exact retN X5 hx (t := .boolean) Bd.returns (by simp) (hb hby d1_15) hr
  · show Q1a Z a1 w2 w4 h0 n0 _ T5.heap _
    rw [e5]
    exact ⟨rfl, N0, rfl⟩
theorem d1_10 : decode prog_75_method_6_code 10 = .ok (.iconst 1, 1) := by decide +kernel
theorem d1_11 : decode prog_75_method_6_code 11 = .ok (.goto 4, 3) := by decide +kernel
def Q1b (Z : State) (a1 : Addr) (w2 : Addr) (w4 : Addr) (h0 : Heap) (n0 : Nat) (v : Option Value) (h : Heap) (L : List Loc) : Prop := v = some (.int (1 : Int32)) ∧ Fr n0 L ∧ h = h0
set_option maxRecDepth 65536 in
set_option maxHeartbeats 40000000 in
theorem rm1b (l : Launch) (Z : State) (a0 : Array Value) (hw : ∀ d ∈ tables_1, d.before a0 Z = true) (ws : List Jvm.Cond) (a1 : Addr) (w2 : Addr) (w4 : Addr) (h0 : Heap) (n0 : Nat) (Z0 : n0 ≤ h0.size) (F_method_a1 : Fld Z h0 a1 "com/example/margrave/margrave/margin/Tier" "method" "Lcom/example/margrave/margrave/core/Method;" (.ref w2)) (S_RATIO : Sta Z h0 "com/example/margrave/margrave/core/Method" "RATIO" "Lcom/example/margrave/margrave/core/Method;" (.ref w4)) (ha7 : w2 = w4) :
    MetFree l (⟨"com/example/margrave/margrave/margin/Tier", "isPercentage", "()Z"⟩ : MethodName) (head1 (Jvm.Cond.code (⟨"com/example/margrave/margrave/margin/Tier", "isPercentage", "()Z"⟩ : MethodName) prog_75_method_6_code 1 (some .boolean) :: ws) ({ frames := 0, cells := 0, slots := 0, locals := 0 } : Room)) (fun a U => a = #[(.ref a1)] ∧ Z.Warmed39 U.vm ∧ U.heap = h0) (fun _ _ _ _ _ => True) (fun _ U o U' => ∃ v L, o = .returned v ∧ Q1b Z a1 w2 w4 h0 n0 v U'.heap L ∧ FrameEnd U o U' L ({ frames := 0, cells := 0, slots := 0, locals := 0 } : Room).cells ({ frames := 0, cells := 0, slots := 0, locals := 0 } : Room).slots) := by
  refine MetFree.of_bodySF (plainFor_of_name pn_1) hisR ?_
  intro p e s m args below meth c s₁ Bd hml0 hP hK
  obtain ⟨rfl, hZ, hh⟩ := hP
  have hx := Bd.exec
  have hby := Bd.bytes
  have hml : c.maxLocals = 1 := hml0
  have hown : s.vm.findClass "com/example/margrave/margrave/margin/Tier" = some m.cls := findClass_of_methodNamed Bd.named
  have hnm := (name_of_methodNamed Bd.named Bd.method).1
  have X0 : Stand p l e ({ frames := 0, cells := 0, slots := 0, locals := 0 } : Room) s m #[(.ref a1)] below meth c s₁ [] 0 0 := Stand.of_body Bd
  have e0 : s₁.heap = h0 := by rw [← hh, Bd.state]; rfl
  have N0 := Fr.nil n0
  have pre0 : ∀ t, Steps p.tables e below (s₁.setTop (mkF m 0 #[.val (.ref a1)] [])) t → Steps p.tables e below (s₁.setTop (entryFrame m #[(.ref a1)] 1)) t := fun t k => castTop (ef_1 m a1) k
  -- 3. LAWS
  obtain ⟨T3, X3, e3, st3⟩ := getF X0 hx hZ hown (host := "") (Or.inl (hw _ (List.mem_of_getElem? (i := 9) rfl))) Via.refl e0 F_method_a1 (g := (mkF m 1 #[.val (.ref a1)] [(.ref a1)])) rfl rfl (hb hby d1_1)
  obtain ⟨T5, X5, e5, st5⟩ := getS2 X3 hx hZ hown (host := "") (Or.inl (hw _ (List.mem_of_getElem? (i := 13) rfl))) Via.refl e3 S_RATIO (g := (mkF m 4 #[.val (.ref a1)] [(.ref w2)])) rfl (hb hby d1_4)
  obtain ⟨fs, hr, hrun, hended, hW, hsame⟩ := X5.leave (v := some (.int (1 : Int32))) (fun h => by rw [Bd.returns] at h; cases h)
  refine ⟨_, _, pre0 _ ?_, hrun, hended, _, _, rfl, ?_, ⟨_, rfl⟩, hW, hsame.mono (by decide) (by decide)⟩
  -- 4. STEPS
  · show Steps p.tables e below (s₁.setTop (mkF m 0 #[.val (.ref a1)] [])) _
    refine XS.aloadN X0.here hx rfl (hb hby d1_0) rfl rfl ?_
    show Steps p.tables e below (s₁.setTop (mkF m 1 #[.val (.ref a1)] [(.ref a1)])) _
    refine st3 _ ?_
    show Steps p.tables e below (T3.setTop (mkF m 4 #[.val (.ref a1)] [(.ref w2)])) _
    refine st5 _ ?_
    show Steps p.tables e below (T5.setTop (mkF m 7 #[.val (.ref a1)] [(.ref w4), (.ref w2)])) _
    refine Jvm.RoadKit.acmp (g := (mkF m 7 #[.val (.ref a1)] [(.ref w4), (.ref w2)])) X5 hx rfl rfl rfl (pc0 := 7) (pc' := 10) (same := true) rfl (hb hby d1_7) rfl (decide_eq_true (congrArg Value.ref ha7)) (by decide) (by decide) ?_
    show Steps p.tables e below (T5.setTop (mkF m 10 #[.val (.ref a1)] [])) _
    refine XS.iconst X5.here hx rfl (hb hby d1_10) ?_
    show Steps p.tables e below (T5.setTop (mkF m 11 #[.val (.ref a1)] [(.int (1 : Int32))])) _
    refine XS.goto X5.here hx rfl (pc0 := 11) (pc' := 15) rfl (hb hby d1_11) (by decide) (by decide) ?_
    show Steps p.tables e below (T5.setTop (mkF m 15 #[.val (.ref a1)] [(.int (1 : Int32))])) _
    exact retN X5 hx (t := .boolean) Bd.returns (by simp) (hb hby d1_15) hr
  · show Q1b Z a1 w2 w4 h0 n0 _ T5.heap _
    rw [e5]
    exact ⟨rfl, N0, rfl⟩
theorem d2_0 : decode prog_75_method_5_code 0 = .ok (.aload_n 0, 1) := by decide +kernel
theorem d2_1 : decode prog_75_method_5_code 1 = .ok (.getfield 46, 3) := by decide +kernel
theorem d2_4 : decode prog_75_method_5_code 4 = .ok (.areturn, 1) := by decide +kernel
theorem pn_2 : plainName "com/example/margrave/margrave/margin/Tier" = true := by first | (simp [plainName, overriddenIn]; done) | decide +kernel
theorem ef_2 (m : MethodId) (x0 : Addr) : entryFrame m #[(.ref x0)] 1 = mkF m 0 #[.val (.ref x0)] [] := by first | (simp [entryFrame, mkF, argsToLocals, Value.category]; done) | rfl
def Q2 (Z : State) (a1 : Addr) (w2 : Addr) (h0 : Heap) (n0 : Nat) (v : Option Value) (h : Heap) (L : List Loc) : Prop := v = some (.ref w2) ∧ Fr n0 L ∧ h = h0
set_option maxRecDepth 65536 in
set_option maxHeartbeats 40000000 in
theorem rm2 (l : Launch) (Z : State) (a0 : Array Value) (hw : ∀ d ∈ tables_1, d.before a0 Z = true) (ws : List Jvm.Cond) (a1 : Addr) (w2 : Addr) (h0 : Heap) (n0 : Nat) (Z0 : n0 ≤ h0.size) (F_method_a1 : Fld Z h0 a1 "com/example/margrave/margrave/margin/Tier" "method" "Lcom/example/margrave/margrave/core/Method;" (.ref w2)) :
    MetFree l (⟨"com/example/margrave/margrave/margin/Tier", "method", "()Lcom/example/margrave/margrave/core/Method;"⟩ : MethodName) (head1 (Jvm.Cond.code (⟨"com/example/margrave/margrave/margin/Tier", "method", "()Lcom/example/margrave/margrave/core/Method;"⟩ : MethodName) prog_75_method_5_code 1 (some (.object "com/example/margrave/margrave/core/Method")) :: ws) ({ frames := 0, cells := 0, slots := 0, locals := 0 } : Room)) (fun a U => a = #[(.ref a1)] ∧ Z.Warmed39 U.vm ∧ U.heap = h0) (fun _ _ _ _ _ => True) (fun _ U o U' => ∃ v L, o = .returned v ∧ Q2 Z a1 w2 h0 n0 v U'.heap L ∧ FrameEnd U o U' L ({ frames := 0, cells := 0, slots := 0, locals := 0 } : Room).cells ({ frames := 0, cells := 0, slots := 0, locals := 0 } : Room).slots) := by
  refine MetFree.of_bodySF (plainFor_of_name pn_2) hisR ?_
  intro p e s m args below meth c s₁ Bd hml0 hP hK
  obtain ⟨rfl, hZ, hh⟩ := hP
  have hx := Bd.exec
  have hby := Bd.bytes
  have hml : c.maxLocals = 1 := hml0
  have hown : s.vm.findClass "com/example/margrave/margrave/margin/Tier" = some m.cls := findClass_of_methodNamed Bd.named
  have hnm := (name_of_methodNamed Bd.named Bd.method).1
  have X0 : Stand p l e ({ frames := 0, cells := 0, slots := 0, locals := 0 } : Room) s m #[(.ref a1)] below meth c s₁ [] 0 0 := Stand.of_body Bd
  have e0 : s₁.heap = h0 := by rw [← hh, Bd.state]; rfl
  have N0 := Fr.nil n0
  have pre0 : ∀ t, Steps p.tables e below (s₁.setTop (mkF m 0 #[.val (.ref a1)] [])) t → Steps p.tables e below (s₁.setTop (entryFrame m #[(.ref a1)] 1)) t := fun t k => castTop (ef_2 m a1) k
  -- 3. LAWS
  obtain ⟨T3, X3, e3, st3⟩ := getF X0 hx hZ hown (host := "") (Or.inl (hw _ (List.mem_of_getElem? (i := 9) rfl))) Via.refl e0 F_method_a1 (g := (mkF m 1 #[.val (.ref a1)] [(.ref a1)])) rfl rfl (hb hby d2_1)
  obtain ⟨fs, hr, hrun, hended, hW, hsame⟩ := X3.leave (v := some (.ref w2)) (fun h => by rw [Bd.returns] at h; cases h)
  refine ⟨_, _, pre0 _ ?_, hrun, hended, _, _, rfl, ?_, ⟨_, rfl⟩, hW, hsame.mono (by decide) (by decide)⟩
  -- 4. STEPS
  · show Steps p.tables e below (s₁.setTop (mkF m 0 #[.val (.ref a1)] [])) _
    refine XS.aloadN X0.here hx rfl (hb hby d2_0) rfl rfl ?_
    show Steps p.tables e below (s₁.setTop (mkF m 1 #[.val (.ref a1)] [(.ref a1)])) _
    refine st3 _ ?_
    show Steps p.tables e below (T3.setTop (mkF m 4 #[.val (.ref a1)] [(.ref w2)])) _
    jvm_step X3.here [X3.here.top, hx, (hb hby d2_4), X3.method', Bd.returns, Value.isRef, FieldType.isReference]
    first | (intro acts; rw [hr _ acts rfl rfl rfl]) | rw [hr _ _ rfl rfl rfl]
    exact Steps.refl _
  · show Q2 Z a1 w2 h0 n0 _ T3.heap _
    rw [e3]
    exact ⟨rfl, N0, rfl⟩
theorem pn_0 : plainName "com/example/margrave/margrave/margin/TierIsPercentagePinLaw" = true := by first | (simp [plainName, overriddenIn]; done) | decide +kernel
theorem pd_0_0 : parseMethodDescriptor "()Z" = some ⟨[], some .boolean⟩ := by decide +kernel
theorem pd_0_1 : parseMethodDescriptor "()Lcom/example/margrave/margrave/core/Method;" = some ⟨[], some (.object "com/example/margrave/margrave/core/Method")⟩ := by decide +kernel
theorem ef_0 (m : MethodId) (x0 : Int32) : entryFrame m #[(.int x0)] maxLocals = mkF m 0 #[.val (.int x0), .unset, .unset, .unset, .unset, .unset] [] := by first | (simp [entryFrame, mkF, argsToLocals, Value.category, maxLocals]; done) | rfl
def Q0a (Z : State) (p1 : Int32) (w2 : Addr) (w6 : Addr) (h0 : Heap) (n0 : Nat) (v : Option Value) (h : Heap) (L : List Loc) : Prop := v = some (.int (1 : Int32)) ∧ Fr n0 L ∧ h = h0
set_option maxRecDepth 65536 in
set_option maxHeartbeats 40000000 in
theorem rm0a (l : Launch) (Z : State) (a0 : Array Value) (hw : ∀ d ∈ tables_1, d.before a0 Z = true) (ws : List Jvm.Cond) (p1 : Int32) (w2 : Addr) (w6 : Addr) (h0 : Heap) (n0 : Nat) (Z0 : n0 ≤ h0.size) (wm : Addr) (F_method : Fld Z h0 w2 "com/example/margrave/margrave/margin/Tier" "method" "Lcom/example/margrave/margrave/core/Method;" (.ref wm)) (S_A : Sta Z h0 "com/example/margrave/margrave/margin/Tier" "A" "Lcom/example/margrave/margrave/margin/Tier;" (.ref w2)) (E_w2 : Exa Z h0 w2 "com/example/margrave/margrave/margin/Tier") (S_RATIO : Sta Z h0 "com/example/margrave/margrave/core/Method" "RATIO" "Lcom/example/margrave/margrave/core/Method;" (.ref w6)) (hnz5 : ¬ ((5 : Int32) = (0 : Int32))) (hc8 : ((p1 &&& (2147483647 : Int32)) % (5 : Int32)) = (0 : Int32)) (ha81 : ¬ (wm = w6)) :
    MetFree l x (head1 (Jvm.Cond.code x code maxLocals ret :: ws) room_1) (fun a U => a = #[(.int p1)] ∧ Z.Warmed39 U.vm ∧ U.heap = h0) (fun _ _ _ _ _ => True) (fun _ U o U' => ∃ v L, o = .returned v ∧ Q0a Z p1 w2 w6 h0 n0 v U'.heap L ∧ FrameEnd U o U' L room_1.cells room_1.slots) := by
  refine MetFree.of_bodySF (plainFor_of_name pn_0) hisR ?_
  intro p e s m args below meth c s₁ Bd hml0 hP hK
  obtain ⟨rfl, hZ, hh⟩ := hP
  have hx := Bd.exec
  have hby := Bd.bytes
  have hml : c.maxLocals = 6 := hml0
  have hown : s.vm.findClass "com/example/margrave/margrave/margin/TierIsPercentagePinLaw" = some m.cls := findClass_of_methodNamed Bd.named
  have hnm := (name_of_methodNamed Bd.named Bd.method).1
  have X0 : Stand p l e room_1 s m #[(.int p1)] below meth c s₁ [] 0 0 := Stand.of_body Bd
  have e0 : s₁.heap = h0 := by rw [← hh, Bd.state]; rfl
  have N0 := Fr.nil n0
  have pre0 : ∀ t, Steps p.tables e below (s₁.setTop (mkF m 0 #[.val (.int p1), .unset, .unset, .unset, .unset, .unset] [])) t → Steps p.tables e below (s₁.setTop (entryFrame m #[(.int p1)] maxLocals)) t := fun t k => castTop (ef_0 m p1) k
  -- 3. LAWS
  obtain ⟨T3, X3, e3, st3⟩ := getS2 X0 hx hZ hown (host := "") (Or.inl (hw _ (List.mem_of_getElem? (i := 1) rfl))) Via.refl e0 S_A (g := (mkF m 11 #[.val (.int p1), .val (.int ((p1 &&& (2147483647 : Int32)) % (5 : Int32))), .unset, .unset, .unset, .unset] [])) rfl (hb hby at_11)
  -- pc 69: com/example/margrave/margrave/margin/Tier.isPercentage by the contract of the body that the receiver's class selects, rm1
  obtain ⟨cq4, kq4, q4a, q4b, q4c⟩ := isOf hZ e3 E_w2
  obtain ⟨_, _, ⟨T4, L4, k4, n4⟩, -, X4, ⟨Lc4, hQ4, l4, y4, z4⟩, st4⟩ := X3.virtualBack hx (y := (⟨"com/example/margrave/margrave/margin/Tier", "isPercentage", "()Z"⟩ : MethodName)) (z := (⟨"com/example/margrave/margrave/margin/Tier", "isPercentage", "()Z"⟩ : MethodName)) hown (mvT hZ (hw _ (List.mem_of_getElem? (i := 4) rfl))) (mvT hZ (hw _ (List.mem_of_getElem? (i := 5) rfl))) (notFace_of_selects (args := #[]) (mvT hZ (hw _ (List.mem_of_getElem? (i := 7) rfl)))) (mvT hZ (hw _ (List.mem_of_getElem? (i := 7) rfl))) (mvT hZ (hw _ (List.mem_of_getElem? (i := 6) rfl))) (by decide) (backOf (W := 0) (rm1a l Z a0 hw [] w2 wm w6 h0 n0 Z0 F_method S_RATIO ha81) hZ (hw _ (List.mem_of_getElem? (i := 8) rfl)) (hw _ (List.mem_of_getElem? (i := 2) rfl)) (by decide) (by decide)) q4a q4c (g := (mkF m 69 #[.val (.int p1), .val (.int ((p1 &&& (2147483647 : Int32)) % (5 : Int32))), .val (.ref w2), .val (.int (0 : Int32)), .unset, .unset] [(.ref w2)])) rfl (by rw [hml]; rfl) (Steps.refl _) (argsL := []) (rest := []) (lenOf pd_0_0 rfl) rfl (by show 2 * 0 + _ ≤ _; exact Nat.le_of_eq rfl) (hb hby at_69) (fun _ _ => ⟨rfl, e3, (by exact Nat.le_of_ble_eq_true rfl), (by exact Nat.le_of_ble_eq_true rfl)⟩)
  dsimp only [Pt.U, Pt.locs, Pt.cells, Pt.slots] at X4 l4 y4 z4 st4 hQ4
  subst l4 y4 z4
  obtain ⟨rfl, N4q, eQ4⟩ := hQ4      -- what it returned, that it wrote nothing old, and the rest of your Q1
  have N4 := Fr.app N0 N4q
  -- pc 75: com/example/margrave/margrave/margin/Tier.method by the contract of the body that the receiver's class selects, rm2
  obtain ⟨cq5, kq5, q5a, q5b, q5c⟩ := isOf hZ eQ4 E_w2
  obtain ⟨_, _, ⟨T5, L5, k5, n5⟩, -, X5, ⟨Lc5, hQ5, l5, y5, z5⟩, st5⟩ := X4.virtualBack hx (y := (⟨"com/example/margrave/margrave/margin/Tier", "method", "()Lcom/example/margrave/margrave/core/Method;"⟩ : MethodName)) (z := (⟨"com/example/margrave/margrave/margin/Tier", "method", "()Lcom/example/margrave/margrave/core/Method;"⟩ : MethodName)) hown (mvT hZ (hw _ (List.mem_of_getElem? (i := 15) rfl))) (mvT hZ (hw _ (List.mem_of_getElem? (i := 16) rfl))) (notFace_of_selects (args := #[]) (mvT hZ (hw _ (List.mem_of_getElem? (i := 18) rfl)))) (mvT hZ (hw _ (List.mem_of_getElem? (i := 18) rfl))) (mvT hZ (hw _ (List.mem_of_getElem? (i := 17) rfl))) (by decide) (backOf (W := 0) (rm2 l Z a0 hw [] w2 wm h0 n0 Z0 F_method) hZ (hw _ (List.mem_of_getElem? (i := 19) rfl)) (hw _ (List.mem_of_getElem? (i := 2) rfl)) (by decide) (by decide)) q5a q5c (g := (mkF m 75 #[.val (.int p1), .val (.int ((p1 &&& (2147483647 : Int32)) % (5 : Int32))), .val (.ref w2), .val (.int (0 : Int32)), .val (.int (0 : Int32)), .unset] [(.ref w2)])) rfl (by rw [hml]; rfl) (Steps.refl _) (argsL := []) (rest := []) (lenOf pd_0_1 rfl) rfl (by show 2 * 0 + _ ≤ _; exact Nat.le_of_eq rfl) (hb hby at_75) (fun _ _ => ⟨rfl, eQ4, (by exact Nat.le_of_ble_eq_true rfl), (by exact Nat.le_of_ble_eq_true rfl)⟩)
  dsimp only [Pt.U, Pt.locs, Pt.cells, Pt.slots] at X5 l5 y5 z5 st5 hQ5
  subst l5 y5 z5
  obtain ⟨rfl, N5q, eQ5⟩ := hQ5      -- what it returned, that it wrote nothing old, and the rest of your Q2
  have N5 := Fr.app N4 N5q
  obtain ⟨T7, X7, e7, st7⟩ := getS2 X5 hx hZ hown (host := "") (Or.inl (hw _ (List.mem_of_getElem? (i := 20) rfl))) Via.refl eQ5 S_RATIO (g := (mkF m 78 #[.val (.int p1), .val (.int ((p1 &&& (2147483647 : Int32)) % (5 : Int32))), .val (.ref w2), .val (.int (0 : Int32)), .val (.int (0 : Int32)), .unset] [(.ref wm)])) rfl (hb hby at_78)
  obtain ⟨fs, hr, hrun, hended, hW, hsame⟩ := X7.leave (v := some (.int (1 : Int32))) (fun h => by rw [Bd.returns] at h; cases h)
  refine ⟨_, _, pre0 _ ?_, hrun, hended, _, _, rfl, ?_, ⟨_, rfl⟩, hW, hsame.mono (by decide) (by decide)⟩
  -- 4. STEPS
  · show Steps p.tables e below (s₁.setTop (mkF m 0 #[.val (.int p1), .unset, .unset, .unset, .unset, .unset] [])) _
    refine XS.iloadN X0.here hx rfl (hb hby at_0) rfl ?_
    show Steps p.tables e below (s₁.setTop (mkF m 1 #[.val (.int p1), .unset, .unset, .unset, .unset, .unset] [(.int p1)])) _
    refine X0.ldcInt hx hown (mvT hZ (hw _ (List.mem_of_getElem? (i := 0) rfl))) (g := (mkF m 1 #[.val (.int p1), .unset, .unset, .unset, .unset, .unset] [(.int p1)])) rfl (hb hby at_1) _ ?_
    show Steps p.tables e below (s₁.setTop (mkF m 3 #[.val (.int p1), .unset, .unset, .unset, .unset, .unset] [(.int (2147483647 : Int32)), (.int p1)])) _
    refine XS.iand X0.here hx rfl (hb hby at_3) rfl ?_
    show Steps p.tables e below (s₁.setTop (mkF m 4 #[.val (.int p1), .unset, .unset, .unset, .unset, .unset] [(.int (p1 &&& (2147483647 : Int32)))])) _
    refine XS.iconst X0.here hx rfl (hb hby at_4) ?_
    show Steps p.tables e below (s₁.setTop (mkF m 5 #[.val (.int p1), .unset, .unset, .unset, .unset, .unset] [(.int (5 : Int32)), (.int (p1 &&& (2147483647 : Int32)))])) _
    refine Jvm.RoadKit.iremM X0 hx rfl (hb hby at_5) rfl hnz5 ?_
    show Steps p.tables e below (s₁.setTop (mkF m 6 #[.val (.int p1), .unset, .unset, .unset, .unset, .unset] [(.int ((p1 &&& (2147483647 : Int32)) % (5 : Int32)))])) _
    refine XS.istoreN X0.here hx rfl (hb hby at_6) rfl (l' := #[.val (.int p1), .val (.int ((p1 &&& (2147483647 : Int32)) % (5 : Int32))), .unset, .unset, .unset, .unset]) rfl ?_
    show Steps p.tables e below (s₁.setTop (mkF m 7 #[.val (.int p1), .val (.int ((p1 &&& (2147483647 : Int32)) % (5 : Int32))), .unset, .unset, .unset, .unset] [])) _
    refine XS.iloadN X0.here hx rfl (hb hby at_7) rfl ?_
    show Steps p.tables e below (s₁.setTop (mkF m 8 #[.val (.int p1), .val (.int ((p1 &&& (2147483647 : Int32)) % (5 : Int32))), .unset, .unset, .unset, .unset] [(.int ((p1 &&& (2147483647 : Int32)) % (5 : Int32)))])) _
    refine XS.ifNo X0.here hx rfl (hb hby at_8) rfl ((if0 _ _).trans (teq hc8).2) ?_
    show Steps p.tables e below (s₁.setTop (mkF m 11 #[.val (.int p1), .val (.int ((p1 &&& (2147483647 : Int32)) % (5 : Int32))), .unset, .unset, .unset, .unset] [])) _
    refine st3 _ ?_
    show Steps p.tables e below (T3.setTop (mkF m 14 #[.val (.int p1), .val (.int ((p1 &&& (2147483647 : Int32)) % (5 : Int32))), .unset, .unset, .unset, .unset] [(.ref w2)])) _
    refine XS.astoreN X3.here hx rfl (hb hby at_14) rfl rfl (l' := #[.val (.int p1), .val (.int ((p1 &&& (2147483647 : Int32)) % (5 : Int32))), .val (.ref w2), .unset, .unset, .unset]) rfl ?_
    show Steps p.tables e below (T3.setTop (mkF m 15 #[.val (.int p1), .val (.int ((p1 &&& (2147483647 : Int32)) % (5 : Int32))), .val (.ref w2), .unset, .unset, .unset] [])) _
    refine XS.iconst X3.here hx rfl (hb hby at_15) ?_
    show Steps p.tables e below (T3.setTop (mkF m 16 #[.val (.int p1), .val (.int ((p1 &&& (2147483647 : Int32)) % (5 : Int32))), .val (.ref w2), .unset, .unset, .unset] [(.int (0 : Int32))])) _
    refine XS.istoreN X3.here hx rfl (hb hby at_16) rfl (l' := #[.val (.int p1), .val (.int ((p1 &&& (2147483647 : Int32)) % (5 : Int32))), .val (.ref w2), .val (.int (0 : Int32)), .unset, .unset]) rfl ?_
    show Steps p.tables e below (T3.setTop (mkF m 17 #[.val (.int p1), .val (.int ((p1 &&& (2147483647 : Int32)) % (5 : Int32))), .val (.ref w2), .val (.int (0 : Int32)), .unset, .unset] [])) _
    refine XS.goto X3.here hx rfl (pc0 := 17) (pc' := 68) rfl (hb hby at_17) (by decide) (by decide) ?_
    show Steps p.tables e below (T3.setTop (mkF m 68 #[.val (.int p1), .val (.int ((p1 &&& (2147483647 : Int32)) % (5 : Int32))), .val (.ref w2), .val (.int (0 : Int32)), .unset, .unset] [])) _
    refine XS.aloadN X3.here hx rfl (hb hby at_68) rfl rfl ?_
    show Steps p.tables e below (T3.setTop (mkF m 69 #[.val (.int p1), .val (.int ((p1 &&& (2147483647 : Int32)) % (5 : Int32))), .val (.ref w2), .val (.int (0 : Int32)), .unset, .unset] [(.ref w2)])) _
    refine st4.trans ?_
    show Steps p.tables e below (T4.setTop (mkF m 72 #[.val (.int p1), .val (.int ((p1 &&& (2147483647 : Int32)) % (5 : Int32))), .val (.ref w2), .val (.int (0 : Int32)), .unset, .unset] [(.int (0 : Int32))])) _
    refine XS.istore X4.here hx rfl (hb hby at_72) rfl (l' := #[.val (.int p1), .val (.int ((p1 &&& (2147483647 : Int32)) % (5 : Int32))), .val (.ref w2), .val (.int (0 : Int32)), .val (.int (0 : Int32)), .unset]) rfl ?_
    show Steps p.tables e below (T4.setTop (mkF m 74 #[.val (.int p1), .val (.int ((p1 &&& (2147483647 : Int32)) % (5 : Int32))), .val (.ref w2), .val (.int (0 : Int32)), .val (.int (0 : Int32)), .unset] [])) _
    refine XS.aloadN X4.here hx rfl (hb hby at_74) rfl rfl ?_
    show Steps p.tables e below (T4.setTop (mkF m 75 #[.val (.int p1), .val (.int ((p1 &&& (2147483647 : Int32)) % (5 : Int32))), .val (.ref w2), .val (.int (0 : Int32)), .val (.int (0 : Int32)), .unset] [(.ref w2)])) _
    refine st5.trans ?_
    show Steps p.tables e below (T5.setTop (mkF m 78 #[.val (.int p1), .val (.int ((p1 &&& (2147483647 : Int32)) % (5 : Int32))), .val (.ref w2), .val (.int (0 : Int32)), .val (.int (0 : Int32)), .unset] [(.ref wm)])) _
    refine st7 _ ?_
    show Steps p.tables e below (T7.setTop (mkF m 81 #[.val (.int p1), .val (.int ((p1 &&& (2147483647 : Int32)) % (5 : Int32))), .val (.ref w2), .val (.int (0 : Int32)), .val (.int (0 : Int32)), .unset] [(.ref w6), (.ref wm)])) _
    refine Jvm.RoadKit.acmp (g := (mkF m 81 #[.val (.int p1), .val (.int ((p1 &&& (2147483647 : Int32)) % (5 : Int32))), .val (.ref w2), .val (.int (0 : Int32)), .val (.int (0 : Int32)), .unset] [(.ref w6), (.ref wm)])) X7 hx rfl rfl rfl (pc0 := 81) (pc' := 88) (same := false) rfl (hb hby at_81) rfl (decide_eq_false fun q => ha81 (Value.ref.inj q)) (by decide) (by decide) ?_
    show Steps p.tables e below (T7.setTop (mkF m 88 #[.val (.int p1), .val (.int ((p1 &&& (2147483647 : Int32)) % (5 : Int32))), .val (.ref w2), .val (.int (0 : Int32)), .val (.int (0 : Int32)), .unset] [])) _
    refine XS.iconst X7.here hx rfl (hb hby at_88) ?_
    show Steps p.tables e below (T7.setTop (mkF m 89 #[.val (.int p1), .val (.int ((p1 &&& (2147483647 : Int32)) % (5 : Int32))), .val (.ref w2), .val (.int (0 : Int32)), .val (.int (0 : Int32)), .unset] [(.int (0 : Int32))])) _
    refine XS.istore X7.here hx rfl (hb hby at_89) rfl (l' := #[.val (.int p1), .val (.int ((p1 &&& (2147483647 : Int32)) % (5 : Int32))), .val (.ref w2), .val (.int (0 : Int32)), .val (.int (0 : Int32)), .val (.int (0 : Int32))]) rfl ?_
    show Steps p.tables e below (T7.setTop (mkF m 91 #[.val (.int p1), .val (.int ((p1 &&& (2147483647 : Int32)) % (5 : Int32))), .val (.ref w2), .val (.int (0 : Int32)), .val (.int (0 : Int32)), .val (.int (0 : Int32))] [])) _
    refine XS.iload X7.here hx rfl (hb hby at_91) rfl ?_
    show Steps p.tables e below (T7.setTop (mkF m 93 #[.val (.int p1), .val (.int ((p1 &&& (2147483647 : Int32)) % (5 : Int32))), .val (.ref w2), .val (.int (0 : Int32)), .val (.int (0 : Int32)), .val (.int (0 : Int32))] [(.int (0 : Int32))])) _
    refine XS.iloadN X7.here hx rfl (hb hby at_93) rfl ?_
    show Steps p.tables e below (T7.setTop (mkF m 94 #[.val (.int p1), .val (.int ((p1 &&& (2147483647 : Int32)) % (5 : Int32))), .val (.ref w2), .val (.int (0 : Int32)), .val (.int (0 : Int32)), .val (.int (0 : Int32))] [(.int (0 : Int32)), (.int (0 : Int32))])) _
    refine XS.icmpNo X7.here hx rfl (hb hby at_94) rfl (teq (rfl : (0 : Int32) = (0 : Int32))).2 ?_
    show Steps p.tables e below (T7.setTop (mkF m 97 #[.val (.int p1), .val (.int ((p1 &&& (2147483647 : Int32)) % (5 : Int32))), .val (.ref w2), .val (.int (0 : Int32)), .val (.int (0 : Int32)), .val (.int (0 : Int32))] [])) _
    refine XS.iload X7.here hx rfl (hb hby at_97) rfl ?_
    show Steps p.tables e below (T7.setTop (mkF m 99 #[.val (.int p1), .val (.int ((p1 &&& (2147483647 : Int32)) % (5 : Int32))), .val (.ref w2), .val (.int (0 : Int32)), .val (.int (0 : Int32)), .val (.int (0 : Int32))] [(.int (0 : Int32))])) _
    refine XS.iload X7.here hx rfl (hb hby at_99) rfl ?_
    show Steps p.tables e below (T7.setTop (mkF m 101 #[.val (.int p1), .val (.int ((p1 &&& (2147483647 : Int32)) % (5 : Int32))), .val (.ref w2), .val (.int (0 : Int32)), .val (.int (0 : Int32)), .val (.int (0 : Int32))] [(.int (0 : Int32)), (.int (0 : Int32))])) _
    refine XS.icmpNo X7.here hx rfl (hb hby at_101) rfl (teq (rfl : (0 : Int32) = (0 : Int32))).2 ?_
    show Steps p.tables e below (T7.setTop (mkF m 104 #[.val (.int p1), .val (.int ((p1 &&& (2147483647 : Int32)) % (5 : Int32))), .val (.ref w2), .val (.int (0 : Int32)), .val (.int (0 : Int32)), .val (.int (0 : Int32))] [])) _
    refine XS.iconst X7.here hx rfl (hb hby at_104) ?_
    show Steps p.tables e below (T7.setTop (mkF m 105 #[.val (.int p1), .val (.int ((p1 &&& (2147483647 : Int32)) % (5 : Int32))), .val (.ref w2), .val (.int (0 : Int32)), .val (.int (0 : Int32)), .val (.int (0 : Int32))] [(.int (1 : Int32))])) _
    refine XS.goto X7.here hx rfl (pc0 := 105) (pc' := 109) rfl (hb hby at_105) (by decide) (by decide) ?_
    show Steps p.tables e below (T7.setTop (mkF m 109 #[.val (.int p1), .val (.int ((p1 &&& (2147483647 : Int32)) % (5 : Int32))), .val (.ref w2), .val (.int (0 : Int32)), .val (.int (0 : Int32)), .val (.int (0 : Int32))] [(.int (1 : Int32))])) _
    exact retN X7 hx (t := .boolean) Bd.returns (by simp) (hb hby at_109) hr
  · show Q0a Z p1 w2 w6 h0 n0 _ T7.heap _
    rw [e7]
    exact ⟨rfl, N5, rfl⟩
def Q0b (Z : State) (p1 : Int32) (w2 : Addr) (w6 : Addr) (h0 : Heap) (n0 : Nat) (v : Option Value) (h : Heap) (L : List Loc) : Prop := v = some (.int (1 : Int32)) ∧ Fr n0 L ∧ h = h0
set_option maxRecDepth 65536 in
set_option maxHeartbeats 40000000 in
theorem rm0b (l : Launch) (Z : State) (a0 : Array Value) (hw : ∀ d ∈ tables_1, d.before a0 Z = true) (ws : List Jvm.Cond) (p1 : Int32) (w2 : Addr) (w6 : Addr) (h0 : Heap) (n0 : Nat) (Z0 : n0 ≤ h0.size) (wm : Addr) (F_method : Fld Z h0 w2 "com/example/margrave/margrave/margin/Tier" "method" "Lcom/example/margrave/margrave/core/Method;" (.ref wm)) (S_B : Sta Z h0 "com/example/margrave/margrave/margin/Tier" "B" "Lcom/example/margrave/margrave/margin/Tier;" (.ref w2)) (E_w2 : Exa Z h0 w2 "com/example/margrave/margrave/margin/Tier") (S_RATIO : Sta Z h0 "com/example/margrave/margrave/core/Method" "RATIO" "Lcom/example/margrave/margrave/core/Method;" (.ref w6)) (hnz5 : ¬ ((5 : Int32) = (0 : Int32))) (hc8 : ¬ (((p1 &&& (2147483647 : Int32)) % (5 : Int32)) = (0 : Int32))) (hc22 : ((p1 &&& (2147483647 : Int32)) % (5 : Int32)) = (1 : Int32)) (ha81 : ¬ (wm = w6)) :
    MetFree l x (head1 (Jvm.Cond.code x code maxLocals ret :: ws) room_1) (fun a U => a = #[(.int p1)] ∧ Z.Warmed39 U.vm ∧ U.heap = h0) (fun _ _ _ _ _ => True) (fun _ U o U' => ∃ v L, o = .returned v ∧ Q0b Z p1 w2 w6 h0 n0 v U'.heap L ∧ FrameEnd U o U' L room_1.cells room_1.slots) := by
  refine MetFree.of_bodySF (plainFor_of_name pn_0) hisR ?_
  intro p e s m args below meth c s₁ Bd hml0 hP hK
  obtain ⟨rfl, hZ, hh⟩ := hP
  have hx := Bd.exec
  have hby := Bd.bytes
  have hml : c.maxLocals = 6 := hml0
  have hown : s.vm.findClass "com/example/margrave/margrave/margin/TierIsPercentagePinLaw" = some m.cls := findClass_of_methodNamed Bd.named
  have hnm := (name_of_methodNamed Bd.named Bd.method).1
  have X0 : Stand p l e room_1 s m #[(.int p1)] below meth c s₁ [] 0 0 := Stand.of_body Bd
  have e0 : s₁.heap = h0 := by rw [← hh, Bd.state]; rfl
  have N0 := Fr.nil n0
  have pre0 : ∀ t, Steps p.tables e below (s₁.setTop (mkF m 0 #[.val (.int p1), .unset, .unset, .unset, .unset, .unset] [])) t → Steps p.tables e below (s₁.setTop (entryFrame m #[(.int p1)] maxLocals)) t := fun t k => castTop (ef_0 m p1) k
  -- 3. LAWS
  obtain ⟨T3, X3, e3, st3⟩ := getS2 X0 hx hZ hown (host := "") (Or.inl (hw _ (List.mem_of_getElem? (i := 23) rfl))) Via.refl e0 S_B (g := (mkF m 25 #[.val (.int p1), .val (.int ((p1 &&& (2147483647 : Int32)) % (5 : Int32))), .unset, .unset, .unset, .unset] [])) rfl (hb hby at_25)
  -- pc 69: com/example/margrave/margrave/margin/Tier.isPercentage by the contract of the body that the receiver's class selects, rm1
  obtain ⟨cq4, kq4, q4a, q4b, q4c⟩ := isOf hZ e3 E_w2
  obtain ⟨_, _, ⟨T4, L4, k4, n4⟩, -, X4, ⟨Lc4, hQ4, l4, y4, z4⟩, st4⟩ := X3.virtualBack hx (y := (⟨"com/example/margrave/margrave/margin/Tier", "isPercentage", "()Z"⟩ : MethodName)) (z := (⟨"com/example/margrave/margrave/margin/Tier", "isPercentage", "()Z"⟩ : MethodName)) hown (mvT hZ (hw _ (List.mem_of_getElem? (i := 4) rfl))) (mvT hZ (hw _ (List.mem_of_getElem? (i := 5) rfl))) (notFace_of_selects (args := #[]) (mvT hZ (hw _ (List.mem_of_getElem? (i := 7) rfl)))) (mvT hZ (hw _ (List.mem_of_getElem? (i := 7) rfl))) (mvT hZ (hw _ (List.mem_of_getElem? (i := 6) rfl))) (by decide) (backOf (W := 0) (rm1a l Z a0 hw [] w2 wm w6 h0 n0 Z0 F_method S_RATIO ha81) hZ (hw _ (List.mem_of_getElem? (i := 8) rfl)) (hw _ (List.mem_of_getElem? (i := 2) rfl)) (by decide) (by decide)) q4a q4c (g := (mkF m 69 #[.val (.int p1), .val (.int ((p1 &&& (2147483647 : Int32)) % (5 : Int32))), .val (.ref w2), .val (.int (0 : Int32)), .unset, .unset] [(.ref w2)])) rfl (by rw [hml]; rfl) (Steps.refl _) (argsL := []) (rest := []) (lenOf pd_0_0 rfl) rfl (by show 2 * 0 + _ ≤ _; exact Nat.le_of_eq rfl) (hb hby at_69) (fun _ _ => ⟨rfl, e3, (by exact Nat.le_of_ble_eq_true rfl), (by exact Nat.le_of_ble_eq_true rfl)⟩)
  dsimp only [Pt.U, Pt.locs, Pt.cells, Pt.slots] at X4 l4 y4 z4 st4 hQ4
  subst l4 y4 z4
  obtain ⟨rfl, N4q, eQ4⟩ := hQ4      -- what it returned, that it wrote nothing old, and the rest of your Q1
  have N4 := Fr.app N0 N4q
  -- pc 75: com/example/margrave/margrave/margin/Tier.method by the contract of the body that the receiver's class selects, rm2
  obtain ⟨cq5, kq5, q5a, q5b, q5c⟩ := isOf hZ eQ4 E_w2
  obtain ⟨_, _, ⟨T5, L5, k5, n5⟩, -, X5, ⟨Lc5, hQ5, l5, y5, z5⟩, st5⟩ := X4.virtualBack hx (y := (⟨"com/example/margrave/margrave/margin/Tier", "method", "()Lcom/example/margrave/margrave/core/Method;"⟩ : MethodName)) (z := (⟨"com/example/margrave/margrave/margin/Tier", "method", "()Lcom/example/margrave/margrave/core/Method;"⟩ : MethodName)) hown (mvT hZ (hw _ (List.mem_of_getElem? (i := 15) rfl))) (mvT hZ (hw _ (List.mem_of_getElem? (i := 16) rfl))) (notFace_of_selects (args := #[]) (mvT hZ (hw _ (List.mem_of_getElem? (i := 18) rfl)))) (mvT hZ (hw _ (List.mem_of_getElem? (i := 18) rfl))) (mvT hZ (hw _ (List.mem_of_getElem? (i := 17) rfl))) (by decide) (backOf (W := 0) (rm2 l Z a0 hw [] w2 wm h0 n0 Z0 F_method) hZ (hw _ (List.mem_of_getElem? (i := 19) rfl)) (hw _ (List.mem_of_getElem? (i := 2) rfl)) (by decide) (by decide)) q5a q5c (g := (mkF m 75 #[.val (.int p1), .val (.int ((p1 &&& (2147483647 : Int32)) % (5 : Int32))), .val (.ref w2), .val (.int (0 : Int32)), .val (.int (0 : Int32)), .unset] [(.ref w2)])) rfl (by rw [hml]; rfl) (Steps.refl _) (argsL := []) (rest := []) (lenOf pd_0_1 rfl) rfl (by show 2 * 0 + _ ≤ _; exact Nat.le_of_eq rfl) (hb hby at_75) (fun _ _ => ⟨rfl, eQ4, (by exact Nat.le_of_ble_eq_true rfl), (by exact Nat.le_of_ble_eq_true rfl)⟩)
  dsimp only [Pt.U, Pt.locs, Pt.cells, Pt.slots] at X5 l5 y5 z5 st5 hQ5
  subst l5 y5 z5
  obtain ⟨rfl, N5q, eQ5⟩ := hQ5      -- what it returned, that it wrote nothing old, and the rest of your Q2
  have N5 := Fr.app N4 N5q
  obtain ⟨T7, X7, e7, st7⟩ := getS2 X5 hx hZ hown (host := "") (Or.inl (hw _ (List.mem_of_getElem? (i := 20) rfl))) Via.refl eQ5 S_RATIO (g := (mkF m 78 #[.val (.int p1), .val (.int ((p1 &&& (2147483647 : Int32)) % (5 : Int32))), .val (.ref w2), .val (.int (0 : Int32)), .val (.int (0 : Int32)), .unset] [(.ref wm)])) rfl (hb hby at_78)
  obtain ⟨fs, hr, hrun, hended, hW, hsame⟩ := X7.leave (v := some (.int (1 : Int32))) (fun h => by rw [Bd.returns] at h; cases h)
  refine ⟨_, _, pre0 _ ?_, hrun, hended, _, _, rfl, ?_, ⟨_, rfl⟩, hW, hsame.mono (by decide) (by decide)⟩
  -- 4. STEPS
  · show Steps p.tables e below (s₁.setTop (mkF m 0 #[.val (.int p1), .unset, .unset, .unset, .unset, .unset] [])) _
    refine XS.iloadN X0.here hx rfl (hb hby at_0) rfl ?_
    show Steps p.tables e below (s₁.setTop (mkF m 1 #[.val (.int p1), .unset, .unset, .unset, .unset, .unset] [(.int p1)])) _
    refine X0.ldcInt hx hown (mvT hZ (hw _ (List.mem_of_getElem? (i := 0) rfl))) (g := (mkF m 1 #[.val (.int p1), .unset, .unset, .unset, .unset, .unset] [(.int p1)])) rfl (hb hby at_1) _ ?_
    show Steps p.tables e below (s₁.setTop (mkF m 3 #[.val (.int p1), .unset, .unset, .unset, .unset, .unset] [(.int (2147483647 : Int32)), (.int p1)])) _
    refine XS.iand X0.here hx rfl (hb hby at_3) rfl ?_
    show Steps p.tables e below (s₁.setTop (mkF m 4 #[.val (.int p1), .unset, .unset, .unset, .unset, .unset] [(.int (p1 &&& (2147483647 : Int32)))])) _
    refine XS.iconst X0.here hx rfl (hb hby at_4) ?_
    show Steps p.tables e below (s₁.setTop (mkF m 5 #[.val (.int p1), .unset, .unset, .unset, .unset, .unset] [(.int (5 : Int32)), (.int (p1 &&& (2147483647 : Int32)))])) _
    refine Jvm.RoadKit.iremM X0 hx rfl (hb hby at_5) rfl hnz5 ?_
    show Steps p.tables e below (s₁.setTop (mkF m 6 #[.val (.int p1), .unset, .unset, .unset, .unset, .unset] [(.int ((p1 &&& (2147483647 : Int32)) % (5 : Int32)))])) _
    refine XS.istoreN X0.here hx rfl (hb hby at_6) rfl (l' := #[.val (.int p1), .val (.int ((p1 &&& (2147483647 : Int32)) % (5 : Int32))), .unset, .unset, .unset, .unset]) rfl ?_
    show Steps p.tables e below (s₁.setTop (mkF m 7 #[.val (.int p1), .val (.int ((p1 &&& (2147483647 : Int32)) % (5 : Int32))), .unset, .unset, .unset, .unset] [])) _
    refine XS.iloadN X0.here hx rfl (hb hby at_7) rfl ?_
    show Steps p.tables e below (s₁.setTop (mkF m 8 #[.val (.int p1), .val (.int ((p1 &&& (2147483647 : Int32)) % (5 : Int32))), .unset, .unset, .unset, .unset] [(.int ((p1 &&& (2147483647 : Int32)) % (5 : Int32)))])) _
    refine XS.ifYes X0.here hx rfl (pc0 := 8) (pc' := 20) rfl (hb hby at_8) rfl ((if0 _ _).trans (feq hc8).2) (by decide) (by decide) ?_
    show Steps p.tables e below (s₁.setTop (mkF m 20 #[.val (.int p1), .val (.int ((p1 &&& (2147483647 : Int32)) % (5 : Int32))), .unset, .unset, .unset, .unset] [])) _
    refine XS.iloadN X0.here hx rfl (hb hby at_20) rfl ?_
    show Steps p.tables e below (s₁.setTop (mkF m 21 #[.val (.int p1), .val (.int ((p1 &&& (2147483647 : Int32)) % (5 : Int32))), .unset, .unset, .unset, .unset] [(.int ((p1 &&& (2147483647 : Int32)) % (5 : Int32)))])) _
    refine XS.iconst X0.here hx rfl (hb hby at_21) ?_
    show Steps p.tables e below (s₁.setTop (mkF m 22 #[.val (.int p1), .val (.int ((p1 &&& (2147483647 : Int32)) % (5 : Int32))), .unset, .unset, .unset, .unset] [(.int (1 : Int32)), (.int ((p1 &&& (2147483647 : Int32)) % (5 : Int32)))])) _
    refine XS.icmpNo X0.here hx rfl (hb hby at_22) rfl (teq hc22).2 ?_
    show Steps p.tables e below (s₁.setTop (mkF m 25 #[.val (.int p1), .val (.int ((p1 &&& (2147483647 : Int32)) % (5 : Int32))), .unset, .unset, .unset, .unset] [])) _
    refine st3 _ ?_
    show Steps p.tables e below (T3.setTop (mkF m 28 #[.val (.int p1), .val (.int ((p1 &&& (2147483647 : Int32)) % (5 : Int32))), .unset, .unset, .unset, .unset] [(.ref w2)])) _
    refine XS.astoreN X3.here hx rfl (hb hby at_28) rfl rfl (l' := #[.val (.int p1), .val (.int ((p1 &&& (2147483647 : Int32)) % (5 : Int32))), .val (.ref w2), .unset, .unset, .unset]) rfl ?_
    show Steps p.tables e below (T3.setTop (mkF m 29 #[.val (.int p1), .val (.int ((p1 &&& (2147483647 : Int32)) % (5 : Int32))), .val (.ref w2), .unset, .unset, .unset] [])) _
    refine XS.iconst X3.here hx rfl (hb hby at_29) ?_
    show Steps p.tables e below (T3.setTop (mkF m 30 #[.val (.int p1), .val (.int ((p1 &&& (2147483647 : Int32)) % (5 : Int32))), .val (.ref w2), .unset, .unset, .unset] [(.int (0 : Int32))])) _
    refine XS.istoreN X3.here hx rfl (hb hby at_30) rfl (l' := #[.val (.int p1), .val (.int ((p1 &&& (2147483647 : Int32)) % (5 : Int32))), .val (.ref w2), .val (.int (0 : Int32)), .unset, .unset]) rfl ?_
    show Steps p.tables e below (T3.setTop (mkF m 31 #[.val (.int p1), .val (.int ((p1 &&& (2147483647 : Int32)) % (5 : Int32))), .val (.ref w2), .val (.int (0 : Int32)), .unset, .unset] [])) _
    refine XS.goto X3.here hx rfl (pc0 := 31) (pc' := 68) rfl (hb hby at_31) (by decide) (by decide) ?_
    show Steps p.tables e below (T3.setTop (mkF m 68 #[.val (.int p1), .val (.int ((p1 &&& (2147483647 : Int32)) % (5 : Int32))), .val (.ref w2), .val (.int (0 : Int32)), .unset, .unset] [])) _
    refine XS.aloadN X3.here hx rfl (hb hby at_68) rfl rfl ?_
    show Steps p.tables e below (T3.setTop (mkF m 69 #[.val (.int p1), .val (.int ((p1 &&& (2147483647 : Int32)) % (5 : Int32))), .val (.ref w2), .val (.int (0 : Int32)), .unset, .unset] [(.ref w2)])) _
    refine st4.trans ?_
    show Steps p.tables e below (T4.setTop (mkF m 72 #[.val (.int p1), .val (.int ((p1 &&& (2147483647 : Int32)) % (5 : Int32))), .val (.ref w2), .val (.int (0 : Int32)), .unset, .unset] [(.int (0 : Int32))])) _
    refine XS.istore X4.here hx rfl (hb hby at_72) rfl (l' := #[.val (.int p1), .val (.int ((p1 &&& (2147483647 : Int32)) % (5 : Int32))), .val (.ref w2), .val (.int (0 : Int32)), .val (.int (0 : Int32)), .unset]) rfl ?_
    show Steps p.tables e below (T4.setTop (mkF m 74 #[.val (.int p1), .val (.int ((p1 &&& (2147483647 : Int32)) % (5 : Int32))), .val (.ref w2), .val (.int (0 : Int32)), .val (.int (0 : Int32)), .unset] [])) _
    refine XS.aloadN X4.here hx rfl (hb hby at_74) rfl rfl ?_
    show Steps p.tables e below (T4.setTop (mkF m 75 #[.val (.int p1), .val (.int ((p1 &&& (2147483647 : Int32)) % (5 : Int32))), .val (.ref w2), .val (.int (0 : Int32)), .val (.int (0 : Int32)), .unset] [(.ref w2)])) _
    refine st5.trans ?_
    show Steps p.tables e below (T5.setTop (mkF m 78 #[.val (.int p1), .val (.int ((p1 &&& (2147483647 : Int32)) % (5 : Int32))), .val (.ref w2), .val (.int (0 : Int32)), .val (.int (0 : Int32)), .unset] [(.ref wm)])) _
    refine st7 _ ?_
    show Steps p.tables e below (T7.setTop (mkF m 81 #[.val (.int p1), .val (.int ((p1 &&& (2147483647 : Int32)) % (5 : Int32))), .val (.ref w2), .val (.int (0 : Int32)), .val (.int (0 : Int32)), .unset] [(.ref w6), (.ref wm)])) _
    refine Jvm.RoadKit.acmp (g := (mkF m 81 #[.val (.int p1), .val (.int ((p1 &&& (2147483647 : Int32)) % (5 : Int32))), .val (.ref w2), .val (.int (0 : Int32)), .val (.int (0 : Int32)), .unset] [(.ref w6), (.ref wm)])) X7 hx rfl rfl rfl (pc0 := 81) (pc' := 88) (same := false) rfl (hb hby at_81) rfl (decide_eq_false fun q => ha81 (Value.ref.inj q)) (by decide) (by decide) ?_
    show Steps p.tables e below (T7.setTop (mkF m 88 #[.val (.int p1), .val (.int ((p1 &&& (2147483647 : Int32)) % (5 : Int32))), .val (.ref w2), .val (.int (0 : Int32)), .val (.int (0 : Int32)), .unset] [])) _
    refine XS.iconst X7.here hx rfl (hb hby at_88) ?_
    show Steps p.tables e below (T7.setTop (mkF m 89 #[.val (.int p1), .val (.int ((p1 &&& (2147483647 : Int32)) % (5 : Int32))), .val (.ref w2), .val (.int (0 : Int32)), .val (.int (0 : Int32)), .unset] [(.int (0 : Int32))])) _
    refine XS.istore X7.here hx rfl (hb hby at_89) rfl (l' := #[.val (.int p1), .val (.int ((p1 &&& (2147483647 : Int32)) % (5 : Int32))), .val (.ref w2), .val (.int (0 : Int32)), .val (.int (0 : Int32)), .val (.int (0 : Int32))]) rfl ?_
    show Steps p.tables e below (T7.setTop (mkF m 91 #[.val (.int p1), .val (.int ((p1 &&& (2147483647 : Int32)) % (5 : Int32))), .val (.ref w2), .val (.int (0 : Int32)), .val (.int (0 : Int32)), .val (.int (0 : Int32))] [])) _
    refine XS.iload X7.here hx rfl (hb hby at_91) rfl ?_
    show Steps p.tables e below (T7.setTop (mkF m 93 #[.val (.int p1), .val (.int ((p1 &&& (2147483647 : Int32)) % (5 : Int32))), .val (.ref w2), .val (.int (0 : Int32)), .val (.int (0 : Int32)), .val (.int (0 : Int32))] [(.int (0 : Int32))])) _
    refine XS.iloadN X7.here hx rfl (hb hby at_93) rfl ?_
    show Steps p.tables e below (T7.setTop (mkF m 94 #[.val (.int p1), .val (.int ((p1 &&& (2147483647 : Int32)) % (5 : Int32))), .val (.ref w2), .val (.int (0 : Int32)), .val (.int (0 : Int32)), .val (.int (0 : Int32))] [(.int (0 : Int32)), (.int (0 : Int32))])) _
    refine XS.icmpNo X7.here hx rfl (hb hby at_94) rfl (teq (rfl : (0 : Int32) = (0 : Int32))).2 ?_
    show Steps p.tables e below (T7.setTop (mkF m 97 #[.val (.int p1), .val (.int ((p1 &&& (2147483647 : Int32)) % (5 : Int32))), .val (.ref w2), .val (.int (0 : Int32)), .val (.int (0 : Int32)), .val (.int (0 : Int32))] [])) _
    refine XS.iload X7.here hx rfl (hb hby at_97) rfl ?_
    show Steps p.tables e below (T7.setTop (mkF m 99 #[.val (.int p1), .val (.int ((p1 &&& (2147483647 : Int32)) % (5 : Int32))), .val (.ref w2), .val (.int (0 : Int32)), .val (.int (0 : Int32)), .val (.int (0 : Int32))] [(.int (0 : Int32))])) _
    refine XS.iload X7.here hx rfl (hb hby at_99) rfl ?_
    show Steps p.tables e below (T7.setTop (mkF m 101 #[.val (.int p1), .val (.int ((p1 &&& (2147483647 : Int32)) % (5 : Int32))), .val (.ref w2), .val (.int (0 : Int32)), .val (.int (0 : Int32)), .val (.int (0 : Int32))] [(.int (0 : Int32)), (.int (0 : Int32))])) _
    refine XS.icmpNo X7.here hx rfl (hb hby at_101) rfl (teq (rfl : (0 : Int32) = (0 : Int32))).2 ?_
    show Steps p.tables e below (T7.setTop (mkF m 104 #[.val (.int p1), .val (.int ((p1 &&& (2147483647 : Int32)) % (5 : Int32))), .val (.ref w2), .val (.int (0 : Int32)), .val (.int (0 : Int32)), .val (.int (0 : Int32))] [])) _
    refine XS.iconst X7.here hx rfl (hb hby at_104) ?_
    show Steps p.tables e below (T7.setTop (mkF m 105 #[.val (.int p1), .val (.int ((p1 &&& (2147483647 : Int32)) % (5 : Int32))), .val (.ref w2), .val (.int (0 : Int32)), .val (.int (0 : Int32)), .val (.int (0 : Int32))] [(.int (1 : Int32))])) _
    refine XS.goto X7.here hx rfl (pc0 := 105) (pc' := 109) rfl (hb hby at_105) (by decide) (by decide) ?_
    show Steps p.tables e below (T7.setTop (mkF m 109 #[.val (.int p1), .val (.int ((p1 &&& (2147483647 : Int32)) % (5 : Int32))), .val (.ref w2), .val (.int (0 : Int32)), .val (.int (0 : Int32)), .val (.int (0 : Int32))] [(.int (1 : Int32))])) _
    exact retN X7 hx (t := .boolean) Bd.returns (by simp) (hb hby at_109) hr
  · show Q0b Z p1 w2 w6 h0 n0 _ T7.heap _
    rw [e7]
    exact ⟨rfl, N5, rfl⟩
def Q0c (Z : State) (p1 : Int32) (w2 : Addr) (w6 : Addr) (h0 : Heap) (n0 : Nat) (v : Option Value) (h : Heap) (L : List Loc) : Prop := v = some (.int (1 : Int32)) ∧ Fr n0 L ∧ h = h0
set_option maxRecDepth 65536 in
set_option maxHeartbeats 40000000 in
theorem rm0c (l : Launch) (Z : State) (a0 : Array Value) (hw : ∀ d ∈ tables_1, d.before a0 Z = true) (ws : List Jvm.Cond) (p1 : Int32) (w2 : Addr) (w6 : Addr) (h0 : Heap) (n0 : Nat) (Z0 : n0 ≤ h0.size) (wm : Addr) (F_method : Fld Z h0 w2 "com/example/margrave/margrave/margin/Tier" "method" "Lcom/example/margrave/margrave/core/Method;" (.ref wm)) (S_LOT : Sta Z h0 "com/example/margrave/margrave/margin/Tier" "LOT" "Lcom/example/margrave/margrave/margin/Tier;" (.ref w2)) (E_w2 : Exa Z h0 w2 "com/example/margrave/margrave/margin/Tier") (S_RATIO : Sta Z h0 "com/example/margrave/margrave/core/Method" "RATIO" "Lcom/example/margrave/margrave/core/Method;" (.ref w6)) (hnz5 : ¬ ((5 : Int32) = (0 : Int32))) (hc8 : ¬ (((p1 &&& (2147483647 : Int32)) % (5 : Int32)) = (0 : Int32))) (hc22 : ¬ (((p1 &&& (2147483647 : Int32)) % (5 : Int32)) = (1 : Int32))) (hc36 : ((p1 &&& (2147483647 : Int32)) % (5 : Int32)) = (2 : Int32)) (ha81 : ¬ (wm = w6)) :
    MetFree l x (head1 (Jvm.Cond.code x code maxLocals ret :: ws) room_1) (fun a U => a = #[(.int p1)] ∧ Z.Warmed39 U.vm ∧ U.heap = h0) (fun _ _ _ _ _ => True) (fun _ U o U' => ∃ v L, o = .returned v ∧ Q0c Z p1 w2 w6 h0 n0 v U'.heap L ∧ FrameEnd U o U' L room_1.cells room_1.slots) := by
  refine MetFree.of_bodySF (plainFor_of_name pn_0) hisR ?_
  intro p e s m args below meth c s₁ Bd hml0 hP hK
  obtain ⟨rfl, hZ, hh⟩ := hP
  have hx := Bd.exec
  have hby := Bd.bytes
  have hml : c.maxLocals = 6 := hml0
  have hown : s.vm.findClass "com/example/margrave/margrave/margin/TierIsPercentagePinLaw" = some m.cls := findClass_of_methodNamed Bd.named
  have hnm := (name_of_methodNamed Bd.named Bd.method).1
  have X0 : Stand p l e room_1 s m #[(.int p1)] below meth c s₁ [] 0 0 := Stand.of_body Bd
  have e0 : s₁.heap = h0 := by rw [← hh, Bd.state]; rfl
  have N0 := Fr.nil n0
  have pre0 : ∀ t, Steps p.tables e below (s₁.setTop (mkF m 0 #[.val (.int p1), .unset, .unset, .unset, .unset, .unset] [])) t → Steps p.tables e below (s₁.setTop (entryFrame m #[(.int p1)] maxLocals)) t := fun t k => castTop (ef_0 m p1) k
  -- 3. LAWS
  obtain ⟨T3, X3, e3, st3⟩ := getS2 X0 hx hZ hown (host := "") (Or.inl (hw _ (List.mem_of_getElem? (i := 27) rfl))) Via.refl e0 S_LOT (g := (mkF m 39 #[.val (.int p1), .val (.int ((p1 &&& (2147483647 : Int32)) % (5 : Int32))), .unset, .unset, .unset, .unset] [])) rfl (hb hby at_39)
  -- pc 69: com/example/margrave/margrave/margin/Tier.isPercentage by the contract of the body that the receiver's class selects, rm1
  obtain ⟨cq4, kq4, q4a, q4b, q4c⟩ := isOf hZ e3 E_w2
  obtain ⟨_, _, ⟨T4, L4, k4, n4⟩, -, X4, ⟨Lc4, hQ4, l4, y4, z4⟩, st4⟩ := X3.virtualBack hx (y := (⟨"com/example/margrave/margrave/margin/Tier", "isPercentage", "()Z"⟩ : MethodName)) (z := (⟨"com/example/margrave/margrave/margin/Tier", "isPercentage", "()Z"⟩ : MethodName)) hown (mvT hZ (hw _ (List.mem_of_getElem? (i := 4) rfl))) (mvT hZ (hw _ (List.mem_of_getElem? (i := 5) rfl))) (notFace_of_selects (args := #[]) (mvT hZ (hw _ (List.mem_of_getElem? (i := 7) rfl)))) (mvT hZ (hw _ (List.mem_of_getElem? (i := 7) rfl))) (mvT hZ (hw _ (List.mem_of_getElem? (i := 6) rfl))) (by decide) (backOf (W := 0) (rm1a l Z a0 hw [] w2 wm w6 h0 n0 Z0 F_method S_RATIO ha81) hZ (hw _ (List.mem_of_getElem? (i := 8) rfl)) (hw _ (List.mem_of_getElem? (i := 2) rfl)) (by decide) (by decide)) q4a q4c (g := (mkF m 69 #[.val (.int p1), .val (.int ((p1 &&& (2147483647 : Int32)) % (5 : Int32))), .val (.ref w2), .val (.int (0 : Int32)), .unset, .unset] [(.ref w2)])) rfl (by rw [hml]; rfl) (Steps.refl _) (argsL := []) (rest := []) (lenOf pd_0_0 rfl) rfl (by show 2 * 0 + _ ≤ _; exact Nat.le_of_eq rfl) (hb hby at_69) (fun _ _ => ⟨rfl, e3, (by exact Nat.le_of_ble_eq_true rfl), (by exact Nat.le_of_ble_eq_true rfl)⟩)
  dsimp only [Pt.U, Pt.locs, Pt.cells, Pt.slots] at X4 l4 y4 z4 st4 hQ4
  subst l4 y4 z4
  obtain ⟨rfl, N4q, eQ4⟩ := hQ4      -- what it returned, that it wrote nothing old, and the rest of your Q1
  have N4 := Fr.app N0 N4q
  -- pc 75: com/example/margrave/margrave/margin/Tier.method by the contract of the body that the receiver's class selects, rm2
  obtain ⟨cq5, kq5, q5a, q5b, q5c⟩ := isOf hZ eQ4 E_w2
  obtain ⟨_, _, ⟨T5, L5, k5, n5⟩, -, X5, ⟨Lc5, hQ5, l5, y5, z5⟩, st5⟩ := X4.virtualBack hx (y := (⟨"com/example/margrave/margrave/margin/Tier", "method", "()Lcom/example/margrave/margrave/core/Method;"⟩ : MethodName)) (z := (⟨"com/example/margrave/margrave/margin/Tier", "method", "()Lcom/example/margrave/margrave/core/Method;"⟩ : MethodName)) hown (mvT hZ (hw _ (List.mem_of_getElem? (i := 15) rfl))) (mvT hZ (hw _ (List.mem_of_getElem? (i := 16) rfl))) (notFace_of_selects (args := #[]) (mvT hZ (hw _ (List.mem_of_getElem? (i := 18) rfl)))) (mvT hZ (hw _ (List.mem_of_getElem? (i := 18) rfl))) (mvT hZ (hw _ (List.mem_of_getElem? (i := 17) rfl))) (by decide) (backOf (W := 0) (rm2 l Z a0 hw [] w2 wm h0 n0 Z0 F_method) hZ (hw _ (List.mem_of_getElem? (i := 19) rfl)) (hw _ (List.mem_of_getElem? (i := 2) rfl)) (by decide) (by decide)) q5a q5c (g := (mkF m 75 #[.val (.int p1), .val (.int ((p1 &&& (2147483647 : Int32)) % (5 : Int32))), .val (.ref w2), .val (.int (0 : Int32)), .val (.int (0 : Int32)), .unset] [(.ref w2)])) rfl (by rw [hml]; rfl) (Steps.refl _) (argsL := []) (rest := []) (lenOf pd_0_1 rfl) rfl (by show 2 * 0 + _ ≤ _; exact Nat.le_of_eq rfl) (hb hby at_75) (fun _ _ => ⟨rfl, eQ4, (by exact Nat.le_of_ble_eq_true rfl), (by exact Nat.le_of_ble_eq_true rfl)⟩)
  dsimp only [Pt.U, Pt.locs, Pt.cells, Pt.slots] at X5 l5 y5 z5 st5 hQ5
  subst l5 y5 z5
  obtain ⟨rfl, N5q, eQ5⟩ := hQ5      -- what it returned, that it wrote nothing old, and the rest of your Q2
  have N5 := Fr.app N4 N5q
  obtain ⟨T7, X7, e7, st7⟩ := getS2 X5 hx hZ hown (host := "") (Or.inl (hw _ (List.mem_of_getElem? (i := 20) rfl))) Via.refl eQ5 S_RATIO (g := (mkF m 78 #[.val (.int p1), .val (.int ((p1 &&& (2147483647 : Int32)) % (5 : Int32))), .val (.ref w2), .val (.int (0 : Int32)), .val (.int (0 : Int32)), .unset] [(.ref wm)])) rfl (hb hby at_78)
  obtain ⟨fs, hr, hrun, hended, hW, hsame⟩ := X7.leave (v := some (.int (1 : Int32))) (fun h => by rw [Bd.returns] at h; cases h)
  refine ⟨_, _, pre0 _ ?_, hrun, hended, _, _, rfl, ?_, ⟨_, rfl⟩, hW, hsame.mono (by decide) (by decide)⟩
  -- 4. STEPS
  · show Steps p.tables e below (s₁.setTop (mkF m 0 #[.val (.int p1), .unset, .unset, .unset, .unset, .unset] [])) _
    refine XS.iloadN X0.here hx rfl (hb hby at_0) rfl ?_
    show Steps p.tables e below (s₁.setTop (mkF m 1 #[.val (.int p1), .unset, .unset, .unset, .unset, .unset] [(.int p1)])) _
    refine X0.ldcInt hx hown (mvT hZ (hw _ (List.mem_of_getElem? (i := 0) rfl))) (g := (mkF m 1 #[.val (.int p1), .unset, .unset, .unset, .unset, .unset] [(.int p1)])) rfl (hb hby at_1) _ ?_
    show Steps p.tables e below (s₁.setTop (mkF m 3 #[.val (.int p1), .unset, .unset, .unset, .unset, .unset] [(.int (2147483647 : Int32)), (.int p1)])) _
    refine XS.iand X0.here hx rfl (hb hby at_3) rfl ?_
    show Steps p.tables e below (s₁.setTop (mkF m 4 #[.val (.int p1), .unset, .unset, .unset, .unset, .unset] [(.int (p1 &&& (2147483647 : Int32)))])) _
    refine XS.iconst X0.here hx rfl (hb hby at_4) ?_
    show Steps p.tables e below (s₁.setTop (mkF m 5 #[.val (.int p1), .unset, .unset, .unset, .unset, .unset] [(.int (5 : Int32)), (.int (p1 &&& (2147483647 : Int32)))])) _
    refine Jvm.RoadKit.iremM X0 hx rfl (hb hby at_5) rfl hnz5 ?_
    show Steps p.tables e below (s₁.setTop (mkF m 6 #[.val (.int p1), .unset, .unset, .unset, .unset, .unset] [(.int ((p1 &&& (2147483647 : Int32)) % (5 : Int32)))])) _
    refine XS.istoreN X0.here hx rfl (hb hby at_6) rfl (l' := #[.val (.int p1), .val (.int ((p1 &&& (2147483647 : Int32)) % (5 : Int32))), .unset, .unset, .unset, .unset]) rfl ?_
    show Steps p.tables e below (s₁.setTop (mkF m 7 #[.val (.int p1), .val (.int ((p1 &&& (2147483647 : Int32)) % (5 : Int32))), .unset, .unset, .unset, .unset] [])) _
    refine XS.iloadN X0.here hx rfl (hb hby at_7) rfl ?_
    show Steps p.tables e below (s₁.setTop (mkF m 8 #[.val (.int p1), .val (.int ((p1 &&& (2147483647 : Int32)) % (5 : Int32))), .unset, .unset, .unset, .unset] [(.int ((p1 &&& (2147483647 : Int32)) % (5 : Int32)))])) _
    refine XS.ifYes X0.here hx rfl (pc0 := 8) (pc' := 20) rfl (hb hby at_8) rfl ((if0 _ _).trans (feq hc8).2) (by decide) (by decide) ?_
    show Steps p.tables e below (s₁.setTop (mkF m 20 #[.val (.int p1), .val (.int ((p1 &&& (2147483647 : Int32)) % (5 : Int32))), .unset, .unset, .unset, .unset] [])) _
    refine XS.iloadN X0.here hx rfl (hb hby at_20) rfl ?_
    show Steps p.tables e below (s₁.setTop (mkF m 21 #[.val (.int p1), .val (.int ((p1 &&& (2147483647 : Int32)) % (5 : Int32))), .unset, .unset, .unset, .unset] [(.int ((p1 &&& (2147483647 : Int32)) % (5 : Int32)))])) _
    refine XS.iconst X0.here hx rfl (hb hby at_21) ?_
    show Steps p.tables e below (s₁.setTop (mkF m 22 #[.val (.int p1), .val (.int ((p1 &&& (2147483647 : Int32)) % (5 : Int32))), .unset, .unset, .unset, .unset] [(.int (1 : Int32)), (.int ((p1 &&& (2147483647 : Int32)) % (5 : Int32)))])) _
    refine XS.icmpYes X0.here hx rfl (pc0 := 22) (pc' := 34) rfl (hb hby at_22) rfl (feq hc22).2 (by decide) (by decide) ?_
    show Steps p.tables e below (s₁.setTop (mkF m 34 #[.val (.int p1), .val (.int ((p1 &&& (2147483647 : Int32)) % (5 : Int32))), .unset, .unset, .unset, .unset] [])) _
    refine XS.iloadN X0.here hx rfl (hb hby at_34) rfl ?_
    show Steps p.tables e below (s₁.setTop (mkF m 35 #[.val (.int p1), .val (.int ((p1 &&& (2147483647 : Int32)) % (5 : Int32))), .unset, .unset, .unset, .unset] [(.int ((p1 &&& (2147483647 : Int32)) % (5 : Int32)))])) _
    refine XS.iconst X0.here hx rfl (hb hby at_35) ?_
    show Steps p.tables e below (s₁.setTop (mkF m 36 #[.val (.int p1), .val (.int ((p1 &&& (2147483647 : Int32)) % (5 : Int32))), .unset, .unset, .unset, .unset] [(.int (2 : Int32)), (.int ((p1 &&& (2147483647 : Int32)) % (5 : Int32)))])) _
    refine XS.icmpNo X0.here hx rfl (hb hby at_36) rfl (teq hc36).2 ?_
    show Steps p.tables e below (s₁.setTop (mkF m 39 #[.val (.int p1), .val (.int ((p1 &&& (2147483647 : Int32)) % (5 : Int32))), .unset, .unset, .unset, .unset] [])) _
    refine st3 _ ?_
    show Steps p.tables e below (T3.setTop (mkF m 42 #[.val (.int p1), .val (.int ((p1 &&& (2147483647 : Int32)) % (5 : Int32))), .unset, .unset, .unset, .unset] [(.ref w2)])) _
    refine XS.astoreN X3.here hx rfl (hb hby at_42) rfl rfl (l' := #[.val (.int p1), .val (.int ((p1 &&& (2147483647 : Int32)) % (5 : Int32))), .val (.ref w2), .unset, .unset, .unset]) rfl ?_
    show Steps p.tables e below (T3.setTop (mkF m 43 #[.val (.int p1), .val (.int ((p1 &&& (2147483647 : Int32)) % (5 : Int32))), .val (.ref w2), .unset, .unset, .unset] [])) _
    refine XS.iconst X3.here hx rfl (hb hby at_43) ?_
    show Steps p.tables e below (T3.setTop (mkF m 44 #[.val (.int p1), .val (.int ((p1 &&& (2147483647 : Int32)) % (5 : Int32))), .val (.ref w2), .unset, .unset, .unset] [(.int (0 : Int32))])) _
    refine XS.istoreN X3.here hx rfl (hb hby at_44) rfl (l' := #[.val (.int p1), .val (.int ((p1 &&& (2147483647 : Int32)) % (5 : Int32))), .val (.ref w2), .val (.int (0 : Int32)), .unset, .unset]) rfl ?_
    show Steps p.tables e below (T3.setTop (mkF m 45 #[.val (.int p1), .val (.int ((p1 &&& (2147483647 : Int32)) % (5 : Int32))), .val (.ref w2), .val (.int (0 : Int32)), .unset, .unset] [])) _
    refine XS.goto X3.here hx rfl (pc0 := 45) (pc' := 68) rfl (hb hby at_45) (by decide) (by decide) ?_
    show Steps p.tables e below (T3.setTop (mkF m 68 #[.val (.int p1), .val (.int ((p1 &&& (2147483647 : Int32)) % (5 : Int32))), .val (.ref w2), .val (.int (0 : Int32)), .unset, .unset] [])) _
    refine XS.aloadN X3.here hx rfl (hb hby at_68) rfl rfl ?_
    show Steps p.tables e below (T3.setTop (mkF m 69 #[.val (.int p1), .val (.int ((p1 &&& (2147483647 : Int32)) % (5 : Int32))), .val (.ref w2), .val (.int (0 : Int32)), .unset, .unset] [(.ref w2)])) _
    refine st4.trans ?_
    show Steps p.tables e below (T4.setTop (mkF m 72 #[.val (.int p1), .val (.int ((p1 &&& (2147483647 : Int32)) % (5 : Int32))), .val (.ref w2), .val (.int (0 : Int32)), .unset, .unset] [(.int (0 : Int32))])) _
    refine XS.istore X4.here hx rfl (hb hby at_72) rfl (l' := #[.val (.int p1), .val (.int ((p1 &&& (2147483647 : Int32)) % (5 : Int32))), .val (.ref w2), .val (.int (0 : Int32)), .val (.int (0 : Int32)), .unset]) rfl ?_
    show Steps p.tables e below (T4.setTop (mkF m 74 #[.val (.int p1), .val (.int ((p1 &&& (2147483647 : Int32)) % (5 : Int32))), .val (.ref w2), .val (.int (0 : Int32)), .val (.int (0 : Int32)), .unset] [])) _
    refine XS.aloadN X4.here hx rfl (hb hby at_74) rfl rfl ?_
    show Steps p.tables e below (T4.setTop (mkF m 75 #[.val (.int p1), .val (.int ((p1 &&& (2147483647 : Int32)) % (5 : Int32))), .val (.ref w2), .val (.int (0 : Int32)), .val (.int (0 : Int32)), .unset] [(.ref w2)])) _
    refine st5.trans ?_
    show Steps p.tables e below (T5.setTop (mkF m 78 #[.val (.int p1), .val (.int ((p1 &&& (2147483647 : Int32)) % (5 : Int32))), .val (.ref w2), .val (.int (0 : Int32)), .val (.int (0 : Int32)), .unset] [(.ref wm)])) _
    refine st7 _ ?_
    show Steps p.tables e below (T7.setTop (mkF m 81 #[.val (.int p1), .val (.int ((p1 &&& (2147483647 : Int32)) % (5 : Int32))), .val (.ref w2), .val (.int (0 : Int32)), .val (.int (0 : Int32)), .unset] [(.ref w6), (.ref wm)])) _
    refine Jvm.RoadKit.acmp (g := (mkF m 81 #[.val (.int p1), .val (.int ((p1 &&& (2147483647 : Int32)) % (5 : Int32))), .val (.ref w2), .val (.int (0 : Int32)), .val (.int (0 : Int32)), .unset] [(.ref w6), (.ref wm)])) X7 hx rfl rfl rfl (pc0 := 81) (pc' := 88) (same := false) rfl (hb hby at_81) rfl (decide_eq_false fun q => ha81 (Value.ref.inj q)) (by decide) (by decide) ?_
    show Steps p.tables e below (T7.setTop (mkF m 88 #[.val (.int p1), .val (.int ((p1 &&& (2147483647 : Int32)) % (5 : Int32))), .val (.ref w2), .val (.int (0 : Int32)), .val (.int (0 : Int32)), .unset] [])) _
    refine XS.iconst X7.here hx rfl (hb hby at_88) ?_
    show Steps p.tables e below (T7.setTop (mkF m 89 #[.val (.int p1), .val (.int ((p1 &&& (2147483647 : Int32)) % (5 : Int32))), .val (.ref w2), .val (.int (0 : Int32)), .val (.int (0 : Int32)), .unset] [(.int (0 : Int32))])) _
    refine XS.istore X7.here hx rfl (hb hby at_89) rfl (l' := #[.val (.int p1), .val (.int ((p1 &&& (2147483647 : Int32)) % (5 : Int32))), .val (.ref w2), .val (.int (0 : Int32)), .val (.int (0 : Int32)), .val (.int (0 : Int32))]) rfl ?_
    show Steps p.tables e below (T7.setTop (mkF m 91 #[.val (.int p1), .val (.int ((p1 &&& (2147483647 : Int32)) % (5 : Int32))), .val (.ref w2), .val (.int (0 : Int32)), .val (.int (0 : Int32)), .val (.int (0 : Int32))] [])) _
    refine XS.iload X7.here hx rfl (hb hby at_91) rfl ?_
    show Steps p.tables e below (T7.setTop (mkF m 93 #[.val (.int p1), .val (.int ((p1 &&& (2147483647 : Int32)) % (5 : Int32))), .val (.ref w2), .val (.int (0 : Int32)), .val (.int (0 : Int32)), .val (.int (0 : Int32))] [(.int (0 : Int32))])) _
    refine XS.iloadN X7.here hx rfl (hb hby at_93) rfl ?_
    show Steps p.tables e below (T7.setTop (mkF m 94 #[.val (.int p1), .val (.int ((p1 &&& (2147483647 : Int32)) % (5 : Int32))), .val (.ref w2), .val (.int (0 : Int32)), .val (.int (0 : Int32)), .val (.int (0 : Int32))] [(.int (0 : Int32)), (.int (0 : Int32))])) _
    refine XS.icmpNo X7.here hx rfl (hb hby at_94) rfl (teq (rfl : (0 : Int32) = (0 : Int32))).2 ?_
    show Steps p.tables e below (T7.setTop (mkF m 97 #[.val (.int p1), .val (.int ((p1 &&& (2147483647 : Int32)) % (5 : Int32))), .val (.ref w2), .val (.int (0 : Int32)), .val (.int (0 : Int32)), .val (.int (0 : Int32))] [])) _
    refine XS.iload X7.here hx rfl (hb hby at_97) rfl ?_
    show Steps p.tables e below (T7.setTop (mkF m 99 #[.val (.int p1), .val (.int ((p1 &&& (2147483647 : Int32)) % (5 : Int32))), .val (.ref w2), .val (.int (0 : Int32)), .val (.int (0 : Int32)), .val (.int (0 : Int32))] [(.int (0 : Int32))])) _
    refine XS.iload X7.here hx rfl (hb hby at_99) rfl ?_
    show Steps p.tables e below (T7.setTop (mkF m 101 #[.val (.int p1), .val (.int ((p1 &&& (2147483647 : Int32)) % (5 : Int32))), .val (.ref w2), .val (.int (0 : Int32)), .val (.int (0 : Int32)), .val (.int (0 : Int32))] [(.int (0 : Int32)), (.int (0 : Int32))])) _
    refine XS.icmpNo X7.here hx rfl (hb hby at_101) rfl (teq (rfl : (0 : Int32) = (0 : Int32))).2 ?_
    show Steps p.tables e below (T7.setTop (mkF m 104 #[.val (.int p1), .val (.int ((p1 &&& (2147483647 : Int32)) % (5 : Int32))), .val (.ref w2), .val (.int (0 : Int32)), .val (.int (0 : Int32)), .val (.int (0 : Int32))] [])) _
    refine XS.iconst X7.here hx rfl (hb hby at_104) ?_
    show Steps p.tables e below (T7.setTop (mkF m 105 #[.val (.int p1), .val (.int ((p1 &&& (2147483647 : Int32)) % (5 : Int32))), .val (.ref w2), .val (.int (0 : Int32)), .val (.int (0 : Int32)), .val (.int (0 : Int32))] [(.int (1 : Int32))])) _
    refine XS.goto X7.here hx rfl (pc0 := 105) (pc' := 109) rfl (hb hby at_105) (by decide) (by decide) ?_
    show Steps p.tables e below (T7.setTop (mkF m 109 #[.val (.int p1), .val (.int ((p1 &&& (2147483647 : Int32)) % (5 : Int32))), .val (.ref w2), .val (.int (0 : Int32)), .val (.int (0 : Int32)), .val (.int (0 : Int32))] [(.int (1 : Int32))])) _
    exact retN X7 hx (t := .boolean) Bd.returns (by simp) (hb hby at_109) hr
  · show Q0c Z p1 w2 w6 h0 n0 _ T7.heap _
    rw [e7]
    exact ⟨rfl, N5, rfl⟩
def Q0d (Z : State) (p1 : Int32) (w2 : Addr) (w6 : Addr) (h0 : Heap) (n0 : Nat) (v : Option Value) (h : Heap) (L : List Loc) : Prop := v = some (.int (1 : Int32)) ∧ Fr n0 L ∧ h = h0
set_option maxRecDepth 65536 in
set_option maxHeartbeats 40000000 in
theorem rm0d (l : Launch) (Z : State) (a0 : Array Value) (hw : ∀ d ∈ tables_1, d.before a0 Z = true) (ws : List Jvm.Cond) (p1 : Int32) (w2 : Addr) (w6 : Addr) (h0 : Heap) (n0 : Nat) (Z0 : n0 ≤ h0.size) (F_method : Fld Z h0 w2 "com/example/margrave/margrave/margin/Tier" "method" "Lcom/example/margrave/margrave/core/Method;" (.ref w6)) (S_A_PERCENT : Sta Z h0 "com/example/margrave/margrave/margin/Tier" "A_PERCENT" "Lcom/example/margrave/margrave/margin/Tier;" (.ref w2)) (E_w2 : Exa Z h0 w2 "com/example/margrave/margrave/margin/Tier") (S_RATIO : Sta Z h0 "com/example/margrave/margrave/core/Method" "RATIO" "Lcom/example/margrave/margrave/core/Method;" (.ref w6)) (hnz5 : ¬ ((5 : Int32) = (0 : Int32))) (hc8 : ¬ (((p1 &&& (2147483647 : Int32)) % (5 : Int32)) = (0 : Int32))) (hc22 : ¬ (((p1 &&& (2147483647 : Int32)) % (5 : Int32)) = (1 : Int32))) (hc36 : ¬ (((p1 &&& (2147483647 : Int32)) % (5 : Int32)) = (2 : Int32))) (hc50 : ((p1 &&& (2147483647 : Int32)) % (5 : Int32)) = (3 : Int32)) :
    MetFree l x (head1 (Jvm.Cond.code x code maxLocals ret :: ws) room_1) (fun a U => a = #[(.int p1)] ∧ Z.Warmed39 U.vm ∧ U.heap = h0) (fun _ _ _ _ _ => True) (fun _ U o U' => ∃ v L, o = .returned v ∧ Q0d Z p1 w2 w6 h0 n0 v U'.heap L ∧ FrameEnd U o U' L room_1.cells room_1.slots) := by
  refine MetFree.of_bodySF (plainFor_of_name pn_0) hisR ?_
  intro p e s m args below meth c s₁ Bd hml0 hP hK
  obtain ⟨rfl, hZ, hh⟩ := hP
  have hx := Bd.exec
  have hby := Bd.bytes
  have hml : c.maxLocals = 6 := hml0
  have hown : s.vm.findClass "com/example/margrave/margrave/margin/TierIsPercentagePinLaw" = some m.cls := findClass_of_methodNamed Bd.named
  have hnm := (name_of_methodNamed Bd.named Bd.method).1
  have X0 : Stand p l e room_1 s m #[(.int p1)] below meth c s₁ [] 0 0 := Stand.of_body Bd
  have e0 : s₁.heap = h0 := by rw [← hh, Bd.state]; rfl
  have N0 := Fr.nil n0
  have pre0 : ∀ t, Steps p.tables e below (s₁.setTop (mkF m 0 #[.val (.int p1), .unset, .unset, .unset, .unset, .unset] [])) t → Steps p.tables e below (s₁.setTop (entryFrame m #[(.int p1)] maxLocals)) t := fun t k => castTop (ef_0 m p1) k
  -- 3. LAWS
  obtain ⟨T3, X3, e3, st3⟩ := getS2 X0 hx hZ hown (host := "") (Or.inl (hw _ (List.mem_of_getElem? (i := 21) rfl))) Via.refl e0 S_A_PERCENT (g := (mkF m 53 #[.val (.int p1), .val (.int ((p1 &&& (2147483647 : Int32)) % (5 : Int32))), .unset, .unset, .unset, .unset] [])) rfl (hb hby at_53)
  -- pc 69: com/example/margrave/margrave/margin/Tier.isPercentage by the contract of the body that the receiver's class selects, rm1
  obtain ⟨cq4, kq4, q4a, q4b, q4c⟩ := isOf hZ e3 E_w2
  obtain ⟨_, _, ⟨T4, L4, k4, n4⟩, -, X4, ⟨Lc4, hQ4, l4, y4, z4⟩, st4⟩ := X3.virtualBack hx (y := (⟨"com/example/margrave/margrave/margin/Tier", "isPercentage", "()Z"⟩ : MethodName)) (z := (⟨"com/example/margrave/margrave/margin/Tier", "isPercentage", "()Z"⟩ : MethodName)) hown (mvT hZ (hw _ (List.mem_of_getElem? (i := 4) rfl))) (mvT hZ (hw _ (List.mem_of_getElem? (i := 5) rfl))) (notFace_of_selects (args := #[]) (mvT hZ (hw _ (List.mem_of_getElem? (i := 7) rfl)))) (mvT hZ (hw _ (List.mem_of_getElem? (i := 7) rfl))) (mvT hZ (hw _ (List.mem_of_getElem? (i := 6) rfl))) (by decide) (backOf (W := 0) (rm1b l Z a0 hw [] w2 w6 w6 h0 n0 Z0 F_method S_RATIO rfl) hZ (hw _ (List.mem_of_getElem? (i := 8) rfl)) (hw _ (List.mem_of_getElem? (i := 2) rfl)) (by decide) (by decide)) q4a q4c (g := (mkF m 69 #[.val (.int p1), .val (.int ((p1 &&& (2147483647 : Int32)) % (5 : Int32))), .val (.ref w2), .val (.int (1 : Int32)), .unset, .unset] [(.ref w2)])) rfl (by rw [hml]; rfl) (Steps.refl _) (argsL := []) (rest := []) (lenOf pd_0_0 rfl) rfl (by show 2 * 0 + _ ≤ _; exact Nat.le_of_eq rfl) (hb hby at_69) (fun _ _ => ⟨rfl, e3, (by exact Nat.le_of_ble_eq_true rfl), (by exact Nat.le_of_ble_eq_true rfl)⟩)
  dsimp only [Pt.U, Pt.locs, Pt.cells, Pt.slots] at X4 l4 y4 z4 st4 hQ4
  subst l4 y4 z4
  obtain ⟨rfl, N4q, eQ4⟩ := hQ4      -- what it returned, that it wrote nothing old, and the rest of your Q1
  have N4 := Fr.app N0 N4q
  -- pc 75: com/example/margrave/margrave/margin/Tier.method by the contract of the body that the receiver's class selects, rm2
  obtain ⟨cq5, kq5, q5a, q5b, q5c⟩ := isOf hZ eQ4 E_w2
  obtain ⟨_, _, ⟨T5, L5, k5, n5⟩, -, X5, ⟨Lc5, hQ5, l5, y5, z5⟩, st5⟩ := X4.virtualBack hx (y := (⟨"com/example/margrave/margrave/margin/Tier", "method", "()Lcom/example/margrave/margrave/core/Method;"⟩ : MethodName)) (z := (⟨"com/example/margrave/margrave/margin/Tier", "method", "()Lcom/example/margrave/margrave/core/Method;"⟩ : MethodName)) hown (mvT hZ (hw _ (List.mem_of_getElem? (i := 15) rfl))) (mvT hZ (hw _ (List.mem_of_getElem? (i := 16) rfl))) (notFace_of_selects (args := #[]) (mvT hZ (hw _ (List.mem_of_getElem? (i := 18) rfl)))) (mvT hZ (hw _ (List.mem_of_getElem? (i := 18) rfl))) (mvT hZ (hw _ (List.mem_of_getElem? (i := 17) rfl))) (by decide) (backOf (W := 0) (rm2 l Z a0 hw [] w2 w6 h0 n0 Z0 F_method) hZ (hw _ (List.mem_of_getElem? (i := 19) rfl)) (hw _ (List.mem_of_getElem? (i := 2) rfl)) (by decide) (by decide)) q5a q5c (g := (mkF m 75 #[.val (.int p1), .val (.int ((p1 &&& (2147483647 : Int32)) % (5 : Int32))), .val (.ref w2), .val (.int (1 : Int32)), .val (.int (1 : Int32)), .unset] [(.ref w2)])) rfl (by rw [hml]; rfl) (Steps.refl _) (argsL := []) (rest := []) (lenOf pd_0_1 rfl) rfl (by show 2 * 0 + _ ≤ _; exact Nat.le_of_eq rfl) (hb hby at_75) (fun _ _ => ⟨rfl, eQ4, (by exact Nat.le_of_ble_eq_true rfl), (by exact Nat.le_of_ble_eq_true rfl)⟩)
  dsimp only [Pt.U, Pt.locs, Pt.cells, Pt.slots] at X5 l5 y5 z5 st5 hQ5
  subst l5 y5 z5
  obtain ⟨rfl, N5q, eQ5⟩ := hQ5      -- what it returned, that it wrote nothing old, and the rest of your Q2
  have N5 := Fr.app N4 N5q
  obtain ⟨T7, X7, e7, st7⟩ := getS2 X5 hx hZ hown (host := "") (Or.inl (hw _ (List.mem_of_getElem? (i := 20) rfl))) Via.refl eQ5 S_RATIO (g := (mkF m 78 #[.val (.int p1), .val (.int ((p1 &&& (2147483647 : Int32)) % (5 : Int32))), .val (.ref w2), .val (.int (1 : Int32)), .val (.int (1 : Int32)), .unset] [(.ref w6)])) rfl (hb hby at_78)
  obtain ⟨fs, hr, hrun, hended, hW, hsame⟩ := X7.leave (v := some (.int (1 : Int32))) (fun h => by rw [Bd.returns] at h; cases h)
  refine ⟨_, _, pre0 _ ?_, hrun, hended, _, _, rfl, ?_, ⟨_, rfl⟩, hW, hsame.mono (by decide) (by decide)⟩
  -- 4. STEPS
  · show Steps p.tables e below (s₁.setTop (mkF m 0 #[.val (.int p1), .unset, .unset, .unset, .unset, .unset] [])) _
    refine XS.iloadN X0.here hx rfl (hb hby at_0) rfl ?_
    show Steps p.tables e below (s₁.setTop (mkF m 1 #[.val (.int p1), .unset, .unset, .unset, .unset, .unset] [(.int p1)])) _
    refine X0.ldcInt hx hown (mvT hZ (hw _ (List.mem_of_getElem? (i := 0) rfl))) (g := (mkF m 1 #[.val (.int p1), .unset, .unset, .unset, .unset, .unset] [(.int p1)])) rfl (hb hby at_1) _ ?_
    show Steps p.tables e below (s₁.setTop (mkF m 3 #[.val (.int p1), .unset, .unset, .unset, .unset, .unset] [(.int (2147483647 : Int32)), (.int p1)])) _
    refine XS.iand X0.here hx rfl (hb hby at_3) rfl ?_
    show Steps p.tables e below (s₁.setTop (mkF m 4 #[.val (.int p1), .unset, .unset, .unset, .unset, .unset] [(.int (p1 &&& (2147483647 : Int32)))])) _
    refine XS.iconst X0.here hx rfl (hb hby at_4) ?_
    show Steps p.tables e below (s₁.setTop (mkF m 5 #[.val (.int p1), .unset, .unset, .unset, .unset, .unset] [(.int (5 : Int32)), (.int (p1 &&& (2147483647 : Int32)))])) _
    refine Jvm.RoadKit.iremM X0 hx rfl (hb hby at_5) rfl hnz5 ?_
    show Steps p.tables e below (s₁.setTop (mkF m 6 #[.val (.int p1), .unset, .unset, .unset, .unset, .unset] [(.int ((p1 &&& (2147483647 : Int32)) % (5 : Int32)))])) _
    refine XS.istoreN X0.here hx rfl (hb hby at_6) rfl (l' := #[.val (.int p1), .val (.int ((p1 &&& (2147483647 : Int32)) % (5 : Int32))), .unset, .unset, .unset, .unset]) rfl ?_
    show Steps p.tables e below (s₁.setTop (mkF m 7 #[.val (.int p1), .val (.int ((p1 &&& (2147483647 : Int32)) % (5 : Int32))), .unset, .unset, .unset, .unset] [])) _
    refine XS.iloadN X0.here hx rfl (hb hby at_7) rfl ?_
    show Steps p.tables e below (s₁.setTop (mkF m 8 #[.val (.int p1), .val (.int ((p1 &&& (2147483647 : Int32)) % (5 : Int32))), .unset, .unset, .unset, .unset] [(.int ((p1 &&& (2147483647 : Int32)) % (5 : Int32)))])) _
    refine XS.ifYes X0.here hx rfl (pc0 := 8) (pc' := 20) rfl (hb hby at_8) rfl ((if0 _ _).trans (feq hc8).2) (by decide) (by decide) ?_
    show Steps p.tables e below (s₁.setTop (mkF m 20 #[.val (.int p1), .val (.int ((p1 &&& (2147483647 : Int32)) % (5 : Int32))), .unset, .unset, .unset, .unset] [])) _
    refine XS.iloadN X0.here hx rfl (hb hby at_20) rfl ?_
    show Steps p.tables e below (s₁.setTop (mkF m 21 #[.val (.int p1), .val (.int ((p1 &&& (2147483647 : Int32)) % (5 : Int32))), .unset, .unset, .unset, .unset] [(.int ((p1 &&& (2147483647 : Int32)) % (5 : Int32)))])) _
    refine XS.iconst X0.here hx rfl (hb hby at_21) ?_
    show Steps p.tables e below (s₁.setTop (mkF m 22 #[.val (.int p1), .val (.int ((p1 &&& (2147483647 : Int32)) % (5 : Int32))), .unset, .unset, .unset, .unset] [(.int (1 : Int32)), (.int ((p1 &&& (2147483647 : Int32)) % (5 : Int32)))])) _
    refine XS.icmpYes X0.here hx rfl (pc0 := 22) (pc' := 34) rfl (hb hby at_22) rfl (feq hc22).2 (by decide) (by decide) ?_
    show Steps p.tables e below (s₁.setTop (mkF m 34 #[.val (.int p1), .val (.int ((p1 &&& (2147483647 : Int32)) % (5 : Int32))), .unset, .unset, .unset, .unset] [])) _
    refine XS.iloadN X0.here hx rfl (hb hby at_34) rfl ?_
    show Steps p.tables e below (s₁.setTop (mkF m 35 #[.val (.int p1), .val (.int ((p1 &&& (2147483647 : Int32)) % (5 : Int32))), .unset, .unset, .unset, .unset] [(.int ((p1 &&& (2147483647 : Int32)) % (5 : Int32)))])) _
    refine XS.iconst X0.here hx rfl (hb hby at_35) ?_
    show Steps p.tables e below (s₁.setTop (mkF m 36 #[.val (.int p1), .val (.int ((p1 &&& (2147483647 : Int32)) % (5 : Int32))), .unset, .unset, .unset, .unset] [(.int (2 : Int32)), (.int ((p1 &&& (2147483647 : Int32)) % (5 : Int32)))])) _
    refine XS.icmpYes X0.here hx rfl (pc0 := 36) (pc' := 48) rfl (hb hby at_36) rfl (feq hc36).2 (by decide) (by decide) ?_
    show Steps p.tables e below (s₁.setTop (mkF m 48 #[.val (.int p1), .val (.int ((p1 &&& (2147483647 : Int32)) % (5 : Int32))), .unset, .unset, .unset, .unset] [])) _
    refine XS.iloadN X0.here hx rfl (hb hby at_48) rfl ?_
    show Steps p.tables e below (s₁.setTop (mkF m 49 #[.val (.int p1), .val (.int ((p1 &&& (2147483647 : Int32)) % (5 : Int32))), .unset, .unset, .unset, .unset] [(.int ((p1 &&& (2147483647 : Int32)) % (5 : Int32)))])) _
    refine XS.iconst X0.here hx rfl (hb hby at_49) ?_
    show Steps p.tables e below (s₁.setTop (mkF m 50 #[.val (.int p1), .val (.int ((p1 &&& (2147483647 : Int32)) % (5 : Int32))), .unset, .unset, .unset, .unset] [(.int (3 : Int32)), (.int ((p1 &&& (2147483647 : Int32)) % (5 : Int32)))])) _
    refine XS.icmpNo X0.here hx rfl (hb hby at_50) rfl (teq hc50).2 ?_
    show Steps p.tables e below (s₁.setTop (mkF m 53 #[.val (.int p1), .val (.int ((p1 &&& (2147483647 : Int32)) % (5 : Int32))), .unset, .unset, .unset, .unset] [])) _
    refine st3 _ ?_
    show Steps p.tables e below (T3.setTop (mkF m 56 #[.val (.int p1), .val (.int ((p1 &&& (2147483647 : Int32)) % (5 : Int32))), .unset, .unset, .unset, .unset] [(.ref w2)])) _
    refine XS.astoreN X3.here hx rfl (hb hby at_56) rfl rfl (l' := #[.val (.int p1), .val (.int ((p1 &&& (2147483647 : Int32)) % (5 : Int32))), .val (.ref w2), .unset, .unset, .unset]) rfl ?_
    show Steps p.tables e below (T3.setTop (mkF m 57 #[.val (.int p1), .val (.int ((p1 &&& (2147483647 : Int32)) % (5 : Int32))), .val (.ref w2), .unset, .unset, .unset] [])) _
    refine XS.iconst X3.here hx rfl (hb hby at_57) ?_
    show Steps p.tables e below (T3.setTop (mkF m 58 #[.val (.int p1), .val (.int ((p1 &&& (2147483647 : Int32)) % (5 : Int32))), .val (.ref w2), .unset, .unset, .unset] [(.int (1 : Int32))])) _
    refine XS.istoreN X3.here hx rfl (hb hby at_58) rfl (l' := #[.val (.int p1), .val (.int ((p1 &&& (2147483647 : Int32)) % (5 : Int32))), .val (.ref w2), .val (.int (1 : Int32)), .unset, .unset]) rfl ?_
    show Steps p.tables e below (T3.setTop (mkF m 59 #[.val (.int p1), .val (.int ((p1 &&& (2147483647 : Int32)) % (5 : Int32))), .val (.ref w2), .val (.int (1 : Int32)), .unset, .unset] [])) _
    refine XS.goto X3.here hx rfl (pc0 := 59) (pc' := 68) rfl (hb hby at_59) (by decide) (by decide) ?_
    show Steps p.tables e below (T3.setTop (mkF m 68 #[.val (.int p1), .val (.int ((p1 &&& (2147483647 : Int32)) % (5 : Int32))), .val (.ref w2), .val (.int (1 : Int32)), .unset, .unset] [])) _
    refine XS.aloadN X3.here hx rfl (hb hby at_68) rfl rfl ?_
    show Steps p.tables e below (T3.setTop (mkF m 69 #[.val (.int p1), .val (.int ((p1 &&& (2147483647 : Int32)) % (5 : Int32))), .val (.ref w2), .val (.int (1 : Int32)), .unset, .unset] [(.ref w2)])) _
    refine st4.trans ?_
    show Steps p.tables e below (T4.setTop (mkF m 72 #[.val (.int p1), .val (.int ((p1 &&& (2147483647 : Int32)) % (5 : Int32))), .val (.ref w2), .val (.int (1 : Int32)), .unset, .unset] [(.int (1 : Int32))])) _
    refine XS.istore X4.here hx rfl (hb hby at_72) rfl (l' := #[.val (.int p1), .val (.int ((p1 &&& (2147483647 : Int32)) % (5 : Int32))), .val (.ref w2), .val (.int (1 : Int32)), .val (.int (1 : Int32)), .unset]) rfl ?_
    show Steps p.tables e below (T4.setTop (mkF m 74 #[.val (.int p1), .val (.int ((p1 &&& (2147483647 : Int32)) % (5 : Int32))), .val (.ref w2), .val (.int (1 : Int32)), .val (.int (1 : Int32)), .unset] [])) _
    refine XS.aloadN X4.here hx rfl (hb hby at_74) rfl rfl ?_
    show Steps p.tables e below (T4.setTop (mkF m 75 #[.val (.int p1), .val (.int ((p1 &&& (2147483647 : Int32)) % (5 : Int32))), .val (.ref w2), .val (.int (1 : Int32)), .val (.int (1 : Int32)), .unset] [(.ref w2)])) _
    refine st5.trans ?_
    show Steps p.tables e below (T5.setTop (mkF m 78 #[.val (.int p1), .val (.int ((p1 &&& (2147483647 : Int32)) % (5 : Int32))), .val (.ref w2), .val (.int (1 : Int32)), .val (.int (1 : Int32)), .unset] [(.ref w6)])) _
    refine st7 _ ?_
    show Steps p.tables e below (T7.setTop (mkF m 81 #[.val (.int p1), .val (.int ((p1 &&& (2147483647 : Int32)) % (5 : Int32))), .val (.ref w2), .val (.int (1 : Int32)), .val (.int (1 : Int32)), .unset] [(.ref w6), (.ref w6)])) _
    refine Jvm.RoadKit.acmp (g := (mkF m 81 #[.val (.int p1), .val (.int ((p1 &&& (2147483647 : Int32)) % (5 : Int32))), .val (.ref w2), .val (.int (1 : Int32)), .val (.int (1 : Int32)), .unset] [(.ref w6), (.ref w6)])) X7 hx rfl rfl rfl (pc0 := 81) (pc' := 84) (same := true) rfl (hb hby at_81) rfl (decide_eq_true rfl) (by decide) (by decide) ?_
    show Steps p.tables e below (T7.setTop (mkF m 84 #[.val (.int p1), .val (.int ((p1 &&& (2147483647 : Int32)) % (5 : Int32))), .val (.ref w2), .val (.int (1 : Int32)), .val (.int (1 : Int32)), .unset] [])) _
    refine XS.iconst X7.here hx rfl (hb hby at_84) ?_
    show Steps p.tables e below (T7.setTop (mkF m 85 #[.val (.int p1), .val (.int ((p1 &&& (2147483647 : Int32)) % (5 : Int32))), .val (.ref w2), .val (.int (1 : Int32)), .val (.int (1 : Int32)), .unset] [(.int (1 : Int32))])) _
    refine XS.goto X7.here hx rfl (pc0 := 85) (pc' := 89) rfl (hb hby at_85) (by decide) (by decide) ?_
    show Steps p.tables e below (T7.setTop (mkF m 89 #[.val (.int p1), .val (.int ((p1 &&& (2147483647 : Int32)) % (5 : Int32))), .val (.ref w2), .val (.int (1 : Int32)), .val (.int (1 : Int32)), .unset] [(.int (1 : Int32))])) _
    refine XS.istore X7.here hx rfl (hb hby at_89) rfl (l' := #[.val (.int p1), .val (.int ((p1 &&& (2147483647 : Int32)) % (5 : Int32))), .val (.ref w2), .val (.int (1 : Int32)), .val (.int (1 : Int32)), .val (.int (1 : Int32))]) rfl ?_
    show Steps p.tables e below (T7.setTop (mkF m 91 #[.val (.int p1), .val (.int ((p1 &&& (2147483647 : Int32)) % (5 : Int32))), .val (.ref w2), .val (.int (1 : Int32)), .val (.int (1 : Int32)), .val (.int (1 : Int32))] [])) _
    refine XS.iload X7.here hx rfl (hb hby at_91) rfl ?_
    show Steps p.tables e below (T7.setTop (mkF m 93 #[.val (.int p1), .val (.int ((p1 &&& (2147483647 : Int32)) % (5 : Int32))), .val (.ref w2), .val (.int (1 : Int32)), .val (.int (1 : Int32)), .val (.int (1 : Int32))] [(.int (1 : Int32))])) _
    refine XS.iloadN X7.here hx rfl (hb hby at_93) rfl ?_
    show Steps p.tables e below (T7.setTop (mkF m 94 #[.val (.int p1), .val (.int ((p1 &&& (2147483647 : Int32)) % (5 : Int32))), .val (.ref w2), .val (.int (1 : Int32)), .val (.int (1 : Int32)), .val (.int (1 : Int32))] [(.int (1 : Int32)), (.int (1 : Int32))])) _
    refine XS.icmpNo X7.here hx rfl (hb hby at_94) rfl (teq (rfl : (1 : Int32) = (1 : Int32))).2 ?_
    show Steps p.tables e below (T7.setTop (mkF m 97 #[.val (.int p1), .val (.int ((p1 &&& (2147483647 : Int32)) % (5 : Int32))), .val (.ref w2), .val (.int (1 : Int32)), .val (.int (1 : Int32)), .val (.int (1 : Int32))] [])) _
    refine XS.iload X7.here hx rfl (hb hby at_97) rfl ?_
    show Steps p.tables e below (T7.setTop (mkF m 99 #[.val (.int p1), .val (.int ((p1 &&& (2147483647 : Int32)) % (5 : Int32))), .val (.ref w2), .val (.int (1 : Int32)), .val (.int (1 : Int32)), .val (.int (1 : Int32))] [(.int (1 : Int32))])) _
    refine XS.iload X7.here hx rfl (hb hby at_99) rfl ?_
    show Steps p.tables e below (T7.setTop (mkF m 101 #[.val (.int p1), .val (.int ((p1 &&& (2147483647 : Int32)) % (5 : Int32))), .val (.ref w2), .val (.int (1 : Int32)), .val (.int (1 : Int32)), .val (.int (1 : Int32))] [(.int (1 : Int32)), (.int (1 : Int32))])) _
    refine XS.icmpNo X7.here hx rfl (hb hby at_101) rfl (teq (rfl : (1 : Int32) = (1 : Int32))).2 ?_
    show Steps p.tables e below (T7.setTop (mkF m 104 #[.val (.int p1), .val (.int ((p1 &&& (2147483647 : Int32)) % (5 : Int32))), .val (.ref w2), .val (.int (1 : Int32)), .val (.int (1 : Int32)), .val (.int (1 : Int32))] [])) _
    refine XS.iconst X7.here hx rfl (hb hby at_104) ?_
    show Steps p.tables e below (T7.setTop (mkF m 105 #[.val (.int p1), .val (.int ((p1 &&& (2147483647 : Int32)) % (5 : Int32))), .val (.ref w2), .val (.int (1 : Int32)), .val (.int (1 : Int32)), .val (.int (1 : Int32))] [(.int (1 : Int32))])) _
    refine XS.goto X7.here hx rfl (pc0 := 105) (pc' := 109) rfl (hb hby at_105) (by decide) (by decide) ?_
    show Steps p.tables e below (T7.setTop (mkF m 109 #[.val (.int p1), .val (.int ((p1 &&& (2147483647 : Int32)) % (5 : Int32))), .val (.ref w2), .val (.int (1 : Int32)), .val (.int (1 : Int32)), .val (.int (1 : Int32))] [(.int (1 : Int32))])) _
    exact retN X7 hx (t := .boolean) Bd.returns (by simp) (hb hby at_109) hr
  · show Q0d Z p1 w2 w6 h0 n0 _ T7.heap _
    rw [e7]
    exact ⟨rfl, N5, rfl⟩
def Q0e (Z : State) (p1 : Int32) (w2 : Addr) (w6 : Addr) (h0 : Heap) (n0 : Nat) (v : Option Value) (h : Heap) (L : List Loc) : Prop := v = some (.int (1 : Int32)) ∧ Fr n0 L ∧ h = h0
set_option maxRecDepth 65536 in
set_option maxHeartbeats 40000000 in
theorem rm0e (l : Launch) (Z : State) (a0 : Array Value) (hw : ∀ d ∈ tables_1, d.before a0 Z = true) (ws : List Jvm.Cond) (p1 : Int32) (w2 : Addr) (w6 : Addr) (h0 : Heap) (n0 : Nat) (Z0 : n0 ≤ h0.size) (F_method : Fld Z h0 w2 "com/example/margrave/margrave/margin/Tier" "method" "Lcom/example/margrave/margrave/core/Method;" (.ref w6)) (S_B_PERCENT : Sta Z h0 "com/example/margrave/margrave/margin/Tier" "B_PERCENT" "Lcom/example/margrave/margrave/margin/Tier;" (.ref w2)) (E_w2 : Exa Z h0 w2 "com/example/margrave/margrave/margin/Tier") (S_RATIO : Sta Z h0 "com/example/margrave/margrave/core/Method" "RATIO" "Lcom/example/margrave/margrave/core/Method;" (.ref w6)) (hnz5 : ¬ ((5 : Int32) = (0 : Int32))) (hc8 : ¬ (((p1 &&& (2147483647 : Int32)) % (5 : Int32)) = (0 : Int32))) (hc22 : ¬ (((p1 &&& (2147483647 : Int32)) % (5 : Int32)) = (1 : Int32))) (hc36 : ¬ (((p1 &&& (2147483647 : Int32)) % (5 : Int32)) = (2 : Int32))) (hc50 : ¬ (((p1 &&& (2147483647 : Int32)) % (5 : Int32)) = (3 : Int32))) :
    MetFree l x (head1 (Jvm.Cond.code x code maxLocals ret :: ws) room_1) (fun a U => a = #[(.int p1)] ∧ Z.Warmed39 U.vm ∧ U.heap = h0) (fun _ _ _ _ _ => True) (fun _ U o U' => ∃ v L, o = .returned v ∧ Q0e Z p1 w2 w6 h0 n0 v U'.heap L ∧ FrameEnd U o U' L room_1.cells room_1.slots) := by
  refine MetFree.of_bodySF (plainFor_of_name pn_0) hisR ?_
  intro p e s m args below meth c s₁ Bd hml0 hP hK
  obtain ⟨rfl, hZ, hh⟩ := hP
  have hx := Bd.exec
  have hby := Bd.bytes
  have hml : c.maxLocals = 6 := hml0
  have hown : s.vm.findClass "com/example/margrave/margrave/margin/TierIsPercentagePinLaw" = some m.cls := findClass_of_methodNamed Bd.named
  have hnm := (name_of_methodNamed Bd.named Bd.method).1
  have X0 : Stand p l e room_1 s m #[(.int p1)] below meth c s₁ [] 0 0 := Stand.of_body Bd
  have e0 : s₁.heap = h0 := by rw [← hh, Bd.state]; rfl
  have N0 := Fr.nil n0
  have pre0 : ∀ t, Steps p.tables e below (s₁.setTop (mkF m 0 #[.val (.int p1), .unset, .unset, .unset, .unset, .unset] [])) t → Steps p.tables e below (s₁.setTop (entryFrame m #[(.int p1)] maxLocals)) t := fun t k => castTop (ef_0 m p1) k
  -- 3. LAWS
  obtain ⟨T3, X3, e3, st3⟩ := getS2 X0 hx hZ hown (host := "") (Or.inl (hw _ (List.mem_of_getElem? (i := 25) rfl))) Via.refl e0 S_B_PERCENT (g := (mkF m 62 #[.val (.int p1), .val (.int ((p1 &&& (2147483647 : Int32)) % (5 : Int32))), .unset, .unset, .unset, .unset] [])) rfl (hb hby at_62)
  -- pc 69: com/example/margrave/margrave/margin/Tier.isPercentage by the contract of the body that the receiver's class selects, rm1
  obtain ⟨cq4, kq4, q4a, q4b, q4c⟩ := isOf hZ e3 E_w2
  obtain ⟨_, _, ⟨T4, L4, k4, n4⟩, -, X4, ⟨Lc4, hQ4, l4, y4, z4⟩, st4⟩ := X3.virtualBack hx (y := (⟨"com/example/margrave/margrave/margin/Tier", "isPercentage", "()Z"⟩ : MethodName)) (z := (⟨"com/example/margrave/margrave/margin/Tier", "isPercentage", "()Z"⟩ : MethodName)) hown (mvT hZ (hw _ (List.mem_of_getElem? (i := 4) rfl))) (mvT hZ (hw _ (List.mem_of_getElem? (i := 5) rfl))) (notFace_of_selects (args := #[]) (mvT hZ (hw _ (List.mem_of_getElem? (i := 7) rfl)))) (mvT hZ (hw _ (List.mem_of_getElem? (i := 7) rfl))) (mvT hZ (hw _ (List.mem_of_getElem? (i := 6) rfl))) (by decide) (backOf (W := 0) (rm1b l Z a0 hw [] w2 w6 w6 h0 n0 Z0 F_method S_RATIO rfl) hZ (hw _ (List.mem_of_getElem? (i := 8) rfl)) (hw _ (List.mem_of_getElem? (i := 2) rfl)) (by decide) (by decide)) q4a q4c (g := (mkF m 69 #[.val (.int p1), .val (.int ((p1 &&& (2147483647 : Int32)) % (5 : Int32))), .val (.ref w2), .val (.int (1 : Int32)), .unset, .unset] [(.ref w2)])) rfl (by rw [hml]; rfl) (Steps.refl _) (argsL := []) (rest := []) (lenOf pd_0_0 rfl) rfl (by show 2 * 0 + _ ≤ _; exact Nat.le_of_eq rfl) (hb hby at_69) (fun _ _ => ⟨rfl, e3, (by exact Nat.le_of_ble_eq_true rfl), (by exact Nat.le_of_ble_eq_true rfl)⟩)
  dsimp only [Pt.U, Pt.locs, Pt.cells, Pt.slots] at X4 l4 y4 z4 st4 hQ4
  subst l4 y4 z4
  obtain ⟨rfl, N4q, eQ4⟩ := hQ4      -- what it returned, that it wrote nothing old, and the rest of your Q1
  have N4 := Fr.app N0 N4q
  -- pc 75: com/example/margrave/margrave/margin/Tier.method by the contract of the body that the receiver's class selects, rm2
  obtain ⟨cq5, kq5, q5a, q5b, q5c⟩ := isOf hZ eQ4 E_w2
  obtain ⟨_, _, ⟨T5, L5, k5, n5⟩, -, X5, ⟨Lc5, hQ5, l5, y5, z5⟩, st5⟩ := X4.virtualBack hx (y := (⟨"com/example/margrave/margrave/margin/Tier", "method", "()Lcom/example/margrave/margrave/core/Method;"⟩ : MethodName)) (z := (⟨"com/example/margrave/margrave/margin/Tier", "method", "()Lcom/example/margrave/margrave/core/Method;"⟩ : MethodName)) hown (mvT hZ (hw _ (List.mem_of_getElem? (i := 15) rfl))) (mvT hZ (hw _ (List.mem_of_getElem? (i := 16) rfl))) (notFace_of_selects (args := #[]) (mvT hZ (hw _ (List.mem_of_getElem? (i := 18) rfl)))) (mvT hZ (hw _ (List.mem_of_getElem? (i := 18) rfl))) (mvT hZ (hw _ (List.mem_of_getElem? (i := 17) rfl))) (by decide) (backOf (W := 0) (rm2 l Z a0 hw [] w2 w6 h0 n0 Z0 F_method) hZ (hw _ (List.mem_of_getElem? (i := 19) rfl)) (hw _ (List.mem_of_getElem? (i := 2) rfl)) (by decide) (by decide)) q5a q5c (g := (mkF m 75 #[.val (.int p1), .val (.int ((p1 &&& (2147483647 : Int32)) % (5 : Int32))), .val (.ref w2), .val (.int (1 : Int32)), .val (.int (1 : Int32)), .unset] [(.ref w2)])) rfl (by rw [hml]; rfl) (Steps.refl _) (argsL := []) (rest := []) (lenOf pd_0_1 rfl) rfl (by show 2 * 0 + _ ≤ _; exact Nat.le_of_eq rfl) (hb hby at_75) (fun _ _ => ⟨rfl, eQ4, (by exact Nat.le_of_ble_eq_true rfl), (by exact Nat.le_of_ble_eq_true rfl)⟩)
  dsimp only [Pt.U, Pt.locs, Pt.cells, Pt.slots] at X5 l5 y5 z5 st5 hQ5
  subst l5 y5 z5
  obtain ⟨rfl, N5q, eQ5⟩ := hQ5      -- what it returned, that it wrote nothing old, and the rest of your Q2
  have N5 := Fr.app N4 N5q
  obtain ⟨T7, X7, e7, st7⟩ := getS2 X5 hx hZ hown (host := "") (Or.inl (hw _ (List.mem_of_getElem? (i := 20) rfl))) Via.refl eQ5 S_RATIO (g := (mkF m 78 #[.val (.int p1), .val (.int ((p1 &&& (2147483647 : Int32)) % (5 : Int32))), .val (.ref w2), .val (.int (1 : Int32)), .val (.int (1 : Int32)), .unset] [(.ref w6)])) rfl (hb hby at_78)
  obtain ⟨fs, hr, hrun, hended, hW, hsame⟩ := X7.leave (v := some (.int (1 : Int32))) (fun h => by rw [Bd.returns] at h; cases h)
  refine ⟨_, _, pre0 _ ?_, hrun, hended, _, _, rfl, ?_, ⟨_, rfl⟩, hW, hsame.mono (by decide) (by decide)⟩
  -- 4. STEPS
  · show Steps p.tables e below (s₁.setTop (mkF m 0 #[.val (.int p1), .unset, .unset, .unset, .unset, .unset] [])) _
    refine XS.iloadN X0.here hx rfl (hb hby at_0) rfl ?_
    show Steps p.tables e below (s₁.setTop (mkF m 1 #[.val (.int p1), .unset, .unset, .unset, .unset, .unset] [(.int p1)])) _
    refine X0.ldcInt hx hown (mvT hZ (hw _ (List.mem_of_getElem? (i := 0) rfl))) (g := (mkF m 1 #[.val (.int p1), .unset, .unset, .unset, .unset, .unset] [(.int p1)])) rfl (hb hby at_1) _ ?_
    show Steps p.tables e below (s₁.setTop (mkF m 3 #[.val (.int p1), .unset, .unset, .unset, .unset, .unset] [(.int (2147483647 : Int32)), (.int p1)])) _
    refine XS.iand X0.here hx rfl (hb hby at_3) rfl ?_
    show Steps p.tables e below (s₁.setTop (mkF m 4 #[.val (.int p1), .unset, .unset, .unset, .unset, .unset] [(.int (p1 &&& (2147483647 : Int32)))])) _
    refine XS.iconst X0.here hx rfl (hb hby at_4) ?_
    show Steps p.tables e below (s₁.setTop (mkF m 5 #[.val (.int p1), .unset, .unset, .unset, .unset, .unset] [(.int (5 : Int32)), (.int (p1 &&& (2147483647 : Int32)))])) _
    refine Jvm.RoadKit.iremM X0 hx rfl (hb hby at_5) rfl hnz5 ?_
    show Steps p.tables e below (s₁.setTop (mkF m 6 #[.val (.int p1), .unset, .unset, .unset, .unset, .unset] [(.int ((p1 &&& (2147483647 : Int32)) % (5 : Int32)))])) _
    refine XS.istoreN X0.here hx rfl (hb hby at_6) rfl (l' := #[.val (.int p1), .val (.int ((p1 &&& (2147483647 : Int32)) % (5 : Int32))), .unset, .unset, .unset, .unset]) rfl ?_
    show Steps p.tables e below (s₁.setTop (mkF m 7 #[.val (.int p1), .val (.int ((p1 &&& (2147483647 : Int32)) % (5 : Int32))), .unset, .unset, .unset, .unset] [])) _
    refine XS.iloadN X0.here hx rfl (hb hby at_7) rfl ?_
    show Steps p.tables e below (s₁.setTop (mkF m 8 #[.val (.int p1), .val (.int ((p1 &&& (2147483647 : Int32)) % (5 : Int32))), .unset, .unset, .unset, .unset] [(.int ((p1 &&& (2147483647 : Int32)) % (5 : Int32)))])) _
    refine XS.ifYes X0.here hx rfl (pc0 := 8) (pc' := 20) rfl (hb hby at_8) rfl ((if0 _ _).trans (feq hc8).2) (by decide) (by decide) ?_
    show Steps p.tables e below (s₁.setTop (mkF m 20 #[.val (.int p1), .val (.int ((p1 &&& (2147483647 : Int32)) % (5 : Int32))), .unset, .unset, .unset, .unset] [])) _
    refine XS.iloadN X0.here hx rfl (hb hby at_20) rfl ?_
    show Steps p.tables e below (s₁.setTop (mkF m 21 #[.val (.int p1), .val (.int ((p1 &&& (2147483647 : Int32)) % (5 : Int32))), .unset, .unset, .unset, .unset] [(.int ((p1 &&& (2147483647 : Int32)) % (5 : Int32)))])) _
    refine XS.iconst X0.here hx rfl (hb hby at_21) ?_
    show Steps p.tables e below (s₁.setTop (mkF m 22 #[.val (.int p1), .val (.int ((p1 &&& (2147483647 : Int32)) % (5 : Int32))), .unset, .unset, .unset, .unset] [(.int (1 : Int32)), (.int ((p1 &&& (2147483647 : Int32)) % (5 : Int32)))])) _
    refine XS.icmpYes X0.here hx rfl (pc0 := 22) (pc' := 34) rfl (hb hby at_22) rfl (feq hc22).2 (by decide) (by decide) ?_
    show Steps p.tables e below (s₁.setTop (mkF m 34 #[.val (.int p1), .val (.int ((p1 &&& (2147483647 : Int32)) % (5 : Int32))), .unset, .unset, .unset, .unset] [])) _
    refine XS.iloadN X0.here hx rfl (hb hby at_34) rfl ?_
    show Steps p.tables e below (s₁.setTop (mkF m 35 #[.val (.int p1), .val (.int ((p1 &&& (2147483647 : Int32)) % (5 : Int32))), .unset, .unset, .unset, .unset] [(.int ((p1 &&& (2147483647 : Int32)) % (5 : Int32)))])) _
    refine XS.iconst X0.here hx rfl (hb hby at_35) ?_
    show Steps p.tables e below (s₁.setTop (mkF m 36 #[.val (.int p1), .val (.int ((p1 &&& (2147483647 : Int32)) % (5 : Int32))), .unset, .unset, .unset, .unset] [(.int (2 : Int32)), (.int ((p1 &&& (2147483647 : Int32)) % (5 : Int32)))])) _
    refine XS.icmpYes X0.here hx rfl (pc0 := 36) (pc' := 48) rfl (hb hby at_36) rfl (feq hc36).2 (by decide) (by decide) ?_
    show Steps p.tables e below (s₁.setTop (mkF m 48 #[.val (.int p1), .val (.int ((p1 &&& (2147483647 : Int32)) % (5 : Int32))), .unset, .unset, .unset, .unset] [])) _
    refine XS.iloadN X0.here hx rfl (hb hby at_48) rfl ?_
    show Steps p.tables e below (s₁.setTop (mkF m 49 #[.val (.int p1), .val (.int ((p1 &&& (2147483647 : Int32)) % (5 : Int32))), .unset, .unset, .unset, .unset] [(.int ((p1 &&& (2147483647 : Int32)) % (5 : Int32)))])) _
    refine XS.iconst X0.here hx rfl (hb hby at_49) ?_
    show Steps p.tables e below (s₁.setTop (mkF m 50 #[.val (.int p1), .val (.int ((p1 &&& (2147483647 : Int32)) % (5 : Int32))), .unset, .unset, .unset, .unset] [(.int (3 : Int32)), (.int ((p1 &&& (2147483647 : Int32)) % (5 : Int32)))])) _
    refine XS.icmpYes X0.here hx rfl (pc0 := 50) (pc' := 62) rfl (hb hby at_50) rfl (feq hc50).2 (by decide) (by decide) ?_
    show Steps p.tables e below (s₁.setTop (mkF m 62 #[.val (.int p1), .val (.int ((p1 &&& (2147483647 : Int32)) % (5 : Int32))), .unset, .unset, .unset, .unset] [])) _
    refine st3 _ ?_
    show Steps p.tables e below (T3.setTop (mkF m 65 #[.val (.int p1), .val (.int ((p1 &&& (2147483647 : Int32)) % (5 : Int32))), .unset, .unset, .unset, .unset] [(.ref w2)])) _
    refine XS.astoreN X3.here hx rfl (hb hby at_65) rfl rfl (l' := #[.val (.int p1), .val (.int ((p1 &&& (2147483647 : Int32)) % (5 : Int32))), .val (.ref w2), .unset, .unset, .unset]) rfl ?_
    show Steps p.tables e below (T3.setTop (mkF m 66 #[.val (.int p1), .val (.int ((p1 &&& (2147483647 : Int32)) % (5 : Int32))), .val (.ref w2), .unset, .unset, .unset] [])) _
    refine XS.iconst X3.here hx rfl (hb hby at_66) ?_
    show Steps p.tables e below (T3.setTop (mkF m 67 #[.val (.int p1), .val (.int ((p1 &&& (2147483647 : Int32)) % (5 : Int32))), .val (.ref w2), .unset, .unset, .unset] [(.int (1 : Int32))])) _
    refine XS.istoreN X3.here hx rfl (hb hby at_67) rfl (l' := #[.val (.int p1), .val (.int ((p1 &&& (2147483647 : Int32)) % (5 : Int32))), .val (.ref w2), .val (.int (1 : Int32)), .unset, .unset]) rfl ?_
    show Steps p.tables e below (T3.setTop (mkF m 68 #[.val (.int p1), .val (.int ((p1 &&& (2147483647 : Int32)) % (5 : Int32))), .val (.ref w2), .val (.int (1 : Int32)), .unset, .unset] [])) _
    refine XS.aloadN X3.here hx rfl (hb hby at_68) rfl rfl ?_
    show Steps p.tables e below (T3.setTop (mkF m 69 #[.val (.int p1), .val (.int ((p1 &&& (2147483647 : Int32)) % (5 : Int32))), .val (.ref w2), .val (.int (1 : Int32)), .unset, .unset] [(.ref w2)])) _
    refine st4.trans ?_
    show Steps p.tables e below (T4.setTop (mkF m 72 #[.val (.int p1), .val (.int ((p1 &&& (2147483647 : Int32)) % (5 : Int32))), .val (.ref w2), .val (.int (1 : Int32)), .unset, .unset] [(.int (1 : Int32))])) _
    refine XS.istore X4.here hx rfl (hb hby at_72) rfl (l' := #[.val (.int p1), .val (.int ((p1 &&& (2147483647 : Int32)) % (5 : Int32))), .val (.ref w2), .val (.int (1 : Int32)), .val (.int (1 : Int32)), .unset]) rfl ?_
    show Steps p.tables e below (T4.setTop (mkF m 74 #[.val (.int p1), .val (.int ((p1 &&& (2147483647 : Int32)) % (5 : Int32))), .val (.ref w2), .val (.int (1 : Int32)), .val (.int (1 : Int32)), .unset] [])) _
    refine XS.aloadN X4.here hx rfl (hb hby at_74) rfl rfl ?_
    show Steps p.tables e below (T4.setTop (mkF m 75 #[.val (.int p1), .val (.int ((p1 &&& (2147483647 : Int32)) % (5 : Int32))), .val (.ref w2), .val (.int (1 : Int32)), .val (.int (1 : Int32)), .unset] [(.ref w2)])) _
    refine st5.trans ?_
    show Steps p.tables e below (T5.setTop (mkF m 78 #[.val (.int p1), .val (.int ((p1 &&& (2147483647 : Int32)) % (5 : Int32))), .val (.ref w2), .val (.int (1 : Int32)), .val (.int (1 : Int32)), .unset] [(.ref w6)])) _
    refine st7 _ ?_
    show Steps p.tables e below (T7.setTop (mkF m 81 #[.val (.int p1), .val (.int ((p1 &&& (2147483647 : Int32)) % (5 : Int32))), .val (.ref w2), .val (.int (1 : Int32)), .val (.int (1 : Int32)), .unset] [(.ref w6), (.ref w6)])) _
    refine Jvm.RoadKit.acmp (g := (mkF m 81 #[.val (.int p1), .val (.int ((p1 &&& (2147483647 : Int32)) % (5 : Int32))), .val (.ref w2), .val (.int (1 : Int32)), .val (.int (1 : Int32)), .unset] [(.ref w6), (.ref w6)])) X7 hx rfl rfl rfl (pc0 := 81) (pc' := 84) (same := true) rfl (hb hby at_81) rfl (decide_eq_true rfl) (by decide) (by decide) ?_
    show Steps p.tables e below (T7.setTop (mkF m 84 #[.val (.int p1), .val (.int ((p1 &&& (2147483647 : Int32)) % (5 : Int32))), .val (.ref w2), .val (.int (1 : Int32)), .val (.int (1 : Int32)), .unset] [])) _
    refine XS.iconst X7.here hx rfl (hb hby at_84) ?_
    show Steps p.tables e below (T7.setTop (mkF m 85 #[.val (.int p1), .val (.int ((p1 &&& (2147483647 : Int32)) % (5 : Int32))), .val (.ref w2), .val (.int (1 : Int32)), .val (.int (1 : Int32)), .unset] [(.int (1 : Int32))])) _
    refine XS.goto X7.here hx rfl (pc0 := 85) (pc' := 89) rfl (hb hby at_85) (by decide) (by decide) ?_
    show Steps p.tables e below (T7.setTop (mkF m 89 #[.val (.int p1), .val (.int ((p1 &&& (2147483647 : Int32)) % (5 : Int32))), .val (.ref w2), .val (.int (1 : Int32)), .val (.int (1 : Int32)), .unset] [(.int (1 : Int32))])) _
    refine XS.istore X7.here hx rfl (hb hby at_89) rfl (l' := #[.val (.int p1), .val (.int ((p1 &&& (2147483647 : Int32)) % (5 : Int32))), .val (.ref w2), .val (.int (1 : Int32)), .val (.int (1 : Int32)), .val (.int (1 : Int32))]) rfl ?_
    show Steps p.tables e below (T7.setTop (mkF m 91 #[.val (.int p1), .val (.int ((p1 &&& (2147483647 : Int32)) % (5 : Int32))), .val (.ref w2), .val (.int (1 : Int32)), .val (.int (1 : Int32)), .val (.int (1 : Int32))] [])) _
    refine XS.iload X7.here hx rfl (hb hby at_91) rfl ?_
    show Steps p.tables e below (T7.setTop (mkF m 93 #[.val (.int p1), .val (.int ((p1 &&& (2147483647 : Int32)) % (5 : Int32))), .val (.ref w2), .val (.int (1 : Int32)), .val (.int (1 : Int32)), .val (.int (1 : Int32))] [(.int (1 : Int32))])) _
    refine XS.iloadN X7.here hx rfl (hb hby at_93) rfl ?_
    show Steps p.tables e below (T7.setTop (mkF m 94 #[.val (.int p1), .val (.int ((p1 &&& (2147483647 : Int32)) % (5 : Int32))), .val (.ref w2), .val (.int (1 : Int32)), .val (.int (1 : Int32)), .val (.int (1 : Int32))] [(.int (1 : Int32)), (.int (1 : Int32))])) _
    refine XS.icmpNo X7.here hx rfl (hb hby at_94) rfl (teq (rfl : (1 : Int32) = (1 : Int32))).2 ?_
    show Steps p.tables e below (T7.setTop (mkF m 97 #[.val (.int p1), .val (.int ((p1 &&& (2147483647 : Int32)) % (5 : Int32))), .val (.ref w2), .val (.int (1 : Int32)), .val (.int (1 : Int32)), .val (.int (1 : Int32))] [])) _
    refine XS.iload X7.here hx rfl (hb hby at_97) rfl ?_
    show Steps p.tables e below (T7.setTop (mkF m 99 #[.val (.int p1), .val (.int ((p1 &&& (2147483647 : Int32)) % (5 : Int32))), .val (.ref w2), .val (.int (1 : Int32)), .val (.int (1 : Int32)), .val (.int (1 : Int32))] [(.int (1 : Int32))])) _
    refine XS.iload X7.here hx rfl (hb hby at_99) rfl ?_
    show Steps p.tables e below (T7.setTop (mkF m 101 #[.val (.int p1), .val (.int ((p1 &&& (2147483647 : Int32)) % (5 : Int32))), .val (.ref w2), .val (.int (1 : Int32)), .val (.int (1 : Int32)), .val (.int (1 : Int32))] [(.int (1 : Int32)), (.int (1 : Int32))])) _
    refine XS.icmpNo X7.here hx rfl (hb hby at_101) rfl (teq (rfl : (1 : Int32) = (1 : Int32))).2 ?_
    show Steps p.tables e below (T7.setTop (mkF m 104 #[.val (.int p1), .val (.int ((p1 &&& (2147483647 : Int32)) % (5 : Int32))), .val (.ref w2), .val (.int (1 : Int32)), .val (.int (1 : Int32)), .val (.int (1 : Int32))] [])) _
    refine XS.iconst X7.here hx rfl (hb hby at_104) ?_
    show Steps p.tables e below (T7.setTop (mkF m 105 #[.val (.int p1), .val (.int ((p1 &&& (2147483647 : Int32)) % (5 : Int32))), .val (.ref w2), .val (.int (1 : Int32)), .val (.int (1 : Int32)), .val (.int (1 : Int32))] [(.int (1 : Int32))])) _
    refine XS.goto X7.here hx rfl (pc0 := 105) (pc' := 109) rfl (hb hby at_105) (by decide) (by decide) ?_
    show Steps p.tables e below (T7.setTop (mkF m 109 #[.val (.int p1), .val (.int ((p1 &&& (2147483647 : Int32)) % (5 : Int32))), .val (.ref w2), .val (.int (1 : Int32)), .val (.int (1 : Int32)), .val (.int (1 : Int32))] [(.int (1 : Int32))])) _
    exact retN X7 hx (t := .boolean) Bd.returns (by simp) (hb hby at_109) hr
  · show Q0e Z p1 w2 w6 h0 n0 _ T7.heap _
    rw [e7]
    exact ⟨rfl, N5, rfl⟩
set_option maxRecDepth 65536 in
set_option maxHeartbeats 40000000 in
theorem comes_1 {Post : Tables → Env → Array Value → State → Outcome → State → Prop} (hpost : ∀ tb e args s v u, (limb_1_1.after args s (.returned v) u = true ∧ limb_1_2.after args s (.returned v) u = true ∧ True) → FrameEnd s (.returned v) u (Jvm.fieldLocs frame_1_writes args s ++ Jvm.arrayLocs frame_1_arrays args s ++ Jvm.staticLocs frame_1_statics s) 0 0 → Post tb e args s (.returned v) u) :
    ArmFor flags0 classFile x code maxLocals ret World_1 tables_1 room_1 Calls_1 rest_1 Pre_1 Post := by
  intro l hfl _ _ p e ha hc hk s m args below hf hA hF happ hP
  obtain ⟨hcalls, hrest, hpre⟩ := hP
  obtain ⟨-, -, -, hnamed, -, -, -, hat⟩ := (Spec.applies_iff hf).mp happ
  obtain ⟨hg, hn⟩ := and_e (Cond.before_iff.mp (show (Jvm.Cond.and given_1 narrow_1).before args s = true from hpre))
  obtain ⟨g8, g9⟩ := and_e hg
  obtain ⟨w0, rfl⟩ : ∃ w0 : Value, args = #[w0] := by
    have hs : args.size = 1 := by simpa [Cond.value, given_1] using g8
    obtain ⟨L⟩ := args
    match L, hs with
    | [w0], _ => exact ⟨w0, rfl⟩
  have hw := fun d (hd : d ∈ tables_1) => atoms_spec (ws := Jvm.Cond.code x code maxLocals ret :: tables_1) hat d (List.mem_cons_of_mem _ hd)
  have hfit : Fit s := fun {y c} hc i hi => by
    obtain ⟨ha, rfl⟩ := Array.getElem?_eq_some_iff.mp hc
    have q := List.all_eq_true.mp ((Array.all_eq_true_iff_forall_mem.mp hF) _ (Array.getElem_mem ha)) i (List.mem_range.mpr hi)
    simpa [Array.getElem?_eq_getElem hi] using q
  obtain ⟨i0, ei0⟩ := is_v g9
  obtain rfl : w0 = (.int i0) := Option.some.inj ei0
  obtain ⟨xA, hn⟩ := and_e hn
  obtain ⟨xF, hn⟩ := and_e hn
  obtain ⟨mA, hn⟩ := and_e hn
  obtain ⟨xR, hn⟩ := and_e hn
  obtain ⟨oF, hn⟩ := and_e hn
  obtain ⟨oR, hn⟩ := and_e hn
  obtain ⟨xAP, hn⟩ := and_e hn
  obtain ⟨mAP, hn⟩ := and_e hn
  obtain ⟨xB, hn⟩ := and_e hn
  obtain ⟨mB, hn⟩ := and_e hn
  obtain ⟨xBP, hn⟩ := and_e hn
  obtain ⟨mBP, hn⟩ := and_e hn
  obtain ⟨xL, hn⟩ := and_e hn
  have mL := hn
  obtain ⟨rF, vF⟩ := exa_v xF
  have sF := Sta.start vF (Or.inr ⟨(hw _ (List.mem_of_getElem? (i := 11) rfl)), (hw _ (List.mem_of_getElem? (i := 12) rfl))⟩)
  obtain ⟨rR, vR⟩ := exa_v xR
  have sR := Sta.start vR (Or.inr ⟨(hw _ (List.mem_of_getElem? (i := 11) rfl)), (hw _ (List.mem_of_getElem? (i := 14) rfl))⟩)
  obtain ⟨rA, vA⟩ := exa_v xA
  have sA := Sta.start vA (Or.inr ⟨(hw _ (List.mem_of_getElem? (i := 2) rfl)), (hw _ (List.mem_of_getElem? (i := 3) rfl))⟩)
  obtain ⟨rAP, vAP⟩ := exa_v xAP
  have sAP := Sta.start vAP (Or.inr ⟨(hw _ (List.mem_of_getElem? (i := 2) rfl)), (hw _ (List.mem_of_getElem? (i := 22) rfl))⟩)
  obtain ⟨rB, vB⟩ := exa_v xB
  have sB := Sta.start vB (Or.inr ⟨(hw _ (List.mem_of_getElem? (i := 2) rfl)), (hw _ (List.mem_of_getElem? (i := 24) rfl))⟩)
  obtain ⟨rBP, vBP⟩ := exa_v xBP
  have sBP := Sta.start vBP (Or.inr ⟨(hw _ (List.mem_of_getElem? (i := 2) rfl)), (hw _ (List.mem_of_getElem? (i := 26) rfl))⟩)
  obtain ⟨rL, vL⟩ := exa_v xL
  have sL := Sta.start vL (Or.inr ⟨(hw _ (List.mem_of_getElem? (i := 2) rfl)), (hw _ (List.mem_of_getElem? (i := 28) rfl))⟩)
  have EA := Exa.start vA xA
  have FA := own_fldR vA vF mA
  have EAP := Exa.start vAP xAP
  have FAP := own_fldR vAP vR mAP
  have EB := Exa.start vB xB
  have FB := own_fldR vB vF mB
  have EBP := Exa.start vBP xBP
  have FBP := own_fldR vBP vR mBP
  have EL := Exa.start vL xL
  have FL := own_fldR vL vF mL
  have oF' := own_fldI vF oF
  have oR' := own_fldI vR oR
  have ne : ¬ (rF = rR) := Fld.ne oF' oR' (by intro h; injection h with h; exact absurd h (by decide))
  have nz : ¬ ((5 : Int32) = (0 : Int32)) := by decide
  by_cases c0 : ((i0 &&& (2147483647 : Int32)) % (5 : Int32)) = (0 : Int32)
  · obtain ⟨n, o, h1, h2, h3, _, L, rfl, ⟨rfl, N, -⟩, hq⟩ := rm0a l s _ hw tables_1 i0 rA rR s.heap s.heap.size (Nat.le_refl _) rF FA sA EA sR nz c0 ne p e ha hc hk s m _ below hf ((Spec.applies_iff_loose hf).mp happ).1 ⟨rfl, State.Warmed39.refl s, rfl⟩ trivial
    refine ⟨n, _, h1, h2, h3, hpost _ _ _ _ _ _ ⟨Cond.after_iff.mpr rfl, Cond.after_iff.mpr (eq_i res_at (Term.int_eval (1)) rfl), trivial⟩ ⟨hq.1, hq.2.1, (hq.2.2.sift fun y hy => Or.inr (N y hy)).mono (by decide) (by decide)⟩⟩
  by_cases c1 : ((i0 &&& (2147483647 : Int32)) % (5 : Int32)) = (1 : Int32)
  · obtain ⟨n, o, h1, h2, h3, _, L, rfl, ⟨rfl, N, -⟩, hq⟩ := rm0b l s _ hw tables_1 i0 rB rR s.heap s.heap.size (Nat.le_refl _) rF FB sB EB sR nz c0 c1 ne p e ha hc hk s m _ below hf ((Spec.applies_iff_loose hf).mp happ).1 ⟨rfl, State.Warmed39.refl s, rfl⟩ trivial
    refine ⟨n, _, h1, h2, h3, hpost _ _ _ _ _ _ ⟨Cond.after_iff.mpr rfl, Cond.after_iff.mpr (eq_i res_at (Term.int_eval (1)) rfl), trivial⟩ ⟨hq.1, hq.2.1, (hq.2.2.sift fun y hy => Or.inr (N y hy)).mono (by decide) (by decide)⟩⟩
  by_cases c2 : ((i0 &&& (2147483647 : Int32)) % (5 : Int32)) = (2 : Int32)
  · obtain ⟨n, o, h1, h2, h3, _, L, rfl, ⟨rfl, N, -⟩, hq⟩ := rm0c l s _ hw tables_1 i0 rL rR s.heap s.heap.size (Nat.le_refl _) rF FL sL EL sR nz c0 c1 c2 ne p e ha hc hk s m _ below hf ((Spec.applies_iff_loose hf).mp happ).1 ⟨rfl, State.Warmed39.refl s, rfl⟩ trivial
    refine ⟨n, _, h1, h2, h3, hpost _ _ _ _ _ _ ⟨Cond.after_iff.mpr rfl, Cond.after_iff.mpr (eq_i res_at (Term.int_eval (1)) rfl), trivial⟩ ⟨hq.1, hq.2.1, (hq.2.2.sift fun y hy => Or.inr (N y hy)).mono (by decide) (by decide)⟩⟩
  by_cases c3 : ((i0 &&& (2147483647 : Int32)) % (5 : Int32)) = (3 : Int32)
  · obtain ⟨n, o, h1, h2, h3, _, L, rfl, ⟨rfl, N, -⟩, hq⟩ := rm0d l s _ hw tables_1 i0 rAP rR s.heap s.heap.size (Nat.le_refl _) FAP sAP EAP sR nz c0 c1 c2 c3 p e ha hc hk s m _ below hf ((Spec.applies_iff_loose hf).mp happ).1 ⟨rfl, State.Warmed39.refl s, rfl⟩ trivial
    refine ⟨n, _, h1, h2, h3, hpost _ _ _ _ _ _ ⟨Cond.after_iff.mpr rfl, Cond.after_iff.mpr (eq_i res_at (Term.int_eval (1)) rfl), trivial⟩ ⟨hq.1, hq.2.1, (hq.2.2.sift fun y hy => Or.inr (N y hy)).mono (by decide) (by decide)⟩⟩
  · obtain ⟨n, o, h1, h2, h3, _, L, rfl, ⟨rfl, N, -⟩, hq⟩ := rm0e l s _ hw tables_1 i0 rBP rR s.heap s.heap.size (Nat.le_refl _) FBP sBP EBP sR nz c0 c1 c2 c3 p e ha hc hk s m _ below hf ((Spec.applies_iff_loose hf).mp happ).1 ⟨rfl, State.Warmed39.refl s, rfl⟩ trivial
    refine ⟨n, _, h1, h2, h3, hpost _ _ _ _ _ _ ⟨Cond.after_iff.mpr rfl, Cond.after_iff.mpr (eq_i res_at (Term.int_eval (1)) rfl), trivial⟩ ⟨hq.1, hq.2.1, (hq.2.2.sift fun y hy => Or.inr (N y hy)).mono (by decide) (by decide)⟩⟩
theorem main_1_1 : Claimed_1_1 := comes_1 fun _ _ _ _ _ _ h hF => ⟨h.1, hF⟩
theorem main_1_2 : Claimed_1_2 := comes_1 fun _ _ _ _ _ _ h hF => ⟨h.2.1, hF⟩
end Jvm.Pilot.@@N@@
namespace Jvm.Pilot.@@N@@
open Jvm Jvm.ClassFile Sem Op Lib Jvm.Free Jvm.Stand Jvm.Pilot.@@N@@.Jvm.D
/-! MADE BY PROGRAM (witnessworld.py) out of the Statement's table words and the real class files: 11 classes; the members and pool entries that the words name. The judged class is class 1, her method 1. -/
namespace start1
open Jvm.ClassFile
def u (s : String) : CpInfo := .utf8 (stringToUtf16 s)
/-- a pool by its gaps: so many unusable entries, then the entry; so many at the end -/
def gap : Nat → List CpInfo → List CpInfo
  | 0, r => r
  | n + 1, r => .unusable :: gap n r
def poolList (es : List (Nat × CpInfo)) (last : Nat) : List CpInfo := es.foldr (fun e r => gap e.1 (e.2 :: r)) (gap last [])
def pool (es : List (Nat × CpInfo)) (last : Nat) : Array CpInfo := ⟨poolList es last⟩
def fileOf (pool : Array CpInfo) (this : Nat) (attrs : Array Attribute := #[]) (ms : Array MethodInfo := #[]) (fl : Nat := 33) (sup : Nat := 0) (ifs : Array Nat := #[]) (fds : Array FieldInfo := #[]) : ClassFile where
  minorVersion := 0
  majorVersion := 65
  constantPool := pool
  accessFlags := fl
  thisClass := this
  superClass := sup
  interfaces := ifs
  fields := fds
  methods := ms
  attributes := attrs
def plain (name : String) (sup : Option ClassId) : Class where
  name := name
  kind := .ordinary
  loader := none
  accessFlags := 33
  super := sup
  interfaces := #[]
  cf := none
  fields := #[]
  methods := #[]
  instanceTypes := #[]
  staticTypes := #[]
  resolved := #[]
  callSites := []
  init := .initialized
  statics := none
  mirror := none

def pool0 : Array CpInfo := pool [(5, u "<init>"), (0, u "()V"), (1, .class_ 10), (1, u "java/lang/Object")] 113

def k0m0 : Method := { name := "<init>", desc := "()V", sig := { parameters := [], returnType := none }, accessFlags := 1, code := none }
/-- java/lang/Object -/
def k0 : Class := { plain "java/lang/Object" none with
  accessFlags := 33
  interfaces := #[]
  cf := some (fileOf pool0 8 #[] #[{ accessFlags := 1, nameIndex := 5, descriptorIndex := 6, attributes := #[] }] 33 0 #[] #[])
  fields := #[]
  methods := #[k0m0]
  instanceTypes := #[]
  staticTypes := #[]
  resolved := Array.replicate 124 none
  statics := none }

def pool1 : Array CpInfo := pool [(2, .class_ 4), (1, u "java/lang/Object"), (0, u "<init>"), (0, u "()V"), (0, .integer 2147483647), (0, .fieldref 9 10), (0, .class_ 11), (0, .nameAndType 12 13), (0, u "com/example/margrave/margrave/margin/Tier"), (0, u "A"), (0, u "Lcom/example/margrave/margrave/margin/Tier;"), (0, .fieldref 9 15), (0, .nameAndType 16 13), (0, u "B"), (0, .fieldref 9 18), (0, .nameAndType 19 13), (0, u "LOT"), (0, .fieldref 9 21), (0, .nameAndType 22 13), (0, u "A_PERCENT"), (0, .fieldref 9 24), (0, .nameAndType 25 13), (0, u "B_PERCENT"), (0, .methodref 9 27), (0, .nameAndType 28 29), (0, u "isPercentage"), (0, u "()Z"), (0, .methodref 9 31), (0, .nameAndType 32 33), (0, u "method"), (0, u "()Lcom/example/margrave/margrave/core/Method;"), (0, .fieldref 35 36), (0, .class_ 37), (0, .nameAndType 38 39), (0, u "com/example/margrave/margrave/core/Method"), (0, u "RATIO"), (0, u "Lcom/example/margrave/margrave/core/Method;"), (0, .class_ 41), (0, u "com/example/margrave/margrave/margin/TierIsPercentagePinLaw"), (2, u "law"), (0, u "(I)Z")] 3

def k1m0 : Method := { name := "<init>", desc := "()V", sig := { parameters := [], returnType := none }, accessFlags := 1, code := none }
def k1c1 : Code := { maxStack := 2, maxLocals := 6, code := code, exceptionTable := #[], attributes := #[] }
def k1m1 : Method := { name := "law", desc := "(I)Z", sig := { parameters := [.int], returnType := some .boolean }, accessFlags := 9, code := some k1c1 }
/-- com/example/margrave/margrave/margin/TierIsPercentagePinLaw -/
def k1 : Class := { plain "com/example/margrave/margrave/margin/TierIsPercentagePinLaw" (some 0) with
  accessFlags := 49
  interfaces := #[]
  cf := some (fileOf pool1 40 #[] #[{ accessFlags := 1, nameIndex := 5, descriptorIndex := 6, attributes := #[] }, { accessFlags := 9, nameIndex := 44, descriptorIndex := 45, attributes := #[] }] 49 2 #[] #[])
  fields := #[]
  methods := #[k1m0, k1m1]
  instanceTypes := #[]
  staticTypes := #[]
  resolved := Array.replicate 49 none
  statics := none }

def pool2 : Array CpInfo := pool [(1, .class_ 2), (0, u "java/lang/constant/Constable"), (0, .class_ 4), (0, u "java/lang/Object")] 6

/-- java/lang/constant/Constable -/
def k2 : Class := { plain "java/lang/constant/Constable" (some 0) with
  accessFlags := 1537
  interfaces := #[]
  cf := some (fileOf pool2 1 #[] #[] 1537 3 #[] #[])
  fields := #[]
  methods := #[]
  instanceTypes := #[]
  staticTypes := #[]
  resolved := Array.replicate 11 none
  statics := none }

def pool3 : Array CpInfo := pool [(1, .class_ 2), (0, u "java/lang/Comparable"), (0, .class_ 4), (0, u "java/lang/Object")] 7

/-- java/lang/Comparable -/
def k3 : Class := { plain "java/lang/Comparable" (some 0) with
  accessFlags := 1537
  interfaces := #[]
  cf := some (fileOf pool3 1 #[] #[] 1537 3 #[] #[])
  fields := #[]
  methods := #[]
  instanceTypes := #[]
  staticTypes := #[]
  resolved := Array.replicate 12 none
  statics := none }

def pool4 : Array CpInfo := pool [(1, .class_ 2), (0, u "java/io/Serializable"), (0, .class_ 4), (0, u "java/lang/Object")] 2

/-- java/io/Serializable -/
def k4 : Class := { plain "java/io/Serializable" (some 0) with
  accessFlags := 1537
  interfaces := #[]
  cf := some (fileOf pool4 1 #[] #[] 1537 3 #[] #[])
  fields := #[]
  methods := #[]
  instanceTypes := #[]
  staticTypes := #[]
  resolved := Array.replicate 7 none
  statics := none }

def pool5 : Array CpInfo := pool [(2, .class_ 4), (1, u "java/lang/Enum"), (0, u "name"), (0, u "Ljava/lang/String;"), (2, u "ordinal"), (0, u "I"), (1, .class_ 14), (1, u "java/lang/Object"), (4, u "hash"), (86, .class_ 108), (1, u "java/lang/Enum$EnumDesc"), (2, .class_ 112), (0, u "java/lang/constant/Constable"), (0, .class_ 114), (0, u "java/lang/Comparable"), (0, .class_ 116), (0, u "java/io/Serializable")] 87

/-- java/lang/Enum -/
def k5 : Class := { plain "java/lang/Enum" (some 0) with
  accessFlags := 1057
  interfaces := #[2, 3, 4]
  cf := some (fileOf pool5 2 #[.nestMembers #[106]] #[] 1057 12 #[111, 113, 115] #[{ accessFlags := 18, nameIndex := 5, descriptorIndex := 6, attributes := #[] }, { accessFlags := 18, nameIndex := 9, descriptorIndex := 10, attributes := #[] }, { accessFlags := 2, nameIndex := 19, descriptorIndex := 10, attributes := #[] }])
  fields := #[{ name := "name", type := (.object "java/lang/String"), accessFlags := 18, slot := 0, constantValue := 0 }, { name := "ordinal", type := .int, accessFlags := 18, slot := 1, constantValue := 0 }, { name := "hash", type := .int, accessFlags := 2, slot := 2, constantValue := 0 }]
  methods := #[]
  instanceTypes := #[(.object "java/lang/String"), .int, .int]
  staticTypes := #[]
  resolved := Array.replicate 204 none
  statics := none }

def pool6 : Array CpInfo := pool [(1, .class_ 2), (0, u "com/example/margrave/margrave/margin/Tier"), (2, u "A"), (0, u "Lcom/example/margrave/margrave/margin/Tier;"), (2, u "B"), (2, u "LOT"), (2, u "A_PERCENT"), (2, u "B_PERCENT"), (2, u "$VALUES"), (0, u "[Lcom/example/margrave/margrave/margin/Tier;"), (6, .class_ 31), (1, u "java/lang/Enum"), (8, u "code"), (0, u "Ljava/lang/String;"), (2, u "kind"), (0, u "Lcom/example/margrave/margrave/core/Kind;"), (0, .fieldref 1 47), (0, .nameAndType 48 49), (0, u "method"), (0, u "Lcom/example/margrave/margrave/core/Method;"), (2, u "decimalPlaces"), (0, u "I"), (0, .fieldref 55 56), (0, .class_ 57), (0, .nameAndType 58 49), (0, u "com/example/margrave/margrave/core/Method"), (0, u "RATIO"), (39, u "()Lcom/example/margrave/margrave/core/Method;"), (0, u "isPercentage"), (0, u "()Z")] 9

def k6c0 : Code := { maxStack := 1, maxLocals := 1, code := prog_75_method_5_code, exceptionTable := #[], attributes := #[] }
def k6m0 : Method := { name := "method", desc := "()Lcom/example/margrave/margrave/core/Method;", sig := { parameters := [], returnType := some (.object "com/example/margrave/margrave/core/Method") }, accessFlags := 1, code := some k6c0 }
def k6c1 : Code := { maxStack := 2, maxLocals := 1, code := prog_75_method_6_code, exceptionTable := #[], attributes := #[] }
def k6m1 : Method := { name := "isPercentage", desc := "()Z", sig := { parameters := [], returnType := some .boolean }, accessFlags := 1, code := some k6c1 }
/-- com/example/margrave/margrave/margin/Tier -/
def k6 : Class := { plain "com/example/margrave/margrave/margin/Tier" (some 5) with
  accessFlags := 16433
  interfaces := #[]
  cf := some (fileOf pool6 1 #[] #[{ accessFlags := 1, nameIndex := 48, descriptorIndex := 98, attributes := #[] }, { accessFlags := 1, nameIndex := 99, descriptorIndex := 100, attributes := #[] }] 16433 29 #[] #[{ accessFlags := 16409, nameIndex := 5, descriptorIndex := 6, attributes := #[] }, { accessFlags := 16409, nameIndex := 9, descriptorIndex := 6, attributes := #[] }, { accessFlags := 16409, nameIndex := 12, descriptorIndex := 6, attributes := #[] }, { accessFlags := 16409, nameIndex := 15, descriptorIndex := 6, attributes := #[] }, { accessFlags := 16409, nameIndex := 18, descriptorIndex := 6, attributes := #[] }, { accessFlags := 18, nameIndex := 40, descriptorIndex := 41, attributes := #[] }, { accessFlags := 18, nameIndex := 44, descriptorIndex := 45, attributes := #[] }, { accessFlags := 18, nameIndex := 48, descriptorIndex := 49, attributes := #[] }, { accessFlags := 18, nameIndex := 52, descriptorIndex := 53, attributes := #[] }, { accessFlags := 4122, nameIndex := 21, descriptorIndex := 22, attributes := #[] }])
  fields := #[{ name := "A", type := (.object "com/example/margrave/margrave/margin/Tier"), accessFlags := 16409, slot := 0, constantValue := 0 }, { name := "B", type := (.object "com/example/margrave/margrave/margin/Tier"), accessFlags := 16409, slot := 1, constantValue := 0 }, { name := "LOT", type := (.object "com/example/margrave/margrave/margin/Tier"), accessFlags := 16409, slot := 2, constantValue := 0 }, { name := "A_PERCENT", type := (.object "com/example/margrave/margrave/margin/Tier"), accessFlags := 16409, slot := 3, constantValue := 0 }, { name := "B_PERCENT", type := (.object "com/example/margrave/margrave/margin/Tier"), accessFlags := 16409, slot := 4, constantValue := 0 }, { name := "code", type := (.object "java/lang/String"), accessFlags := 18, slot := 3, constantValue := 0 }, { name := "kind", type := (.object "com/example/margrave/margrave/core/Kind"), accessFlags := 18, slot := 4, constantValue := 0 }, { name := "method", type := (.object "com/example/margrave/margrave/core/Method"), accessFlags := 18, slot := 5, constantValue := 0 }, { name := "decimalPlaces", type := .int, accessFlags := 18, slot := 6, constantValue := 0 }, { name := "$VALUES", type := (.array (.object "com/example/margrave/margrave/margin/Tier")), accessFlags := 4122, slot := 5, constantValue := 0 }]
  methods := #[k6m0, k6m1]
  instanceTypes := #[(.object "java/lang/String"), .int, .int, (.object "java/lang/String"), (.object "com/example/margrave/margrave/core/Kind"), (.object "com/example/margrave/margrave/core/Method"), .int]
  staticTypes := #[(.object "com/example/margrave/margrave/margin/Tier"), (.object "com/example/margrave/margrave/margin/Tier"), (.object "com/example/margrave/margrave/margin/Tier"), (.object "com/example/margrave/margrave/margin/Tier"), (.object "com/example/margrave/margrave/margin/Tier"), (.array (.object "com/example/margrave/margrave/margin/Tier"))]
  resolved := Array.replicate 110 none
  statics := some 0 }

def pool7 : Array CpInfo := pool [(1, .class_ 2), (0, u "com/example/margrave/margrave/core/Method"), (2, u "FIXED"), (0, u "Lcom/example/margrave/margrave/core/Method;"), (2, u "RATIO"), (2, u "$VALUES"), (0, u "[Lcom/example/margrave/margrave/core/Method;"), (6, .class_ 22), (1, u "java/lang/Enum"), (8, u "code"), (0, u "Ljava/lang/String;")] 27

/-- com/example/margrave/margrave/core/Method -/
def k7 : Class := { plain "com/example/margrave/margrave/core/Method" (some 5) with
  accessFlags := 16433
  interfaces := #[]
  cf := some (fileOf pool7 1 #[] #[] 16433 20 #[] #[{ accessFlags := 16409, nameIndex := 5, descriptorIndex := 6, attributes := #[] }, { accessFlags := 16409, nameIndex := 9, descriptorIndex := 6, attributes := #[] }, { accessFlags := 18, nameIndex := 31, descriptorIndex := 32, attributes := #[] }, { accessFlags := 4122, nameIndex := 12, descriptorIndex := 13, attributes := #[] }])
  fields := #[{ name := "FIXED", type := (.object "com/example/margrave/margrave/core/Method"), accessFlags := 16409, slot := 0, constantValue := 0 }, { name := "RATIO", type := (.object "com/example/margrave/margrave/core/Method"), accessFlags := 16409, slot := 1, constantValue := 0 }, { name := "code", type := (.object "java/lang/String"), accessFlags := 18, slot := 3, constantValue := 0 }, { name := "$VALUES", type := (.array (.object "com/example/margrave/margrave/core/Method")), accessFlags := 4122, slot := 2, constantValue := 0 }]
  methods := #[]
  instanceTypes := #[(.object "java/lang/String"), .int, .int, (.object "java/lang/String")]
  staticTypes := #[(.object "com/example/margrave/margrave/core/Method"), (.object "com/example/margrave/margrave/core/Method"), (.array (.object "com/example/margrave/margrave/core/Method"))]
  resolved := Array.replicate 60 none
  statics := some 1 }

def pool8 : Array CpInfo := pool [(1, u "java/lang/Cloneable"), (0, .class_ 1), (0, u "java/lang/Object"), (0, .class_ 3)] 3

/-- java/lang/Cloneable -/
def k8 : Class := { plain "java/lang/Cloneable" (some 0) with
  accessFlags := 1537
  interfaces := #[]
  cf := some (fileOf pool8 2 #[] #[] 1537 4 #[] #[])
  fields := #[]
  methods := #[]
  instanceTypes := #[]
  staticTypes := #[]
  resolved := Array.replicate 8 none
  statics := none }

/-- the primitive byte -/
def k9 : Class := { plain "byte" none with kind := .primitive 'B', accessFlags := 0x411 }
/-- [B -/
def k10 : Class := { plain "[B" (some 0) with kind := .array 9 .byte, interfaces := #[8, 4], accessFlags := 1041 }

def heap : Heap := #[{ cls := 6, slots := #[.ref 2, .ref 6, .ref 8, .ref 5, .ref 7, .null], vm := .statics 6 },
  { cls := 7, slots := #[.ref 3, .ref 4, .null], vm := .statics 7 },
  { cls := 6, slots := #[.null, .int 0, .int 0, .null, .null, .ref 3, .int 0], vm := .none },
  { cls := 7, slots := #[.null, .int 0, .int 0, .null], vm := .none },
  { cls := 7, slots := #[.null, .int 1, .int 0, .null], vm := .none },
  { cls := 6, slots := #[.null, .int 0, .int 0, .null, .null, .ref 4, .int 0], vm := .none },
  { cls := 6, slots := #[.null, .int 0, .int 0, .null, .null, .ref 3, .int 0], vm := .none },
  { cls := 6, slots := #[.null, .int 0, .int 0, .null, .null, .ref 4, .int 0], vm := .none },
  { cls := 6, slots := #[.null, .int 0, .int 0, .null, .null, .ref 3, .int 0], vm := .none }]
def classes : Array Class := #[k0, k1, k2, k3, k4, k5, k6, k7, k8, k9, k10]
def interned : List (Array UInt16 × Addr) := []
def slotsUsed : Nat := 52
def theMethod : MethodId := ⟨1, 1⟩
def args0 : Array Value := #[.int 5]
def aboutOver (below : List Frame) : State where
  vm := { classes := classes, interned := interned.toArray }
  heap := heap
  slotsUsed := slotsUsed
  threads := #[{ frames := .invoking theMethod args0 :: below }]
def below0 : List Frame := [.native { method := ⟨0, 0⟩, args := #[] }]
def about1 : State := aboutOver below0
def p0 : Program := .bare "" "" ""
def e0 : Env := launch0.env 0 0 0
theorem w_frames : about1.frames = Frame.invoking theMethod args0 :: below0 := rfl
set_option maxRecDepth 65536 in
theorem w_args : argsFit about1.vm theMethod args0 = true := by decide +kernel
set_option maxRecDepth 65536 in
theorem w_heap : heapFits about1 = true := by decide +kernel
set_option maxRecDepth 65536 in
theorem w_runnable : about1.curStatus? = some .runnable := by decide +kernel
set_option maxRecDepth 65536 in
theorem w_alone : about1.alone = true := by decide +kernel
set_option maxRecDepth 65536 in
theorem w_named : about1.methodNamed? x = some theMethod := by decide +kernel
set_option maxRecDepth 65536 in
theorem w_hears : about1.hears theMethod below0 = true := by decide +kernel
set_option maxRecDepth 65536 in
theorem w_ripe : about1.ripe theMethod args0 below0 = true := by decide +kernel
theorem w_running : about1.status = .running := rfl
set_option maxRecDepth 65536 in
theorem w_room : about1.hasRoom e0.platform room_1 = true :=
  launch0.hasRoom_least _ room_1 (by decide +kernel) (by decide +kernel) (by decide +kernel) (by decide +kernel) (by decide +kernel) (by decide +kernel)
theorem allAtoms_all (ts : List Jvm.Cond) (a : Array Jvm.Value) (st : Jvm.State) : (allAtoms ts).before a st = ts.all (fun c => c.before a st) := by
  induction ts with
  | nil => rfl
  | cons c t ih =>
    show (Jvm.Cond.and c (allAtoms t)).before a st = _
    rw [Jvm.Cond.before_and, ih, List.all_cons]
def words1 : List Jvm.Cond := Jvm.Cond.code x code maxLocals ret :: tables_1
/-- a 'code' word, met by the world's own term for the bytes: nothing is compared byte by byte -/
theorem code_word {y : MethodName} {bytes : ByteArray} {mx : Nat} {rt : Option FieldType} {a : Array Value} {s : State} {m : MethodId} {meth : Method} {c : Code} (h1 : s.methodNamed? y = some m) (h2 : s.vm.method? m = some meth) (h3 : meth.code = some c) (h4 : c.code = bytes)
    (h5 : (c.maxLocals == mx && c.exceptionTable.isEmpty && decide (c.maxStack ≤ mostOperands) && decide (meth.sig.returnType = rt) && !meth.locks && decide (parseMethodDescriptor y.desc = some meth.sig)) = true) : (Jvm.Cond.code y bytes mx rt).before a s = true := by
  simp only [Bool.and_eq_true, beq_iff_eq, Bool.not_eq_true', decide_eq_true_eq] at h5
  obtain ⟨⟨⟨⟨⟨g1, g2⟩, g3⟩, g4⟩, g5⟩, g6⟩ := h5
  simp [Cond.before, Cond.holds, Cond.value, h1, h2, h3, h4, g1, g2, g3, g4, g5, g6]
def isCode : Jvm.Cond → Bool
  | .code _ _ _ _ => true
  | _ => false
theorem all_split {L : List Jvm.Cond} {P : Jvm.Cond → Bool} (h1 : L.all (fun c => isCode c || P c) = true) (h2 : ∀ c ∈ L.filter isCode, P c = true) : L.all P = true := by
  refine List.all_eq_true.mpr fun c hc => ?_
  have h := List.all_eq_true.mp h1 c hc
  rcases Bool.eq_false_or_eq_true (isCode c) with hi | hi
  · exact h2 c (List.mem_filter.mpr ⟨hc, hi⟩)
  · simpa [hi] using h
set_option maxRecDepth 65536 in
theorem w_c0 : (Jvm.Cond.code x code maxLocals ret).before args0 about1 = true := code_word (m := ⟨1, 1⟩) (meth := k1m1) (c := k1c1) (by decide +kernel) rfl rfl rfl (by decide +kernel)
set_option maxRecDepth 65536 in
theorem w_c1 : (Jvm.Cond.code ({ cls := "com/example/margrave/margrave/margin/Tier", name := "isPercentage", desc := "()Z" } : Jvm.MethodName) prog_75_method_6_code (1 : Nat) (Option.some Jvm.ClassFile.FieldType.boolean)).before args0 about1 = true := code_word (m := ⟨6, 1⟩) (meth := k6m1) (c := k6c1) (by decide +kernel) rfl rfl rfl (by decide +kernel)
set_option maxRecDepth 65536 in
theorem w_c2 : (Jvm.Cond.code ({ cls := "com/example/margrave/margrave/margin/Tier", name := "method", desc := "()Lcom/example/margrave/margrave/core/Method;" } : Jvm.MethodName) prog_75_method_5_code (1 : Nat) (Option.some (Jvm.ClassFile.FieldType.object "com/example/margrave/margrave/core/Method"))).before args0 about1 = true := code_word (m := ⟨6, 0⟩) (meth := k6m0) (c := k6c0) (by decide +kernel) rfl rfl rfl (by decide +kernel)
def codes1 : List Jvm.Cond := [Jvm.Cond.code x code maxLocals ret, Jvm.Cond.code ({ cls := "com/example/margrave/margrave/margin/Tier", name := "isPercentage", desc := "()Z" } : Jvm.MethodName) prog_75_method_6_code (1 : Nat) (Option.some Jvm.ClassFile.FieldType.boolean), Jvm.Cond.code ({ cls := "com/example/margrave/margrave/margin/Tier", name := "method", desc := "()Lcom/example/margrave/margrave/core/Method;" } : Jvm.MethodName) prog_75_method_5_code (1 : Nat) (Option.some (Jvm.ClassFile.FieldType.object "com/example/margrave/margrave/core/Method"))]
set_option maxRecDepth 65536 in
theorem codes_eq : words1.filter isCode = codes1 := rfl
theorem w_codes : ∀ c ∈ words1.filter isCode, c.before args0 about1 = true := by
  rw [codes_eq]
  intro c hc
  simp only [codes1, List.mem_cons, List.not_mem_nil, or_false] at hc
  rcases hc with rfl | rfl | rfl
  · exact w_c0
  · exact w_c1
  · exact w_c2
set_option maxRecDepth 65536 in
theorem w_t1 : (words1.take 24).all (fun c => isCode c || c.before args0 about1) = true := by decide +kernel
set_option maxRecDepth 65536 in
theorem w_t2 : (words1.drop 24).all (fun c => isCode c || c.before args0 about1) = true := by decide +kernel
theorem w_tables : (allAtoms (Jvm.Cond.code x code maxLocals ret :: tables_1)).before args0 about1 = true := by
  rw [allAtoms_all]
  show words1.all (fun c => c.before args0 about1) = true
  refine all_split ?_ w_codes
  rw [← List.take_append_drop 24 words1, List.all_append, w_t1, w_t2]
  rfl
set_option maxRecDepth 65536 in
theorem w_case : (Jvm.Cond.and given_1 narrow_1).before args0 about1 = true := by decide +kernel
theorem w_applies : (headSpec (Jvm.Cond.code x code maxLocals ret :: tables_1) room_1).applies x e0.platform about1 = true :=
  (Spec.applies_iff w_frames).mpr ⟨w_running, w_runnable, w_alone, w_named, w_hears, w_ripe, w_room, w_tables⟩
theorem atStart : AtStart classFile x code maxLocals ret World_1 tables_1 room_1 Calls_1 rest_1 Pre_1 launch0 p0 e0 about1 theMethod args0 below0 :=
  ⟨lists_1, trivial, launch0.admits_env _ _ _, launch0.least_env, fairChoices_fair.cas, fairChoices_fair.clock, w_frames, w_args, w_heap, w_applies, trivial, trivial, w_case⟩
end start1
theorem witness_1 : WitnessClaimed_1 := ⟨start1.p0, start1.e0, start1.about1, start1.theMethod, start1.args0, start1.below0, start1.atStart⟩
end Jvm.Pilot.@@N@@
