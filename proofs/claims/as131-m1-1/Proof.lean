import JvmDerived
import JvmDerived.Pilot.@@N@@Statement
import JvmDerived.Pilot.@@N@@Code
set_option linter.unusedVariables false
set_option linter.unusedSimpArgs false
namespace Jvm.RoadKit
open Sem ClassFile Op Lib Jvm.Stand Jvm.Free Jvm.LawKit
section New
variable {p : Program} {l : Launch} {e : Env} {R : Room} {s : State} {m : MethodId} {args : Array Value} {below : List Frame} {meth : Method} {c : Code} {T : State} {locs : List Loc} {cells slots : Nat}
theorem retI (X : Stand p l e R s m args below meth c T locs cells slots) (hx : p.tables.exec = Jvm.exec) {pc : Nat} {Ls : Array Slot} {z : Int32} {rest : List Value} (hret : meth.sig.returnType = some .int) (hd : decode c.code pc = .ok (.ireturn, 1)) {fs : List Frame}
    (hl : ∀ (f : JFrame) (acts : List Action), f.method = m → f.locked = none → f.entered = [] → (doReturn e (T.setTop f) acts (some (.int z))).1 = T.setFrames fs) : Steps p.tables e below (T.setTop (mkF m pc Ls (.int z :: rest))) (T.setFrames fs) := by
  have hm' : T.vm.method? m = some meth := X.method'
  have hn : narrow .int (.int z) = .int z := rfl
  show Steps p.tables e below (T.setTop { method := m, pc := pc, locals := Ls, stack := _ :: rest, locked := none }) _
  jvm_step X.here [X.here.top, hx, hd, hm', hret, hn]
  first | (intro acts; rw [hl _ acts rfl rfl rfl]) | rw [hl _ _ rfl rfl rfl]
  exact Steps.refl _
end New
end Jvm.RoadKit
namespace Jvm.Pilot.@@N@@
open Jvm Jvm.ClassFile Sem Op Lib Jvm.Free Jvm.Stand Jvm.LawKit Jvm.RoadKit Bundle Jvm.Pilot.@@N@@.Jvm.D
theorem own_fldI {args : Array Value} {s : State} {t : Term} {C n d : String} {x : Addr} {k : Int32} (ht : t.eval args s none [] s = some (.ref x)) (h : (Cond.eq (.field t C n d) (.int k)).value args s none s [] = some true) : Fld s s.heap x C n d (.int k) := by
  obtain ⟨v, y, e1, e2, k1, k2⟩ := cmp_v (Or.inl h)
  have e2' : y = .int k := (Option.some.inj e2).symm
  subst e2'
  obtain ⟨z, rfl⟩ := k2
  have q : z = k := gotT (Cond.eq_ints e1 (Term.int_eval k)) h
  subst q
  exact Fld.start ((fld_at ht).symm.trans e1)
theorem own_elem {args : Array Value} {s : State} {t u : Term} {a r : Addr} {cl : Cell} {k : Int32} (ht : t.eval args s none [] s = some (.ref a)) (hc : s.heap[a]? = some cl) (hu : u.eval args s none [] s = some (.ref r)) (h : (Cond.eq (.elem t (.int k)) u).value args s none s [] = some true) : cl.slots[k.toNatClampNeg]? = some (.ref r) := by
  obtain ⟨v, y, e1, e2, k1, k2⟩ := cmp_v (Or.inl h)
  have e2' : y = .ref r := Option.some.inj (e2.symm.trans hu)
  subst e2'
  have hv : v.isRef = true := k2.2
  have q := gotT (eq_R e1 e2 hv rfl) h
  subst q
  exact (elem_in e1 ht (Term.int_eval k) hc).2
theorem own_len {args : Array Value} {s : State} {t : Term} {a : Addr} {cl : Cell} {k : Int32} (ht : t.eval args s none [] s = some (.ref a)) (hc : s.heap[a]? = some cl) (h : (Cond.eq (.length t) (.int k)).value args s none s [] = some true) : cl.slots.size < 2147483648 ∧ cl.slots.size.toInt32 = k := by
  obtain ⟨v, y, e1, e2, k1, k2⟩ := cmp_v (Or.inl h)
  obtain ⟨a', cell, ha', hat, rfl⟩ := Term.length_spec e1
  cases ht.symm.trans ha'
  cases hc.symm.trans (State.arrayAt?_spec hat).1
  refine ⟨?_, gotT (Cond.eq_ints e1 (Term.int_eval k)) h⟩
  by_cases hn : cl.slots.size < 2147483648
  · exact hn
  · exfalso
    simp [Term.eval, ht, hat, hn] at e1
theorem own_size {cl : Cell} {k : Int32} (h : cl.slots.size < 2147483648 ∧ cl.slots.size.toInt32 = k) : cl.slots.size = k.toNatClampNeg := by
  rw [← h.2]
  exact (Int32.toNatClampNeg_ofNat_of_lt h.1).symm
theorem own_one (i : Nat) : Int32.ofNat i + (1 : Int32) = Int32.ofNat (i + 1) := (Int32.ofNat_add i 1).symm
theorem own_clamp {i : Nat} (h : i < 2147483648) : (Int32.ofNat i).toNatClampNeg = i := Int32.toNatClampNeg_ofNat_of_lt h
def own_f0 : Nat → Int64 := fun _ => 0
def own_up (f : Nat → Int64) (i : Nat) (x : Int64) : Nat → Int64 := fun j => if j = i then f j + x else f j
def own_exp (k ia : Int32) (x : Int64) (ib : Int32) (y : Int64) (ic : Int32) (z : Int64) : Int64 := if k = ic then (if k = ib then (if k = ia then (0 : Int64) + x else (0 : Int64)) + y else (if k = ia then (0 : Int64) + x else (0 : Int64))) + z else (if k = ib then (if k = ia then (0 : Int64) + x else (0 : Int64)) + y else (if k = ia then (0 : Int64) + x else (0 : Int64)))
theorem own_inj {i j : Nat} (hi : i < 14) (hj : j < 14) : (Int32.ofNat i = Int32.ofNat j) ↔ i = j := by
  constructor
  · intro h
    have := congrArg Int32.toNatClampNeg h
    rwa [own_clamp (by omega), own_clamp (by omega)] at this
  · intro h; rw [h]
theorem own_exp_up {k a b c : Nat} (hk : k < 14) (ha : a < 14) (hb : b < 14) (hc : c < 14) (x y z : Int64) {K A B C : Int32} (eK : K = Int32.ofNat k) (eA : A = Int32.ofNat a) (eB : B = Int32.ofNat b) (eC : C = Int32.ofNat c) : own_up (own_up (own_up own_f0 a x) b y) c z k = own_exp K A x B y C z := by
  subst eK eA eB eC
  simp only [own_up, own_exp, own_f0, own_inj hk ha, own_inj hk hb, own_inj hk hc]
theorem own_idx (p : Int32) : ∃ n : Nat, n < 14 ∧ (p &&& (2147483647 : Int32)) % (14 : Int32) = Int32.ofNat n := by
  have h1 := c_and p (2147483647 : Int32) (by decide)
  have h2 := (c_irem (p &&& (2147483647 : Int32)) (14 : Int32) 14 rfl).1 h1.1
  refine ⟨((p &&& (2147483647 : Int32)) % (14 : Int32)).toInt.toNat, by omega, ?_⟩
  apply Int32.toInt_inj.mp
  rw [Int32.toInt_ofNat_of_lt (by omega)]
  omega
def own_Cnt (Z : State) (h : Heap) (w : Addr) (f : Nat → Int64) : Prop := ∃ cl : Cell, Arr Z h w cl .long ∧ cl.slots.size = 14 ∧ ∀ j, j < 14 → cl.slots[j]? = some (.long (f j))
theorem own_hin {cl : Cell} {n : Nat} (hs : cl.slots.size = 14) (h : n < 14) : ¬ (Int32.ofNat n < 0 ∨ cl.slots.size ≤ (Int32.ofNat n).toNatClampNeg) := by rw [hs]; exact idx_in h (by decide)
theorem own_hat {cl : Cell} {n : Nat} {f : Nat → Int64} (hf : ∀ j, j < 14 → cl.slots[j]? = some (.long (f j))) (h : n < 14) : cl.slots[(Int32.ofNat n).toNatClampNeg]? = some (.long (f n)) := by rw [own_clamp (by omega)]; exact hf n h
theorem own_Cnt_new {Z : State} {h : Heap} {b : Addr} {k : ClassId} (A : Arr Z h b (newA k .long (14 : Int32)) .long) : own_Cnt Z h b own_f0 := by
  refine ⟨_, A, sz_new _ _ _, fun j hj => ?_⟩
  have q := get_new (cA := k) (ty := .long) (n := (14 : Int32)) (k := Int32.ofNat j) (idx_in hj (by decide))
  rwa [own_clamp (by omega)] at q
theorem own_Cnt_set {Z : State} {h : Heap} {w : Addr} {cl : Cell} {f : Nat → Int64} {n : Nat} {x : Int64} (hs : cl.slots.size = 14) (hf : ∀ j, j < 14 → cl.slots[j]? = some (.long (f j))) (hn : n < 14) (B : Arr Z h w (cl.setSlot (Int32.ofNat n).toNatClampNeg (.long (f n + x))) .long) : own_Cnt Z h w (own_up f n x) := by
  refine ⟨_, B, (sz_set _ _ _).trans hs, fun j hj => ?_⟩
  rw [own_clamp (by omega)]
  by_cases e : j = n
  · subst e
    simp [Cell.setSlot, hs, hj, own_up]
  · have q : (cl.setSlot n (.long (f n + x))).slots[j]? = cl.slots[j]? := Array.getElem?_setIfInBounds_ne (Ne.symm e)
    rw [q, hf j hj]
    simp [own_up, e]
def own_S (Z : State) (h : Heap) (r : Nat → Addr) : Prop := Sta Z h "com/example/orgweave/orgweave/fhir/Nodes$Kind" "RESOURCE" "Lcom/example/orgweave/orgweave/fhir/Nodes$Kind;" (.ref (r 0)) ∧ Sta Z h "com/example/orgweave/orgweave/fhir/Nodes$Kind" "OBJECT" "Lcom/example/orgweave/orgweave/fhir/Nodes$Kind;" (.ref (r 1)) ∧ Sta Z h "com/example/orgweave/orgweave/fhir/Nodes$Kind" "ARRAY" "Lcom/example/orgweave/orgweave/fhir/Nodes$Kind;" (.ref (r 2)) ∧ Sta Z h "com/example/orgweave/orgweave/fhir/Nodes$Kind" "FIELD" "Lcom/example/orgweave/orgweave/fhir/Nodes$Kind;" (.ref (r 3)) ∧ Sta Z h "com/example/orgweave/orgweave/fhir/Nodes$Kind" "VALUE" "Lcom/example/orgweave/orgweave/fhir/Nodes$Kind;" (.ref (r 4)) ∧ Sta Z h "com/example/orgweave/orgweave/fhir/Nodes$Kind" "HELD" "Lcom/example/orgweave/orgweave/fhir/Nodes$Kind;" (.ref (r 5)) ∧ Sta Z h "com/example/orgweave/orgweave/fhir/Nodes$Kind" "ELEMENT" "Lcom/example/orgweave/orgweave/fhir/Nodes$Kind;" (.ref (r 6)) ∧ Sta Z h "com/example/orgweave/orgweave/fhir/Nodes$Kind" "ATTRIBUTE" "Lcom/example/orgweave/orgweave/fhir/Nodes$Kind;" (.ref (r 7)) ∧ Sta Z h "com/example/orgweave/orgweave/fhir/Nodes$Kind" "XHTML_ELEMENT" "Lcom/example/orgweave/orgweave/fhir/Nodes$Kind;" (.ref (r 8)) ∧ Sta Z h "com/example/orgweave/orgweave/fhir/Nodes$Kind" "XHTML_ATTRIBUTE" "Lcom/example/orgweave/orgweave/fhir/Nodes$Kind;" (.ref (r 9)) ∧ Sta Z h "com/example/orgweave/orgweave/fhir/Nodes$Kind" "XHTML_TEXT" "Lcom/example/orgweave/orgweave/fhir/Nodes$Kind;" (.ref (r 10)) ∧ Sta Z h "com/example/orgweave/orgweave/fhir/Nodes$Kind" "XHTML_PART" "Lcom/example/orgweave/orgweave/fhir/Nodes$Kind;" (.ref (r 11)) ∧ Sta Z h "com/example/orgweave/orgweave/fhir/Nodes$Kind" "XHTML_REFERENCE" "Lcom/example/orgweave/orgweave/fhir/Nodes$Kind;" (.ref (r 12)) ∧ Sta Z h "com/example/orgweave/orgweave/fhir/Nodes$Kind" "XHTML_ESCAPED" "Lcom/example/orgweave/orgweave/fhir/Nodes$Kind;" (.ref (r 13))
def own_V (Z : State) (h : Heap) : Prop := ∃ (a : Addr) (cl : Cell), Sta Z h "com/example/orgweave/orgweave/fhir/Nodes$Kind" "$VALUES" "[Lcom/example/orgweave/orgweave/fhir/Nodes$Kind;" (.ref a) ∧ Arr Z h a cl (.object "com/example/orgweave/orgweave/fhir/Nodes$Kind") ∧ Exa Z h a "[Lcom/example/orgweave/orgweave/fhir/Nodes$Kind;" ∧ FitC Z cl ∧ cl.slots.size = 14
theorem own_V.ext {Z : State} {h h' : Heap} (W : own_V Z h) (E : Ext h h') : own_V Z h' := by
  obtain ⟨a, cl, S, A, X, F, z⟩ := W
  exact ⟨a, cl, S.ext E, A.ext E, X.ext E, F, z⟩
def own_O (Z : State) (h : Heap) (r : Nat → Addr) : Prop := ∀ k, k < 14 → Exa Z h (r k) "com/example/orgweave/orgweave/fhir/Nodes$Kind" ∧ Fld Z h (r k) "java/lang/Enum" "ordinal" "I" (.int (Int32.ofNat k))
theorem own_O.ext {Z : State} {h h' : Heap} {r : Nat → Addr} (H : own_O Z h r) (E : Ext h h') : own_O Z h' r := fun k hk => ⟨(H k hk).1.ext E, (H k hk).2.ext E⟩
theorem own_O.keep {Z : State} {h h' : Heap} {r : Nat → Addr} {b : Addr} (H : own_O Z h r) (K : Keep h h' [b]) (q : ∀ k, k < 14 → r k ≠ b) : own_O Z h' r := fun k hk => ⟨(H k hk).1.keep K, (H k hk).2.keep K (ninS (q k hk) nin0)⟩
def Q1 (w : Addr) (Z : State) (p1 : Int32) (h0 : Heap) (n0 : Nat) (v : Option Value) (h : Heap) (L : List Loc) : Prop := v = some (.ref w) ∧ Fr n0 L ∧ h = h0
theorem d1_0 : decode method_2_code 0 = .ok (.iload_n 0, 1) := by decide +kernel
theorem d1_1 : decode method_2_code 1 = .ok (.ifCond .ne 7, 3) := by decide +kernel
theorem d1_4 : decode method_2_code 4 = .ok (.getstatic 7, 3) := by decide +kernel
theorem d1_7 : decode method_2_code 7 = .ok (.areturn, 1) := by decide +kernel
theorem pn_1 : plainName "com/example/orgweave/orgweave/fhir/NodesAddPinLaw" = true := by first | (simp [plainName, overriddenIn]; done) | decide +kernel
theorem ef_1 (m : MethodId) (x0 : Int32) : entryFrame m #[(.int x0)] 1 = mkF m 0 #[.val (.int x0)] [] := by first | (simp [entryFrame, mkF, argsToLocals, Value.category]; done) | rfl
set_option maxRecDepth 65536 in
set_option maxHeartbeats 40000000 in
theorem rm1x0 (l : Launch) (Z : State) (a0 : Array Value) (hw : ∀ d ∈ tables_1, d.before a0 Z = true) (ws : List Jvm.Cond) (p1 : Int32) (w2 : Addr) (h0 : Heap) (n0 : Nat) (Z0 : n0 ≤ h0.size) (S_RESOURCE : Sta Z h0 "com/example/orgweave/orgweave/fhir/Nodes$Kind" "RESOURCE" "Lcom/example/orgweave/orgweave/fhir/Nodes$Kind;" (.ref w2)) (hc1 : p1 = (0 : Int32)) :
    MetFree l (⟨"com/example/orgweave/orgweave/fhir/NodesAddPinLaw", "kindOf", "(I)Lcom/example/orgweave/orgweave/fhir/Nodes$Kind;"⟩ : MethodName) (head1 (Jvm.Cond.code (⟨"com/example/orgweave/orgweave/fhir/NodesAddPinLaw", "kindOf", "(I)Lcom/example/orgweave/orgweave/fhir/Nodes$Kind;"⟩ : MethodName) method_2_code 1 (some (.object "com/example/orgweave/orgweave/fhir/Nodes$Kind")) :: ws) ({ frames := 0, cells := 0, slots := 0, locals := 0 } : Room)) (fun a U => a = #[(.int p1)] ∧ Z.Warmed39 U.vm ∧ U.heap = h0) (fun _ _ _ _ _ => True) (fun _ U o U' => ∃ v L, o = .returned v ∧ Q1 w2 Z p1 h0 n0 v U'.heap L ∧ FrameEnd U o U' L ({ frames := 0, cells := 0, slots := 0, locals := 0 } : Room).cells ({ frames := 0, cells := 0, slots := 0, locals := 0 } : Room).slots) := by
  refine MetFree.of_bodySF (plainFor_of_name pn_1) hisR ?_
  intro p e s m args below meth c s₁ Bd hml0 hP hK
  obtain ⟨rfl, hZ, hh⟩ := hP
  have hx := Bd.exec
  have hby := Bd.bytes
  have hml : c.maxLocals = 1 := hml0
  have hown : s.vm.findClass "com/example/orgweave/orgweave/fhir/NodesAddPinLaw" = some m.cls := findClass_of_methodNamed Bd.named
  have hnm := (name_of_methodNamed Bd.named Bd.method).1
  have X0 : Stand p l e ({ frames := 0, cells := 0, slots := 0, locals := 0 } : Room) s m #[(.int p1)] below meth c s₁ [] 0 0 := Stand.of_body Bd
  have e0 : s₁.heap = h0 := by rw [← hh, Bd.state]; rfl
  have N0 := Fr.nil n0
  have pre0 : ∀ t, Steps p.tables e below (s₁.setTop (mkF m 0 #[.val (.int p1)] [])) t → Steps p.tables e below (s₁.setTop (entryFrame m #[(.int p1)] 1)) t := fun t k => castTop (ef_1 m p1) k
  -- 3. LAWS
  obtain ⟨T3, X3, e3, st3⟩ := getS2 X0 hx hZ hown (host := "") (Or.inl (hw _ (List.mem_of_getElem? (i := 5) rfl))) Via.refl e0 S_RESOURCE (g := (mkF m 4 #[.val (.int p1)] [])) rfl (hb hby d1_4)
  obtain ⟨fs, hr, hrun, hended, hW, hsame⟩ := X3.leave (v := some (.ref w2)) (fun h => by rw [Bd.returns] at h; cases h)
  refine ⟨_, _, pre0 _ ?_, hrun, hended, _, _, rfl, ?_, ⟨_, rfl⟩, hW, hsame.mono (by decide) (by decide)⟩
  -- 4. STEPS
  · show Steps p.tables e below (s₁.setTop (mkF m 0 #[.val (.int p1)] [])) _
    refine XS.iloadN X0.here hx rfl (hb hby d1_0) rfl ?_
    show Steps p.tables e below (s₁.setTop (mkF m 1 #[.val (.int p1)] [(.int p1)])) _
    refine XS.ifNo X0.here hx rfl (hb hby d1_1) rfl ((if0 _ _).trans (teq hc1).2) ?_
    show Steps p.tables e below (s₁.setTop (mkF m 4 #[.val (.int p1)] [])) _
    refine st3 _ ?_
    show Steps p.tables e below (T3.setTop (mkF m 7 #[.val (.int p1)] [(.ref w2)])) _
    jvm_step X3.here [X3.here.top, hx, (hb hby d1_7), X3.method', Bd.returns, Value.isRef, FieldType.isReference]
    first | (intro acts; rw [hr _ acts rfl rfl rfl]) | rw [hr _ _ rfl rfl rfl]
    exact Steps.refl _
  · show Q1 w2 Z p1 h0 n0 _ T3.heap _
    rw [e3]
    exact ⟨rfl, N0, rfl⟩
theorem d1_8 : decode method_2_code 8 = .ok (.iload_n 0, 1) := by decide +kernel
theorem d1_9 : decode method_2_code 9 = .ok (.iconst 1, 1) := by decide +kernel
theorem d1_10 : decode method_2_code 10 = .ok (.if_icmp .ne 7, 3) := by decide +kernel
theorem d1_13 : decode method_2_code 13 = .ok (.getstatic 13, 3) := by decide +kernel
theorem d1_16 : decode method_2_code 16 = .ok (.areturn, 1) := by decide +kernel
set_option maxRecDepth 65536 in
set_option maxHeartbeats 40000000 in
theorem rm1x1 (l : Launch) (Z : State) (a0 : Array Value) (hw : ∀ d ∈ tables_1, d.before a0 Z = true) (ws : List Jvm.Cond) (p1 : Int32) (w2 : Addr) (h0 : Heap) (n0 : Nat) (Z0 : n0 ≤ h0.size) (S_OBJECT : Sta Z h0 "com/example/orgweave/orgweave/fhir/Nodes$Kind" "OBJECT" "Lcom/example/orgweave/orgweave/fhir/Nodes$Kind;" (.ref w2)) (hc1 : ¬ (p1 = (0 : Int32))) (hc10 : p1 = (1 : Int32)) :
    MetFree l (⟨"com/example/orgweave/orgweave/fhir/NodesAddPinLaw", "kindOf", "(I)Lcom/example/orgweave/orgweave/fhir/Nodes$Kind;"⟩ : MethodName) (head1 (Jvm.Cond.code (⟨"com/example/orgweave/orgweave/fhir/NodesAddPinLaw", "kindOf", "(I)Lcom/example/orgweave/orgweave/fhir/Nodes$Kind;"⟩ : MethodName) method_2_code 1 (some (.object "com/example/orgweave/orgweave/fhir/Nodes$Kind")) :: ws) ({ frames := 0, cells := 0, slots := 0, locals := 0 } : Room)) (fun a U => a = #[(.int p1)] ∧ Z.Warmed39 U.vm ∧ U.heap = h0) (fun _ _ _ _ _ => True) (fun _ U o U' => ∃ v L, o = .returned v ∧ Q1 w2 Z p1 h0 n0 v U'.heap L ∧ FrameEnd U o U' L ({ frames := 0, cells := 0, slots := 0, locals := 0 } : Room).cells ({ frames := 0, cells := 0, slots := 0, locals := 0 } : Room).slots) := by
  refine MetFree.of_bodySF (plainFor_of_name pn_1) hisR ?_
  intro p e s m args below meth c s₁ Bd hml0 hP hK
  obtain ⟨rfl, hZ, hh⟩ := hP
  have hx := Bd.exec
  have hby := Bd.bytes
  have hml : c.maxLocals = 1 := hml0
  have hown : s.vm.findClass "com/example/orgweave/orgweave/fhir/NodesAddPinLaw" = some m.cls := findClass_of_methodNamed Bd.named
  have hnm := (name_of_methodNamed Bd.named Bd.method).1
  have X0 : Stand p l e ({ frames := 0, cells := 0, slots := 0, locals := 0 } : Room) s m #[(.int p1)] below meth c s₁ [] 0 0 := Stand.of_body Bd
  have e0 : s₁.heap = h0 := by rw [← hh, Bd.state]; rfl
  have N0 := Fr.nil n0
  have pre0 : ∀ t, Steps p.tables e below (s₁.setTop (mkF m 0 #[.val (.int p1)] [])) t → Steps p.tables e below (s₁.setTop (entryFrame m #[(.int p1)] 1)) t := fun t k => castTop (ef_1 m p1) k
  -- 3. LAWS
  obtain ⟨T3, X3, e3, st3⟩ := getS2 X0 hx hZ hown (host := "") (Or.inl (hw _ (List.mem_of_getElem? (i := 8) rfl))) Via.refl e0 S_OBJECT (g := (mkF m 13 #[.val (.int p1)] [])) rfl (hb hby d1_13)
  obtain ⟨fs, hr, hrun, hended, hW, hsame⟩ := X3.leave (v := some (.ref w2)) (fun h => by rw [Bd.returns] at h; cases h)
  refine ⟨_, _, pre0 _ ?_, hrun, hended, _, _, rfl, ?_, ⟨_, rfl⟩, hW, hsame.mono (by decide) (by decide)⟩
  -- 4. STEPS
  · show Steps p.tables e below (s₁.setTop (mkF m 0 #[.val (.int p1)] [])) _
    refine XS.iloadN X0.here hx rfl (hb hby d1_0) rfl ?_
    show Steps p.tables e below (s₁.setTop (mkF m 1 #[.val (.int p1)] [(.int p1)])) _
    refine XS.ifYes X0.here hx rfl (pc0 := 1) (pc' := 8) rfl (hb hby d1_1) rfl ((if0 _ _).trans (feq hc1).2) (by decide) (by decide) ?_
    show Steps p.tables e below (s₁.setTop (mkF m 8 #[.val (.int p1)] [])) _
    refine XS.iloadN X0.here hx rfl (hb hby d1_8) rfl ?_
    show Steps p.tables e below (s₁.setTop (mkF m 9 #[.val (.int p1)] [(.int p1)])) _
    refine XS.iconst X0.here hx rfl (hb hby d1_9) ?_
    show Steps p.tables e below (s₁.setTop (mkF m 10 #[.val (.int p1)] [(.int (1 : Int32)), (.int p1)])) _
    refine XS.icmpNo X0.here hx rfl (hb hby d1_10) rfl (teq hc10).2 ?_
    show Steps p.tables e below (s₁.setTop (mkF m 13 #[.val (.int p1)] [])) _
    refine st3 _ ?_
    show Steps p.tables e below (T3.setTop (mkF m 16 #[.val (.int p1)] [(.ref w2)])) _
    jvm_step X3.here [X3.here.top, hx, (hb hby d1_16), X3.method', Bd.returns, Value.isRef, FieldType.isReference]
    first | (intro acts; rw [hr _ acts rfl rfl rfl]) | rw [hr _ _ rfl rfl rfl]
    exact Steps.refl _
  · show Q1 w2 Z p1 h0 n0 _ T3.heap _
    rw [e3]
    exact ⟨rfl, N0, rfl⟩
theorem d1_17 : decode method_2_code 17 = .ok (.iload_n 0, 1) := by decide +kernel
theorem d1_18 : decode method_2_code 18 = .ok (.iconst 2, 1) := by decide +kernel
theorem d1_19 : decode method_2_code 19 = .ok (.if_icmp .ne 7, 3) := by decide +kernel
theorem d1_22 : decode method_2_code 22 = .ok (.getstatic 16, 3) := by decide +kernel
theorem d1_25 : decode method_2_code 25 = .ok (.areturn, 1) := by decide +kernel
set_option maxRecDepth 65536 in
set_option maxHeartbeats 40000000 in
theorem rm1x2 (l : Launch) (Z : State) (a0 : Array Value) (hw : ∀ d ∈ tables_1, d.before a0 Z = true) (ws : List Jvm.Cond) (p1 : Int32) (w2 : Addr) (h0 : Heap) (n0 : Nat) (Z0 : n0 ≤ h0.size) (S_ARRAY : Sta Z h0 "com/example/orgweave/orgweave/fhir/Nodes$Kind" "ARRAY" "Lcom/example/orgweave/orgweave/fhir/Nodes$Kind;" (.ref w2)) (hc1 : ¬ (p1 = (0 : Int32))) (hc10 : ¬ (p1 = (1 : Int32))) (hc19 : p1 = (2 : Int32)) :
    MetFree l (⟨"com/example/orgweave/orgweave/fhir/NodesAddPinLaw", "kindOf", "(I)Lcom/example/orgweave/orgweave/fhir/Nodes$Kind;"⟩ : MethodName) (head1 (Jvm.Cond.code (⟨"com/example/orgweave/orgweave/fhir/NodesAddPinLaw", "kindOf", "(I)Lcom/example/orgweave/orgweave/fhir/Nodes$Kind;"⟩ : MethodName) method_2_code 1 (some (.object "com/example/orgweave/orgweave/fhir/Nodes$Kind")) :: ws) ({ frames := 0, cells := 0, slots := 0, locals := 0 } : Room)) (fun a U => a = #[(.int p1)] ∧ Z.Warmed39 U.vm ∧ U.heap = h0) (fun _ _ _ _ _ => True) (fun _ U o U' => ∃ v L, o = .returned v ∧ Q1 w2 Z p1 h0 n0 v U'.heap L ∧ FrameEnd U o U' L ({ frames := 0, cells := 0, slots := 0, locals := 0 } : Room).cells ({ frames := 0, cells := 0, slots := 0, locals := 0 } : Room).slots) := by
  refine MetFree.of_bodySF (plainFor_of_name pn_1) hisR ?_
  intro p e s m args below meth c s₁ Bd hml0 hP hK
  obtain ⟨rfl, hZ, hh⟩ := hP
  have hx := Bd.exec
  have hby := Bd.bytes
  have hml : c.maxLocals = 1 := hml0
  have hown : s.vm.findClass "com/example/orgweave/orgweave/fhir/NodesAddPinLaw" = some m.cls := findClass_of_methodNamed Bd.named
  have hnm := (name_of_methodNamed Bd.named Bd.method).1
  have X0 : Stand p l e ({ frames := 0, cells := 0, slots := 0, locals := 0 } : Room) s m #[(.int p1)] below meth c s₁ [] 0 0 := Stand.of_body Bd
  have e0 : s₁.heap = h0 := by rw [← hh, Bd.state]; rfl
  have N0 := Fr.nil n0
  have pre0 : ∀ t, Steps p.tables e below (s₁.setTop (mkF m 0 #[.val (.int p1)] [])) t → Steps p.tables e below (s₁.setTop (entryFrame m #[(.int p1)] 1)) t := fun t k => castTop (ef_1 m p1) k
  -- 3. LAWS
  obtain ⟨T3, X3, e3, st3⟩ := getS2 X0 hx hZ hown (host := "") (Or.inl (hw _ (List.mem_of_getElem? (i := 10) rfl))) Via.refl e0 S_ARRAY (g := (mkF m 22 #[.val (.int p1)] [])) rfl (hb hby d1_22)
  obtain ⟨fs, hr, hrun, hended, hW, hsame⟩ := X3.leave (v := some (.ref w2)) (fun h => by rw [Bd.returns] at h; cases h)
  refine ⟨_, _, pre0 _ ?_, hrun, hended, _, _, rfl, ?_, ⟨_, rfl⟩, hW, hsame.mono (by decide) (by decide)⟩
  -- 4. STEPS
  · show Steps p.tables e below (s₁.setTop (mkF m 0 #[.val (.int p1)] [])) _
    refine XS.iloadN X0.here hx rfl (hb hby d1_0) rfl ?_
    show Steps p.tables e below (s₁.setTop (mkF m 1 #[.val (.int p1)] [(.int p1)])) _
    refine XS.ifYes X0.here hx rfl (pc0 := 1) (pc' := 8) rfl (hb hby d1_1) rfl ((if0 _ _).trans (feq hc1).2) (by decide) (by decide) ?_
    show Steps p.tables e below (s₁.setTop (mkF m 8 #[.val (.int p1)] [])) _
    refine XS.iloadN X0.here hx rfl (hb hby d1_8) rfl ?_
    show Steps p.tables e below (s₁.setTop (mkF m 9 #[.val (.int p1)] [(.int p1)])) _
    refine XS.iconst X0.here hx rfl (hb hby d1_9) ?_
    show Steps p.tables e below (s₁.setTop (mkF m 10 #[.val (.int p1)] [(.int (1 : Int32)), (.int p1)])) _
    refine XS.icmpYes X0.here hx rfl (pc0 := 10) (pc' := 17) rfl (hb hby d1_10) rfl (feq hc10).2 (by decide) (by decide) ?_
    show Steps p.tables e below (s₁.setTop (mkF m 17 #[.val (.int p1)] [])) _
    refine XS.iloadN X0.here hx rfl (hb hby d1_17) rfl ?_
    show Steps p.tables e below (s₁.setTop (mkF m 18 #[.val (.int p1)] [(.int p1)])) _
    refine XS.iconst X0.here hx rfl (hb hby d1_18) ?_
    show Steps p.tables e below (s₁.setTop (mkF m 19 #[.val (.int p1)] [(.int (2 : Int32)), (.int p1)])) _
    refine XS.icmpNo X0.here hx rfl (hb hby d1_19) rfl (teq hc19).2 ?_
    show Steps p.tables e below (s₁.setTop (mkF m 22 #[.val (.int p1)] [])) _
    refine st3 _ ?_
    show Steps p.tables e below (T3.setTop (mkF m 25 #[.val (.int p1)] [(.ref w2)])) _
    jvm_step X3.here [X3.here.top, hx, (hb hby d1_25), X3.method', Bd.returns, Value.isRef, FieldType.isReference]
    first | (intro acts; rw [hr _ acts rfl rfl rfl]) | rw [hr _ _ rfl rfl rfl]
    exact Steps.refl _
  · show Q1 w2 Z p1 h0 n0 _ T3.heap _
    rw [e3]
    exact ⟨rfl, N0, rfl⟩
theorem d1_26 : decode method_2_code 26 = .ok (.iload_n 0, 1) := by decide +kernel
theorem d1_27 : decode method_2_code 27 = .ok (.iconst 3, 1) := by decide +kernel
theorem d1_28 : decode method_2_code 28 = .ok (.if_icmp .ne 7, 3) := by decide +kernel
theorem d1_31 : decode method_2_code 31 = .ok (.getstatic 19, 3) := by decide +kernel
theorem d1_34 : decode method_2_code 34 = .ok (.areturn, 1) := by decide +kernel
set_option maxRecDepth 65536 in
set_option maxHeartbeats 40000000 in
theorem rm1x3 (l : Launch) (Z : State) (a0 : Array Value) (hw : ∀ d ∈ tables_1, d.before a0 Z = true) (ws : List Jvm.Cond) (p1 : Int32) (w2 : Addr) (h0 : Heap) (n0 : Nat) (Z0 : n0 ≤ h0.size) (S_FIELD : Sta Z h0 "com/example/orgweave/orgweave/fhir/Nodes$Kind" "FIELD" "Lcom/example/orgweave/orgweave/fhir/Nodes$Kind;" (.ref w2)) (hc1 : ¬ (p1 = (0 : Int32))) (hc10 : ¬ (p1 = (1 : Int32))) (hc19 : ¬ (p1 = (2 : Int32))) (hc28 : p1 = (3 : Int32)) :
    MetFree l (⟨"com/example/orgweave/orgweave/fhir/NodesAddPinLaw", "kindOf", "(I)Lcom/example/orgweave/orgweave/fhir/Nodes$Kind;"⟩ : MethodName) (head1 (Jvm.Cond.code (⟨"com/example/orgweave/orgweave/fhir/NodesAddPinLaw", "kindOf", "(I)Lcom/example/orgweave/orgweave/fhir/Nodes$Kind;"⟩ : MethodName) method_2_code 1 (some (.object "com/example/orgweave/orgweave/fhir/Nodes$Kind")) :: ws) ({ frames := 0, cells := 0, slots := 0, locals := 0 } : Room)) (fun a U => a = #[(.int p1)] ∧ Z.Warmed39 U.vm ∧ U.heap = h0) (fun _ _ _ _ _ => True) (fun _ U o U' => ∃ v L, o = .returned v ∧ Q1 w2 Z p1 h0 n0 v U'.heap L ∧ FrameEnd U o U' L ({ frames := 0, cells := 0, slots := 0, locals := 0 } : Room).cells ({ frames := 0, cells := 0, slots := 0, locals := 0 } : Room).slots) := by
  refine MetFree.of_bodySF (plainFor_of_name pn_1) hisR ?_
  intro p e s m args below meth c s₁ Bd hml0 hP hK
  obtain ⟨rfl, hZ, hh⟩ := hP
  have hx := Bd.exec
  have hby := Bd.bytes
  have hml : c.maxLocals = 1 := hml0
  have hown : s.vm.findClass "com/example/orgweave/orgweave/fhir/NodesAddPinLaw" = some m.cls := findClass_of_methodNamed Bd.named
  have hnm := (name_of_methodNamed Bd.named Bd.method).1
  have X0 : Stand p l e ({ frames := 0, cells := 0, slots := 0, locals := 0 } : Room) s m #[(.int p1)] below meth c s₁ [] 0 0 := Stand.of_body Bd
  have e0 : s₁.heap = h0 := by rw [← hh, Bd.state]; rfl
  have N0 := Fr.nil n0
  have pre0 : ∀ t, Steps p.tables e below (s₁.setTop (mkF m 0 #[.val (.int p1)] [])) t → Steps p.tables e below (s₁.setTop (entryFrame m #[(.int p1)] 1)) t := fun t k => castTop (ef_1 m p1) k
  -- 3. LAWS
  obtain ⟨T3, X3, e3, st3⟩ := getS2 X0 hx hZ hown (host := "") (Or.inl (hw _ (List.mem_of_getElem? (i := 82) rfl))) Via.refl e0 S_FIELD (g := (mkF m 31 #[.val (.int p1)] [])) rfl (hb hby d1_31)
  obtain ⟨fs, hr, hrun, hended, hW, hsame⟩ := X3.leave (v := some (.ref w2)) (fun h => by rw [Bd.returns] at h; cases h)
  refine ⟨_, _, pre0 _ ?_, hrun, hended, _, _, rfl, ?_, ⟨_, rfl⟩, hW, hsame.mono (by decide) (by decide)⟩
  -- 4. STEPS
  · show Steps p.tables e below (s₁.setTop (mkF m 0 #[.val (.int p1)] [])) _
    refine XS.iloadN X0.here hx rfl (hb hby d1_0) rfl ?_
    show Steps p.tables e below (s₁.setTop (mkF m 1 #[.val (.int p1)] [(.int p1)])) _
    refine XS.ifYes X0.here hx rfl (pc0 := 1) (pc' := 8) rfl (hb hby d1_1) rfl ((if0 _ _).trans (feq hc1).2) (by decide) (by decide) ?_
    show Steps p.tables e below (s₁.setTop (mkF m 8 #[.val (.int p1)] [])) _
    refine XS.iloadN X0.here hx rfl (hb hby d1_8) rfl ?_
    show Steps p.tables e below (s₁.setTop (mkF m 9 #[.val (.int p1)] [(.int p1)])) _
    refine XS.iconst X0.here hx rfl (hb hby d1_9) ?_
    show Steps p.tables e below (s₁.setTop (mkF m 10 #[.val (.int p1)] [(.int (1 : Int32)), (.int p1)])) _
    refine XS.icmpYes X0.here hx rfl (pc0 := 10) (pc' := 17) rfl (hb hby d1_10) rfl (feq hc10).2 (by decide) (by decide) ?_
    show Steps p.tables e below (s₁.setTop (mkF m 17 #[.val (.int p1)] [])) _
    refine XS.iloadN X0.here hx rfl (hb hby d1_17) rfl ?_
    show Steps p.tables e below (s₁.setTop (mkF m 18 #[.val (.int p1)] [(.int p1)])) _
    refine XS.iconst X0.here hx rfl (hb hby d1_18) ?_
    show Steps p.tables e below (s₁.setTop (mkF m 19 #[.val (.int p1)] [(.int (2 : Int32)), (.int p1)])) _
    refine XS.icmpYes X0.here hx rfl (pc0 := 19) (pc' := 26) rfl (hb hby d1_19) rfl (feq hc19).2 (by decide) (by decide) ?_
    show Steps p.tables e below (s₁.setTop (mkF m 26 #[.val (.int p1)] [])) _
    refine XS.iloadN X0.here hx rfl (hb hby d1_26) rfl ?_
    show Steps p.tables e below (s₁.setTop (mkF m 27 #[.val (.int p1)] [(.int p1)])) _
    refine XS.iconst X0.here hx rfl (hb hby d1_27) ?_
    show Steps p.tables e below (s₁.setTop (mkF m 28 #[.val (.int p1)] [(.int (3 : Int32)), (.int p1)])) _
    refine XS.icmpNo X0.here hx rfl (hb hby d1_28) rfl (teq hc28).2 ?_
    show Steps p.tables e below (s₁.setTop (mkF m 31 #[.val (.int p1)] [])) _
    refine st3 _ ?_
    show Steps p.tables e below (T3.setTop (mkF m 34 #[.val (.int p1)] [(.ref w2)])) _
    jvm_step X3.here [X3.here.top, hx, (hb hby d1_34), X3.method', Bd.returns, Value.isRef, FieldType.isReference]
    first | (intro acts; rw [hr _ acts rfl rfl rfl]) | rw [hr _ _ rfl rfl rfl]
    exact Steps.refl _
  · show Q1 w2 Z p1 h0 n0 _ T3.heap _
    rw [e3]
    exact ⟨rfl, N0, rfl⟩
theorem d1_35 : decode method_2_code 35 = .ok (.iload_n 0, 1) := by decide +kernel
theorem d1_36 : decode method_2_code 36 = .ok (.iconst 4, 1) := by decide +kernel
theorem d1_37 : decode method_2_code 37 = .ok (.if_icmp .ne 7, 3) := by decide +kernel
theorem d1_40 : decode method_2_code 40 = .ok (.getstatic 22, 3) := by decide +kernel
theorem d1_43 : decode method_2_code 43 = .ok (.areturn, 1) := by decide +kernel
set_option maxRecDepth 65536 in
set_option maxHeartbeats 40000000 in
theorem rm1x4 (l : Launch) (Z : State) (a0 : Array Value) (hw : ∀ d ∈ tables_1, d.before a0 Z = true) (ws : List Jvm.Cond) (p1 : Int32) (w2 : Addr) (h0 : Heap) (n0 : Nat) (Z0 : n0 ≤ h0.size) (S_VALUE : Sta Z h0 "com/example/orgweave/orgweave/fhir/Nodes$Kind" "VALUE" "Lcom/example/orgweave/orgweave/fhir/Nodes$Kind;" (.ref w2)) (hc1 : ¬ (p1 = (0 : Int32))) (hc10 : ¬ (p1 = (1 : Int32))) (hc19 : ¬ (p1 = (2 : Int32))) (hc28 : ¬ (p1 = (3 : Int32))) (hc37 : p1 = (4 : Int32)) :
    MetFree l (⟨"com/example/orgweave/orgweave/fhir/NodesAddPinLaw", "kindOf", "(I)Lcom/example/orgweave/orgweave/fhir/Nodes$Kind;"⟩ : MethodName) (head1 (Jvm.Cond.code (⟨"com/example/orgweave/orgweave/fhir/NodesAddPinLaw", "kindOf", "(I)Lcom/example/orgweave/orgweave/fhir/Nodes$Kind;"⟩ : MethodName) method_2_code 1 (some (.object "com/example/orgweave/orgweave/fhir/Nodes$Kind")) :: ws) ({ frames := 0, cells := 0, slots := 0, locals := 0 } : Room)) (fun a U => a = #[(.int p1)] ∧ Z.Warmed39 U.vm ∧ U.heap = h0) (fun _ _ _ _ _ => True) (fun _ U o U' => ∃ v L, o = .returned v ∧ Q1 w2 Z p1 h0 n0 v U'.heap L ∧ FrameEnd U o U' L ({ frames := 0, cells := 0, slots := 0, locals := 0 } : Room).cells ({ frames := 0, cells := 0, slots := 0, locals := 0 } : Room).slots) := by
  refine MetFree.of_bodySF (plainFor_of_name pn_1) hisR ?_
  intro p e s m args below meth c s₁ Bd hml0 hP hK
  obtain ⟨rfl, hZ, hh⟩ := hP
  have hx := Bd.exec
  have hby := Bd.bytes
  have hml : c.maxLocals = 1 := hml0
  have hown : s.vm.findClass "com/example/orgweave/orgweave/fhir/NodesAddPinLaw" = some m.cls := findClass_of_methodNamed Bd.named
  have hnm := (name_of_methodNamed Bd.named Bd.method).1
  have X0 : Stand p l e ({ frames := 0, cells := 0, slots := 0, locals := 0 } : Room) s m #[(.int p1)] below meth c s₁ [] 0 0 := Stand.of_body Bd
  have e0 : s₁.heap = h0 := by rw [← hh, Bd.state]; rfl
  have N0 := Fr.nil n0
  have pre0 : ∀ t, Steps p.tables e below (s₁.setTop (mkF m 0 #[.val (.int p1)] [])) t → Steps p.tables e below (s₁.setTop (entryFrame m #[(.int p1)] 1)) t := fun t k => castTop (ef_1 m p1) k
  -- 3. LAWS
  obtain ⟨T3, X3, e3, st3⟩ := getS2 X0 hx hZ hown (host := "") (Or.inl (hw _ (List.mem_of_getElem? (i := 83) rfl))) Via.refl e0 S_VALUE (g := (mkF m 40 #[.val (.int p1)] [])) rfl (hb hby d1_40)
  obtain ⟨fs, hr, hrun, hended, hW, hsame⟩ := X3.leave (v := some (.ref w2)) (fun h => by rw [Bd.returns] at h; cases h)
  refine ⟨_, _, pre0 _ ?_, hrun, hended, _, _, rfl, ?_, ⟨_, rfl⟩, hW, hsame.mono (by decide) (by decide)⟩
  -- 4. STEPS
  · show Steps p.tables e below (s₁.setTop (mkF m 0 #[.val (.int p1)] [])) _
    refine XS.iloadN X0.here hx rfl (hb hby d1_0) rfl ?_
    show Steps p.tables e below (s₁.setTop (mkF m 1 #[.val (.int p1)] [(.int p1)])) _
    refine XS.ifYes X0.here hx rfl (pc0 := 1) (pc' := 8) rfl (hb hby d1_1) rfl ((if0 _ _).trans (feq hc1).2) (by decide) (by decide) ?_
    show Steps p.tables e below (s₁.setTop (mkF m 8 #[.val (.int p1)] [])) _
    refine XS.iloadN X0.here hx rfl (hb hby d1_8) rfl ?_
    show Steps p.tables e below (s₁.setTop (mkF m 9 #[.val (.int p1)] [(.int p1)])) _
    refine XS.iconst X0.here hx rfl (hb hby d1_9) ?_
    show Steps p.tables e below (s₁.setTop (mkF m 10 #[.val (.int p1)] [(.int (1 : Int32)), (.int p1)])) _
    refine XS.icmpYes X0.here hx rfl (pc0 := 10) (pc' := 17) rfl (hb hby d1_10) rfl (feq hc10).2 (by decide) (by decide) ?_
    show Steps p.tables e below (s₁.setTop (mkF m 17 #[.val (.int p1)] [])) _
    refine XS.iloadN X0.here hx rfl (hb hby d1_17) rfl ?_
    show Steps p.tables e below (s₁.setTop (mkF m 18 #[.val (.int p1)] [(.int p1)])) _
    refine XS.iconst X0.here hx rfl (hb hby d1_18) ?_
    show Steps p.tables e below (s₁.setTop (mkF m 19 #[.val (.int p1)] [(.int (2 : Int32)), (.int p1)])) _
    refine XS.icmpYes X0.here hx rfl (pc0 := 19) (pc' := 26) rfl (hb hby d1_19) rfl (feq hc19).2 (by decide) (by decide) ?_
    show Steps p.tables e below (s₁.setTop (mkF m 26 #[.val (.int p1)] [])) _
    refine XS.iloadN X0.here hx rfl (hb hby d1_26) rfl ?_
    show Steps p.tables e below (s₁.setTop (mkF m 27 #[.val (.int p1)] [(.int p1)])) _
    refine XS.iconst X0.here hx rfl (hb hby d1_27) ?_
    show Steps p.tables e below (s₁.setTop (mkF m 28 #[.val (.int p1)] [(.int (3 : Int32)), (.int p1)])) _
    refine XS.icmpYes X0.here hx rfl (pc0 := 28) (pc' := 35) rfl (hb hby d1_28) rfl (feq hc28).2 (by decide) (by decide) ?_
    show Steps p.tables e below (s₁.setTop (mkF m 35 #[.val (.int p1)] [])) _
    refine XS.iloadN X0.here hx rfl (hb hby d1_35) rfl ?_
    show Steps p.tables e below (s₁.setTop (mkF m 36 #[.val (.int p1)] [(.int p1)])) _
    refine XS.iconst X0.here hx rfl (hb hby d1_36) ?_
    show Steps p.tables e below (s₁.setTop (mkF m 37 #[.val (.int p1)] [(.int (4 : Int32)), (.int p1)])) _
    refine XS.icmpNo X0.here hx rfl (hb hby d1_37) rfl (teq hc37).2 ?_
    show Steps p.tables e below (s₁.setTop (mkF m 40 #[.val (.int p1)] [])) _
    refine st3 _ ?_
    show Steps p.tables e below (T3.setTop (mkF m 43 #[.val (.int p1)] [(.ref w2)])) _
    jvm_step X3.here [X3.here.top, hx, (hb hby d1_43), X3.method', Bd.returns, Value.isRef, FieldType.isReference]
    first | (intro acts; rw [hr _ acts rfl rfl rfl]) | rw [hr _ _ rfl rfl rfl]
    exact Steps.refl _
  · show Q1 w2 Z p1 h0 n0 _ T3.heap _
    rw [e3]
    exact ⟨rfl, N0, rfl⟩
theorem d1_44 : decode method_2_code 44 = .ok (.iload_n 0, 1) := by decide +kernel
theorem d1_45 : decode method_2_code 45 = .ok (.iconst 5, 1) := by decide +kernel
theorem d1_46 : decode method_2_code 46 = .ok (.if_icmp .ne 7, 3) := by decide +kernel
theorem d1_49 : decode method_2_code 49 = .ok (.getstatic 25, 3) := by decide +kernel
theorem d1_52 : decode method_2_code 52 = .ok (.areturn, 1) := by decide +kernel
set_option maxRecDepth 65536 in
set_option maxHeartbeats 40000000 in
theorem rm1x5 (l : Launch) (Z : State) (a0 : Array Value) (hw : ∀ d ∈ tables_1, d.before a0 Z = true) (ws : List Jvm.Cond) (p1 : Int32) (w2 : Addr) (h0 : Heap) (n0 : Nat) (Z0 : n0 ≤ h0.size) (S_HELD : Sta Z h0 "com/example/orgweave/orgweave/fhir/Nodes$Kind" "HELD" "Lcom/example/orgweave/orgweave/fhir/Nodes$Kind;" (.ref w2)) (hc1 : ¬ (p1 = (0 : Int32))) (hc10 : ¬ (p1 = (1 : Int32))) (hc19 : ¬ (p1 = (2 : Int32))) (hc28 : ¬ (p1 = (3 : Int32))) (hc37 : ¬ (p1 = (4 : Int32))) (hc46 : p1 = (5 : Int32)) :
    MetFree l (⟨"com/example/orgweave/orgweave/fhir/NodesAddPinLaw", "kindOf", "(I)Lcom/example/orgweave/orgweave/fhir/Nodes$Kind;"⟩ : MethodName) (head1 (Jvm.Cond.code (⟨"com/example/orgweave/orgweave/fhir/NodesAddPinLaw", "kindOf", "(I)Lcom/example/orgweave/orgweave/fhir/Nodes$Kind;"⟩ : MethodName) method_2_code 1 (some (.object "com/example/orgweave/orgweave/fhir/Nodes$Kind")) :: ws) ({ frames := 0, cells := 0, slots := 0, locals := 0 } : Room)) (fun a U => a = #[(.int p1)] ∧ Z.Warmed39 U.vm ∧ U.heap = h0) (fun _ _ _ _ _ => True) (fun _ U o U' => ∃ v L, o = .returned v ∧ Q1 w2 Z p1 h0 n0 v U'.heap L ∧ FrameEnd U o U' L ({ frames := 0, cells := 0, slots := 0, locals := 0 } : Room).cells ({ frames := 0, cells := 0, slots := 0, locals := 0 } : Room).slots) := by
  refine MetFree.of_bodySF (plainFor_of_name pn_1) hisR ?_
  intro p e s m args below meth c s₁ Bd hml0 hP hK
  obtain ⟨rfl, hZ, hh⟩ := hP
  have hx := Bd.exec
  have hby := Bd.bytes
  have hml : c.maxLocals = 1 := hml0
  have hown : s.vm.findClass "com/example/orgweave/orgweave/fhir/NodesAddPinLaw" = some m.cls := findClass_of_methodNamed Bd.named
  have hnm := (name_of_methodNamed Bd.named Bd.method).1
  have X0 : Stand p l e ({ frames := 0, cells := 0, slots := 0, locals := 0 } : Room) s m #[(.int p1)] below meth c s₁ [] 0 0 := Stand.of_body Bd
  have e0 : s₁.heap = h0 := by rw [← hh, Bd.state]; rfl
  have N0 := Fr.nil n0
  have pre0 : ∀ t, Steps p.tables e below (s₁.setTop (mkF m 0 #[.val (.int p1)] [])) t → Steps p.tables e below (s₁.setTop (entryFrame m #[(.int p1)] 1)) t := fun t k => castTop (ef_1 m p1) k
  -- 3. LAWS
  obtain ⟨T3, X3, e3, st3⟩ := getS2 X0 hx hZ hown (host := "") (Or.inl (hw _ (List.mem_of_getElem? (i := 81) rfl))) Via.refl e0 S_HELD (g := (mkF m 49 #[.val (.int p1)] [])) rfl (hb hby d1_49)
  obtain ⟨fs, hr, hrun, hended, hW, hsame⟩ := X3.leave (v := some (.ref w2)) (fun h => by rw [Bd.returns] at h; cases h)
  refine ⟨_, _, pre0 _ ?_, hrun, hended, _, _, rfl, ?_, ⟨_, rfl⟩, hW, hsame.mono (by decide) (by decide)⟩
  -- 4. STEPS
  · show Steps p.tables e below (s₁.setTop (mkF m 0 #[.val (.int p1)] [])) _
    refine XS.iloadN X0.here hx rfl (hb hby d1_0) rfl ?_
    show Steps p.tables e below (s₁.setTop (mkF m 1 #[.val (.int p1)] [(.int p1)])) _
    refine XS.ifYes X0.here hx rfl (pc0 := 1) (pc' := 8) rfl (hb hby d1_1) rfl ((if0 _ _).trans (feq hc1).2) (by decide) (by decide) ?_
    show Steps p.tables e below (s₁.setTop (mkF m 8 #[.val (.int p1)] [])) _
    refine XS.iloadN X0.here hx rfl (hb hby d1_8) rfl ?_
    show Steps p.tables e below (s₁.setTop (mkF m 9 #[.val (.int p1)] [(.int p1)])) _
    refine XS.iconst X0.here hx rfl (hb hby d1_9) ?_
    show Steps p.tables e below (s₁.setTop (mkF m 10 #[.val (.int p1)] [(.int (1 : Int32)), (.int p1)])) _
    refine XS.icmpYes X0.here hx rfl (pc0 := 10) (pc' := 17) rfl (hb hby d1_10) rfl (feq hc10).2 (by decide) (by decide) ?_
    show Steps p.tables e below (s₁.setTop (mkF m 17 #[.val (.int p1)] [])) _
    refine XS.iloadN X0.here hx rfl (hb hby d1_17) rfl ?_
    show Steps p.tables e below (s₁.setTop (mkF m 18 #[.val (.int p1)] [(.int p1)])) _
    refine XS.iconst X0.here hx rfl (hb hby d1_18) ?_
    show Steps p.tables e below (s₁.setTop (mkF m 19 #[.val (.int p1)] [(.int (2 : Int32)), (.int p1)])) _
    refine XS.icmpYes X0.here hx rfl (pc0 := 19) (pc' := 26) rfl (hb hby d1_19) rfl (feq hc19).2 (by decide) (by decide) ?_
    show Steps p.tables e below (s₁.setTop (mkF m 26 #[.val (.int p1)] [])) _
    refine XS.iloadN X0.here hx rfl (hb hby d1_26) rfl ?_
    show Steps p.tables e below (s₁.setTop (mkF m 27 #[.val (.int p1)] [(.int p1)])) _
    refine XS.iconst X0.here hx rfl (hb hby d1_27) ?_
    show Steps p.tables e below (s₁.setTop (mkF m 28 #[.val (.int p1)] [(.int (3 : Int32)), (.int p1)])) _
    refine XS.icmpYes X0.here hx rfl (pc0 := 28) (pc' := 35) rfl (hb hby d1_28) rfl (feq hc28).2 (by decide) (by decide) ?_
    show Steps p.tables e below (s₁.setTop (mkF m 35 #[.val (.int p1)] [])) _
    refine XS.iloadN X0.here hx rfl (hb hby d1_35) rfl ?_
    show Steps p.tables e below (s₁.setTop (mkF m 36 #[.val (.int p1)] [(.int p1)])) _
    refine XS.iconst X0.here hx rfl (hb hby d1_36) ?_
    show Steps p.tables e below (s₁.setTop (mkF m 37 #[.val (.int p1)] [(.int (4 : Int32)), (.int p1)])) _
    refine XS.icmpYes X0.here hx rfl (pc0 := 37) (pc' := 44) rfl (hb hby d1_37) rfl (feq hc37).2 (by decide) (by decide) ?_
    show Steps p.tables e below (s₁.setTop (mkF m 44 #[.val (.int p1)] [])) _
    refine XS.iloadN X0.here hx rfl (hb hby d1_44) rfl ?_
    show Steps p.tables e below (s₁.setTop (mkF m 45 #[.val (.int p1)] [(.int p1)])) _
    refine XS.iconst X0.here hx rfl (hb hby d1_45) ?_
    show Steps p.tables e below (s₁.setTop (mkF m 46 #[.val (.int p1)] [(.int (5 : Int32)), (.int p1)])) _
    refine XS.icmpNo X0.here hx rfl (hb hby d1_46) rfl (teq hc46).2 ?_
    show Steps p.tables e below (s₁.setTop (mkF m 49 #[.val (.int p1)] [])) _
    refine st3 _ ?_
    show Steps p.tables e below (T3.setTop (mkF m 52 #[.val (.int p1)] [(.ref w2)])) _
    jvm_step X3.here [X3.here.top, hx, (hb hby d1_52), X3.method', Bd.returns, Value.isRef, FieldType.isReference]
    first | (intro acts; rw [hr _ acts rfl rfl rfl]) | rw [hr _ _ rfl rfl rfl]
    exact Steps.refl _
  · show Q1 w2 Z p1 h0 n0 _ T3.heap _
    rw [e3]
    exact ⟨rfl, N0, rfl⟩
theorem d1_53 : decode method_2_code 53 = .ok (.iload_n 0, 1) := by decide +kernel
theorem d1_54 : decode method_2_code 54 = .ok (.bipush 6, 2) := by decide +kernel
theorem d1_56 : decode method_2_code 56 = .ok (.if_icmp .ne 7, 3) := by decide +kernel
theorem d1_59 : decode method_2_code 59 = .ok (.getstatic 28, 3) := by decide +kernel
theorem d1_62 : decode method_2_code 62 = .ok (.areturn, 1) := by decide +kernel
set_option maxRecDepth 65536 in
set_option maxHeartbeats 40000000 in
theorem rm1x6 (l : Launch) (Z : State) (a0 : Array Value) (hw : ∀ d ∈ tables_1, d.before a0 Z = true) (ws : List Jvm.Cond) (p1 : Int32) (w2 : Addr) (h0 : Heap) (n0 : Nat) (Z0 : n0 ≤ h0.size) (S_ELEMENT : Sta Z h0 "com/example/orgweave/orgweave/fhir/Nodes$Kind" "ELEMENT" "Lcom/example/orgweave/orgweave/fhir/Nodes$Kind;" (.ref w2)) (hc1 : ¬ (p1 = (0 : Int32))) (hc10 : ¬ (p1 = (1 : Int32))) (hc19 : ¬ (p1 = (2 : Int32))) (hc28 : ¬ (p1 = (3 : Int32))) (hc37 : ¬ (p1 = (4 : Int32))) (hc46 : ¬ (p1 = (5 : Int32))) (hc56 : p1 = (6 : Int32)) :
    MetFree l (⟨"com/example/orgweave/orgweave/fhir/NodesAddPinLaw", "kindOf", "(I)Lcom/example/orgweave/orgweave/fhir/Nodes$Kind;"⟩ : MethodName) (head1 (Jvm.Cond.code (⟨"com/example/orgweave/orgweave/fhir/NodesAddPinLaw", "kindOf", "(I)Lcom/example/orgweave/orgweave/fhir/Nodes$Kind;"⟩ : MethodName) method_2_code 1 (some (.object "com/example/orgweave/orgweave/fhir/Nodes$Kind")) :: ws) ({ frames := 0, cells := 0, slots := 0, locals := 0 } : Room)) (fun a U => a = #[(.int p1)] ∧ Z.Warmed39 U.vm ∧ U.heap = h0) (fun _ _ _ _ _ => True) (fun _ U o U' => ∃ v L, o = .returned v ∧ Q1 w2 Z p1 h0 n0 v U'.heap L ∧ FrameEnd U o U' L ({ frames := 0, cells := 0, slots := 0, locals := 0 } : Room).cells ({ frames := 0, cells := 0, slots := 0, locals := 0 } : Room).slots) := by
  refine MetFree.of_bodySF (plainFor_of_name pn_1) hisR ?_
  intro p e s m args below meth c s₁ Bd hml0 hP hK
  obtain ⟨rfl, hZ, hh⟩ := hP
  have hx := Bd.exec
  have hby := Bd.bytes
  have hml : c.maxLocals = 1 := hml0
  have hown : s.vm.findClass "com/example/orgweave/orgweave/fhir/NodesAddPinLaw" = some m.cls := findClass_of_methodNamed Bd.named
  have hnm := (name_of_methodNamed Bd.named Bd.method).1
  have X0 : Stand p l e ({ frames := 0, cells := 0, slots := 0, locals := 0 } : Room) s m #[(.int p1)] below meth c s₁ [] 0 0 := Stand.of_body Bd
  have e0 : s₁.heap = h0 := by rw [← hh, Bd.state]; rfl
  have N0 := Fr.nil n0
  have pre0 : ∀ t, Steps p.tables e below (s₁.setTop (mkF m 0 #[.val (.int p1)] [])) t → Steps p.tables e below (s₁.setTop (entryFrame m #[(.int p1)] 1)) t := fun t k => castTop (ef_1 m p1) k
  -- 3. LAWS
  obtain ⟨T3, X3, e3, st3⟩ := getS2 X0 hx hZ hown (host := "") (Or.inl (hw _ (List.mem_of_getElem? (i := 87) rfl))) Via.refl e0 S_ELEMENT (g := (mkF m 59 #[.val (.int p1)] [])) rfl (hb hby d1_59)
  obtain ⟨fs, hr, hrun, hended, hW, hsame⟩ := X3.leave (v := some (.ref w2)) (fun h => by rw [Bd.returns] at h; cases h)
  refine ⟨_, _, pre0 _ ?_, hrun, hended, _, _, rfl, ?_, ⟨_, rfl⟩, hW, hsame.mono (by decide) (by decide)⟩
  -- 4. STEPS
  · show Steps p.tables e below (s₁.setTop (mkF m 0 #[.val (.int p1)] [])) _
    refine XS.iloadN X0.here hx rfl (hb hby d1_0) rfl ?_
    show Steps p.tables e below (s₁.setTop (mkF m 1 #[.val (.int p1)] [(.int p1)])) _
    refine XS.ifYes X0.here hx rfl (pc0 := 1) (pc' := 8) rfl (hb hby d1_1) rfl ((if0 _ _).trans (feq hc1).2) (by decide) (by decide) ?_
    show Steps p.tables e below (s₁.setTop (mkF m 8 #[.val (.int p1)] [])) _
    refine XS.iloadN X0.here hx rfl (hb hby d1_8) rfl ?_
    show Steps p.tables e below (s₁.setTop (mkF m 9 #[.val (.int p1)] [(.int p1)])) _
    refine XS.iconst X0.here hx rfl (hb hby d1_9) ?_
    show Steps p.tables e below (s₁.setTop (mkF m 10 #[.val (.int p1)] [(.int (1 : Int32)), (.int p1)])) _
    refine XS.icmpYes X0.here hx rfl (pc0 := 10) (pc' := 17) rfl (hb hby d1_10) rfl (feq hc10).2 (by decide) (by decide) ?_
    show Steps p.tables e below (s₁.setTop (mkF m 17 #[.val (.int p1)] [])) _
    refine XS.iloadN X0.here hx rfl (hb hby d1_17) rfl ?_
    show Steps p.tables e below (s₁.setTop (mkF m 18 #[.val (.int p1)] [(.int p1)])) _
    refine XS.iconst X0.here hx rfl (hb hby d1_18) ?_
    show Steps p.tables e below (s₁.setTop (mkF m 19 #[.val (.int p1)] [(.int (2 : Int32)), (.int p1)])) _
    refine XS.icmpYes X0.here hx rfl (pc0 := 19) (pc' := 26) rfl (hb hby d1_19) rfl (feq hc19).2 (by decide) (by decide) ?_
    show Steps p.tables e below (s₁.setTop (mkF m 26 #[.val (.int p1)] [])) _
    refine XS.iloadN X0.here hx rfl (hb hby d1_26) rfl ?_
    show Steps p.tables e below (s₁.setTop (mkF m 27 #[.val (.int p1)] [(.int p1)])) _
    refine XS.iconst X0.here hx rfl (hb hby d1_27) ?_
    show Steps p.tables e below (s₁.setTop (mkF m 28 #[.val (.int p1)] [(.int (3 : Int32)), (.int p1)])) _
    refine XS.icmpYes X0.here hx rfl (pc0 := 28) (pc' := 35) rfl (hb hby d1_28) rfl (feq hc28).2 (by decide) (by decide) ?_
    show Steps p.tables e below (s₁.setTop (mkF m 35 #[.val (.int p1)] [])) _
    refine XS.iloadN X0.here hx rfl (hb hby d1_35) rfl ?_
    show Steps p.tables e below (s₁.setTop (mkF m 36 #[.val (.int p1)] [(.int p1)])) _
    refine XS.iconst X0.here hx rfl (hb hby d1_36) ?_
    show Steps p.tables e below (s₁.setTop (mkF m 37 #[.val (.int p1)] [(.int (4 : Int32)), (.int p1)])) _
    refine XS.icmpYes X0.here hx rfl (pc0 := 37) (pc' := 44) rfl (hb hby d1_37) rfl (feq hc37).2 (by decide) (by decide) ?_
    show Steps p.tables e below (s₁.setTop (mkF m 44 #[.val (.int p1)] [])) _
    refine XS.iloadN X0.here hx rfl (hb hby d1_44) rfl ?_
    show Steps p.tables e below (s₁.setTop (mkF m 45 #[.val (.int p1)] [(.int p1)])) _
    refine XS.iconst X0.here hx rfl (hb hby d1_45) ?_
    show Steps p.tables e below (s₁.setTop (mkF m 46 #[.val (.int p1)] [(.int (5 : Int32)), (.int p1)])) _
    refine XS.icmpYes X0.here hx rfl (pc0 := 46) (pc' := 53) rfl (hb hby d1_46) rfl (feq hc46).2 (by decide) (by decide) ?_
    show Steps p.tables e below (s₁.setTop (mkF m 53 #[.val (.int p1)] [])) _
    refine XS.iloadN X0.here hx rfl (hb hby d1_53) rfl ?_
    show Steps p.tables e below (s₁.setTop (mkF m 54 #[.val (.int p1)] [(.int p1)])) _
    refine XS.bipush X0.here hx rfl (hb hby d1_54) ?_
    show Steps p.tables e below (s₁.setTop (mkF m 56 #[.val (.int p1)] [(.int (6 : Int32)), (.int p1)])) _
    refine XS.icmpNo X0.here hx rfl (hb hby d1_56) rfl (teq hc56).2 ?_
    show Steps p.tables e below (s₁.setTop (mkF m 59 #[.val (.int p1)] [])) _
    refine st3 _ ?_
    show Steps p.tables e below (T3.setTop (mkF m 62 #[.val (.int p1)] [(.ref w2)])) _
    jvm_step X3.here [X3.here.top, hx, (hb hby d1_62), X3.method', Bd.returns, Value.isRef, FieldType.isReference]
    first | (intro acts; rw [hr _ acts rfl rfl rfl]) | rw [hr _ _ rfl rfl rfl]
    exact Steps.refl _
  · show Q1 w2 Z p1 h0 n0 _ T3.heap _
    rw [e3]
    exact ⟨rfl, N0, rfl⟩
theorem d1_63 : decode method_2_code 63 = .ok (.iload_n 0, 1) := by decide +kernel
theorem d1_64 : decode method_2_code 64 = .ok (.bipush 7, 2) := by decide +kernel
theorem d1_66 : decode method_2_code 66 = .ok (.if_icmp .ne 7, 3) := by decide +kernel
theorem d1_69 : decode method_2_code 69 = .ok (.getstatic 31, 3) := by decide +kernel
theorem d1_72 : decode method_2_code 72 = .ok (.areturn, 1) := by decide +kernel
set_option maxRecDepth 65536 in
set_option maxHeartbeats 40000000 in
theorem rm1x7 (l : Launch) (Z : State) (a0 : Array Value) (hw : ∀ d ∈ tables_1, d.before a0 Z = true) (ws : List Jvm.Cond) (p1 : Int32) (w2 : Addr) (h0 : Heap) (n0 : Nat) (Z0 : n0 ≤ h0.size) (S_ATTRIBUTE : Sta Z h0 "com/example/orgweave/orgweave/fhir/Nodes$Kind" "ATTRIBUTE" "Lcom/example/orgweave/orgweave/fhir/Nodes$Kind;" (.ref w2)) (hc1 : ¬ (p1 = (0 : Int32))) (hc10 : ¬ (p1 = (1 : Int32))) (hc19 : ¬ (p1 = (2 : Int32))) (hc28 : ¬ (p1 = (3 : Int32))) (hc37 : ¬ (p1 = (4 : Int32))) (hc46 : ¬ (p1 = (5 : Int32))) (hc56 : ¬ (p1 = (6 : Int32))) (hc66 : p1 = (7 : Int32)) :
    MetFree l (⟨"com/example/orgweave/orgweave/fhir/NodesAddPinLaw", "kindOf", "(I)Lcom/example/orgweave/orgweave/fhir/Nodes$Kind;"⟩ : MethodName) (head1 (Jvm.Cond.code (⟨"com/example/orgweave/orgweave/fhir/NodesAddPinLaw", "kindOf", "(I)Lcom/example/orgweave/orgweave/fhir/Nodes$Kind;"⟩ : MethodName) method_2_code 1 (some (.object "com/example/orgweave/orgweave/fhir/Nodes$Kind")) :: ws) ({ frames := 0, cells := 0, slots := 0, locals := 0 } : Room)) (fun a U => a = #[(.int p1)] ∧ Z.Warmed39 U.vm ∧ U.heap = h0) (fun _ _ _ _ _ => True) (fun _ U o U' => ∃ v L, o = .returned v ∧ Q1 w2 Z p1 h0 n0 v U'.heap L ∧ FrameEnd U o U' L ({ frames := 0, cells := 0, slots := 0, locals := 0 } : Room).cells ({ frames := 0, cells := 0, slots := 0, locals := 0 } : Room).slots) := by
  refine MetFree.of_bodySF (plainFor_of_name pn_1) hisR ?_
  intro p e s m args below meth c s₁ Bd hml0 hP hK
  obtain ⟨rfl, hZ, hh⟩ := hP
  have hx := Bd.exec
  have hby := Bd.bytes
  have hml : c.maxLocals = 1 := hml0
  have hown : s.vm.findClass "com/example/orgweave/orgweave/fhir/NodesAddPinLaw" = some m.cls := findClass_of_methodNamed Bd.named
  have hnm := (name_of_methodNamed Bd.named Bd.method).1
  have X0 : Stand p l e ({ frames := 0, cells := 0, slots := 0, locals := 0 } : Room) s m #[(.int p1)] below meth c s₁ [] 0 0 := Stand.of_body Bd
  have e0 : s₁.heap = h0 := by rw [← hh, Bd.state]; rfl
  have N0 := Fr.nil n0
  have pre0 : ∀ t, Steps p.tables e below (s₁.setTop (mkF m 0 #[.val (.int p1)] [])) t → Steps p.tables e below (s₁.setTop (entryFrame m #[(.int p1)] 1)) t := fun t k => castTop (ef_1 m p1) k
  -- 3. LAWS
  obtain ⟨T3, X3, e3, st3⟩ := getS2 X0 hx hZ hown (host := "") (Or.inl (hw _ (List.mem_of_getElem? (i := 85) rfl))) Via.refl e0 S_ATTRIBUTE (g := (mkF m 69 #[.val (.int p1)] [])) rfl (hb hby d1_69)
  obtain ⟨fs, hr, hrun, hended, hW, hsame⟩ := X3.leave (v := some (.ref w2)) (fun h => by rw [Bd.returns] at h; cases h)
  refine ⟨_, _, pre0 _ ?_, hrun, hended, _, _, rfl, ?_, ⟨_, rfl⟩, hW, hsame.mono (by decide) (by decide)⟩
  -- 4. STEPS
  · show Steps p.tables e below (s₁.setTop (mkF m 0 #[.val (.int p1)] [])) _
    refine XS.iloadN X0.here hx rfl (hb hby d1_0) rfl ?_
    show Steps p.tables e below (s₁.setTop (mkF m 1 #[.val (.int p1)] [(.int p1)])) _
    refine XS.ifYes X0.here hx rfl (pc0 := 1) (pc' := 8) rfl (hb hby d1_1) rfl ((if0 _ _).trans (feq hc1).2) (by decide) (by decide) ?_
    show Steps p.tables e below (s₁.setTop (mkF m 8 #[.val (.int p1)] [])) _
    refine XS.iloadN X0.here hx rfl (hb hby d1_8) rfl ?_
    show Steps p.tables e below (s₁.setTop (mkF m 9 #[.val (.int p1)] [(.int p1)])) _
    refine XS.iconst X0.here hx rfl (hb hby d1_9) ?_
    show Steps p.tables e below (s₁.setTop (mkF m 10 #[.val (.int p1)] [(.int (1 : Int32)), (.int p1)])) _
    refine XS.icmpYes X0.here hx rfl (pc0 := 10) (pc' := 17) rfl (hb hby d1_10) rfl (feq hc10).2 (by decide) (by decide) ?_
    show Steps p.tables e below (s₁.setTop (mkF m 17 #[.val (.int p1)] [])) _
    refine XS.iloadN X0.here hx rfl (hb hby d1_17) rfl ?_
    show Steps p.tables e below (s₁.setTop (mkF m 18 #[.val (.int p1)] [(.int p1)])) _
    refine XS.iconst X0.here hx rfl (hb hby d1_18) ?_
    show Steps p.tables e below (s₁.setTop (mkF m 19 #[.val (.int p1)] [(.int (2 : Int32)), (.int p1)])) _
    refine XS.icmpYes X0.here hx rfl (pc0 := 19) (pc' := 26) rfl (hb hby d1_19) rfl (feq hc19).2 (by decide) (by decide) ?_
    show Steps p.tables e below (s₁.setTop (mkF m 26 #[.val (.int p1)] [])) _
    refine XS.iloadN X0.here hx rfl (hb hby d1_26) rfl ?_
    show Steps p.tables e below (s₁.setTop (mkF m 27 #[.val (.int p1)] [(.int p1)])) _
    refine XS.iconst X0.here hx rfl (hb hby d1_27) ?_
    show Steps p.tables e below (s₁.setTop (mkF m 28 #[.val (.int p1)] [(.int (3 : Int32)), (.int p1)])) _
    refine XS.icmpYes X0.here hx rfl (pc0 := 28) (pc' := 35) rfl (hb hby d1_28) rfl (feq hc28).2 (by decide) (by decide) ?_
    show Steps p.tables e below (s₁.setTop (mkF m 35 #[.val (.int p1)] [])) _
    refine XS.iloadN X0.here hx rfl (hb hby d1_35) rfl ?_
    show Steps p.tables e below (s₁.setTop (mkF m 36 #[.val (.int p1)] [(.int p1)])) _
    refine XS.iconst X0.here hx rfl (hb hby d1_36) ?_
    show Steps p.tables e below (s₁.setTop (mkF m 37 #[.val (.int p1)] [(.int (4 : Int32)), (.int p1)])) _
    refine XS.icmpYes X0.here hx rfl (pc0 := 37) (pc' := 44) rfl (hb hby d1_37) rfl (feq hc37).2 (by decide) (by decide) ?_
    show Steps p.tables e below (s₁.setTop (mkF m 44 #[.val (.int p1)] [])) _
    refine XS.iloadN X0.here hx rfl (hb hby d1_44) rfl ?_
    show Steps p.tables e below (s₁.setTop (mkF m 45 #[.val (.int p1)] [(.int p1)])) _
    refine XS.iconst X0.here hx rfl (hb hby d1_45) ?_
    show Steps p.tables e below (s₁.setTop (mkF m 46 #[.val (.int p1)] [(.int (5 : Int32)), (.int p1)])) _
    refine XS.icmpYes X0.here hx rfl (pc0 := 46) (pc' := 53) rfl (hb hby d1_46) rfl (feq hc46).2 (by decide) (by decide) ?_
    show Steps p.tables e below (s₁.setTop (mkF m 53 #[.val (.int p1)] [])) _
    refine XS.iloadN X0.here hx rfl (hb hby d1_53) rfl ?_
    show Steps p.tables e below (s₁.setTop (mkF m 54 #[.val (.int p1)] [(.int p1)])) _
    refine XS.bipush X0.here hx rfl (hb hby d1_54) ?_
    show Steps p.tables e below (s₁.setTop (mkF m 56 #[.val (.int p1)] [(.int (6 : Int32)), (.int p1)])) _
    refine XS.icmpYes X0.here hx rfl (pc0 := 56) (pc' := 63) rfl (hb hby d1_56) rfl (feq hc56).2 (by decide) (by decide) ?_
    show Steps p.tables e below (s₁.setTop (mkF m 63 #[.val (.int p1)] [])) _
    refine XS.iloadN X0.here hx rfl (hb hby d1_63) rfl ?_
    show Steps p.tables e below (s₁.setTop (mkF m 64 #[.val (.int p1)] [(.int p1)])) _
    refine XS.bipush X0.here hx rfl (hb hby d1_64) ?_
    show Steps p.tables e below (s₁.setTop (mkF m 66 #[.val (.int p1)] [(.int (7 : Int32)), (.int p1)])) _
    refine XS.icmpNo X0.here hx rfl (hb hby d1_66) rfl (teq hc66).2 ?_
    show Steps p.tables e below (s₁.setTop (mkF m 69 #[.val (.int p1)] [])) _
    refine st3 _ ?_
    show Steps p.tables e below (T3.setTop (mkF m 72 #[.val (.int p1)] [(.ref w2)])) _
    jvm_step X3.here [X3.here.top, hx, (hb hby d1_72), X3.method', Bd.returns, Value.isRef, FieldType.isReference]
    first | (intro acts; rw [hr _ acts rfl rfl rfl]) | rw [hr _ _ rfl rfl rfl]
    exact Steps.refl _
  · show Q1 w2 Z p1 h0 n0 _ T3.heap _
    rw [e3]
    exact ⟨rfl, N0, rfl⟩
theorem d1_73 : decode method_2_code 73 = .ok (.iload_n 0, 1) := by decide +kernel
theorem d1_74 : decode method_2_code 74 = .ok (.bipush 8, 2) := by decide +kernel
theorem d1_76 : decode method_2_code 76 = .ok (.if_icmp .ne 7, 3) := by decide +kernel
theorem d1_79 : decode method_2_code 79 = .ok (.getstatic 34, 3) := by decide +kernel
theorem d1_82 : decode method_2_code 82 = .ok (.areturn, 1) := by decide +kernel
set_option maxRecDepth 65536 in
set_option maxHeartbeats 40000000 in
theorem rm1x8 (l : Launch) (Z : State) (a0 : Array Value) (hw : ∀ d ∈ tables_1, d.before a0 Z = true) (ws : List Jvm.Cond) (p1 : Int32) (w2 : Addr) (h0 : Heap) (n0 : Nat) (Z0 : n0 ≤ h0.size) (S_XHTML_ELEMENT : Sta Z h0 "com/example/orgweave/orgweave/fhir/Nodes$Kind" "XHTML_ELEMENT" "Lcom/example/orgweave/orgweave/fhir/Nodes$Kind;" (.ref w2)) (hc1 : ¬ (p1 = (0 : Int32))) (hc10 : ¬ (p1 = (1 : Int32))) (hc19 : ¬ (p1 = (2 : Int32))) (hc28 : ¬ (p1 = (3 : Int32))) (hc37 : ¬ (p1 = (4 : Int32))) (hc46 : ¬ (p1 = (5 : Int32))) (hc56 : ¬ (p1 = (6 : Int32))) (hc66 : ¬ (p1 = (7 : Int32))) (hc76 : p1 = (8 : Int32)) :
    MetFree l (⟨"com/example/orgweave/orgweave/fhir/NodesAddPinLaw", "kindOf", "(I)Lcom/example/orgweave/orgweave/fhir/Nodes$Kind;"⟩ : MethodName) (head1 (Jvm.Cond.code (⟨"com/example/orgweave/orgweave/fhir/NodesAddPinLaw", "kindOf", "(I)Lcom/example/orgweave/orgweave/fhir/Nodes$Kind;"⟩ : MethodName) method_2_code 1 (some (.object "com/example/orgweave/orgweave/fhir/Nodes$Kind")) :: ws) ({ frames := 0, cells := 0, slots := 0, locals := 0 } : Room)) (fun a U => a = #[(.int p1)] ∧ Z.Warmed39 U.vm ∧ U.heap = h0) (fun _ _ _ _ _ => True) (fun _ U o U' => ∃ v L, o = .returned v ∧ Q1 w2 Z p1 h0 n0 v U'.heap L ∧ FrameEnd U o U' L ({ frames := 0, cells := 0, slots := 0, locals := 0 } : Room).cells ({ frames := 0, cells := 0, slots := 0, locals := 0 } : Room).slots) := by
  refine MetFree.of_bodySF (plainFor_of_name pn_1) hisR ?_
  intro p e s m args below meth c s₁ Bd hml0 hP hK
  obtain ⟨rfl, hZ, hh⟩ := hP
  have hx := Bd.exec
  have hby := Bd.bytes
  have hml : c.maxLocals = 1 := hml0
  have hown : s.vm.findClass "com/example/orgweave/orgweave/fhir/NodesAddPinLaw" = some m.cls := findClass_of_methodNamed Bd.named
  have hnm := (name_of_methodNamed Bd.named Bd.method).1
  have X0 : Stand p l e ({ frames := 0, cells := 0, slots := 0, locals := 0 } : Room) s m #[(.int p1)] below meth c s₁ [] 0 0 := Stand.of_body Bd
  have e0 : s₁.heap = h0 := by rw [← hh, Bd.state]; rfl
  have N0 := Fr.nil n0
  have pre0 : ∀ t, Steps p.tables e below (s₁.setTop (mkF m 0 #[.val (.int p1)] [])) t → Steps p.tables e below (s₁.setTop (entryFrame m #[(.int p1)] 1)) t := fun t k => castTop (ef_1 m p1) k
  -- 3. LAWS
  obtain ⟨T3, X3, e3, st3⟩ := getS2 X0 hx hZ hown (host := "") (Or.inl (hw _ (List.mem_of_getElem? (i := 79) rfl))) Via.refl e0 S_XHTML_ELEMENT (g := (mkF m 79 #[.val (.int p1)] [])) rfl (hb hby d1_79)
  obtain ⟨fs, hr, hrun, hended, hW, hsame⟩ := X3.leave (v := some (.ref w2)) (fun h => by rw [Bd.returns] at h; cases h)
  refine ⟨_, _, pre0 _ ?_, hrun, hended, _, _, rfl, ?_, ⟨_, rfl⟩, hW, hsame.mono (by decide) (by decide)⟩
  -- 4. STEPS
  · show Steps p.tables e below (s₁.setTop (mkF m 0 #[.val (.int p1)] [])) _
    refine XS.iloadN X0.here hx rfl (hb hby d1_0) rfl ?_
    show Steps p.tables e below (s₁.setTop (mkF m 1 #[.val (.int p1)] [(.int p1)])) _
    refine XS.ifYes X0.here hx rfl (pc0 := 1) (pc' := 8) rfl (hb hby d1_1) rfl ((if0 _ _).trans (feq hc1).2) (by decide) (by decide) ?_
    show Steps p.tables e below (s₁.setTop (mkF m 8 #[.val (.int p1)] [])) _
    refine XS.iloadN X0.here hx rfl (hb hby d1_8) rfl ?_
    show Steps p.tables e below (s₁.setTop (mkF m 9 #[.val (.int p1)] [(.int p1)])) _
    refine XS.iconst X0.here hx rfl (hb hby d1_9) ?_
    show Steps p.tables e below (s₁.setTop (mkF m 10 #[.val (.int p1)] [(.int (1 : Int32)), (.int p1)])) _
    refine XS.icmpYes X0.here hx rfl (pc0 := 10) (pc' := 17) rfl (hb hby d1_10) rfl (feq hc10).2 (by decide) (by decide) ?_
    show Steps p.tables e below (s₁.setTop (mkF m 17 #[.val (.int p1)] [])) _
    refine XS.iloadN X0.here hx rfl (hb hby d1_17) rfl ?_
    show Steps p.tables e below (s₁.setTop (mkF m 18 #[.val (.int p1)] [(.int p1)])) _
    refine XS.iconst X0.here hx rfl (hb hby d1_18) ?_
    show Steps p.tables e below (s₁.setTop (mkF m 19 #[.val (.int p1)] [(.int (2 : Int32)), (.int p1)])) _
    refine XS.icmpYes X0.here hx rfl (pc0 := 19) (pc' := 26) rfl (hb hby d1_19) rfl (feq hc19).2 (by decide) (by decide) ?_
    show Steps p.tables e below (s₁.setTop (mkF m 26 #[.val (.int p1)] [])) _
    refine XS.iloadN X0.here hx rfl (hb hby d1_26) rfl ?_
    show Steps p.tables e below (s₁.setTop (mkF m 27 #[.val (.int p1)] [(.int p1)])) _
    refine XS.iconst X0.here hx rfl (hb hby d1_27) ?_
    show Steps p.tables e below (s₁.setTop (mkF m 28 #[.val (.int p1)] [(.int (3 : Int32)), (.int p1)])) _
    refine XS.icmpYes X0.here hx rfl (pc0 := 28) (pc' := 35) rfl (hb hby d1_28) rfl (feq hc28).2 (by decide) (by decide) ?_
    show Steps p.tables e below (s₁.setTop (mkF m 35 #[.val (.int p1)] [])) _
    refine XS.iloadN X0.here hx rfl (hb hby d1_35) rfl ?_
    show Steps p.tables e below (s₁.setTop (mkF m 36 #[.val (.int p1)] [(.int p1)])) _
    refine XS.iconst X0.here hx rfl (hb hby d1_36) ?_
    show Steps p.tables e below (s₁.setTop (mkF m 37 #[.val (.int p1)] [(.int (4 : Int32)), (.int p1)])) _
    refine XS.icmpYes X0.here hx rfl (pc0 := 37) (pc' := 44) rfl (hb hby d1_37) rfl (feq hc37).2 (by decide) (by decide) ?_
    show Steps p.tables e below (s₁.setTop (mkF m 44 #[.val (.int p1)] [])) _
    refine XS.iloadN X0.here hx rfl (hb hby d1_44) rfl ?_
    show Steps p.tables e below (s₁.setTop (mkF m 45 #[.val (.int p1)] [(.int p1)])) _
    refine XS.iconst X0.here hx rfl (hb hby d1_45) ?_
    show Steps p.tables e below (s₁.setTop (mkF m 46 #[.val (.int p1)] [(.int (5 : Int32)), (.int p1)])) _
    refine XS.icmpYes X0.here hx rfl (pc0 := 46) (pc' := 53) rfl (hb hby d1_46) rfl (feq hc46).2 (by decide) (by decide) ?_
    show Steps p.tables e below (s₁.setTop (mkF m 53 #[.val (.int p1)] [])) _
    refine XS.iloadN X0.here hx rfl (hb hby d1_53) rfl ?_
    show Steps p.tables e below (s₁.setTop (mkF m 54 #[.val (.int p1)] [(.int p1)])) _
    refine XS.bipush X0.here hx rfl (hb hby d1_54) ?_
    show Steps p.tables e below (s₁.setTop (mkF m 56 #[.val (.int p1)] [(.int (6 : Int32)), (.int p1)])) _
    refine XS.icmpYes X0.here hx rfl (pc0 := 56) (pc' := 63) rfl (hb hby d1_56) rfl (feq hc56).2 (by decide) (by decide) ?_
    show Steps p.tables e below (s₁.setTop (mkF m 63 #[.val (.int p1)] [])) _
    refine XS.iloadN X0.here hx rfl (hb hby d1_63) rfl ?_
    show Steps p.tables e below (s₁.setTop (mkF m 64 #[.val (.int p1)] [(.int p1)])) _
    refine XS.bipush X0.here hx rfl (hb hby d1_64) ?_
    show Steps p.tables e below (s₁.setTop (mkF m 66 #[.val (.int p1)] [(.int (7 : Int32)), (.int p1)])) _
    refine XS.icmpYes X0.here hx rfl (pc0 := 66) (pc' := 73) rfl (hb hby d1_66) rfl (feq hc66).2 (by decide) (by decide) ?_
    show Steps p.tables e below (s₁.setTop (mkF m 73 #[.val (.int p1)] [])) _
    refine XS.iloadN X0.here hx rfl (hb hby d1_73) rfl ?_
    show Steps p.tables e below (s₁.setTop (mkF m 74 #[.val (.int p1)] [(.int p1)])) _
    refine XS.bipush X0.here hx rfl (hb hby d1_74) ?_
    show Steps p.tables e below (s₁.setTop (mkF m 76 #[.val (.int p1)] [(.int (8 : Int32)), (.int p1)])) _
    refine XS.icmpNo X0.here hx rfl (hb hby d1_76) rfl (teq hc76).2 ?_
    show Steps p.tables e below (s₁.setTop (mkF m 79 #[.val (.int p1)] [])) _
    refine st3 _ ?_
    show Steps p.tables e below (T3.setTop (mkF m 82 #[.val (.int p1)] [(.ref w2)])) _
    jvm_step X3.here [X3.here.top, hx, (hb hby d1_82), X3.method', Bd.returns, Value.isRef, FieldType.isReference]
    first | (intro acts; rw [hr _ acts rfl rfl rfl]) | rw [hr _ _ rfl rfl rfl]
    exact Steps.refl _
  · show Q1 w2 Z p1 h0 n0 _ T3.heap _
    rw [e3]
    exact ⟨rfl, N0, rfl⟩
theorem d1_83 : decode method_2_code 83 = .ok (.iload_n 0, 1) := by decide +kernel
theorem d1_84 : decode method_2_code 84 = .ok (.bipush 9, 2) := by decide +kernel
theorem d1_86 : decode method_2_code 86 = .ok (.if_icmp .ne 7, 3) := by decide +kernel
theorem d1_89 : decode method_2_code 89 = .ok (.getstatic 37, 3) := by decide +kernel
theorem d1_92 : decode method_2_code 92 = .ok (.areturn, 1) := by decide +kernel
set_option maxRecDepth 65536 in
set_option maxHeartbeats 40000000 in
theorem rm1x9 (l : Launch) (Z : State) (a0 : Array Value) (hw : ∀ d ∈ tables_1, d.before a0 Z = true) (ws : List Jvm.Cond) (p1 : Int32) (w2 : Addr) (h0 : Heap) (n0 : Nat) (Z0 : n0 ≤ h0.size) (S_XHTML_ATTRIBUTE : Sta Z h0 "com/example/orgweave/orgweave/fhir/Nodes$Kind" "XHTML_ATTRIBUTE" "Lcom/example/orgweave/orgweave/fhir/Nodes$Kind;" (.ref w2)) (hc1 : ¬ (p1 = (0 : Int32))) (hc10 : ¬ (p1 = (1 : Int32))) (hc19 : ¬ (p1 = (2 : Int32))) (hc28 : ¬ (p1 = (3 : Int32))) (hc37 : ¬ (p1 = (4 : Int32))) (hc46 : ¬ (p1 = (5 : Int32))) (hc56 : ¬ (p1 = (6 : Int32))) (hc66 : ¬ (p1 = (7 : Int32))) (hc76 : ¬ (p1 = (8 : Int32))) (hc86 : p1 = (9 : Int32)) :
    MetFree l (⟨"com/example/orgweave/orgweave/fhir/NodesAddPinLaw", "kindOf", "(I)Lcom/example/orgweave/orgweave/fhir/Nodes$Kind;"⟩ : MethodName) (head1 (Jvm.Cond.code (⟨"com/example/orgweave/orgweave/fhir/NodesAddPinLaw", "kindOf", "(I)Lcom/example/orgweave/orgweave/fhir/Nodes$Kind;"⟩ : MethodName) method_2_code 1 (some (.object "com/example/orgweave/orgweave/fhir/Nodes$Kind")) :: ws) ({ frames := 0, cells := 0, slots := 0, locals := 0 } : Room)) (fun a U => a = #[(.int p1)] ∧ Z.Warmed39 U.vm ∧ U.heap = h0) (fun _ _ _ _ _ => True) (fun _ U o U' => ∃ v L, o = .returned v ∧ Q1 w2 Z p1 h0 n0 v U'.heap L ∧ FrameEnd U o U' L ({ frames := 0, cells := 0, slots := 0, locals := 0 } : Room).cells ({ frames := 0, cells := 0, slots := 0, locals := 0 } : Room).slots) := by
  refine MetFree.of_bodySF (plainFor_of_name pn_1) hisR ?_
  intro p e s m args below meth c s₁ Bd hml0 hP hK
  obtain ⟨rfl, hZ, hh⟩ := hP
  have hx := Bd.exec
  have hby := Bd.bytes
  have hml : c.maxLocals = 1 := hml0
  have hown : s.vm.findClass "com/example/orgweave/orgweave/fhir/NodesAddPinLaw" = some m.cls := findClass_of_methodNamed Bd.named
  have hnm := (name_of_methodNamed Bd.named Bd.method).1
  have X0 : Stand p l e ({ frames := 0, cells := 0, slots := 0, locals := 0 } : Room) s m #[(.int p1)] below meth c s₁ [] 0 0 := Stand.of_body Bd
  have e0 : s₁.heap = h0 := by rw [← hh, Bd.state]; rfl
  have N0 := Fr.nil n0
  have pre0 : ∀ t, Steps p.tables e below (s₁.setTop (mkF m 0 #[.val (.int p1)] [])) t → Steps p.tables e below (s₁.setTop (entryFrame m #[(.int p1)] 1)) t := fun t k => castTop (ef_1 m p1) k
  -- 3. LAWS
  obtain ⟨T3, X3, e3, st3⟩ := getS2 X0 hx hZ hown (host := "") (Or.inl (hw _ (List.mem_of_getElem? (i := 80) rfl))) Via.refl e0 S_XHTML_ATTRIBUTE (g := (mkF m 89 #[.val (.int p1)] [])) rfl (hb hby d1_89)
  obtain ⟨fs, hr, hrun, hended, hW, hsame⟩ := X3.leave (v := some (.ref w2)) (fun h => by rw [Bd.returns] at h; cases h)
  refine ⟨_, _, pre0 _ ?_, hrun, hended, _, _, rfl, ?_, ⟨_, rfl⟩, hW, hsame.mono (by decide) (by decide)⟩
  -- 4. STEPS
  · show Steps p.tables e below (s₁.setTop (mkF m 0 #[.val (.int p1)] [])) _
    refine XS.iloadN X0.here hx rfl (hb hby d1_0) rfl ?_
    show Steps p.tables e below (s₁.setTop (mkF m 1 #[.val (.int p1)] [(.int p1)])) _
    refine XS.ifYes X0.here hx rfl (pc0 := 1) (pc' := 8) rfl (hb hby d1_1) rfl ((if0 _ _).trans (feq hc1).2) (by decide) (by decide) ?_
    show Steps p.tables e below (s₁.setTop (mkF m 8 #[.val (.int p1)] [])) _
    refine XS.iloadN X0.here hx rfl (hb hby d1_8) rfl ?_
    show Steps p.tables e below (s₁.setTop (mkF m 9 #[.val (.int p1)] [(.int p1)])) _
    refine XS.iconst X0.here hx rfl (hb hby d1_9) ?_
    show Steps p.tables e below (s₁.setTop (mkF m 10 #[.val (.int p1)] [(.int (1 : Int32)), (.int p1)])) _
    refine XS.icmpYes X0.here hx rfl (pc0 := 10) (pc' := 17) rfl (hb hby d1_10) rfl (feq hc10).2 (by decide) (by decide) ?_
    show Steps p.tables e below (s₁.setTop (mkF m 17 #[.val (.int p1)] [])) _
    refine XS.iloadN X0.here hx rfl (hb hby d1_17) rfl ?_
    show Steps p.tables e below (s₁.setTop (mkF m 18 #[.val (.int p1)] [(.int p1)])) _
    refine XS.iconst X0.here hx rfl (hb hby d1_18) ?_
    show Steps p.tables e below (s₁.setTop (mkF m 19 #[.val (.int p1)] [(.int (2 : Int32)), (.int p1)])) _
    refine XS.icmpYes X0.here hx rfl (pc0 := 19) (pc' := 26) rfl (hb hby d1_19) rfl (feq hc19).2 (by decide) (by decide) ?_
    show Steps p.tables e below (s₁.setTop (mkF m 26 #[.val (.int p1)] [])) _
    refine XS.iloadN X0.here hx rfl (hb hby d1_26) rfl ?_
    show Steps p.tables e below (s₁.setTop (mkF m 27 #[.val (.int p1)] [(.int p1)])) _
    refine XS.iconst X0.here hx rfl (hb hby d1_27) ?_
    show Steps p.tables e below (s₁.setTop (mkF m 28 #[.val (.int p1)] [(.int (3 : Int32)), (.int p1)])) _
    refine XS.icmpYes X0.here hx rfl (pc0 := 28) (pc' := 35) rfl (hb hby d1_28) rfl (feq hc28).2 (by decide) (by decide) ?_
    show Steps p.tables e below (s₁.setTop (mkF m 35 #[.val (.int p1)] [])) _
    refine XS.iloadN X0.here hx rfl (hb hby d1_35) rfl ?_
    show Steps p.tables e below (s₁.setTop (mkF m 36 #[.val (.int p1)] [(.int p1)])) _
    refine XS.iconst X0.here hx rfl (hb hby d1_36) ?_
    show Steps p.tables e below (s₁.setTop (mkF m 37 #[.val (.int p1)] [(.int (4 : Int32)), (.int p1)])) _
    refine XS.icmpYes X0.here hx rfl (pc0 := 37) (pc' := 44) rfl (hb hby d1_37) rfl (feq hc37).2 (by decide) (by decide) ?_
    show Steps p.tables e below (s₁.setTop (mkF m 44 #[.val (.int p1)] [])) _
    refine XS.iloadN X0.here hx rfl (hb hby d1_44) rfl ?_
    show Steps p.tables e below (s₁.setTop (mkF m 45 #[.val (.int p1)] [(.int p1)])) _
    refine XS.iconst X0.here hx rfl (hb hby d1_45) ?_
    show Steps p.tables e below (s₁.setTop (mkF m 46 #[.val (.int p1)] [(.int (5 : Int32)), (.int p1)])) _
    refine XS.icmpYes X0.here hx rfl (pc0 := 46) (pc' := 53) rfl (hb hby d1_46) rfl (feq hc46).2 (by decide) (by decide) ?_
    show Steps p.tables e below (s₁.setTop (mkF m 53 #[.val (.int p1)] [])) _
    refine XS.iloadN X0.here hx rfl (hb hby d1_53) rfl ?_
    show Steps p.tables e below (s₁.setTop (mkF m 54 #[.val (.int p1)] [(.int p1)])) _
    refine XS.bipush X0.here hx rfl (hb hby d1_54) ?_
    show Steps p.tables e below (s₁.setTop (mkF m 56 #[.val (.int p1)] [(.int (6 : Int32)), (.int p1)])) _
    refine XS.icmpYes X0.here hx rfl (pc0 := 56) (pc' := 63) rfl (hb hby d1_56) rfl (feq hc56).2 (by decide) (by decide) ?_
    show Steps p.tables e below (s₁.setTop (mkF m 63 #[.val (.int p1)] [])) _
    refine XS.iloadN X0.here hx rfl (hb hby d1_63) rfl ?_
    show Steps p.tables e below (s₁.setTop (mkF m 64 #[.val (.int p1)] [(.int p1)])) _
    refine XS.bipush X0.here hx rfl (hb hby d1_64) ?_
    show Steps p.tables e below (s₁.setTop (mkF m 66 #[.val (.int p1)] [(.int (7 : Int32)), (.int p1)])) _
    refine XS.icmpYes X0.here hx rfl (pc0 := 66) (pc' := 73) rfl (hb hby d1_66) rfl (feq hc66).2 (by decide) (by decide) ?_
    show Steps p.tables e below (s₁.setTop (mkF m 73 #[.val (.int p1)] [])) _
    refine XS.iloadN X0.here hx rfl (hb hby d1_73) rfl ?_
    show Steps p.tables e below (s₁.setTop (mkF m 74 #[.val (.int p1)] [(.int p1)])) _
    refine XS.bipush X0.here hx rfl (hb hby d1_74) ?_
    show Steps p.tables e below (s₁.setTop (mkF m 76 #[.val (.int p1)] [(.int (8 : Int32)), (.int p1)])) _
    refine XS.icmpYes X0.here hx rfl (pc0 := 76) (pc' := 83) rfl (hb hby d1_76) rfl (feq hc76).2 (by decide) (by decide) ?_
    show Steps p.tables e below (s₁.setTop (mkF m 83 #[.val (.int p1)] [])) _
    refine XS.iloadN X0.here hx rfl (hb hby d1_83) rfl ?_
    show Steps p.tables e below (s₁.setTop (mkF m 84 #[.val (.int p1)] [(.int p1)])) _
    refine XS.bipush X0.here hx rfl (hb hby d1_84) ?_
    show Steps p.tables e below (s₁.setTop (mkF m 86 #[.val (.int p1)] [(.int (9 : Int32)), (.int p1)])) _
    refine XS.icmpNo X0.here hx rfl (hb hby d1_86) rfl (teq hc86).2 ?_
    show Steps p.tables e below (s₁.setTop (mkF m 89 #[.val (.int p1)] [])) _
    refine st3 _ ?_
    show Steps p.tables e below (T3.setTop (mkF m 92 #[.val (.int p1)] [(.ref w2)])) _
    jvm_step X3.here [X3.here.top, hx, (hb hby d1_92), X3.method', Bd.returns, Value.isRef, FieldType.isReference]
    first | (intro acts; rw [hr _ acts rfl rfl rfl]) | rw [hr _ _ rfl rfl rfl]
    exact Steps.refl _
  · show Q1 w2 Z p1 h0 n0 _ T3.heap _
    rw [e3]
    exact ⟨rfl, N0, rfl⟩
theorem d1_93 : decode method_2_code 93 = .ok (.iload_n 0, 1) := by decide +kernel
theorem d1_94 : decode method_2_code 94 = .ok (.bipush 10, 2) := by decide +kernel
theorem d1_96 : decode method_2_code 96 = .ok (.if_icmp .ne 7, 3) := by decide +kernel
theorem d1_99 : decode method_2_code 99 = .ok (.getstatic 40, 3) := by decide +kernel
theorem d1_102 : decode method_2_code 102 = .ok (.areturn, 1) := by decide +kernel
set_option maxRecDepth 65536 in
set_option maxHeartbeats 40000000 in
theorem rm1x10 (l : Launch) (Z : State) (a0 : Array Value) (hw : ∀ d ∈ tables_1, d.before a0 Z = true) (ws : List Jvm.Cond) (p1 : Int32) (w2 : Addr) (h0 : Heap) (n0 : Nat) (Z0 : n0 ≤ h0.size) (S_XHTML_TEXT : Sta Z h0 "com/example/orgweave/orgweave/fhir/Nodes$Kind" "XHTML_TEXT" "Lcom/example/orgweave/orgweave/fhir/Nodes$Kind;" (.ref w2)) (hc1 : ¬ (p1 = (0 : Int32))) (hc10 : ¬ (p1 = (1 : Int32))) (hc19 : ¬ (p1 = (2 : Int32))) (hc28 : ¬ (p1 = (3 : Int32))) (hc37 : ¬ (p1 = (4 : Int32))) (hc46 : ¬ (p1 = (5 : Int32))) (hc56 : ¬ (p1 = (6 : Int32))) (hc66 : ¬ (p1 = (7 : Int32))) (hc76 : ¬ (p1 = (8 : Int32))) (hc86 : ¬ (p1 = (9 : Int32))) (hc96 : p1 = (10 : Int32)) :
    MetFree l (⟨"com/example/orgweave/orgweave/fhir/NodesAddPinLaw", "kindOf", "(I)Lcom/example/orgweave/orgweave/fhir/Nodes$Kind;"⟩ : MethodName) (head1 (Jvm.Cond.code (⟨"com/example/orgweave/orgweave/fhir/NodesAddPinLaw", "kindOf", "(I)Lcom/example/orgweave/orgweave/fhir/Nodes$Kind;"⟩ : MethodName) method_2_code 1 (some (.object "com/example/orgweave/orgweave/fhir/Nodes$Kind")) :: ws) ({ frames := 0, cells := 0, slots := 0, locals := 0 } : Room)) (fun a U => a = #[(.int p1)] ∧ Z.Warmed39 U.vm ∧ U.heap = h0) (fun _ _ _ _ _ => True) (fun _ U o U' => ∃ v L, o = .returned v ∧ Q1 w2 Z p1 h0 n0 v U'.heap L ∧ FrameEnd U o U' L ({ frames := 0, cells := 0, slots := 0, locals := 0 } : Room).cells ({ frames := 0, cells := 0, slots := 0, locals := 0 } : Room).slots) := by
  refine MetFree.of_bodySF (plainFor_of_name pn_1) hisR ?_
  intro p e s m args below meth c s₁ Bd hml0 hP hK
  obtain ⟨rfl, hZ, hh⟩ := hP
  have hx := Bd.exec
  have hby := Bd.bytes
  have hml : c.maxLocals = 1 := hml0
  have hown : s.vm.findClass "com/example/orgweave/orgweave/fhir/NodesAddPinLaw" = some m.cls := findClass_of_methodNamed Bd.named
  have hnm := (name_of_methodNamed Bd.named Bd.method).1
  have X0 : Stand p l e ({ frames := 0, cells := 0, slots := 0, locals := 0 } : Room) s m #[(.int p1)] below meth c s₁ [] 0 0 := Stand.of_body Bd
  have e0 : s₁.heap = h0 := by rw [← hh, Bd.state]; rfl
  have N0 := Fr.nil n0
  have pre0 : ∀ t, Steps p.tables e below (s₁.setTop (mkF m 0 #[.val (.int p1)] [])) t → Steps p.tables e below (s₁.setTop (entryFrame m #[(.int p1)] 1)) t := fun t k => castTop (ef_1 m p1) k
  -- 3. LAWS
  obtain ⟨T3, X3, e3, st3⟩ := getS2 X0 hx hZ hown (host := "") (Or.inl (hw _ (List.mem_of_getElem? (i := 84) rfl))) Via.refl e0 S_XHTML_TEXT (g := (mkF m 99 #[.val (.int p1)] [])) rfl (hb hby d1_99)
  obtain ⟨fs, hr, hrun, hended, hW, hsame⟩ := X3.leave (v := some (.ref w2)) (fun h => by rw [Bd.returns] at h; cases h)
  refine ⟨_, _, pre0 _ ?_, hrun, hended, _, _, rfl, ?_, ⟨_, rfl⟩, hW, hsame.mono (by decide) (by decide)⟩
  -- 4. STEPS
  · show Steps p.tables e below (s₁.setTop (mkF m 0 #[.val (.int p1)] [])) _
    refine XS.iloadN X0.here hx rfl (hb hby d1_0) rfl ?_
    show Steps p.tables e below (s₁.setTop (mkF m 1 #[.val (.int p1)] [(.int p1)])) _
    refine XS.ifYes X0.here hx rfl (pc0 := 1) (pc' := 8) rfl (hb hby d1_1) rfl ((if0 _ _).trans (feq hc1).2) (by decide) (by decide) ?_
    show Steps p.tables e below (s₁.setTop (mkF m 8 #[.val (.int p1)] [])) _
    refine XS.iloadN X0.here hx rfl (hb hby d1_8) rfl ?_
    show Steps p.tables e below (s₁.setTop (mkF m 9 #[.val (.int p1)] [(.int p1)])) _
    refine XS.iconst X0.here hx rfl (hb hby d1_9) ?_
    show Steps p.tables e below (s₁.setTop (mkF m 10 #[.val (.int p1)] [(.int (1 : Int32)), (.int p1)])) _
    refine XS.icmpYes X0.here hx rfl (pc0 := 10) (pc' := 17) rfl (hb hby d1_10) rfl (feq hc10).2 (by decide) (by decide) ?_
    show Steps p.tables e below (s₁.setTop (mkF m 17 #[.val (.int p1)] [])) _
    refine XS.iloadN X0.here hx rfl (hb hby d1_17) rfl ?_
    show Steps p.tables e below (s₁.setTop (mkF m 18 #[.val (.int p1)] [(.int p1)])) _
    refine XS.iconst X0.here hx rfl (hb hby d1_18) ?_
    show Steps p.tables e below (s₁.setTop (mkF m 19 #[.val (.int p1)] [(.int (2 : Int32)), (.int p1)])) _
    refine XS.icmpYes X0.here hx rfl (pc0 := 19) (pc' := 26) rfl (hb hby d1_19) rfl (feq hc19).2 (by decide) (by decide) ?_
    show Steps p.tables e below (s₁.setTop (mkF m 26 #[.val (.int p1)] [])) _
    refine XS.iloadN X0.here hx rfl (hb hby d1_26) rfl ?_
    show Steps p.tables e below (s₁.setTop (mkF m 27 #[.val (.int p1)] [(.int p1)])) _
    refine XS.iconst X0.here hx rfl (hb hby d1_27) ?_
    show Steps p.tables e below (s₁.setTop (mkF m 28 #[.val (.int p1)] [(.int (3 : Int32)), (.int p1)])) _
    refine XS.icmpYes X0.here hx rfl (pc0 := 28) (pc' := 35) rfl (hb hby d1_28) rfl (feq hc28).2 (by decide) (by decide) ?_
    show Steps p.tables e below (s₁.setTop (mkF m 35 #[.val (.int p1)] [])) _
    refine XS.iloadN X0.here hx rfl (hb hby d1_35) rfl ?_
    show Steps p.tables e below (s₁.setTop (mkF m 36 #[.val (.int p1)] [(.int p1)])) _
    refine XS.iconst X0.here hx rfl (hb hby d1_36) ?_
    show Steps p.tables e below (s₁.setTop (mkF m 37 #[.val (.int p1)] [(.int (4 : Int32)), (.int p1)])) _
    refine XS.icmpYes X0.here hx rfl (pc0 := 37) (pc' := 44) rfl (hb hby d1_37) rfl (feq hc37).2 (by decide) (by decide) ?_
    show Steps p.tables e below (s₁.setTop (mkF m 44 #[.val (.int p1)] [])) _
    refine XS.iloadN X0.here hx rfl (hb hby d1_44) rfl ?_
    show Steps p.tables e below (s₁.setTop (mkF m 45 #[.val (.int p1)] [(.int p1)])) _
    refine XS.iconst X0.here hx rfl (hb hby d1_45) ?_
    show Steps p.tables e below (s₁.setTop (mkF m 46 #[.val (.int p1)] [(.int (5 : Int32)), (.int p1)])) _
    refine XS.icmpYes X0.here hx rfl (pc0 := 46) (pc' := 53) rfl (hb hby d1_46) rfl (feq hc46).2 (by decide) (by decide) ?_
    show Steps p.tables e below (s₁.setTop (mkF m 53 #[.val (.int p1)] [])) _
    refine XS.iloadN X0.here hx rfl (hb hby d1_53) rfl ?_
    show Steps p.tables e below (s₁.setTop (mkF m 54 #[.val (.int p1)] [(.int p1)])) _
    refine XS.bipush X0.here hx rfl (hb hby d1_54) ?_
    show Steps p.tables e below (s₁.setTop (mkF m 56 #[.val (.int p1)] [(.int (6 : Int32)), (.int p1)])) _
    refine XS.icmpYes X0.here hx rfl (pc0 := 56) (pc' := 63) rfl (hb hby d1_56) rfl (feq hc56).2 (by decide) (by decide) ?_
    show Steps p.tables e below (s₁.setTop (mkF m 63 #[.val (.int p1)] [])) _
    refine XS.iloadN X0.here hx rfl (hb hby d1_63) rfl ?_
    show Steps p.tables e below (s₁.setTop (mkF m 64 #[.val (.int p1)] [(.int p1)])) _
    refine XS.bipush X0.here hx rfl (hb hby d1_64) ?_
    show Steps p.tables e below (s₁.setTop (mkF m 66 #[.val (.int p1)] [(.int (7 : Int32)), (.int p1)])) _
    refine XS.icmpYes X0.here hx rfl (pc0 := 66) (pc' := 73) rfl (hb hby d1_66) rfl (feq hc66).2 (by decide) (by decide) ?_
    show Steps p.tables e below (s₁.setTop (mkF m 73 #[.val (.int p1)] [])) _
    refine XS.iloadN X0.here hx rfl (hb hby d1_73) rfl ?_
    show Steps p.tables e below (s₁.setTop (mkF m 74 #[.val (.int p1)] [(.int p1)])) _
    refine XS.bipush X0.here hx rfl (hb hby d1_74) ?_
    show Steps p.tables e below (s₁.setTop (mkF m 76 #[.val (.int p1)] [(.int (8 : Int32)), (.int p1)])) _
    refine XS.icmpYes X0.here hx rfl (pc0 := 76) (pc' := 83) rfl (hb hby d1_76) rfl (feq hc76).2 (by decide) (by decide) ?_
    show Steps p.tables e below (s₁.setTop (mkF m 83 #[.val (.int p1)] [])) _
    refine XS.iloadN X0.here hx rfl (hb hby d1_83) rfl ?_
    show Steps p.tables e below (s₁.setTop (mkF m 84 #[.val (.int p1)] [(.int p1)])) _
    refine XS.bipush X0.here hx rfl (hb hby d1_84) ?_
    show Steps p.tables e below (s₁.setTop (mkF m 86 #[.val (.int p1)] [(.int (9 : Int32)), (.int p1)])) _
    refine XS.icmpYes X0.here hx rfl (pc0 := 86) (pc' := 93) rfl (hb hby d1_86) rfl (feq hc86).2 (by decide) (by decide) ?_
    show Steps p.tables e below (s₁.setTop (mkF m 93 #[.val (.int p1)] [])) _
    refine XS.iloadN X0.here hx rfl (hb hby d1_93) rfl ?_
    show Steps p.tables e below (s₁.setTop (mkF m 94 #[.val (.int p1)] [(.int p1)])) _
    refine XS.bipush X0.here hx rfl (hb hby d1_94) ?_
    show Steps p.tables e below (s₁.setTop (mkF m 96 #[.val (.int p1)] [(.int (10 : Int32)), (.int p1)])) _
    refine XS.icmpNo X0.here hx rfl (hb hby d1_96) rfl (teq hc96).2 ?_
    show Steps p.tables e below (s₁.setTop (mkF m 99 #[.val (.int p1)] [])) _
    refine st3 _ ?_
    show Steps p.tables e below (T3.setTop (mkF m 102 #[.val (.int p1)] [(.ref w2)])) _
    jvm_step X3.here [X3.here.top, hx, (hb hby d1_102), X3.method', Bd.returns, Value.isRef, FieldType.isReference]
    first | (intro acts; rw [hr _ acts rfl rfl rfl]) | rw [hr _ _ rfl rfl rfl]
    exact Steps.refl _
  · show Q1 w2 Z p1 h0 n0 _ T3.heap _
    rw [e3]
    exact ⟨rfl, N0, rfl⟩
theorem d1_103 : decode method_2_code 103 = .ok (.iload_n 0, 1) := by decide +kernel
theorem d1_104 : decode method_2_code 104 = .ok (.bipush 11, 2) := by decide +kernel
theorem d1_106 : decode method_2_code 106 = .ok (.if_icmp .ne 7, 3) := by decide +kernel
theorem d1_109 : decode method_2_code 109 = .ok (.getstatic 43, 3) := by decide +kernel
theorem d1_112 : decode method_2_code 112 = .ok (.areturn, 1) := by decide +kernel
set_option maxRecDepth 65536 in
set_option maxHeartbeats 40000000 in
theorem rm1x11 (l : Launch) (Z : State) (a0 : Array Value) (hw : ∀ d ∈ tables_1, d.before a0 Z = true) (ws : List Jvm.Cond) (p1 : Int32) (w2 : Addr) (h0 : Heap) (n0 : Nat) (Z0 : n0 ≤ h0.size) (S_XHTML_PART : Sta Z h0 "com/example/orgweave/orgweave/fhir/Nodes$Kind" "XHTML_PART" "Lcom/example/orgweave/orgweave/fhir/Nodes$Kind;" (.ref w2)) (hc1 : ¬ (p1 = (0 : Int32))) (hc10 : ¬ (p1 = (1 : Int32))) (hc19 : ¬ (p1 = (2 : Int32))) (hc28 : ¬ (p1 = (3 : Int32))) (hc37 : ¬ (p1 = (4 : Int32))) (hc46 : ¬ (p1 = (5 : Int32))) (hc56 : ¬ (p1 = (6 : Int32))) (hc66 : ¬ (p1 = (7 : Int32))) (hc76 : ¬ (p1 = (8 : Int32))) (hc86 : ¬ (p1 = (9 : Int32))) (hc96 : ¬ (p1 = (10 : Int32))) (hc106 : p1 = (11 : Int32)) :
    MetFree l (⟨"com/example/orgweave/orgweave/fhir/NodesAddPinLaw", "kindOf", "(I)Lcom/example/orgweave/orgweave/fhir/Nodes$Kind;"⟩ : MethodName) (head1 (Jvm.Cond.code (⟨"com/example/orgweave/orgweave/fhir/NodesAddPinLaw", "kindOf", "(I)Lcom/example/orgweave/orgweave/fhir/Nodes$Kind;"⟩ : MethodName) method_2_code 1 (some (.object "com/example/orgweave/orgweave/fhir/Nodes$Kind")) :: ws) ({ frames := 0, cells := 0, slots := 0, locals := 0 } : Room)) (fun a U => a = #[(.int p1)] ∧ Z.Warmed39 U.vm ∧ U.heap = h0) (fun _ _ _ _ _ => True) (fun _ U o U' => ∃ v L, o = .returned v ∧ Q1 w2 Z p1 h0 n0 v U'.heap L ∧ FrameEnd U o U' L ({ frames := 0, cells := 0, slots := 0, locals := 0 } : Room).cells ({ frames := 0, cells := 0, slots := 0, locals := 0 } : Room).slots) := by
  refine MetFree.of_bodySF (plainFor_of_name pn_1) hisR ?_
  intro p e s m args below meth c s₁ Bd hml0 hP hK
  obtain ⟨rfl, hZ, hh⟩ := hP
  have hx := Bd.exec
  have hby := Bd.bytes
  have hml : c.maxLocals = 1 := hml0
  have hown : s.vm.findClass "com/example/orgweave/orgweave/fhir/NodesAddPinLaw" = some m.cls := findClass_of_methodNamed Bd.named
  have hnm := (name_of_methodNamed Bd.named Bd.method).1
  have X0 : Stand p l e ({ frames := 0, cells := 0, slots := 0, locals := 0 } : Room) s m #[(.int p1)] below meth c s₁ [] 0 0 := Stand.of_body Bd
  have e0 : s₁.heap = h0 := by rw [← hh, Bd.state]; rfl
  have N0 := Fr.nil n0
  have pre0 : ∀ t, Steps p.tables e below (s₁.setTop (mkF m 0 #[.val (.int p1)] [])) t → Steps p.tables e below (s₁.setTop (entryFrame m #[(.int p1)] 1)) t := fun t k => castTop (ef_1 m p1) k
  -- 3. LAWS
  obtain ⟨T3, X3, e3, st3⟩ := getS2 X0 hx hZ hown (host := "") (Or.inl (hw _ (List.mem_of_getElem? (i := 89) rfl))) Via.refl e0 S_XHTML_PART (g := (mkF m 109 #[.val (.int p1)] [])) rfl (hb hby d1_109)
  obtain ⟨fs, hr, hrun, hended, hW, hsame⟩ := X3.leave (v := some (.ref w2)) (fun h => by rw [Bd.returns] at h; cases h)
  refine ⟨_, _, pre0 _ ?_, hrun, hended, _, _, rfl, ?_, ⟨_, rfl⟩, hW, hsame.mono (by decide) (by decide)⟩
  -- 4. STEPS
  · show Steps p.tables e below (s₁.setTop (mkF m 0 #[.val (.int p1)] [])) _
    refine XS.iloadN X0.here hx rfl (hb hby d1_0) rfl ?_
    show Steps p.tables e below (s₁.setTop (mkF m 1 #[.val (.int p1)] [(.int p1)])) _
    refine XS.ifYes X0.here hx rfl (pc0 := 1) (pc' := 8) rfl (hb hby d1_1) rfl ((if0 _ _).trans (feq hc1).2) (by decide) (by decide) ?_
    show Steps p.tables e below (s₁.setTop (mkF m 8 #[.val (.int p1)] [])) _
    refine XS.iloadN X0.here hx rfl (hb hby d1_8) rfl ?_
    show Steps p.tables e below (s₁.setTop (mkF m 9 #[.val (.int p1)] [(.int p1)])) _
    refine XS.iconst X0.here hx rfl (hb hby d1_9) ?_
    show Steps p.tables e below (s₁.setTop (mkF m 10 #[.val (.int p1)] [(.int (1 : Int32)), (.int p1)])) _
    refine XS.icmpYes X0.here hx rfl (pc0 := 10) (pc' := 17) rfl (hb hby d1_10) rfl (feq hc10).2 (by decide) (by decide) ?_
    show Steps p.tables e below (s₁.setTop (mkF m 17 #[.val (.int p1)] [])) _
    refine XS.iloadN X0.here hx rfl (hb hby d1_17) rfl ?_
    show Steps p.tables e below (s₁.setTop (mkF m 18 #[.val (.int p1)] [(.int p1)])) _
    refine XS.iconst X0.here hx rfl (hb hby d1_18) ?_
    show Steps p.tables e below (s₁.setTop (mkF m 19 #[.val (.int p1)] [(.int (2 : Int32)), (.int p1)])) _
    refine XS.icmpYes X0.here hx rfl (pc0 := 19) (pc' := 26) rfl (hb hby d1_19) rfl (feq hc19).2 (by decide) (by decide) ?_
    show Steps p.tables e below (s₁.setTop (mkF m 26 #[.val (.int p1)] [])) _
    refine XS.iloadN X0.here hx rfl (hb hby d1_26) rfl ?_
    show Steps p.tables e below (s₁.setTop (mkF m 27 #[.val (.int p1)] [(.int p1)])) _
    refine XS.iconst X0.here hx rfl (hb hby d1_27) ?_
    show Steps p.tables e below (s₁.setTop (mkF m 28 #[.val (.int p1)] [(.int (3 : Int32)), (.int p1)])) _
    refine XS.icmpYes X0.here hx rfl (pc0 := 28) (pc' := 35) rfl (hb hby d1_28) rfl (feq hc28).2 (by decide) (by decide) ?_
    show Steps p.tables e below (s₁.setTop (mkF m 35 #[.val (.int p1)] [])) _
    refine XS.iloadN X0.here hx rfl (hb hby d1_35) rfl ?_
    show Steps p.tables e below (s₁.setTop (mkF m 36 #[.val (.int p1)] [(.int p1)])) _
    refine XS.iconst X0.here hx rfl (hb hby d1_36) ?_
    show Steps p.tables e below (s₁.setTop (mkF m 37 #[.val (.int p1)] [(.int (4 : Int32)), (.int p1)])) _
    refine XS.icmpYes X0.here hx rfl (pc0 := 37) (pc' := 44) rfl (hb hby d1_37) rfl (feq hc37).2 (by decide) (by decide) ?_
    show Steps p.tables e below (s₁.setTop (mkF m 44 #[.val (.int p1)] [])) _
    refine XS.iloadN X0.here hx rfl (hb hby d1_44) rfl ?_
    show Steps p.tables e below (s₁.setTop (mkF m 45 #[.val (.int p1)] [(.int p1)])) _
    refine XS.iconst X0.here hx rfl (hb hby d1_45) ?_
    show Steps p.tables e below (s₁.setTop (mkF m 46 #[.val (.int p1)] [(.int (5 : Int32)), (.int p1)])) _
    refine XS.icmpYes X0.here hx rfl (pc0 := 46) (pc' := 53) rfl (hb hby d1_46) rfl (feq hc46).2 (by decide) (by decide) ?_
    show Steps p.tables e below (s₁.setTop (mkF m 53 #[.val (.int p1)] [])) _
    refine XS.iloadN X0.here hx rfl (hb hby d1_53) rfl ?_
    show Steps p.tables e below (s₁.setTop (mkF m 54 #[.val (.int p1)] [(.int p1)])) _
    refine XS.bipush X0.here hx rfl (hb hby d1_54) ?_
    show Steps p.tables e below (s₁.setTop (mkF m 56 #[.val (.int p1)] [(.int (6 : Int32)), (.int p1)])) _
    refine XS.icmpYes X0.here hx rfl (pc0 := 56) (pc' := 63) rfl (hb hby d1_56) rfl (feq hc56).2 (by decide) (by decide) ?_
    show Steps p.tables e below (s₁.setTop (mkF m 63 #[.val (.int p1)] [])) _
    refine XS.iloadN X0.here hx rfl (hb hby d1_63) rfl ?_
    show Steps p.tables e below (s₁.setTop (mkF m 64 #[.val (.int p1)] [(.int p1)])) _
    refine XS.bipush X0.here hx rfl (hb hby d1_64) ?_
    show Steps p.tables e below (s₁.setTop (mkF m 66 #[.val (.int p1)] [(.int (7 : Int32)), (.int p1)])) _
    refine XS.icmpYes X0.here hx rfl (pc0 := 66) (pc' := 73) rfl (hb hby d1_66) rfl (feq hc66).2 (by decide) (by decide) ?_
    show Steps p.tables e below (s₁.setTop (mkF m 73 #[.val (.int p1)] [])) _
    refine XS.iloadN X0.here hx rfl (hb hby d1_73) rfl ?_
    show Steps p.tables e below (s₁.setTop (mkF m 74 #[.val (.int p1)] [(.int p1)])) _
    refine XS.bipush X0.here hx rfl (hb hby d1_74) ?_
    show Steps p.tables e below (s₁.setTop (mkF m 76 #[.val (.int p1)] [(.int (8 : Int32)), (.int p1)])) _
    refine XS.icmpYes X0.here hx rfl (pc0 := 76) (pc' := 83) rfl (hb hby d1_76) rfl (feq hc76).2 (by decide) (by decide) ?_
    show Steps p.tables e below (s₁.setTop (mkF m 83 #[.val (.int p1)] [])) _
    refine XS.iloadN X0.here hx rfl (hb hby d1_83) rfl ?_
    show Steps p.tables e below (s₁.setTop (mkF m 84 #[.val (.int p1)] [(.int p1)])) _
    refine XS.bipush X0.here hx rfl (hb hby d1_84) ?_
    show Steps p.tables e below (s₁.setTop (mkF m 86 #[.val (.int p1)] [(.int (9 : Int32)), (.int p1)])) _
    refine XS.icmpYes X0.here hx rfl (pc0 := 86) (pc' := 93) rfl (hb hby d1_86) rfl (feq hc86).2 (by decide) (by decide) ?_
    show Steps p.tables e below (s₁.setTop (mkF m 93 #[.val (.int p1)] [])) _
    refine XS.iloadN X0.here hx rfl (hb hby d1_93) rfl ?_
    show Steps p.tables e below (s₁.setTop (mkF m 94 #[.val (.int p1)] [(.int p1)])) _
    refine XS.bipush X0.here hx rfl (hb hby d1_94) ?_
    show Steps p.tables e below (s₁.setTop (mkF m 96 #[.val (.int p1)] [(.int (10 : Int32)), (.int p1)])) _
    refine XS.icmpYes X0.here hx rfl (pc0 := 96) (pc' := 103) rfl (hb hby d1_96) rfl (feq hc96).2 (by decide) (by decide) ?_
    show Steps p.tables e below (s₁.setTop (mkF m 103 #[.val (.int p1)] [])) _
    refine XS.iloadN X0.here hx rfl (hb hby d1_103) rfl ?_
    show Steps p.tables e below (s₁.setTop (mkF m 104 #[.val (.int p1)] [(.int p1)])) _
    refine XS.bipush X0.here hx rfl (hb hby d1_104) ?_
    show Steps p.tables e below (s₁.setTop (mkF m 106 #[.val (.int p1)] [(.int (11 : Int32)), (.int p1)])) _
    refine XS.icmpNo X0.here hx rfl (hb hby d1_106) rfl (teq hc106).2 ?_
    show Steps p.tables e below (s₁.setTop (mkF m 109 #[.val (.int p1)] [])) _
    refine st3 _ ?_
    show Steps p.tables e below (T3.setTop (mkF m 112 #[.val (.int p1)] [(.ref w2)])) _
    jvm_step X3.here [X3.here.top, hx, (hb hby d1_112), X3.method', Bd.returns, Value.isRef, FieldType.isReference]
    first | (intro acts; rw [hr _ acts rfl rfl rfl]) | rw [hr _ _ rfl rfl rfl]
    exact Steps.refl _
  · show Q1 w2 Z p1 h0 n0 _ T3.heap _
    rw [e3]
    exact ⟨rfl, N0, rfl⟩
theorem d1_113 : decode method_2_code 113 = .ok (.iload_n 0, 1) := by decide +kernel
theorem d1_114 : decode method_2_code 114 = .ok (.bipush 12, 2) := by decide +kernel
theorem d1_116 : decode method_2_code 116 = .ok (.if_icmp .ne 7, 3) := by decide +kernel
theorem d1_119 : decode method_2_code 119 = .ok (.getstatic 46, 3) := by decide +kernel
theorem d1_122 : decode method_2_code 122 = .ok (.areturn, 1) := by decide +kernel
set_option maxRecDepth 65536 in
set_option maxHeartbeats 40000000 in
theorem rm1x12 (l : Launch) (Z : State) (a0 : Array Value) (hw : ∀ d ∈ tables_1, d.before a0 Z = true) (ws : List Jvm.Cond) (p1 : Int32) (w2 : Addr) (h0 : Heap) (n0 : Nat) (Z0 : n0 ≤ h0.size) (S_XHTML_REFERENCE : Sta Z h0 "com/example/orgweave/orgweave/fhir/Nodes$Kind" "XHTML_REFERENCE" "Lcom/example/orgweave/orgweave/fhir/Nodes$Kind;" (.ref w2)) (hc1 : ¬ (p1 = (0 : Int32))) (hc10 : ¬ (p1 = (1 : Int32))) (hc19 : ¬ (p1 = (2 : Int32))) (hc28 : ¬ (p1 = (3 : Int32))) (hc37 : ¬ (p1 = (4 : Int32))) (hc46 : ¬ (p1 = (5 : Int32))) (hc56 : ¬ (p1 = (6 : Int32))) (hc66 : ¬ (p1 = (7 : Int32))) (hc76 : ¬ (p1 = (8 : Int32))) (hc86 : ¬ (p1 = (9 : Int32))) (hc96 : ¬ (p1 = (10 : Int32))) (hc106 : ¬ (p1 = (11 : Int32))) (hc116 : p1 = (12 : Int32)) :
    MetFree l (⟨"com/example/orgweave/orgweave/fhir/NodesAddPinLaw", "kindOf", "(I)Lcom/example/orgweave/orgweave/fhir/Nodes$Kind;"⟩ : MethodName) (head1 (Jvm.Cond.code (⟨"com/example/orgweave/orgweave/fhir/NodesAddPinLaw", "kindOf", "(I)Lcom/example/orgweave/orgweave/fhir/Nodes$Kind;"⟩ : MethodName) method_2_code 1 (some (.object "com/example/orgweave/orgweave/fhir/Nodes$Kind")) :: ws) ({ frames := 0, cells := 0, slots := 0, locals := 0 } : Room)) (fun a U => a = #[(.int p1)] ∧ Z.Warmed39 U.vm ∧ U.heap = h0) (fun _ _ _ _ _ => True) (fun _ U o U' => ∃ v L, o = .returned v ∧ Q1 w2 Z p1 h0 n0 v U'.heap L ∧ FrameEnd U o U' L ({ frames := 0, cells := 0, slots := 0, locals := 0 } : Room).cells ({ frames := 0, cells := 0, slots := 0, locals := 0 } : Room).slots) := by
  refine MetFree.of_bodySF (plainFor_of_name pn_1) hisR ?_
  intro p e s m args below meth c s₁ Bd hml0 hP hK
  obtain ⟨rfl, hZ, hh⟩ := hP
  have hx := Bd.exec
  have hby := Bd.bytes
  have hml : c.maxLocals = 1 := hml0
  have hown : s.vm.findClass "com/example/orgweave/orgweave/fhir/NodesAddPinLaw" = some m.cls := findClass_of_methodNamed Bd.named
  have hnm := (name_of_methodNamed Bd.named Bd.method).1
  have X0 : Stand p l e ({ frames := 0, cells := 0, slots := 0, locals := 0 } : Room) s m #[(.int p1)] below meth c s₁ [] 0 0 := Stand.of_body Bd
  have e0 : s₁.heap = h0 := by rw [← hh, Bd.state]; rfl
  have N0 := Fr.nil n0
  have pre0 : ∀ t, Steps p.tables e below (s₁.setTop (mkF m 0 #[.val (.int p1)] [])) t → Steps p.tables e below (s₁.setTop (entryFrame m #[(.int p1)] 1)) t := fun t k => castTop (ef_1 m p1) k
  -- 3. LAWS
  obtain ⟨T3, X3, e3, st3⟩ := getS2 X0 hx hZ hown (host := "") (Or.inl (hw _ (List.mem_of_getElem? (i := 86) rfl))) Via.refl e0 S_XHTML_REFERENCE (g := (mkF m 119 #[.val (.int p1)] [])) rfl (hb hby d1_119)
  obtain ⟨fs, hr, hrun, hended, hW, hsame⟩ := X3.leave (v := some (.ref w2)) (fun h => by rw [Bd.returns] at h; cases h)
  refine ⟨_, _, pre0 _ ?_, hrun, hended, _, _, rfl, ?_, ⟨_, rfl⟩, hW, hsame.mono (by decide) (by decide)⟩
  -- 4. STEPS
  · show Steps p.tables e below (s₁.setTop (mkF m 0 #[.val (.int p1)] [])) _
    refine XS.iloadN X0.here hx rfl (hb hby d1_0) rfl ?_
    show Steps p.tables e below (s₁.setTop (mkF m 1 #[.val (.int p1)] [(.int p1)])) _
    refine XS.ifYes X0.here hx rfl (pc0 := 1) (pc' := 8) rfl (hb hby d1_1) rfl ((if0 _ _).trans (feq hc1).2) (by decide) (by decide) ?_
    show Steps p.tables e below (s₁.setTop (mkF m 8 #[.val (.int p1)] [])) _
    refine XS.iloadN X0.here hx rfl (hb hby d1_8) rfl ?_
    show Steps p.tables e below (s₁.setTop (mkF m 9 #[.val (.int p1)] [(.int p1)])) _
    refine XS.iconst X0.here hx rfl (hb hby d1_9) ?_
    show Steps p.tables e below (s₁.setTop (mkF m 10 #[.val (.int p1)] [(.int (1 : Int32)), (.int p1)])) _
    refine XS.icmpYes X0.here hx rfl (pc0 := 10) (pc' := 17) rfl (hb hby d1_10) rfl (feq hc10).2 (by decide) (by decide) ?_
    show Steps p.tables e below (s₁.setTop (mkF m 17 #[.val (.int p1)] [])) _
    refine XS.iloadN X0.here hx rfl (hb hby d1_17) rfl ?_
    show Steps p.tables e below (s₁.setTop (mkF m 18 #[.val (.int p1)] [(.int p1)])) _
    refine XS.iconst X0.here hx rfl (hb hby d1_18) ?_
    show Steps p.tables e below (s₁.setTop (mkF m 19 #[.val (.int p1)] [(.int (2 : Int32)), (.int p1)])) _
    refine XS.icmpYes X0.here hx rfl (pc0 := 19) (pc' := 26) rfl (hb hby d1_19) rfl (feq hc19).2 (by decide) (by decide) ?_
    show Steps p.tables e below (s₁.setTop (mkF m 26 #[.val (.int p1)] [])) _
    refine XS.iloadN X0.here hx rfl (hb hby d1_26) rfl ?_
    show Steps p.tables e below (s₁.setTop (mkF m 27 #[.val (.int p1)] [(.int p1)])) _
    refine XS.iconst X0.here hx rfl (hb hby d1_27) ?_
    show Steps p.tables e below (s₁.setTop (mkF m 28 #[.val (.int p1)] [(.int (3 : Int32)), (.int p1)])) _
    refine XS.icmpYes X0.here hx rfl (pc0 := 28) (pc' := 35) rfl (hb hby d1_28) rfl (feq hc28).2 (by decide) (by decide) ?_
    show Steps p.tables e below (s₁.setTop (mkF m 35 #[.val (.int p1)] [])) _
    refine XS.iloadN X0.here hx rfl (hb hby d1_35) rfl ?_
    show Steps p.tables e below (s₁.setTop (mkF m 36 #[.val (.int p1)] [(.int p1)])) _
    refine XS.iconst X0.here hx rfl (hb hby d1_36) ?_
    show Steps p.tables e below (s₁.setTop (mkF m 37 #[.val (.int p1)] [(.int (4 : Int32)), (.int p1)])) _
    refine XS.icmpYes X0.here hx rfl (pc0 := 37) (pc' := 44) rfl (hb hby d1_37) rfl (feq hc37).2 (by decide) (by decide) ?_
    show Steps p.tables e below (s₁.setTop (mkF m 44 #[.val (.int p1)] [])) _
    refine XS.iloadN X0.here hx rfl (hb hby d1_44) rfl ?_
    show Steps p.tables e below (s₁.setTop (mkF m 45 #[.val (.int p1)] [(.int p1)])) _
    refine XS.iconst X0.here hx rfl (hb hby d1_45) ?_
    show Steps p.tables e below (s₁.setTop (mkF m 46 #[.val (.int p1)] [(.int (5 : Int32)), (.int p1)])) _
    refine XS.icmpYes X0.here hx rfl (pc0 := 46) (pc' := 53) rfl (hb hby d1_46) rfl (feq hc46).2 (by decide) (by decide) ?_
    show Steps p.tables e below (s₁.setTop (mkF m 53 #[.val (.int p1)] [])) _
    refine XS.iloadN X0.here hx rfl (hb hby d1_53) rfl ?_
    show Steps p.tables e below (s₁.setTop (mkF m 54 #[.val (.int p1)] [(.int p1)])) _
    refine XS.bipush X0.here hx rfl (hb hby d1_54) ?_
    show Steps p.tables e below (s₁.setTop (mkF m 56 #[.val (.int p1)] [(.int (6 : Int32)), (.int p1)])) _
    refine XS.icmpYes X0.here hx rfl (pc0 := 56) (pc' := 63) rfl (hb hby d1_56) rfl (feq hc56).2 (by decide) (by decide) ?_
    show Steps p.tables e below (s₁.setTop (mkF m 63 #[.val (.int p1)] [])) _
    refine XS.iloadN X0.here hx rfl (hb hby d1_63) rfl ?_
    show Steps p.tables e below (s₁.setTop (mkF m 64 #[.val (.int p1)] [(.int p1)])) _
    refine XS.bipush X0.here hx rfl (hb hby d1_64) ?_
    show Steps p.tables e below (s₁.setTop (mkF m 66 #[.val (.int p1)] [(.int (7 : Int32)), (.int p1)])) _
    refine XS.icmpYes X0.here hx rfl (pc0 := 66) (pc' := 73) rfl (hb hby d1_66) rfl (feq hc66).2 (by decide) (by decide) ?_
    show Steps p.tables e below (s₁.setTop (mkF m 73 #[.val (.int p1)] [])) _
    refine XS.iloadN X0.here hx rfl (hb hby d1_73) rfl ?_
    show Steps p.tables e below (s₁.setTop (mkF m 74 #[.val (.int p1)] [(.int p1)])) _
    refine XS.bipush X0.here hx rfl (hb hby d1_74) ?_
    show Steps p.tables e below (s₁.setTop (mkF m 76 #[.val (.int p1)] [(.int (8 : Int32)), (.int p1)])) _
    refine XS.icmpYes X0.here hx rfl (pc0 := 76) (pc' := 83) rfl (hb hby d1_76) rfl (feq hc76).2 (by decide) (by decide) ?_
    show Steps p.tables e below (s₁.setTop (mkF m 83 #[.val (.int p1)] [])) _
    refine XS.iloadN X0.here hx rfl (hb hby d1_83) rfl ?_
    show Steps p.tables e below (s₁.setTop (mkF m 84 #[.val (.int p1)] [(.int p1)])) _
    refine XS.bipush X0.here hx rfl (hb hby d1_84) ?_
    show Steps p.tables e below (s₁.setTop (mkF m 86 #[.val (.int p1)] [(.int (9 : Int32)), (.int p1)])) _
    refine XS.icmpYes X0.here hx rfl (pc0 := 86) (pc' := 93) rfl (hb hby d1_86) rfl (feq hc86).2 (by decide) (by decide) ?_
    show Steps p.tables e below (s₁.setTop (mkF m 93 #[.val (.int p1)] [])) _
    refine XS.iloadN X0.here hx rfl (hb hby d1_93) rfl ?_
    show Steps p.tables e below (s₁.setTop (mkF m 94 #[.val (.int p1)] [(.int p1)])) _
    refine XS.bipush X0.here hx rfl (hb hby d1_94) ?_
    show Steps p.tables e below (s₁.setTop (mkF m 96 #[.val (.int p1)] [(.int (10 : Int32)), (.int p1)])) _
    refine XS.icmpYes X0.here hx rfl (pc0 := 96) (pc' := 103) rfl (hb hby d1_96) rfl (feq hc96).2 (by decide) (by decide) ?_
    show Steps p.tables e below (s₁.setTop (mkF m 103 #[.val (.int p1)] [])) _
    refine XS.iloadN X0.here hx rfl (hb hby d1_103) rfl ?_
    show Steps p.tables e below (s₁.setTop (mkF m 104 #[.val (.int p1)] [(.int p1)])) _
    refine XS.bipush X0.here hx rfl (hb hby d1_104) ?_
    show Steps p.tables e below (s₁.setTop (mkF m 106 #[.val (.int p1)] [(.int (11 : Int32)), (.int p1)])) _
    refine XS.icmpYes X0.here hx rfl (pc0 := 106) (pc' := 113) rfl (hb hby d1_106) rfl (feq hc106).2 (by decide) (by decide) ?_
    show Steps p.tables e below (s₁.setTop (mkF m 113 #[.val (.int p1)] [])) _
    refine XS.iloadN X0.here hx rfl (hb hby d1_113) rfl ?_
    show Steps p.tables e below (s₁.setTop (mkF m 114 #[.val (.int p1)] [(.int p1)])) _
    refine XS.bipush X0.here hx rfl (hb hby d1_114) ?_
    show Steps p.tables e below (s₁.setTop (mkF m 116 #[.val (.int p1)] [(.int (12 : Int32)), (.int p1)])) _
    refine XS.icmpNo X0.here hx rfl (hb hby d1_116) rfl (teq hc116).2 ?_
    show Steps p.tables e below (s₁.setTop (mkF m 119 #[.val (.int p1)] [])) _
    refine st3 _ ?_
    show Steps p.tables e below (T3.setTop (mkF m 122 #[.val (.int p1)] [(.ref w2)])) _
    jvm_step X3.here [X3.here.top, hx, (hb hby d1_122), X3.method', Bd.returns, Value.isRef, FieldType.isReference]
    first | (intro acts; rw [hr _ acts rfl rfl rfl]) | rw [hr _ _ rfl rfl rfl]
    exact Steps.refl _
  · show Q1 w2 Z p1 h0 n0 _ T3.heap _
    rw [e3]
    exact ⟨rfl, N0, rfl⟩
theorem d1_123 : decode method_2_code 123 = .ok (.getstatic 49, 3) := by decide +kernel
theorem d1_126 : decode method_2_code 126 = .ok (.areturn, 1) := by decide +kernel
set_option maxRecDepth 65536 in
set_option maxHeartbeats 40000000 in
theorem rm1x13 (l : Launch) (Z : State) (a0 : Array Value) (hw : ∀ d ∈ tables_1, d.before a0 Z = true) (ws : List Jvm.Cond) (p1 : Int32) (w2 : Addr) (h0 : Heap) (n0 : Nat) (Z0 : n0 ≤ h0.size) (S_XHTML_ESCAPED : Sta Z h0 "com/example/orgweave/orgweave/fhir/Nodes$Kind" "XHTML_ESCAPED" "Lcom/example/orgweave/orgweave/fhir/Nodes$Kind;" (.ref w2)) (hc1 : ¬ (p1 = (0 : Int32))) (hc10 : ¬ (p1 = (1 : Int32))) (hc19 : ¬ (p1 = (2 : Int32))) (hc28 : ¬ (p1 = (3 : Int32))) (hc37 : ¬ (p1 = (4 : Int32))) (hc46 : ¬ (p1 = (5 : Int32))) (hc56 : ¬ (p1 = (6 : Int32))) (hc66 : ¬ (p1 = (7 : Int32))) (hc76 : ¬ (p1 = (8 : Int32))) (hc86 : ¬ (p1 = (9 : Int32))) (hc96 : ¬ (p1 = (10 : Int32))) (hc106 : ¬ (p1 = (11 : Int32))) (hc116 : ¬ (p1 = (12 : Int32))) :
    MetFree l (⟨"com/example/orgweave/orgweave/fhir/NodesAddPinLaw", "kindOf", "(I)Lcom/example/orgweave/orgweave/fhir/Nodes$Kind;"⟩ : MethodName) (head1 (Jvm.Cond.code (⟨"com/example/orgweave/orgweave/fhir/NodesAddPinLaw", "kindOf", "(I)Lcom/example/orgweave/orgweave/fhir/Nodes$Kind;"⟩ : MethodName) method_2_code 1 (some (.object "com/example/orgweave/orgweave/fhir/Nodes$Kind")) :: ws) ({ frames := 0, cells := 0, slots := 0, locals := 0 } : Room)) (fun a U => a = #[(.int p1)] ∧ Z.Warmed39 U.vm ∧ U.heap = h0) (fun _ _ _ _ _ => True) (fun _ U o U' => ∃ v L, o = .returned v ∧ Q1 w2 Z p1 h0 n0 v U'.heap L ∧ FrameEnd U o U' L ({ frames := 0, cells := 0, slots := 0, locals := 0 } : Room).cells ({ frames := 0, cells := 0, slots := 0, locals := 0 } : Room).slots) := by
  refine MetFree.of_bodySF (plainFor_of_name pn_1) hisR ?_
  intro p e s m args below meth c s₁ Bd hml0 hP hK
  obtain ⟨rfl, hZ, hh⟩ := hP
  have hx := Bd.exec
  have hby := Bd.bytes
  have hml : c.maxLocals = 1 := hml0
  have hown : s.vm.findClass "com/example/orgweave/orgweave/fhir/NodesAddPinLaw" = some m.cls := findClass_of_methodNamed Bd.named
  have hnm := (name_of_methodNamed Bd.named Bd.method).1
  have X0 : Stand p l e ({ frames := 0, cells := 0, slots := 0, locals := 0 } : Room) s m #[(.int p1)] below meth c s₁ [] 0 0 := Stand.of_body Bd
  have e0 : s₁.heap = h0 := by rw [← hh, Bd.state]; rfl
  have N0 := Fr.nil n0
  have pre0 : ∀ t, Steps p.tables e below (s₁.setTop (mkF m 0 #[.val (.int p1)] [])) t → Steps p.tables e below (s₁.setTop (entryFrame m #[(.int p1)] 1)) t := fun t k => castTop (ef_1 m p1) k
  -- 3. LAWS
  obtain ⟨T3, X3, e3, st3⟩ := getS2 X0 hx hZ hown (host := "") (Or.inl (hw _ (List.mem_of_getElem? (i := 88) rfl))) Via.refl e0 S_XHTML_ESCAPED (g := (mkF m 123 #[.val (.int p1)] [])) rfl (hb hby d1_123)
  obtain ⟨fs, hr, hrun, hended, hW, hsame⟩ := X3.leave (v := some (.ref w2)) (fun h => by rw [Bd.returns] at h; cases h)
  refine ⟨_, _, pre0 _ ?_, hrun, hended, _, _, rfl, ?_, ⟨_, rfl⟩, hW, hsame.mono (by decide) (by decide)⟩
  -- 4. STEPS
  · show Steps p.tables e below (s₁.setTop (mkF m 0 #[.val (.int p1)] [])) _
    refine XS.iloadN X0.here hx rfl (hb hby d1_0) rfl ?_
    show Steps p.tables e below (s₁.setTop (mkF m 1 #[.val (.int p1)] [(.int p1)])) _
    refine XS.ifYes X0.here hx rfl (pc0 := 1) (pc' := 8) rfl (hb hby d1_1) rfl ((if0 _ _).trans (feq hc1).2) (by decide) (by decide) ?_
    show Steps p.tables e below (s₁.setTop (mkF m 8 #[.val (.int p1)] [])) _
    refine XS.iloadN X0.here hx rfl (hb hby d1_8) rfl ?_
    show Steps p.tables e below (s₁.setTop (mkF m 9 #[.val (.int p1)] [(.int p1)])) _
    refine XS.iconst X0.here hx rfl (hb hby d1_9) ?_
    show Steps p.tables e below (s₁.setTop (mkF m 10 #[.val (.int p1)] [(.int (1 : Int32)), (.int p1)])) _
    refine XS.icmpYes X0.here hx rfl (pc0 := 10) (pc' := 17) rfl (hb hby d1_10) rfl (feq hc10).2 (by decide) (by decide) ?_
    show Steps p.tables e below (s₁.setTop (mkF m 17 #[.val (.int p1)] [])) _
    refine XS.iloadN X0.here hx rfl (hb hby d1_17) rfl ?_
    show Steps p.tables e below (s₁.setTop (mkF m 18 #[.val (.int p1)] [(.int p1)])) _
    refine XS.iconst X0.here hx rfl (hb hby d1_18) ?_
    show Steps p.tables e below (s₁.setTop (mkF m 19 #[.val (.int p1)] [(.int (2 : Int32)), (.int p1)])) _
    refine XS.icmpYes X0.here hx rfl (pc0 := 19) (pc' := 26) rfl (hb hby d1_19) rfl (feq hc19).2 (by decide) (by decide) ?_
    show Steps p.tables e below (s₁.setTop (mkF m 26 #[.val (.int p1)] [])) _
    refine XS.iloadN X0.here hx rfl (hb hby d1_26) rfl ?_
    show Steps p.tables e below (s₁.setTop (mkF m 27 #[.val (.int p1)] [(.int p1)])) _
    refine XS.iconst X0.here hx rfl (hb hby d1_27) ?_
    show Steps p.tables e below (s₁.setTop (mkF m 28 #[.val (.int p1)] [(.int (3 : Int32)), (.int p1)])) _
    refine XS.icmpYes X0.here hx rfl (pc0 := 28) (pc' := 35) rfl (hb hby d1_28) rfl (feq hc28).2 (by decide) (by decide) ?_
    show Steps p.tables e below (s₁.setTop (mkF m 35 #[.val (.int p1)] [])) _
    refine XS.iloadN X0.here hx rfl (hb hby d1_35) rfl ?_
    show Steps p.tables e below (s₁.setTop (mkF m 36 #[.val (.int p1)] [(.int p1)])) _
    refine XS.iconst X0.here hx rfl (hb hby d1_36) ?_
    show Steps p.tables e below (s₁.setTop (mkF m 37 #[.val (.int p1)] [(.int (4 : Int32)), (.int p1)])) _
    refine XS.icmpYes X0.here hx rfl (pc0 := 37) (pc' := 44) rfl (hb hby d1_37) rfl (feq hc37).2 (by decide) (by decide) ?_
    show Steps p.tables e below (s₁.setTop (mkF m 44 #[.val (.int p1)] [])) _
    refine XS.iloadN X0.here hx rfl (hb hby d1_44) rfl ?_
    show Steps p.tables e below (s₁.setTop (mkF m 45 #[.val (.int p1)] [(.int p1)])) _
    refine XS.iconst X0.here hx rfl (hb hby d1_45) ?_
    show Steps p.tables e below (s₁.setTop (mkF m 46 #[.val (.int p1)] [(.int (5 : Int32)), (.int p1)])) _
    refine XS.icmpYes X0.here hx rfl (pc0 := 46) (pc' := 53) rfl (hb hby d1_46) rfl (feq hc46).2 (by decide) (by decide) ?_
    show Steps p.tables e below (s₁.setTop (mkF m 53 #[.val (.int p1)] [])) _
    refine XS.iloadN X0.here hx rfl (hb hby d1_53) rfl ?_
    show Steps p.tables e below (s₁.setTop (mkF m 54 #[.val (.int p1)] [(.int p1)])) _
    refine XS.bipush X0.here hx rfl (hb hby d1_54) ?_
    show Steps p.tables e below (s₁.setTop (mkF m 56 #[.val (.int p1)] [(.int (6 : Int32)), (.int p1)])) _
    refine XS.icmpYes X0.here hx rfl (pc0 := 56) (pc' := 63) rfl (hb hby d1_56) rfl (feq hc56).2 (by decide) (by decide) ?_
    show Steps p.tables e below (s₁.setTop (mkF m 63 #[.val (.int p1)] [])) _
    refine XS.iloadN X0.here hx rfl (hb hby d1_63) rfl ?_
    show Steps p.tables e below (s₁.setTop (mkF m 64 #[.val (.int p1)] [(.int p1)])) _
    refine XS.bipush X0.here hx rfl (hb hby d1_64) ?_
    show Steps p.tables e below (s₁.setTop (mkF m 66 #[.val (.int p1)] [(.int (7 : Int32)), (.int p1)])) _
    refine XS.icmpYes X0.here hx rfl (pc0 := 66) (pc' := 73) rfl (hb hby d1_66) rfl (feq hc66).2 (by decide) (by decide) ?_
    show Steps p.tables e below (s₁.setTop (mkF m 73 #[.val (.int p1)] [])) _
    refine XS.iloadN X0.here hx rfl (hb hby d1_73) rfl ?_
    show Steps p.tables e below (s₁.setTop (mkF m 74 #[.val (.int p1)] [(.int p1)])) _
    refine XS.bipush X0.here hx rfl (hb hby d1_74) ?_
    show Steps p.tables e below (s₁.setTop (mkF m 76 #[.val (.int p1)] [(.int (8 : Int32)), (.int p1)])) _
    refine XS.icmpYes X0.here hx rfl (pc0 := 76) (pc' := 83) rfl (hb hby d1_76) rfl (feq hc76).2 (by decide) (by decide) ?_
    show Steps p.tables e below (s₁.setTop (mkF m 83 #[.val (.int p1)] [])) _
    refine XS.iloadN X0.here hx rfl (hb hby d1_83) rfl ?_
    show Steps p.tables e below (s₁.setTop (mkF m 84 #[.val (.int p1)] [(.int p1)])) _
    refine XS.bipush X0.here hx rfl (hb hby d1_84) ?_
    show Steps p.tables e below (s₁.setTop (mkF m 86 #[.val (.int p1)] [(.int (9 : Int32)), (.int p1)])) _
    refine XS.icmpYes X0.here hx rfl (pc0 := 86) (pc' := 93) rfl (hb hby d1_86) rfl (feq hc86).2 (by decide) (by decide) ?_
    show Steps p.tables e below (s₁.setTop (mkF m 93 #[.val (.int p1)] [])) _
    refine XS.iloadN X0.here hx rfl (hb hby d1_93) rfl ?_
    show Steps p.tables e below (s₁.setTop (mkF m 94 #[.val (.int p1)] [(.int p1)])) _
    refine XS.bipush X0.here hx rfl (hb hby d1_94) ?_
    show Steps p.tables e below (s₁.setTop (mkF m 96 #[.val (.int p1)] [(.int (10 : Int32)), (.int p1)])) _
    refine XS.icmpYes X0.here hx rfl (pc0 := 96) (pc' := 103) rfl (hb hby d1_96) rfl (feq hc96).2 (by decide) (by decide) ?_
    show Steps p.tables e below (s₁.setTop (mkF m 103 #[.val (.int p1)] [])) _
    refine XS.iloadN X0.here hx rfl (hb hby d1_103) rfl ?_
    show Steps p.tables e below (s₁.setTop (mkF m 104 #[.val (.int p1)] [(.int p1)])) _
    refine XS.bipush X0.here hx rfl (hb hby d1_104) ?_
    show Steps p.tables e below (s₁.setTop (mkF m 106 #[.val (.int p1)] [(.int (11 : Int32)), (.int p1)])) _
    refine XS.icmpYes X0.here hx rfl (pc0 := 106) (pc' := 113) rfl (hb hby d1_106) rfl (feq hc106).2 (by decide) (by decide) ?_
    show Steps p.tables e below (s₁.setTop (mkF m 113 #[.val (.int p1)] [])) _
    refine XS.iloadN X0.here hx rfl (hb hby d1_113) rfl ?_
    show Steps p.tables e below (s₁.setTop (mkF m 114 #[.val (.int p1)] [(.int p1)])) _
    refine XS.bipush X0.here hx rfl (hb hby d1_114) ?_
    show Steps p.tables e below (s₁.setTop (mkF m 116 #[.val (.int p1)] [(.int (12 : Int32)), (.int p1)])) _
    refine XS.icmpYes X0.here hx rfl (pc0 := 116) (pc' := 123) rfl (hb hby d1_116) rfl (feq hc116).2 (by decide) (by decide) ?_
    show Steps p.tables e below (s₁.setTop (mkF m 123 #[.val (.int p1)] [])) _
    refine st3 _ ?_
    show Steps p.tables e below (T3.setTop (mkF m 126 #[.val (.int p1)] [(.ref w2)])) _
    jvm_step X3.here [X3.here.top, hx, (hb hby d1_126), X3.method', Bd.returns, Value.isRef, FieldType.isReference]
    first | (intro acts; rw [hr _ acts rfl rfl rfl]) | rw [hr _ _ rfl rfl rfl]
    exact Steps.refl _
  · show Q1 w2 Z p1 h0 n0 _ T3.heap _
    rw [e3]
    exact ⟨rfl, N0, rfl⟩
theorem rm1 (l : Launch) (Z : State) (a0 : Array Value) (hw : ∀ d ∈ tables_1, d.before a0 Z = true) (ws : List Jvm.Cond) (p1 : Int32) (r : Nat → Addr) (n : Nat) (h0 : Heap) (n0 : Nat) (Z0 : n0 ≤ h0.size) (hn : n < 14) (hp : p1 = Int32.ofNat n) (hS : own_S Z h0 r) :
    MetFree l (⟨"com/example/orgweave/orgweave/fhir/NodesAddPinLaw", "kindOf", "(I)Lcom/example/orgweave/orgweave/fhir/Nodes$Kind;"⟩ : MethodName) (head1 (Jvm.Cond.code (⟨"com/example/orgweave/orgweave/fhir/NodesAddPinLaw", "kindOf", "(I)Lcom/example/orgweave/orgweave/fhir/Nodes$Kind;"⟩ : MethodName) method_2_code 1 (some (.object "com/example/orgweave/orgweave/fhir/Nodes$Kind")) :: ws) ({ frames := 0, cells := 0, slots := 0, locals := 0 } : Room)) (fun a U => a = #[(.int p1)] ∧ Z.Warmed39 U.vm ∧ U.heap = h0) (fun _ _ _ _ _ => True) (fun _ U o U' => ∃ v L, o = .returned v ∧ Q1 (r n) Z p1 h0 n0 v U'.heap L ∧ FrameEnd U o U' L ({ frames := 0, cells := 0, slots := 0, locals := 0 } : Room).cells ({ frames := 0, cells := 0, slots := 0, locals := 0 } : Room).slots) := by
  obtain ⟨s0, s1, s2, s3, s4, s5, s6, s7, s8, s9, s10, s11, s12, s13⟩ := hS
  subst hp
  match n, hn with
  | 0, _ => exact rm1x0 l Z a0 hw ws _ (r 0) h0 n0 Z0 s0 rfl
  | 1, _ => exact rm1x1 l Z a0 hw ws _ (r 1) h0 n0 Z0 s1 (by decide) rfl
  | 2, _ => exact rm1x2 l Z a0 hw ws _ (r 2) h0 n0 Z0 s2 (by decide) (by decide) rfl
  | 3, _ => exact rm1x3 l Z a0 hw ws _ (r 3) h0 n0 Z0 s3 (by decide) (by decide) (by decide) rfl
  | 4, _ => exact rm1x4 l Z a0 hw ws _ (r 4) h0 n0 Z0 s4 (by decide) (by decide) (by decide) (by decide) rfl
  | 5, _ => exact rm1x5 l Z a0 hw ws _ (r 5) h0 n0 Z0 s5 (by decide) (by decide) (by decide) (by decide) (by decide) rfl
  | 6, _ => exact rm1x6 l Z a0 hw ws _ (r 6) h0 n0 Z0 s6 (by decide) (by decide) (by decide) (by decide) (by decide) (by decide) rfl
  | 7, _ => exact rm1x7 l Z a0 hw ws _ (r 7) h0 n0 Z0 s7 (by decide) (by decide) (by decide) (by decide) (by decide) (by decide) (by decide) rfl
  | 8, _ => exact rm1x8 l Z a0 hw ws _ (r 8) h0 n0 Z0 s8 (by decide) (by decide) (by decide) (by decide) (by decide) (by decide) (by decide) (by decide) rfl
  | 9, _ => exact rm1x9 l Z a0 hw ws _ (r 9) h0 n0 Z0 s9 (by decide) (by decide) (by decide) (by decide) (by decide) (by decide) (by decide) (by decide) (by decide) rfl
  | 10, _ => exact rm1x10 l Z a0 hw ws _ (r 10) h0 n0 Z0 s10 (by decide) (by decide) (by decide) (by decide) (by decide) (by decide) (by decide) (by decide) (by decide) (by decide) rfl
  | 11, _ => exact rm1x11 l Z a0 hw ws _ (r 11) h0 n0 Z0 s11 (by decide) (by decide) (by decide) (by decide) (by decide) (by decide) (by decide) (by decide) (by decide) (by decide) (by decide) rfl
  | 12, _ => exact rm1x12 l Z a0 hw ws _ (r 12) h0 n0 Z0 s12 (by decide) (by decide) (by decide) (by decide) (by decide) (by decide) (by decide) (by decide) (by decide) (by decide) (by decide) (by decide) rfl
  | 13, _ => exact rm1x13 l Z a0 hw ws _ (r 13) h0 n0 Z0 s13 (by decide) (by decide) (by decide) (by decide) (by decide) (by decide) (by decide) (by decide) (by decide) (by decide) (by decide) (by decide) (by decide)
  | n + 14, hn => exact absurd hn (by omega)
theorem d4_0 : decode prog_10_method_1_code 0 = .ok (.getstatic 46, 3) := by decide +kernel
theorem d4_3 : decode prog_10_method_1_code 3 = .ok (.invokevirtual 50, 3) := by decide +kernel
theorem d4_6 : decode prog_10_method_1_code 6 = .ok (.checkcast 51, 3) := by decide +kernel
theorem d4_9 : decode prog_10_method_1_code 9 = .ok (.areturn, 1) := by decide +kernel
theorem pn_4 : plainName "com/example/orgweave/orgweave/fhir/Nodes$Kind" = true := by first | (simp [plainName, overriddenIn]; done) | decide +kernel
theorem ef_4 (m : MethodId)  : entryFrame m #[] 0 = mkF m 0 #[] [] := by first | (simp [entryFrame, mkF, argsToLocals, Value.category]; done) | rfl
def Q4 (Z : State) (w1 : Addr) (cl_w1 : Cell) (h0 : Heap) (n0 : Nat) (v : Option Value) (h : Heap) (L : List Loc) : Prop := v = some (.ref h0.size) ∧ Fr n0 L ∧ Ext h0 h ∧ Arr Z h h0.size (cloneOf cl_w1) (.object "com/example/orgweave/orgweave/fhir/Nodes$Kind")
set_option maxRecDepth 65536 in
set_option maxHeartbeats 40000000 in
theorem rm4 (l : Launch) (Z : State) (a0 : Array Value) (hw : ∀ d ∈ tables_1, d.before a0 Z = true) (ws : List Jvm.Cond) (w1 : Addr) (cl_w1 : Cell) (h0 : Heap) (n0 : Nat) (Z0 : n0 ≤ h0.size) (hsz : cl_w1.slots.size ≤ 14) (S__VALUES : Sta Z h0 "com/example/orgweave/orgweave/fhir/Nodes$Kind" "$VALUES" "[Lcom/example/orgweave/orgweave/fhir/Nodes$Kind;" (.ref w1)) (Ar_w1 : Arr Z h0 w1 cl_w1 (.object "com/example/orgweave/orgweave/fhir/Nodes$Kind")) (Ex_w1 : Exa Z h0 w1 "[Lcom/example/orgweave/orgweave/fhir/Nodes$Kind;") (Fi_w1 : FitC Z cl_w1) :
    MetFree l (⟨"com/example/orgweave/orgweave/fhir/Nodes$Kind", "values", "()[Lcom/example/orgweave/orgweave/fhir/Nodes$Kind;"⟩ : MethodName) (head1 (Jvm.Cond.code (⟨"com/example/orgweave/orgweave/fhir/Nodes$Kind", "values", "()[Lcom/example/orgweave/orgweave/fhir/Nodes$Kind;"⟩ : MethodName) prog_10_method_1_code 0 (some (.array (.object "com/example/orgweave/orgweave/fhir/Nodes$Kind"))) :: ws) ({ frames := 1, cells := 1, slots := 14, locals := 14 } : Room)) (fun a U => a = #[] ∧ Z.Warmed39 U.vm ∧ U.heap = h0) (fun _ _ _ _ _ => True) (fun _ U o U' => ∃ v L, o = .returned v ∧ Q4 Z w1 cl_w1 h0 n0 v U'.heap L ∧ FrameEnd U o U' L ({ frames := 1, cells := 1, slots := 14, locals := 14 } : Room).cells ({ frames := 1, cells := 1, slots := 14, locals := 14 } : Room).slots) := by
  refine MetFree.of_bodySF (plainFor_of_name pn_4) hisR ?_
  intro p e s m args below meth c s₁ Bd hml0 hP hK
  obtain ⟨rfl, hZ, hh⟩ := hP
  have hx := Bd.exec
  have hby := Bd.bytes
  have hml : c.maxLocals = 0 := hml0
  have hown : s.vm.findClass "com/example/orgweave/orgweave/fhir/Nodes$Kind" = some m.cls := findClass_of_methodNamed Bd.named
  have hnm := (name_of_methodNamed Bd.named Bd.method).1
  have X0 : Stand p l e ({ frames := 1, cells := 1, slots := 14, locals := 14 } : Room) s m #[] below meth c s₁ [] 0 0 := Stand.of_body Bd
  have e0 : s₁.heap = h0 := by rw [← hh, Bd.state]; rfl
  have N0 := Fr.nil n0
  have pre0 : ∀ t, Steps p.tables e below (s₁.setTop (mkF m 0 #[] [])) t → Steps p.tables e below (s₁.setTop (entryFrame m #[] 0)) t := fun t k => castTop (ef_4 m ) k
  -- 3. LAWS
  obtain ⟨T2, X2, e2, st2⟩ := getS2 X0 hx hZ hown (host := "") (Or.inl (hw _ (List.mem_of_getElem? (i := 24) rfl))) Via.refl e0 S__VALUES (g := (mkF m 0 #[] [])) rfl (hb hby d4_0)
  obtain ⟨T3, h3, X3, e3, E3, A3, B3, st3⟩ := cloneA X2 hx hZ hown (hw _ (List.mem_of_getElem? (i := 26) rfl)) (hw _ (List.mem_of_getElem? (i := 27) rfl)) (hw _ (List.mem_of_getElem? (i := 31) rfl)) (hw _ (List.mem_of_getElem? (i := 29) rfl)) (hw _ (List.mem_of_getElem? (i := 30) rfl)) (hw _ (List.mem_of_getElem? (i := 32) rfl)) e2 Ar_w1 Ex_w1 Fi_w1 (g := (mkF m 3 #[] [(.ref w1)])) rfl (by rw [hml]; rfl) rfl (hb hby d4_3) (by decide) (W := 0) (cap := 14) (by show 2 * 0 + _ ≤ _; exact Nat.le_of_eq rfl) (by decide) hsz (by decide) (by decide)
  obtain ⟨b3, g3⟩ : ∃ z, z = h0.size := ⟨_, rfl⟩
  rw [← g3] at A3 B3 st3
  have g_b3 : n0 ≤ b3 := Nat.le_trans Z0 (Nat.le_of_eq g3.symm)
  have sz_b3 : h0.size ≤ b3 := (Nat.le_trans (Keep.refl h0 []).1 (Nat.le_of_eq g3.symm))
  have K3 : Keep h0 h3 [] := (Keep.refl h0 []).ext E3
  obtain ⟨T4, X4, e4, st4⟩ := castY X3 hx hZ hown (hw _ (List.mem_of_getElem? (i := 45) rfl)) e3 (Ins.self B3) (g := (mkF m 6 #[] [(.ref b3)])) rfl rfl (hb hby d4_6)
  obtain ⟨fs, hr, hrun, hended, hW, hsame⟩ := X4.leave (v := some (.ref b3)) (fun h => by rw [Bd.returns] at h; cases h)
  refine ⟨_, _, pre0 _ ?_, hrun, hended, _, _, rfl, ?_, ⟨_, rfl⟩, hW, hsame.mono (by decide) (by decide)⟩
  -- 4. STEPS
  · show Steps p.tables e below (s₁.setTop (mkF m 0 #[] [])) _
    refine st2 _ ?_
    show Steps p.tables e below (T2.setTop (mkF m 3 #[] [(.ref w1)])) _
    refine st3 _ ?_
    show Steps p.tables e below (T3.setTop (mkF m 6 #[] [(.ref b3)])) _
    refine st4 _ ?_
    show Steps p.tables e below (T4.setTop (mkF m 9 #[] [(.ref b3)])) _
    jvm_step X4.here [X4.here.top, hx, (hb hby d4_9), X4.method', Bd.returns, Value.isRef, FieldType.isReference]
    first | (intro acts; rw [hr _ acts rfl rfl rfl]) | rw [hr _ _ rfl rfl rfl]
    exact Steps.refl _
  · show Q4 Z w1 cl_w1 h0 n0 _ T4.heap _
    rw [e4]
    subst g3
    exact ⟨rfl, N0, E3, A3⟩
theorem d2_0 : decode prog_9_method_1_code 0 = .ok (.aload_n 0, 1) := by decide +kernel
theorem d2_1 : decode prog_9_method_1_code 1 = .ok (.invokespecial 1, 3) := by decide +kernel
theorem d2_4 : decode prog_9_method_1_code 4 = .ok (.aload_n 0, 1) := by decide +kernel
theorem d2_5 : decode prog_9_method_1_code 5 = .ok (.invokestatic 7, 3) := by decide +kernel
theorem d2_8 : decode prog_9_method_1_code 8 = .ok (.arraylength, 1) := by decide +kernel
theorem d2_9 : decode prog_9_method_1_code 9 = .ok (.newarray .long, 2) := by decide +kernel
theorem d2_11 : decode prog_9_method_1_code 11 = .ok (.putfield 13, 3) := by decide +kernel
theorem d2_14 : decode prog_9_method_1_code 14 = .ok (.return_, 1) := by decide +kernel
theorem pn_2 : plainName "com/example/orgweave/orgweave/fhir/Nodes" = true := by first | (simp [plainName, overriddenIn]; done) | decide +kernel
theorem pd_2_2 : parseMethodDescriptor "()[Lcom/example/orgweave/orgweave/fhir/Nodes$Kind;" = some ⟨[], some (.array (.object "com/example/orgweave/orgweave/fhir/Nodes$Kind"))⟩ := by decide +kernel
theorem ef_2 (m : MethodId) (x0 : Addr) : entryFrame m #[(.ref x0)] 1 = mkF m 0 #[.val (.ref x0)] [] := by first | (simp [entryFrame, mkF, argsToLocals, Value.category]; done) | rfl
def Q2 (Z : State) (a1 : Addr) (u_counts_a1 : Value) (h0 : Heap) (n0 : Nat) (v : Option Value) (h : Heap) (L : List Loc) : Prop := v = none ∧ Fr n0 L ∧ ∃ w : Addr, h0.size ≤ w ∧ Keep h0 h [a1] ∧ Exa Z h a1 "com/example/orgweave/orgweave/fhir/Nodes" ∧ Fld Z h a1 "com/example/orgweave/orgweave/fhir/Nodes" "counts" "[J" (.ref w) ∧ Fld Z h a1 "com/example/orgweave/orgweave/fhir/Nodes" "beyondLatin1" "Z" (.int (0 : Int32)) ∧ own_Cnt Z h w own_f0
set_option maxRecDepth 65536 in
set_option maxHeartbeats 40000000 in
theorem rm2 (l : Launch) (Z : State) (a0 : Array Value) (hw : ∀ d ∈ tables_1, d.before a0 Z = true) (ws : List Jvm.Cond) (a1 : Addr) (u_counts_a1 : Value) (h0 : Heap) (n0 : Nat) (Z0 : n0 ≤ h0.size) (hV : own_V Z h0) (F_bey : Fld Z h0 a1 "com/example/orgweave/orgweave/fhir/Nodes" "beyondLatin1" "Z" (.int (0 : Int32))) (E_a1 : Exa Z h0 a1 "com/example/orgweave/orgweave/fhir/Nodes") (F_counts_a1 : Fld Z h0 a1 "com/example/orgweave/orgweave/fhir/Nodes" "counts" "[J" u_counts_a1) (g_a1 : n0 ≤ a1) :
    MetFree l (⟨"com/example/orgweave/orgweave/fhir/Nodes", "<init>", "()V"⟩ : MethodName) (head1 (Jvm.Cond.code (⟨"com/example/orgweave/orgweave/fhir/Nodes", "<init>", "()V"⟩ : MethodName) prog_9_method_1_code 1 none :: ws) ({ frames := 2, cells := 2, slots := 28, locals := 26 } : Room)) (fun a U => a = #[(.ref a1)] ∧ Z.Warmed39 U.vm ∧ U.heap = h0) (fun _ _ _ _ _ => True) (fun _ U o U' => ∃ v L, o = .returned v ∧ Q2 Z a1 u_counts_a1 h0 n0 v U'.heap L ∧ FrameEnd U o U' L ({ frames := 2, cells := 2, slots := 28, locals := 26 } : Room).cells ({ frames := 2, cells := 2, slots := 28, locals := 26 } : Room).slots) := by
  refine MetFree.of_bodySF (plainFor_of_name pn_2) hisR ?_
  intro p e s m args below meth c s₁ Bd hml0 hP hK
  obtain ⟨rfl, hZ, hh⟩ := hP
  have hx := Bd.exec
  have hby := Bd.bytes
  have hml : c.maxLocals = 1 := hml0
  have hown : s.vm.findClass "com/example/orgweave/orgweave/fhir/Nodes" = some m.cls := findClass_of_methodNamed Bd.named
  have hnm := (name_of_methodNamed Bd.named Bd.method).1
  have X0 : Stand p l e ({ frames := 2, cells := 2, slots := 28, locals := 26 } : Room) s m #[(.ref a1)] below meth c s₁ [] 0 0 := Stand.of_body Bd
  have e0 : s₁.heap = h0 := by rw [← hh, Bd.state]; rfl
  have N0 := Fr.nil n0
  obtain ⟨aV, clV, SV, AV, XV, FV, hszV⟩ := hV
  have pre0 : ∀ t, Steps p.tables e below (s₁.setTop (mkF m 0 #[.val (.ref a1)] [])) t → Steps p.tables e below (s₁.setTop (entryFrame m #[(.ref a1)] 1)) t := fun t k => castTop (ef_2 m a1) k
  -- 3. LAWS
  obtain ⟨T2, X2, e2, st2⟩ := initO X0 hx hZ hown (hw _ (List.mem_of_getElem? (i := 18) rfl)) (hw _ (List.mem_of_getElem? (i := 19) rfl)) (hw _ (List.mem_of_getElem? (i := 20) rfl)) e0 (g := (mkF m 1 #[.val (.ref a1)] [(.ref a1)])) rfl (by rw [hml]; rfl) rfl (hb hby d2_1) (by decide) (W := 0) (by show 2 * 0 + _ ≤ _; exact Nat.le_of_eq rfl) (by decide)
  -- pc 5: com/example/orgweave/orgweave/fhir/Nodes$Kind.values by its contract rm4
  obtain ⟨_, _, ⟨T3, L3, k3, n3⟩, -, X3, ⟨Lc3, hQ3, l3, y3, z3⟩, st3⟩ := Jvm.LawKit.callS X2 hx (y := (⟨"com/example/orgweave/orgweave/fhir/Nodes$Kind", "values", "()[Lcom/example/orgweave/orgweave/fhir/Nodes$Kind;"⟩ : MethodName)) hown (mvT hZ (hw _ (List.mem_of_getElem? (i := 21) rfl))) (mvT hZ (hw _ (List.mem_of_getElem? (i := 22) rfl))) (mvT hZ (hw _ (List.mem_of_getElem? (i := 6) rfl))) (mvT hZ (hw _ (List.mem_of_getElem? (i := 23) rfl))) (by decide) (backOf (W := 1) (rm4 l Z a0 hw [] aV clV h0 n0 Z0 (Nat.le_of_eq hszV) SV AV XV FV) hZ (hw _ (List.mem_of_getElem? (i := 23) rfl)) (hw _ (List.mem_of_getElem? (i := 6) rfl)) (by decide) (by decide)) (g := (mkF m 5 #[.val (.ref a1)] [(.ref a1)])) rfl (by rw [hml]; rfl) (argsL := []) (rest := [(.ref a1)]) (lenOf pd_2_2 rfl) rfl (by show 2 * 0 + _ ≤ _; exact Nat.le_of_eq rfl) (hb hby d2_5) (fun _ _ => ⟨rfl, e2, (by exact Nat.le_of_ble_eq_true rfl), (by exact Nat.le_of_ble_eq_true rfl)⟩)
  dsimp only [Pt.U, Pt.locs, Pt.cells, Pt.slots] at X3 l3 y3 z3 st3 hQ3
  subst l3 y3 z3
  obtain ⟨rfl, N3q, E3, A3⟩ := hQ3      -- what it returned, that it wrote nothing old, and the rest of your Q4
  have N3 := Fr.app N0 N3q
  obtain ⟨bV, gV⟩ : ∃ z, z = h0.size := ⟨_, rfl⟩
  rw [← gV] at A3 st3
  have Ar_bV := A3
  have S_bV : (cloneOf clV).slots.size = (14 : Int32).toNatClampNeg := hszV
  have N_bV : ¬ (14 : Int32) < 0 := by decide
  have KP3 : Keep h0 T3.heap [] := (Keep.refl _ _).ext E3
  have KH3 : Keep h0 T3.heap [a1] := (Keep.refl _ _).ext E3
  -- ✋ yours: Ar_bV must speak of T3.heap here (Ar.other W.. | .ext E..)
  obtain ⟨T4, h4, k4, X4, e4, E4, A4, st4⟩ := newP X3 hx hZ (hw _ (List.mem_of_getElem? (i := 47) rfl)) rfl (g := (mkF m 9 #[.val (.ref a1)] [(.int (14 : Int32)), (.ref a1)])) rfl (hb hby d2_9) rfl (by decide) (cap := 14) (by decide) (by decide) (by decide) (by decide)
  obtain ⟨b4, g4⟩ : ∃ z, z = T3.heap.size := ⟨_, rfl⟩      -- the fresh array's address
  rw [← g4] at A4 st4
  have V_b4 : Arv Z h4 b4 k4 .long (14 : Int32) [(.long (0 : Int64)), (.long (0 : Int64)), (.long (0 : Int64)), (.long (0 : Int64)), (.long (0 : Int64)), (.long (0 : Int64)), (.long (0 : Int64)), (.long (0 : Int64)), (.long (0 : Int64)), (.long (0 : Int64)), (.long (0 : Int64)), (.long (0 : Int64)), (.long (0 : Int64)), (.long (0 : Int64))] (.long (0 : Int64)) := (Arv.new A4 (by decide)).pad (pad_rep [] (.long (0 : Int64)) 14)
  have g_b4 : n0 ≤ b4 := Nat.le_trans (Nat.le_trans Z0 KP3.1) (Nat.le_of_eq g4.symm)
  have sz_b4 : h0.size ≤ b4 := (Nat.le_trans KH3.1 (Nat.le_of_eq g4.symm))
  have K4 : Keep h0 h4 [a1] := KH3.ext E4
  obtain ⟨T5, h5, X5, e5, W5, st5⟩ := putF X4 hx hZ hown (host := "") (Or.inl (hw _ (List.mem_of_getElem? (i := 48) rfl))) Via.refl e4 ((F_counts_a1.keep KP3 nin0).ext E4) ((E_a1.keep KP3).ext E4) (Or.inr ⟨(hw _ (List.mem_of_getElem? (i := 49) rfl)), rfl, hnm⟩) (hw _ (List.mem_of_getElem? (i := 13) rfl)) (ty := (.array .long)) (by decide) rfl rfl (g := (mkF m 11 #[.val (.ref a1)] [(.ref b4), (.ref a1)])) rfl rfl (hb hby d2_11)
  have Fw5 := ((F_counts_a1.keep KP3 nin0).ext E4).same W5      -- the field now holds (.ref b4)
  have K5 : Keep h0 h5 [a1] := K4.wr W5 (Or.inl (List.mem_of_getElem? (i := 0) rfl))
  have N5 := Fr.snoc X5 N3 g_a1
  obtain ⟨fs, hr, hrun, hended, hW, hsame⟩ := X5.leave (v := none) (fun _ => rfl)
  refine ⟨_, _, pre0 _ ?_, hrun, hended, _, _, rfl, ?_, ⟨_, rfl⟩, hW, hsame.mono (by decide) (by decide)⟩
  -- 4. STEPS
  · show Steps p.tables e below (s₁.setTop (mkF m 0 #[.val (.ref a1)] [])) _
    refine XS.aloadN X0.here hx rfl (hb hby d2_0) rfl rfl ?_
    show Steps p.tables e below (s₁.setTop (mkF m 1 #[.val (.ref a1)] [(.ref a1)])) _
    refine st2 _ ?_
    show Steps p.tables e below (T2.setTop (mkF m 4 #[.val (.ref a1)] [])) _
    refine XS.aloadN X2.here hx rfl (hb hby d2_4) rfl rfl ?_
    show Steps p.tables e below (T2.setTop (mkF m 5 #[.val (.ref a1)] [(.ref a1)])) _
    refine st3 _ ?_
    show Steps p.tables e below (T3.setTop (mkF m 8 #[.val (.ref a1)] [(.ref bV), (.ref a1)])) _
    refine X3.arraylength hx (by exact Ar_bV.1) (State.isArrayOf_alike hZ.alike Ar_bV.2.1) (g := (mkF m 8 #[.val (.ref a1)] [(.ref bV), (.ref a1)])) rfl rfl (hb hby d2_8) _ ?_
    rw [len_of S_bV N_bV]
    show Steps p.tables e below (T3.setTop (mkF m 9 #[.val (.ref a1)] [(.int (14 : Int32)), (.ref a1)])) _
    refine st4 _ ?_
    show Steps p.tables e below (T4.setTop (mkF m 11 #[.val (.ref a1)] [(.ref b4), (.ref a1)])) _
    refine st5 _ ?_
    show Steps p.tables e below (T5.setTop (mkF m 14 #[.val (.ref a1)] [])) _
    exact X5.returnOut hx Bd.returns (hb hby d2_14) hr
  · show Q2 Z a1 u_counts_a1 h0 n0 _ T5.heap _
    rw [e5]
    exact ⟨rfl, N5, b4, sz_b4, K5, (((E_a1.keep KP3).ext E4).wr W5), Fw5, (((F_bey.keep KP3 nin0).ext E4).other W5 (Or.inr (slot_ne (Or.inl (hw _ (List.mem_of_getElem? (i := 78) rfl))) (Or.inr (hw _ (List.mem_of_getElem? (i := 49) rfl))) (by decide) (t := .boolean) (t' := .array .long) (by decide) (by decide)))), own_Cnt_new (A4.other W5 (Ne.symm (Nat.ne_of_lt (Nat.lt_of_lt_of_le E_a1.lt sz_b4))))⟩
theorem d6_0 : decode jdk_37_method_2_code 0 = .ok (.aload_n 0, 1) := by decide +kernel
theorem d6_1 : decode jdk_37_method_2_code 1 = .ok (.getfield 7, 3) := by decide +kernel
theorem d6_4 : decode jdk_37_method_2_code 4 = .ok (.ireturn, 1) := by decide +kernel
theorem pn_6 : plainName "java/lang/Enum" = true := by first | (simp [plainName, overriddenIn]; done) | decide +kernel
theorem ef_6 (m : MethodId) (x0 : Addr) : entryFrame m #[(.ref x0)] 1 = mkF m 0 #[.val (.ref x0)] [] := by first | (simp [entryFrame, mkF, argsToLocals, Value.category]; done) | rfl
def Q6 (Z : State) (a1 : Addr) (w2 : Int32) (h0 : Heap) (n0 : Nat) (v : Option Value) (h : Heap) (L : List Loc) : Prop := v = some (.int w2) ∧ Fr n0 L ∧ h = h0
set_option maxRecDepth 65536 in
set_option maxHeartbeats 40000000 in
theorem rm6 (l : Launch) (Z : State) (a0 : Array Value) (hw : ∀ d ∈ tables_1, d.before a0 Z = true) (ws : List Jvm.Cond) (a1 : Addr) (w2 : Int32) (h0 : Heap) (n0 : Nat) (Z0 : n0 ≤ h0.size) (F_ordinal_a1 : Fld Z h0 a1 "java/lang/Enum" "ordinal" "I" (.int w2)) :
    MetFree l (⟨"java/lang/Enum", "ordinal", "()I"⟩ : MethodName) (head1 (Jvm.Cond.code (⟨"java/lang/Enum", "ordinal", "()I"⟩ : MethodName) jdk_37_method_2_code 1 (some .int) :: ws) ({ frames := 0, cells := 0, slots := 0, locals := 0 } : Room)) (fun a U => a = #[(.ref a1)] ∧ Z.Warmed39 U.vm ∧ U.heap = h0) (fun _ _ _ _ _ => True) (fun _ U o U' => ∃ v L, o = .returned v ∧ Q6 Z a1 w2 h0 n0 v U'.heap L ∧ FrameEnd U o U' L ({ frames := 0, cells := 0, slots := 0, locals := 0 } : Room).cells ({ frames := 0, cells := 0, slots := 0, locals := 0 } : Room).slots) := by
  refine MetFree.of_bodySF (plainFor_of_name pn_6) hisR ?_
  intro p e s m args below meth c s₁ Bd hml0 hP hK
  obtain ⟨rfl, hZ, hh⟩ := hP
  have hx := Bd.exec
  have hby := Bd.bytes
  have hml : c.maxLocals = 1 := hml0
  have hown : s.vm.findClass "java/lang/Enum" = some m.cls := findClass_of_methodNamed Bd.named
  have hnm := (name_of_methodNamed Bd.named Bd.method).1
  have X0 : Stand p l e ({ frames := 0, cells := 0, slots := 0, locals := 0 } : Room) s m #[(.ref a1)] below meth c s₁ [] 0 0 := Stand.of_body Bd
  have e0 : s₁.heap = h0 := by rw [← hh, Bd.state]; rfl
  have N0 := Fr.nil n0
  have pre0 : ∀ t, Steps p.tables e below (s₁.setTop (mkF m 0 #[.val (.ref a1)] [])) t → Steps p.tables e below (s₁.setTop (entryFrame m #[(.ref a1)] 1)) t := fun t k => castTop (ef_6 m a1) k
  -- 3. LAWS
  obtain ⟨T3, X3, e3, st3⟩ := getF X0 hx hZ hown (host := "") (Or.inl (hw _ (List.mem_of_getElem? (i := 62) rfl))) Via.refl e0 F_ordinal_a1 (g := (mkF m 1 #[.val (.ref a1)] [(.ref a1)])) rfl rfl (hb hby d6_1)
  obtain ⟨fs, hr, hrun, hended, hW, hsame⟩ := X3.leave (v := some (.int w2)) (fun h => by rw [Bd.returns] at h; cases h)
  refine ⟨_, _, pre0 _ ?_, hrun, hended, _, _, rfl, ?_, ⟨_, rfl⟩, hW, hsame.mono (by decide) (by decide)⟩
  -- 4. STEPS
  · show Steps p.tables e below (s₁.setTop (mkF m 0 #[.val (.ref a1)] [])) _
    refine XS.aloadN X0.here hx rfl (hb hby d6_0) rfl rfl ?_
    show Steps p.tables e below (s₁.setTop (mkF m 1 #[.val (.ref a1)] [(.ref a1)])) _
    refine st3 _ ?_
    show Steps p.tables e below (T3.setTop (mkF m 4 #[.val (.ref a1)] [(.int w2)])) _
    exact retI X3 hx Bd.returns (hb hby d6_4) hr      -- retI stands in the head ('lawwalk <made dir>' prints it)
  · show Q6 Z a1 w2 h0 n0 _ T3.heap _
    rw [e3]
    exact ⟨rfl, N0, rfl⟩
theorem d5_0 : decode prog_9_method_4_code 0 = .ok (.aload_n 0, 1) := by decide +kernel
theorem d5_1 : decode prog_9_method_4_code 1 = .ok (.getfield 13, 3) := by decide +kernel
theorem d5_4 : decode prog_9_method_4_code 4 = .ok (.aload_n 1, 1) := by decide +kernel
theorem d5_5 : decode prog_9_method_4_code 5 = .ok (.invokevirtual 19, 3) := by decide +kernel
theorem d5_8 : decode prog_9_method_4_code 8 = .ok (.dup2, 1) := by decide +kernel
theorem d5_9 : decode prog_9_method_4_code 9 = .ok (.laload, 1) := by decide +kernel
theorem d5_10 : decode prog_9_method_4_code 10 = .ok (.lload_n 2, 1) := by decide +kernel
theorem d5_11 : decode prog_9_method_4_code 11 = .ok (.ladd, 1) := by decide +kernel
theorem d5_12 : decode prog_9_method_4_code 12 = .ok (.lastore, 1) := by decide +kernel
theorem d5_13 : decode prog_9_method_4_code 13 = .ok (.return_, 1) := by decide +kernel
theorem pn_5 : plainName "com/example/orgweave/orgweave/fhir/Nodes" = true := by first | (simp [plainName, overriddenIn]; done) | decide +kernel
theorem pd_5_5 : parseMethodDescriptor "()I" = some ⟨[], some .int⟩ := by decide +kernel
theorem ef_5 (m : MethodId) (x0 : Addr) (x1 : Addr) (x2 : Int64) : entryFrame m #[(.ref x0), (.ref x1), (.long x2)] 4 = mkF m 0 #[.val (.ref x0), .val (.ref x1), .val (.long x2), .second] [] := by first | (simp [entryFrame, mkF, argsToLocals, Value.category]; done) | rfl
def Q5 (kk : Int32) (Z : State) (a1 : Addr) (a2 : Addr) (q3 : Int64) (w4 : Addr) (w7 : Int64) (cl_w4 : Cell) (h0 : Heap) (n0 : Nat) (v : Option Value) (h : Heap) (L : List Loc) : Prop := v = none ∧ Fr n0 L ∧ Keep h0 h [w4] ∧ Arr Z h w4 (cl_w4.setSlot (kk).toNatClampNeg (.long (w7 + q3))) .long
set_option maxRecDepth 65536 in
set_option maxHeartbeats 40000000 in
theorem rm5 (l : Launch) (Z : State) (a0 : Array Value) (hw : ∀ d ∈ tables_1, d.before a0 Z = true) (ws : List Jvm.Cond) (a1 : Addr) (a2 : Addr) (q3 : Int64) (w4 : Addr) (w7 : Int64) (cl_w4 : Cell) (h0 : Heap) (n0 : Nat) (Z0 : n0 ≤ h0.size) (kk : Int32) (F_ord : Fld Z h0 a2 "java/lang/Enum" "ordinal" "I" (.int kk)) (F_counts_a1 : Fld Z h0 a1 "com/example/orgweave/orgweave/fhir/Nodes" "counts" "[J" (.ref w4)) (E_a2 : Exa Z h0 a2 "com/example/orgweave/orgweave/fhir/Nodes$Kind") (Ar_w4 : Arr Z h0 w4 cl_w4 .long) (hin9 : ¬ (kk < 0 ∨ cl_w4.slots.size ≤ (kk).toNatClampNeg)) (hat9 : cl_w4.slots[(kk).toNatClampNeg]? = some (.long w7)) (hin12 : ¬ (kk < 0 ∨ cl_w4.slots.size ≤ (kk).toNatClampNeg)) (g_w4 : n0 ≤ w4) :
    MetFree l (⟨"com/example/orgweave/orgweave/fhir/Nodes", "add", "(Lcom/example/orgweave/orgweave/fhir/Nodes$Kind;J)V"⟩ : MethodName) (head1 (Jvm.Cond.code (⟨"com/example/orgweave/orgweave/fhir/Nodes", "add", "(Lcom/example/orgweave/orgweave/fhir/Nodes$Kind;J)V"⟩ : MethodName) prog_9_method_4_code 4 none :: ws) ({ frames := 1, cells := 0, slots := 0, locals := 13 } : Room)) (fun a U => a = #[(.ref a1), (.ref a2), (.long q3)] ∧ Z.Warmed39 U.vm ∧ U.heap = h0) (fun _ _ _ _ _ => True) (fun _ U o U' => ∃ v L, o = .returned v ∧ Q5 kk Z a1 a2 q3 w4 w7 cl_w4 h0 n0 v U'.heap L ∧ FrameEnd U o U' L ({ frames := 1, cells := 0, slots := 0, locals := 13 } : Room).cells ({ frames := 1, cells := 0, slots := 0, locals := 13 } : Room).slots) := by
  refine MetFree.of_bodySF (plainFor_of_name pn_5) hisR ?_
  intro p e s m args below meth c s₁ Bd hml0 hP hK
  obtain ⟨rfl, hZ, hh⟩ := hP
  have hx := Bd.exec
  have hby := Bd.bytes
  have hml : c.maxLocals = 4 := hml0
  have hown : s.vm.findClass "com/example/orgweave/orgweave/fhir/Nodes" = some m.cls := findClass_of_methodNamed Bd.named
  have hnm := (name_of_methodNamed Bd.named Bd.method).1
  have X0 : Stand p l e ({ frames := 1, cells := 0, slots := 0, locals := 13 } : Room) s m #[(.ref a1), (.ref a2), (.long q3)] below meth c s₁ [] 0 0 := Stand.of_body Bd
  have e0 : s₁.heap = h0 := by rw [← hh, Bd.state]; rfl
  have N0 := Fr.nil n0
  have pre0 : ∀ t, Steps p.tables e below (s₁.setTop (mkF m 0 #[.val (.ref a1), .val (.ref a2), .val (.long q3), .second] [])) t → Steps p.tables e below (s₁.setTop (entryFrame m #[(.ref a1), (.ref a2), (.long q3)] 4)) t := fun t k => castTop (ef_5 m a1 a2 q3) k
  -- 3. LAWS
  obtain ⟨T5, X5, e5, st5⟩ := getF X0 hx hZ hown (host := "") (Or.inl (hw _ (List.mem_of_getElem? (i := 48) rfl))) Via.refl e0 F_counts_a1 (g := (mkF m 1 #[.val (.ref a1), .val (.ref a2), .val (.long q3), .second] [(.ref a1)])) rfl rfl (hb hby d5_1)
  -- pc 5: com/example/orgweave/orgweave/fhir/Nodes$Kind.ordinal by the contract of the body that the receiver's class selects, rm6
  obtain ⟨cq6, kq6, q6a, q6b, q6c⟩ := isOf hZ e5 E_a2
  obtain ⟨_, _, ⟨T6, L6, k6, n6⟩, -, X6, ⟨Lc6, hQ6, l6, y6, z6⟩, st6⟩ := X5.virtualBackUp hx (x := (⟨"com/example/orgweave/orgweave/fhir/Nodes$Kind", "ordinal", "()I"⟩ : MethodName)) (y := (⟨"java/lang/Enum", "ordinal", "()I"⟩ : MethodName)) (owner := "java/lang/Enum") hown (mvT hZ (hw _ (List.mem_of_getElem? (i := 55) rfl))) (mvT hZ (hw _ (List.mem_of_getElem? (i := 56) rfl))) (mvT hZ (hw _ (List.mem_of_getElem? (i := 57) rfl))) (by decide) (mvT hZ (hw _ (List.mem_of_getElem? (i := 59) rfl))) (mvT hZ (hw _ (List.mem_of_getElem? (i := 58) rfl))) (backOf (W := 1) (rm6 l Z a0 hw [] a2 kk h0 n0 Z0 F_ord) hZ (hw _ (List.mem_of_getElem? (i := 61) rfl)) (hw _ (List.mem_of_getElem? (i := 60) rfl)) (by decide) (by decide)) q6a q6c (g := (mkF m 5 #[.val (.ref a1), .val (.ref a2), .val (.long q3), .second] [(.ref a2), (.ref w4)])) rfl (by rw [hml]; rfl) (Steps.refl _) (argsL := []) (rest := [(.ref w4)]) (lenOf pd_5_5 rfl) rfl (by show 2 * 0 + _ ≤ _; exact Nat.le_of_eq rfl) (hb hby d5_5) (fun _ _ => ⟨rfl, e5, (by exact Nat.le_of_ble_eq_true rfl), (by exact Nat.le_of_ble_eq_true rfl)⟩)
  dsimp only [Pt.U, Pt.locs, Pt.cells, Pt.slots] at X6 l6 y6 z6 st6 hQ6
  subst l6 y6 z6
  obtain ⟨rfl, N6q, eQ6⟩ := hQ6      -- what it returned, that it wrote nothing old, and the rest of your Q6
  have N6 := Fr.app N0 N6q
  obtain ⟨T8, h8, X8, e8, W8, st8⟩ := stJ X6 hx hZ eQ6 Ar_w4 (j := kk) hin12 (g := (mkF m 12 #[.val (.ref a1), .val (.ref a2), .val (.long q3), .second] [(.long (w7 + q3)), (.int kk), (.ref w4)])) rfl rfl (hb hby d5_12)
  have N8 := Fr.snoc X8 N6 g_w4
  -- Ar_w4.same W8 : the array with (.long (w7 + q3)) at the place kk
  have K8 : Keep h0 h8 [w4] := (Keep.refl h0 [w4]).wr W8 (Or.inl (List.mem_of_getElem? (i := 0) rfl))
  obtain ⟨fs, hr, hrun, hended, hW, hsame⟩ := X8.leave (v := none) (fun _ => rfl)
  refine ⟨_, _, pre0 _ ?_, hrun, hended, _, _, rfl, ?_, ⟨_, rfl⟩, hW, hsame.mono (by decide) (by decide)⟩
  -- 4. STEPS
  · show Steps p.tables e below (s₁.setTop (mkF m 0 #[.val (.ref a1), .val (.ref a2), .val (.long q3), .second] [])) _
    refine XS.aloadN X0.here hx rfl (hb hby d5_0) rfl rfl ?_
    show Steps p.tables e below (s₁.setTop (mkF m 1 #[.val (.ref a1), .val (.ref a2), .val (.long q3), .second] [(.ref a1)])) _
    refine st5 _ ?_
    show Steps p.tables e below (T5.setTop (mkF m 4 #[.val (.ref a1), .val (.ref a2), .val (.long q3), .second] [(.ref w4)])) _
    refine XS.aloadN X5.here hx rfl (hb hby d5_4) rfl rfl ?_
    show Steps p.tables e below (T5.setTop (mkF m 5 #[.val (.ref a1), .val (.ref a2), .val (.long q3), .second] [(.ref a2), (.ref w4)])) _
    refine st6.trans ?_
    show Steps p.tables e below (T6.setTop (mkF m 8 #[.val (.ref a1), .val (.ref a2), .val (.long q3), .second] [(.int kk), (.ref w4)])) _
    jvm_step X6.here [X6.here.top, hx, (hb hby d5_8), Value.category]
    show Steps p.tables e below (T6.setTop (mkF m 9 #[.val (.ref a1), .val (.ref a2), .val (.long q3), .second] [(.int kk), (.ref w4), (.int kk), (.ref w4)])) _
    refine X6.laload hx (j := kk) (v := (.long w7)) (by rw [eQ6]; exact Ar_w4.1) (State.isArrayOf_alike hZ.alike Ar_w4.2.1) Ar_w4.2.2 hin9 hat9 (g := (mkF m 9 #[.val (.ref a1), .val (.ref a2), .val (.long q3), .second] [(.int kk), (.ref w4), (.int kk), (.ref w4)])) rfl rfl (hb hby d5_9) _ ?_
    show Steps p.tables e below (T6.setTop (mkF m 10 #[.val (.ref a1), .val (.ref a2), .val (.long q3), .second] [(.long w7), (.int kk), (.ref w4)])) _
    refine XS.lloadN X6.here hx rfl (hb hby d5_10) rfl ?_
    show Steps p.tables e below (T6.setTop (mkF m 11 #[.val (.ref a1), .val (.ref a2), .val (.long q3), .second] [(.long q3), (.long w7), (.int kk), (.ref w4)])) _
    refine XS.ladd X6.here hx rfl (hb hby d5_11) rfl ?_
    show Steps p.tables e below (T6.setTop (mkF m 12 #[.val (.ref a1), .val (.ref a2), .val (.long q3), .second] [(.long (w7 + q3)), (.int kk), (.ref w4)])) _
    refine st8 _ ?_
    show Steps p.tables e below (T8.setTop (mkF m 13 #[.val (.ref a1), .val (.ref a2), .val (.long q3), .second] [])) _
    exact X8.returnOut hx Bd.returns (hb hby d5_13) hr
  · show Q5 kk Z a1 a2 q3 w4 w7 cl_w4 h0 n0 _ T8.heap _
    rw [e8]
    exact ⟨rfl, N8, K8, Ar_w4.same W8⟩
theorem d7_0 : decode prog_9_method_2_code 0 = .ok (.aload_n 0, 1) := by decide +kernel
theorem d7_1 : decode prog_9_method_2_code 1 = .ok (.getfield 13, 3) := by decide +kernel
theorem d7_4 : decode prog_9_method_2_code 4 = .ok (.aload_n 1, 1) := by decide +kernel
theorem d7_5 : decode prog_9_method_2_code 5 = .ok (.invokevirtual 19, 3) := by decide +kernel
theorem d7_8 : decode prog_9_method_2_code 8 = .ok (.laload, 1) := by decide +kernel
theorem d7_9 : decode prog_9_method_2_code 9 = .ok (.lreturn, 1) := by decide +kernel
theorem pn_7 : plainName "com/example/orgweave/orgweave/fhir/Nodes" = true := by first | (simp [plainName, overriddenIn]; done) | decide +kernel
theorem pd_7_5 : parseMethodDescriptor "()I" = some ⟨[], some .int⟩ := by decide +kernel
theorem ef_7 (m : MethodId) (x0 : Addr) (x1 : Addr) : entryFrame m #[(.ref x0), (.ref x1)] 2 = mkF m 0 #[.val (.ref x0), .val (.ref x1)] [] := by first | (simp [entryFrame, mkF, argsToLocals, Value.category]; done) | rfl
def Q7 (Z : State) (a1 : Addr) (a2 : Addr) (w3 : Addr) (w6 : Int64) (cl_w3 : Cell) (h0 : Heap) (n0 : Nat) (v : Option Value) (h : Heap) (L : List Loc) : Prop := v = some (.long w6) ∧ Fr n0 L ∧ h = h0
set_option maxRecDepth 65536 in
set_option maxHeartbeats 40000000 in
theorem rm7 (l : Launch) (Z : State) (a0 : Array Value) (hw : ∀ d ∈ tables_1, d.before a0 Z = true) (ws : List Jvm.Cond) (a1 : Addr) (a2 : Addr) (w3 : Addr) (w6 : Int64) (cl_w3 : Cell) (h0 : Heap) (n0 : Nat) (Z0 : n0 ≤ h0.size) (kk : Int32) (F_ord : Fld Z h0 a2 "java/lang/Enum" "ordinal" "I" (.int kk)) (F_counts_a1 : Fld Z h0 a1 "com/example/orgweave/orgweave/fhir/Nodes" "counts" "[J" (.ref w3)) (E_a2 : Exa Z h0 a2 "com/example/orgweave/orgweave/fhir/Nodes$Kind") (Ar_w3 : Arr Z h0 w3 cl_w3 .long) (hin8 : ¬ (kk < 0 ∨ cl_w3.slots.size ≤ (kk).toNatClampNeg)) (hat8 : cl_w3.slots[(kk).toNatClampNeg]? = some (.long w6)) :
    MetFree l (⟨"com/example/orgweave/orgweave/fhir/Nodes", "count", "(Lcom/example/orgweave/orgweave/fhir/Nodes$Kind;)J"⟩ : MethodName) (head1 (Jvm.Cond.code (⟨"com/example/orgweave/orgweave/fhir/Nodes", "count", "(Lcom/example/orgweave/orgweave/fhir/Nodes$Kind;)J"⟩ : MethodName) prog_9_method_2_code 2 (some .long) :: ws) ({ frames := 1, cells := 0, slots := 0, locals := 13 } : Room)) (fun a U => a = #[(.ref a1), (.ref a2)] ∧ Z.Warmed39 U.vm ∧ U.heap = h0) (fun _ _ _ _ _ => True) (fun _ U o U' => ∃ v L, o = .returned v ∧ Q7 Z a1 a2 w3 w6 cl_w3 h0 n0 v U'.heap L ∧ FrameEnd U o U' L ({ frames := 1, cells := 0, slots := 0, locals := 13 } : Room).cells ({ frames := 1, cells := 0, slots := 0, locals := 13 } : Room).slots) := by
  refine MetFree.of_bodySF (plainFor_of_name pn_7) hisR ?_
  intro p e s m args below meth c s₁ Bd hml0 hP hK
  obtain ⟨rfl, hZ, hh⟩ := hP
  have hx := Bd.exec
  have hby := Bd.bytes
  have hml : c.maxLocals = 2 := hml0
  have hown : s.vm.findClass "com/example/orgweave/orgweave/fhir/Nodes" = some m.cls := findClass_of_methodNamed Bd.named
  have hnm := (name_of_methodNamed Bd.named Bd.method).1
  have X0 : Stand p l e ({ frames := 1, cells := 0, slots := 0, locals := 13 } : Room) s m #[(.ref a1), (.ref a2)] below meth c s₁ [] 0 0 := Stand.of_body Bd
  have e0 : s₁.heap = h0 := by rw [← hh, Bd.state]; rfl
  have N0 := Fr.nil n0
  have pre0 : ∀ t, Steps p.tables e below (s₁.setTop (mkF m 0 #[.val (.ref a1), .val (.ref a2)] [])) t → Steps p.tables e below (s₁.setTop (entryFrame m #[(.ref a1), (.ref a2)] 2)) t := fun t k => castTop (ef_7 m a1 a2) k
  -- 3. LAWS
  obtain ⟨T4, X4, e4, st4⟩ := getF X0 hx hZ hown (host := "") (Or.inl (hw _ (List.mem_of_getElem? (i := 48) rfl))) Via.refl e0 F_counts_a1 (g := (mkF m 1 #[.val (.ref a1), .val (.ref a2)] [(.ref a1)])) rfl rfl (hb hby d7_1)
  -- pc 5: com/example/orgweave/orgweave/fhir/Nodes$Kind.ordinal by the contract of the body that the receiver's class selects, rm6
  obtain ⟨cq5, kq5, q5a, q5b, q5c⟩ := isOf hZ e4 E_a2
  obtain ⟨_, _, ⟨T5, L5, k5, n5⟩, -, X5, ⟨Lc5, hQ5, l5, y5, z5⟩, st5⟩ := X4.virtualBackUp hx (x := (⟨"com/example/orgweave/orgweave/fhir/Nodes$Kind", "ordinal", "()I"⟩ : MethodName)) (y := (⟨"java/lang/Enum", "ordinal", "()I"⟩ : MethodName)) (owner := "java/lang/Enum") hown (mvT hZ (hw _ (List.mem_of_getElem? (i := 55) rfl))) (mvT hZ (hw _ (List.mem_of_getElem? (i := 56) rfl))) (mvT hZ (hw _ (List.mem_of_getElem? (i := 57) rfl))) (by decide) (mvT hZ (hw _ (List.mem_of_getElem? (i := 59) rfl))) (mvT hZ (hw _ (List.mem_of_getElem? (i := 58) rfl))) (backOf (W := 1) (rm6 l Z a0 hw [] a2 kk h0 n0 Z0 F_ord) hZ (hw _ (List.mem_of_getElem? (i := 61) rfl)) (hw _ (List.mem_of_getElem? (i := 60) rfl)) (by decide) (by decide)) q5a q5c (g := (mkF m 5 #[.val (.ref a1), .val (.ref a2)] [(.ref a2), (.ref w3)])) rfl (by rw [hml]; rfl) (Steps.refl _) (argsL := []) (rest := [(.ref w3)]) (lenOf pd_7_5 rfl) rfl (by show 2 * 0 + _ ≤ _; exact Nat.le_of_eq rfl) (hb hby d7_5) (fun _ _ => ⟨rfl, e4, (by exact Nat.le_of_ble_eq_true rfl), (by exact Nat.le_of_ble_eq_true rfl)⟩)
  dsimp only [Pt.U, Pt.locs, Pt.cells, Pt.slots] at X5 l5 y5 z5 st5 hQ5
  subst l5 y5 z5
  obtain ⟨rfl, N5q, eQ5⟩ := hQ5      -- what it returned, that it wrote nothing old, and the rest of your Q6
  have N5 := Fr.app N0 N5q
  obtain ⟨fs, hr, hrun, hended, hW, hsame⟩ := X5.leave (v := some (.long w6)) (fun h => by rw [Bd.returns] at h; cases h)
  refine ⟨_, _, pre0 _ ?_, hrun, hended, _, _, rfl, ?_, ⟨_, rfl⟩, hW, hsame.mono (by decide) (by decide)⟩
  -- 4. STEPS
  · show Steps p.tables e below (s₁.setTop (mkF m 0 #[.val (.ref a1), .val (.ref a2)] [])) _
    refine XS.aloadN X0.here hx rfl (hb hby d7_0) rfl rfl ?_
    show Steps p.tables e below (s₁.setTop (mkF m 1 #[.val (.ref a1), .val (.ref a2)] [(.ref a1)])) _
    refine st4 _ ?_
    show Steps p.tables e below (T4.setTop (mkF m 4 #[.val (.ref a1), .val (.ref a2)] [(.ref w3)])) _
    refine XS.aloadN X4.here hx rfl (hb hby d7_4) rfl rfl ?_
    show Steps p.tables e below (T4.setTop (mkF m 5 #[.val (.ref a1), .val (.ref a2)] [(.ref a2), (.ref w3)])) _
    refine st5.trans ?_
    show Steps p.tables e below (T5.setTop (mkF m 8 #[.val (.ref a1), .val (.ref a2)] [(.int kk), (.ref w3)])) _
    refine X5.laload hx (j := kk) (v := (.long w6)) (by rw [eQ5]; exact Ar_w3.1) (State.isArrayOf_alike hZ.alike Ar_w3.2.1) Ar_w3.2.2 hin8 hat8 (g := (mkF m 8 #[.val (.ref a1), .val (.ref a2)] [(.int kk), (.ref w3)])) rfl rfl (hb hby d7_8) _ ?_
    show Steps p.tables e below (T5.setTop (mkF m 9 #[.val (.ref a1), .val (.ref a2)] [(.long w6)])) _
    jvm_step X5.here [X5.here.top, hx, (hb hby d7_9), X5.method', Bd.returns, narrow]
    first | (intro acts; rw [hr _ acts rfl rfl rfl]) | rw [hr _ _ rfl rfl rfl]
    exact Steps.refl _
  · show Q7 Z a1 a2 w3 w6 cl_w3 h0 n0 _ T5.heap _
    rw [eQ5]
    exact ⟨rfl, N5, rfl⟩
theorem d9_0 : decode prog_9_method_3_code 0 = .ok (.aload_n 0, 1) := by decide +kernel
theorem d9_1 : decode prog_9_method_3_code 1 = .ok (.getfield 23, 3) := by decide +kernel
theorem d9_4 : decode prog_9_method_3_code 4 = .ok (.ireturn, 1) := by decide +kernel
theorem pn_9 : plainName "com/example/orgweave/orgweave/fhir/Nodes" = true := by first | (simp [plainName, overriddenIn]; done) | decide +kernel
theorem ef_9 (m : MethodId) (x0 : Addr) : entryFrame m #[(.ref x0)] 1 = mkF m 0 #[.val (.ref x0)] [] := by first | (simp [entryFrame, mkF, argsToLocals, Value.category]; done) | rfl
def Q9 (Z : State) (a1 : Addr) (w2 : Int32) (h0 : Heap) (n0 : Nat) (v : Option Value) (h : Heap) (L : List Loc) : Prop := v = some (.int w2) ∧ Fr n0 L ∧ h = h0
set_option maxRecDepth 65536 in
set_option maxHeartbeats 40000000 in
theorem rm9 (l : Launch) (Z : State) (a0 : Array Value) (hw : ∀ d ∈ tables_1, d.before a0 Z = true) (ws : List Jvm.Cond) (a1 : Addr) (w2 : Int32) (h0 : Heap) (n0 : Nat) (Z0 : n0 ≤ h0.size) (hnr : nar .boolean w2 = w2) (F_beyondLatin1_a1 : Fld Z h0 a1 "com/example/orgweave/orgweave/fhir/Nodes" "beyondLatin1" "Z" (.int w2)) :
    MetFree l (⟨"com/example/orgweave/orgweave/fhir/Nodes", "beyondLatin1", "()Z"⟩ : MethodName) (head1 (Jvm.Cond.code (⟨"com/example/orgweave/orgweave/fhir/Nodes", "beyondLatin1", "()Z"⟩ : MethodName) prog_9_method_3_code 1 (some .boolean) :: ws) ({ frames := 0, cells := 0, slots := 0, locals := 0 } : Room)) (fun a U => a = #[(.ref a1)] ∧ Z.Warmed39 U.vm ∧ U.heap = h0) (fun _ _ _ _ _ => True) (fun _ U o U' => ∃ v L, o = .returned v ∧ Q9 Z a1 w2 h0 n0 v U'.heap L ∧ FrameEnd U o U' L ({ frames := 0, cells := 0, slots := 0, locals := 0 } : Room).cells ({ frames := 0, cells := 0, slots := 0, locals := 0 } : Room).slots) := by
  refine MetFree.of_bodySF (plainFor_of_name pn_9) hisR ?_
  intro p e s m args below meth c s₁ Bd hml0 hP hK
  obtain ⟨rfl, hZ, hh⟩ := hP
  have hx := Bd.exec
  have hby := Bd.bytes
  have hml : c.maxLocals = 1 := hml0
  have hown : s.vm.findClass "com/example/orgweave/orgweave/fhir/Nodes" = some m.cls := findClass_of_methodNamed Bd.named
  have hnm := (name_of_methodNamed Bd.named Bd.method).1
  have X0 : Stand p l e ({ frames := 0, cells := 0, slots := 0, locals := 0 } : Room) s m #[(.ref a1)] below meth c s₁ [] 0 0 := Stand.of_body Bd
  have e0 : s₁.heap = h0 := by rw [← hh, Bd.state]; rfl
  have N0 := Fr.nil n0
  have pre0 : ∀ t, Steps p.tables e below (s₁.setTop (mkF m 0 #[.val (.ref a1)] [])) t → Steps p.tables e below (s₁.setTop (entryFrame m #[(.ref a1)] 1)) t := fun t k => castTop (ef_9 m a1) k
  -- 3. LAWS
  obtain ⟨T3, X3, e3, st3⟩ := getF X0 hx hZ hown (host := "") (Or.inl (hw _ (List.mem_of_getElem? (i := 77) rfl))) Via.refl e0 F_beyondLatin1_a1 (g := (mkF m 1 #[.val (.ref a1)] [(.ref a1)])) rfl rfl (hb hby d9_1)
  obtain ⟨fs, hr, hrun, hended, hW, hsame⟩ := X3.leave (v := some (.int w2)) (fun h => by rw [Bd.returns] at h; cases h)
  refine ⟨_, _, pre0 _ ?_, hrun, hended, _, _, rfl, ?_, ⟨_, rfl⟩, hW, hsame.mono (by decide) (by decide)⟩
  -- 4. STEPS
  · show Steps p.tables e below (s₁.setTop (mkF m 0 #[.val (.ref a1)] [])) _
    refine XS.aloadN X0.here hx rfl (hb hby d9_0) rfl rfl ?_
    show Steps p.tables e below (s₁.setTop (mkF m 1 #[.val (.ref a1)] [(.ref a1)])) _
    refine st3 _ ?_
    show Steps p.tables e below (T3.setTop (mkF m 4 #[.val (.ref a1)] [(.int w2)])) _
    exact retN X3 hx (t := .boolean) Bd.returns (by simp) (hb hby d9_4) (by rw [hnr]; exact hr)
  · show Q9 Z a1 w2 h0 n0 _ T3.heap _
    rw [e3]
    exact ⟨rfl, N0, rfl⟩
def Q8 (r : Int64) (Z : State) (h0 : Heap) (n0 : Nat) (v : Option Value) (h : Heap) (L : List Loc) : Prop := v = some (.long r) ∧ Fr n0 L ∧ h = h0
theorem d8_0 : decode method_3_code 0 = .ok (.lconst 0, 1) := by decide +kernel
theorem d8_1 : decode method_3_code 1 = .ok (.lstore 10, 2) := by decide +kernel
theorem d8_3 : decode method_3_code 3 = .ok (.iload_n 0, 1) := by decide +kernel
theorem d8_4 : decode method_3_code 4 = .ok (.iload_n 1, 1) := by decide +kernel
theorem d8_5 : decode method_3_code 5 = .ok (.if_icmp .ne 9, 3) := by decide +kernel
theorem d8_8 : decode method_3_code 8 = .ok (.lload 10, 2) := by decide +kernel
theorem d8_10 : decode method_3_code 10 = .ok (.lload_n 2, 1) := by decide +kernel
theorem d8_11 : decode method_3_code 11 = .ok (.ladd, 1) := by decide +kernel
theorem d8_12 : decode method_3_code 12 = .ok (.lstore 10, 2) := by decide +kernel
theorem d8_14 : decode method_3_code 14 = .ok (.iload_n 0, 1) := by decide +kernel
theorem d8_15 : decode method_3_code 15 = .ok (.iload 4, 2) := by decide +kernel
theorem d8_17 : decode method_3_code 17 = .ok (.if_icmp .ne 10, 3) := by decide +kernel
theorem d8_20 : decode method_3_code 20 = .ok (.lload 10, 2) := by decide +kernel
theorem d8_22 : decode method_3_code 22 = .ok (.lload 5, 2) := by decide +kernel
theorem d8_24 : decode method_3_code 24 = .ok (.ladd, 1) := by decide +kernel
theorem d8_25 : decode method_3_code 25 = .ok (.lstore 10, 2) := by decide +kernel
theorem d8_27 : decode method_3_code 27 = .ok (.iload_n 0, 1) := by decide +kernel
theorem d8_28 : decode method_3_code 28 = .ok (.iload 7, 2) := by decide +kernel
theorem d8_30 : decode method_3_code 30 = .ok (.if_icmp .ne 10, 3) := by decide +kernel
theorem d8_33 : decode method_3_code 33 = .ok (.lload 10, 2) := by decide +kernel
theorem d8_35 : decode method_3_code 35 = .ok (.lload 8, 2) := by decide +kernel
theorem d8_37 : decode method_3_code 37 = .ok (.ladd, 1) := by decide +kernel
theorem d8_38 : decode method_3_code 38 = .ok (.lstore 10, 2) := by decide +kernel
theorem d8_40 : decode method_3_code 40 = .ok (.lload 10, 2) := by decide +kernel
theorem d8_42 : decode method_3_code 42 = .ok (.lreturn, 1) := by decide +kernel
theorem pn_8 : plainName "com/example/orgweave/orgweave/fhir/NodesAddPinLaw" = true := by first | (simp [plainName, overriddenIn]; done) | decide +kernel
theorem ef_8 (m : MethodId) (x0 : Int32) (x1 : Int32) (x2 : Int64) (x3 : Int32) (x4 : Int64) (x5 : Int32) (x6 : Int64) : entryFrame m #[(.int x0), (.int x1), (.long x2), (.int x3), (.long x4), (.int x5), (.long x6)] 12 = mkF m 0 #[.val (.int x0), .val (.int x1), .val (.long x2), .second, .val (.int x3), .val (.long x4), .second, .val (.int x5), .val (.long x6), .second, .unset, .unset] [] := by first | (simp [entryFrame, mkF, argsToLocals, Value.category]; done) | rfl
set_option maxRecDepth 65536 in
set_option maxHeartbeats 40000000 in
theorem rm8fff (l : Launch) (Z : State) (a0 : Array Value) (hw : ∀ d ∈ tables_1, d.before a0 Z = true) (ws : List Jvm.Cond) (p1 : Int32) (p2 : Int32) (q3 : Int64) (p4 : Int32) (q5 : Int64) (p6 : Int32) (q7 : Int64) (h0 : Heap) (n0 : Nat) (Z0 : n0 ≤ h0.size) (hc5 : p1 = p2) (hc17 : p1 = p4) (hc30 : p1 = p6) :
    MetFree l (⟨"com/example/orgweave/orgweave/fhir/NodesAddPinLaw", "expected", "(IIJIJIJ)J"⟩ : MethodName) (head1 (Jvm.Cond.code (⟨"com/example/orgweave/orgweave/fhir/NodesAddPinLaw", "expected", "(IIJIJIJ)J"⟩ : MethodName) method_3_code 12 (some .long) :: ws) ({ frames := 0, cells := 0, slots := 0, locals := 0 } : Room)) (fun a U => a = #[(.int p1), (.int p2), (.long q3), (.int p4), (.long q5), (.int p6), (.long q7)] ∧ Z.Warmed39 U.vm ∧ U.heap = h0) (fun _ _ _ _ _ => True) (fun _ U o U' => ∃ v L, o = .returned v ∧ Q8 ((((0 : Int64) + q3) + q5) + q7) Z h0 n0 v U'.heap L ∧ FrameEnd U o U' L ({ frames := 0, cells := 0, slots := 0, locals := 0 } : Room).cells ({ frames := 0, cells := 0, slots := 0, locals := 0 } : Room).slots) := by
  refine MetFree.of_bodySF (plainFor_of_name pn_8) hisR ?_
  intro p e s m args below meth c s₁ Bd hml0 hP hK
  obtain ⟨rfl, hZ, hh⟩ := hP
  have hx := Bd.exec
  have hby := Bd.bytes
  have hml : c.maxLocals = 12 := hml0
  have hown : s.vm.findClass "com/example/orgweave/orgweave/fhir/NodesAddPinLaw" = some m.cls := findClass_of_methodNamed Bd.named
  have hnm := (name_of_methodNamed Bd.named Bd.method).1
  have X0 : Stand p l e ({ frames := 0, cells := 0, slots := 0, locals := 0 } : Room) s m #[(.int p1), (.int p2), (.long q3), (.int p4), (.long q5), (.int p6), (.long q7)] below meth c s₁ [] 0 0 := Stand.of_body Bd
  have e0 : s₁.heap = h0 := by rw [← hh, Bd.state]; rfl
  have N0 := Fr.nil n0
  have pre0 : ∀ t, Steps p.tables e below (s₁.setTop (mkF m 0 #[.val (.int p1), .val (.int p2), .val (.long q3), .second, .val (.int p4), .val (.long q5), .second, .val (.int p6), .val (.long q7), .second, .unset, .unset] [])) t → Steps p.tables e below (s₁.setTop (entryFrame m #[(.int p1), (.int p2), (.long q3), (.int p4), (.long q5), (.int p6), (.long q7)] 12)) t := fun t k => castTop (ef_8 m p1 p2 q3 p4 q5 p6 q7) k
  -- 3. LAWS

  obtain ⟨fs, hr, hrun, hended, hW, hsame⟩ := X0.leave (v := some (.long ((((0 : Int64) + q3) + q5) + q7))) (fun h => by rw [Bd.returns] at h; cases h)
  refine ⟨_, _, pre0 _ ?_, hrun, hended, _, _, rfl, ?_, ⟨_, rfl⟩, hW, hsame.mono (by decide) (by decide)⟩
  -- 4. STEPS
  · show Steps p.tables e below (s₁.setTop (mkF m 0 #[.val (.int p1), .val (.int p2), .val (.long q3), .second, .val (.int p4), .val (.long q5), .second, .val (.int p6), .val (.long q7), .second, .unset, .unset] [])) _
    refine XS.lconst X0.here hx rfl (hb hby d8_0) ?_
    show Steps p.tables e below (s₁.setTop (mkF m 1 #[.val (.int p1), .val (.int p2), .val (.long q3), .second, .val (.int p4), .val (.long q5), .second, .val (.int p6), .val (.long q7), .second, .unset, .unset] [(.long (0 : Int64))])) _
    refine XS.lstore X0.here hx rfl (hb hby d8_1) rfl (l' := #[.val (.int p1), .val (.int p2), .val (.long q3), .second, .val (.int p4), .val (.long q5), .second, .val (.int p6), .val (.long q7), .second, .val (.long (0 : Int64)), .second]) rfl ?_
    show Steps p.tables e below (s₁.setTop (mkF m 3 #[.val (.int p1), .val (.int p2), .val (.long q3), .second, .val (.int p4), .val (.long q5), .second, .val (.int p6), .val (.long q7), .second, .val (.long (0 : Int64)), .second] [])) _
    refine XS.iloadN X0.here hx rfl (hb hby d8_3) rfl ?_
    show Steps p.tables e below (s₁.setTop (mkF m 4 #[.val (.int p1), .val (.int p2), .val (.long q3), .second, .val (.int p4), .val (.long q5), .second, .val (.int p6), .val (.long q7), .second, .val (.long (0 : Int64)), .second] [(.int p1)])) _
    refine XS.iloadN X0.here hx rfl (hb hby d8_4) rfl ?_
    show Steps p.tables e below (s₁.setTop (mkF m 5 #[.val (.int p1), .val (.int p2), .val (.long q3), .second, .val (.int p4), .val (.long q5), .second, .val (.int p6), .val (.long q7), .second, .val (.long (0 : Int64)), .second] [(.int p2), (.int p1)])) _
    refine XS.icmpNo X0.here hx rfl (hb hby d8_5) rfl (teq hc5).2 ?_
    show Steps p.tables e below (s₁.setTop (mkF m 8 #[.val (.int p1), .val (.int p2), .val (.long q3), .second, .val (.int p4), .val (.long q5), .second, .val (.int p6), .val (.long q7), .second, .val (.long (0 : Int64)), .second] [])) _
    refine XS.lload X0.here hx rfl (hb hby d8_8) rfl ?_
    show Steps p.tables e below (s₁.setTop (mkF m 10 #[.val (.int p1), .val (.int p2), .val (.long q3), .second, .val (.int p4), .val (.long q5), .second, .val (.int p6), .val (.long q7), .second, .val (.long (0 : Int64)), .second] [(.long (0 : Int64))])) _
    refine XS.lloadN X0.here hx rfl (hb hby d8_10) rfl ?_
    show Steps p.tables e below (s₁.setTop (mkF m 11 #[.val (.int p1), .val (.int p2), .val (.long q3), .second, .val (.int p4), .val (.long q5), .second, .val (.int p6), .val (.long q7), .second, .val (.long (0 : Int64)), .second] [(.long q3), (.long (0 : Int64))])) _
    refine XS.ladd X0.here hx rfl (hb hby d8_11) rfl ?_
    show Steps p.tables e below (s₁.setTop (mkF m 12 #[.val (.int p1), .val (.int p2), .val (.long q3), .second, .val (.int p4), .val (.long q5), .second, .val (.int p6), .val (.long q7), .second, .val (.long (0 : Int64)), .second] [(.long ((0 : Int64) + q3))])) _
    refine XS.lstore X0.here hx rfl (hb hby d8_12) rfl (l' := #[.val (.int p1), .val (.int p2), .val (.long q3), .second, .val (.int p4), .val (.long q5), .second, .val (.int p6), .val (.long q7), .second, .val (.long ((0 : Int64) + q3)), .second]) rfl ?_
    show Steps p.tables e below (s₁.setTop (mkF m 14 #[.val (.int p1), .val (.int p2), .val (.long q3), .second, .val (.int p4), .val (.long q5), .second, .val (.int p6), .val (.long q7), .second, .val (.long ((0 : Int64) + q3)), .second] [])) _
    refine XS.iloadN X0.here hx rfl (hb hby d8_14) rfl ?_
    show Steps p.tables e below (s₁.setTop (mkF m 15 #[.val (.int p1), .val (.int p2), .val (.long q3), .second, .val (.int p4), .val (.long q5), .second, .val (.int p6), .val (.long q7), .second, .val (.long ((0 : Int64) + q3)), .second] [(.int p1)])) _
    refine XS.iload X0.here hx rfl (hb hby d8_15) rfl ?_
    show Steps p.tables e below (s₁.setTop (mkF m 17 #[.val (.int p1), .val (.int p2), .val (.long q3), .second, .val (.int p4), .val (.long q5), .second, .val (.int p6), .val (.long q7), .second, .val (.long ((0 : Int64) + q3)), .second] [(.int p4), (.int p1)])) _
    refine XS.icmpNo X0.here hx rfl (hb hby d8_17) rfl (teq hc17).2 ?_
    show Steps p.tables e below (s₁.setTop (mkF m 20 #[.val (.int p1), .val (.int p2), .val (.long q3), .second, .val (.int p4), .val (.long q5), .second, .val (.int p6), .val (.long q7), .second, .val (.long ((0 : Int64) + q3)), .second] [])) _
    refine XS.lload X0.here hx rfl (hb hby d8_20) rfl ?_
    show Steps p.tables e below (s₁.setTop (mkF m 22 #[.val (.int p1), .val (.int p2), .val (.long q3), .second, .val (.int p4), .val (.long q5), .second, .val (.int p6), .val (.long q7), .second, .val (.long ((0 : Int64) + q3)), .second] [(.long ((0 : Int64) + q3))])) _
    refine XS.lload X0.here hx rfl (hb hby d8_22) rfl ?_
    show Steps p.tables e below (s₁.setTop (mkF m 24 #[.val (.int p1), .val (.int p2), .val (.long q3), .second, .val (.int p4), .val (.long q5), .second, .val (.int p6), .val (.long q7), .second, .val (.long ((0 : Int64) + q3)), .second] [(.long q5), (.long ((0 : Int64) + q3))])) _
    refine XS.ladd X0.here hx rfl (hb hby d8_24) rfl ?_
    show Steps p.tables e below (s₁.setTop (mkF m 25 #[.val (.int p1), .val (.int p2), .val (.long q3), .second, .val (.int p4), .val (.long q5), .second, .val (.int p6), .val (.long q7), .second, .val (.long ((0 : Int64) + q3)), .second] [(.long (((0 : Int64) + q3) + q5))])) _
    refine XS.lstore X0.here hx rfl (hb hby d8_25) rfl (l' := #[.val (.int p1), .val (.int p2), .val (.long q3), .second, .val (.int p4), .val (.long q5), .second, .val (.int p6), .val (.long q7), .second, .val (.long (((0 : Int64) + q3) + q5)), .second]) rfl ?_
    show Steps p.tables e below (s₁.setTop (mkF m 27 #[.val (.int p1), .val (.int p2), .val (.long q3), .second, .val (.int p4), .val (.long q5), .second, .val (.int p6), .val (.long q7), .second, .val (.long (((0 : Int64) + q3) + q5)), .second] [])) _
    refine XS.iloadN X0.here hx rfl (hb hby d8_27) rfl ?_
    show Steps p.tables e below (s₁.setTop (mkF m 28 #[.val (.int p1), .val (.int p2), .val (.long q3), .second, .val (.int p4), .val (.long q5), .second, .val (.int p6), .val (.long q7), .second, .val (.long (((0 : Int64) + q3) + q5)), .second] [(.int p1)])) _
    refine XS.iload X0.here hx rfl (hb hby d8_28) rfl ?_
    show Steps p.tables e below (s₁.setTop (mkF m 30 #[.val (.int p1), .val (.int p2), .val (.long q3), .second, .val (.int p4), .val (.long q5), .second, .val (.int p6), .val (.long q7), .second, .val (.long (((0 : Int64) + q3) + q5)), .second] [(.int p6), (.int p1)])) _
    refine XS.icmpNo X0.here hx rfl (hb hby d8_30) rfl (teq hc30).2 ?_
    show Steps p.tables e below (s₁.setTop (mkF m 33 #[.val (.int p1), .val (.int p2), .val (.long q3), .second, .val (.int p4), .val (.long q5), .second, .val (.int p6), .val (.long q7), .second, .val (.long (((0 : Int64) + q3) + q5)), .second] [])) _
    refine XS.lload X0.here hx rfl (hb hby d8_33) rfl ?_
    show Steps p.tables e below (s₁.setTop (mkF m 35 #[.val (.int p1), .val (.int p2), .val (.long q3), .second, .val (.int p4), .val (.long q5), .second, .val (.int p6), .val (.long q7), .second, .val (.long (((0 : Int64) + q3) + q5)), .second] [(.long (((0 : Int64) + q3) + q5))])) _
    refine XS.lload X0.here hx rfl (hb hby d8_35) rfl ?_
    show Steps p.tables e below (s₁.setTop (mkF m 37 #[.val (.int p1), .val (.int p2), .val (.long q3), .second, .val (.int p4), .val (.long q5), .second, .val (.int p6), .val (.long q7), .second, .val (.long (((0 : Int64) + q3) + q5)), .second] [(.long q7), (.long (((0 : Int64) + q3) + q5))])) _
    refine XS.ladd X0.here hx rfl (hb hby d8_37) rfl ?_
    show Steps p.tables e below (s₁.setTop (mkF m 38 #[.val (.int p1), .val (.int p2), .val (.long q3), .second, .val (.int p4), .val (.long q5), .second, .val (.int p6), .val (.long q7), .second, .val (.long (((0 : Int64) + q3) + q5)), .second] [(.long ((((0 : Int64) + q3) + q5) + q7))])) _
    refine XS.lstore X0.here hx rfl (hb hby d8_38) rfl (l' := #[.val (.int p1), .val (.int p2), .val (.long q3), .second, .val (.int p4), .val (.long q5), .second, .val (.int p6), .val (.long q7), .second, .val (.long ((((0 : Int64) + q3) + q5) + q7)), .second]) rfl ?_
    show Steps p.tables e below (s₁.setTop (mkF m 40 #[.val (.int p1), .val (.int p2), .val (.long q3), .second, .val (.int p4), .val (.long q5), .second, .val (.int p6), .val (.long q7), .second, .val (.long ((((0 : Int64) + q3) + q5) + q7)), .second] [])) _
    refine XS.lload X0.here hx rfl (hb hby d8_40) rfl ?_
    show Steps p.tables e below (s₁.setTop (mkF m 42 #[.val (.int p1), .val (.int p2), .val (.long q3), .second, .val (.int p4), .val (.long q5), .second, .val (.int p6), .val (.long q7), .second, .val (.long ((((0 : Int64) + q3) + q5) + q7)), .second] [(.long ((((0 : Int64) + q3) + q5) + q7))])) _
    exact retOut X0 hx Bd.returns rfl (Or.inr (Or.inl ⟨rfl, rfl, _, rfl⟩)) (hb hby d8_42) hr
  · show Q8 ((((0 : Int64) + q3) + q5) + q7) Z h0 n0 _ s₁.heap _
    rw [e0]
    exact ⟨rfl, N0, rfl⟩
set_option maxRecDepth 65536 in
set_option maxHeartbeats 40000000 in
theorem rm8tff (l : Launch) (Z : State) (a0 : Array Value) (hw : ∀ d ∈ tables_1, d.before a0 Z = true) (ws : List Jvm.Cond) (p1 : Int32) (p2 : Int32) (q3 : Int64) (p4 : Int32) (q5 : Int64) (p6 : Int32) (q7 : Int64) (h0 : Heap) (n0 : Nat) (Z0 : n0 ≤ h0.size) (hc5 : ¬ (p1 = p2)) (hc17 : p1 = p4) (hc30 : p1 = p6) :
    MetFree l (⟨"com/example/orgweave/orgweave/fhir/NodesAddPinLaw", "expected", "(IIJIJIJ)J"⟩ : MethodName) (head1 (Jvm.Cond.code (⟨"com/example/orgweave/orgweave/fhir/NodesAddPinLaw", "expected", "(IIJIJIJ)J"⟩ : MethodName) method_3_code 12 (some .long) :: ws) ({ frames := 0, cells := 0, slots := 0, locals := 0 } : Room)) (fun a U => a = #[(.int p1), (.int p2), (.long q3), (.int p4), (.long q5), (.int p6), (.long q7)] ∧ Z.Warmed39 U.vm ∧ U.heap = h0) (fun _ _ _ _ _ => True) (fun _ U o U' => ∃ v L, o = .returned v ∧ Q8 (((0 : Int64) + q5) + q7) Z h0 n0 v U'.heap L ∧ FrameEnd U o U' L ({ frames := 0, cells := 0, slots := 0, locals := 0 } : Room).cells ({ frames := 0, cells := 0, slots := 0, locals := 0 } : Room).slots) := by
  refine MetFree.of_bodySF (plainFor_of_name pn_8) hisR ?_
  intro p e s m args below meth c s₁ Bd hml0 hP hK
  obtain ⟨rfl, hZ, hh⟩ := hP
  have hx := Bd.exec
  have hby := Bd.bytes
  have hml : c.maxLocals = 12 := hml0
  have hown : s.vm.findClass "com/example/orgweave/orgweave/fhir/NodesAddPinLaw" = some m.cls := findClass_of_methodNamed Bd.named
  have hnm := (name_of_methodNamed Bd.named Bd.method).1
  have X0 : Stand p l e ({ frames := 0, cells := 0, slots := 0, locals := 0 } : Room) s m #[(.int p1), (.int p2), (.long q3), (.int p4), (.long q5), (.int p6), (.long q7)] below meth c s₁ [] 0 0 := Stand.of_body Bd
  have e0 : s₁.heap = h0 := by rw [← hh, Bd.state]; rfl
  have N0 := Fr.nil n0
  have pre0 : ∀ t, Steps p.tables e below (s₁.setTop (mkF m 0 #[.val (.int p1), .val (.int p2), .val (.long q3), .second, .val (.int p4), .val (.long q5), .second, .val (.int p6), .val (.long q7), .second, .unset, .unset] [])) t → Steps p.tables e below (s₁.setTop (entryFrame m #[(.int p1), (.int p2), (.long q3), (.int p4), (.long q5), (.int p6), (.long q7)] 12)) t := fun t k => castTop (ef_8 m p1 p2 q3 p4 q5 p6 q7) k
  -- 3. LAWS

  obtain ⟨fs, hr, hrun, hended, hW, hsame⟩ := X0.leave (v := some (.long (((0 : Int64) + q5) + q7))) (fun h => by rw [Bd.returns] at h; cases h)
  refine ⟨_, _, pre0 _ ?_, hrun, hended, _, _, rfl, ?_, ⟨_, rfl⟩, hW, hsame.mono (by decide) (by decide)⟩
  -- 4. STEPS
  · show Steps p.tables e below (s₁.setTop (mkF m 0 #[.val (.int p1), .val (.int p2), .val (.long q3), .second, .val (.int p4), .val (.long q5), .second, .val (.int p6), .val (.long q7), .second, .unset, .unset] [])) _
    refine XS.lconst X0.here hx rfl (hb hby d8_0) ?_
    show Steps p.tables e below (s₁.setTop (mkF m 1 #[.val (.int p1), .val (.int p2), .val (.long q3), .second, .val (.int p4), .val (.long q5), .second, .val (.int p6), .val (.long q7), .second, .unset, .unset] [(.long (0 : Int64))])) _
    refine XS.lstore X0.here hx rfl (hb hby d8_1) rfl (l' := #[.val (.int p1), .val (.int p2), .val (.long q3), .second, .val (.int p4), .val (.long q5), .second, .val (.int p6), .val (.long q7), .second, .val (.long (0 : Int64)), .second]) rfl ?_
    show Steps p.tables e below (s₁.setTop (mkF m 3 #[.val (.int p1), .val (.int p2), .val (.long q3), .second, .val (.int p4), .val (.long q5), .second, .val (.int p6), .val (.long q7), .second, .val (.long (0 : Int64)), .second] [])) _
    refine XS.iloadN X0.here hx rfl (hb hby d8_3) rfl ?_
    show Steps p.tables e below (s₁.setTop (mkF m 4 #[.val (.int p1), .val (.int p2), .val (.long q3), .second, .val (.int p4), .val (.long q5), .second, .val (.int p6), .val (.long q7), .second, .val (.long (0 : Int64)), .second] [(.int p1)])) _
    refine XS.iloadN X0.here hx rfl (hb hby d8_4) rfl ?_
    show Steps p.tables e below (s₁.setTop (mkF m 5 #[.val (.int p1), .val (.int p2), .val (.long q3), .second, .val (.int p4), .val (.long q5), .second, .val (.int p6), .val (.long q7), .second, .val (.long (0 : Int64)), .second] [(.int p2), (.int p1)])) _
    refine XS.icmpYes X0.here hx rfl (pc0 := 5) (pc' := 14) rfl (hb hby d8_5) rfl (feq hc5).2 (by decide) (by decide) ?_
    show Steps p.tables e below (s₁.setTop (mkF m 14 #[.val (.int p1), .val (.int p2), .val (.long q3), .second, .val (.int p4), .val (.long q5), .second, .val (.int p6), .val (.long q7), .second, .val (.long (0 : Int64)), .second] [])) _
    refine XS.iloadN X0.here hx rfl (hb hby d8_14) rfl ?_
    show Steps p.tables e below (s₁.setTop (mkF m 15 #[.val (.int p1), .val (.int p2), .val (.long q3), .second, .val (.int p4), .val (.long q5), .second, .val (.int p6), .val (.long q7), .second, .val (.long (0 : Int64)), .second] [(.int p1)])) _
    refine XS.iload X0.here hx rfl (hb hby d8_15) rfl ?_
    show Steps p.tables e below (s₁.setTop (mkF m 17 #[.val (.int p1), .val (.int p2), .val (.long q3), .second, .val (.int p4), .val (.long q5), .second, .val (.int p6), .val (.long q7), .second, .val (.long (0 : Int64)), .second] [(.int p4), (.int p1)])) _
    refine XS.icmpNo X0.here hx rfl (hb hby d8_17) rfl (teq hc17).2 ?_
    show Steps p.tables e below (s₁.setTop (mkF m 20 #[.val (.int p1), .val (.int p2), .val (.long q3), .second, .val (.int p4), .val (.long q5), .second, .val (.int p6), .val (.long q7), .second, .val (.long (0 : Int64)), .second] [])) _
    refine XS.lload X0.here hx rfl (hb hby d8_20) rfl ?_
    show Steps p.tables e below (s₁.setTop (mkF m 22 #[.val (.int p1), .val (.int p2), .val (.long q3), .second, .val (.int p4), .val (.long q5), .second, .val (.int p6), .val (.long q7), .second, .val (.long (0 : Int64)), .second] [(.long (0 : Int64))])) _
    refine XS.lload X0.here hx rfl (hb hby d8_22) rfl ?_
    show Steps p.tables e below (s₁.setTop (mkF m 24 #[.val (.int p1), .val (.int p2), .val (.long q3), .second, .val (.int p4), .val (.long q5), .second, .val (.int p6), .val (.long q7), .second, .val (.long (0 : Int64)), .second] [(.long q5), (.long (0 : Int64))])) _
    refine XS.ladd X0.here hx rfl (hb hby d8_24) rfl ?_
    show Steps p.tables e below (s₁.setTop (mkF m 25 #[.val (.int p1), .val (.int p2), .val (.long q3), .second, .val (.int p4), .val (.long q5), .second, .val (.int p6), .val (.long q7), .second, .val (.long (0 : Int64)), .second] [(.long ((0 : Int64) + q5))])) _
    refine XS.lstore X0.here hx rfl (hb hby d8_25) rfl (l' := #[.val (.int p1), .val (.int p2), .val (.long q3), .second, .val (.int p4), .val (.long q5), .second, .val (.int p6), .val (.long q7), .second, .val (.long ((0 : Int64) + q5)), .second]) rfl ?_
    show Steps p.tables e below (s₁.setTop (mkF m 27 #[.val (.int p1), .val (.int p2), .val (.long q3), .second, .val (.int p4), .val (.long q5), .second, .val (.int p6), .val (.long q7), .second, .val (.long ((0 : Int64) + q5)), .second] [])) _
    refine XS.iloadN X0.here hx rfl (hb hby d8_27) rfl ?_
    show Steps p.tables e below (s₁.setTop (mkF m 28 #[.val (.int p1), .val (.int p2), .val (.long q3), .second, .val (.int p4), .val (.long q5), .second, .val (.int p6), .val (.long q7), .second, .val (.long ((0 : Int64) + q5)), .second] [(.int p1)])) _
    refine XS.iload X0.here hx rfl (hb hby d8_28) rfl ?_
    show Steps p.tables e below (s₁.setTop (mkF m 30 #[.val (.int p1), .val (.int p2), .val (.long q3), .second, .val (.int p4), .val (.long q5), .second, .val (.int p6), .val (.long q7), .second, .val (.long ((0 : Int64) + q5)), .second] [(.int p6), (.int p1)])) _
    refine XS.icmpNo X0.here hx rfl (hb hby d8_30) rfl (teq hc30).2 ?_
    show Steps p.tables e below (s₁.setTop (mkF m 33 #[.val (.int p1), .val (.int p2), .val (.long q3), .second, .val (.int p4), .val (.long q5), .second, .val (.int p6), .val (.long q7), .second, .val (.long ((0 : Int64) + q5)), .second] [])) _
    refine XS.lload X0.here hx rfl (hb hby d8_33) rfl ?_
    show Steps p.tables e below (s₁.setTop (mkF m 35 #[.val (.int p1), .val (.int p2), .val (.long q3), .second, .val (.int p4), .val (.long q5), .second, .val (.int p6), .val (.long q7), .second, .val (.long ((0 : Int64) + q5)), .second] [(.long ((0 : Int64) + q5))])) _
    refine XS.lload X0.here hx rfl (hb hby d8_35) rfl ?_
    show Steps p.tables e below (s₁.setTop (mkF m 37 #[.val (.int p1), .val (.int p2), .val (.long q3), .second, .val (.int p4), .val (.long q5), .second, .val (.int p6), .val (.long q7), .second, .val (.long ((0 : Int64) + q5)), .second] [(.long q7), (.long ((0 : Int64) + q5))])) _
    refine XS.ladd X0.here hx rfl (hb hby d8_37) rfl ?_
    show Steps p.tables e below (s₁.setTop (mkF m 38 #[.val (.int p1), .val (.int p2), .val (.long q3), .second, .val (.int p4), .val (.long q5), .second, .val (.int p6), .val (.long q7), .second, .val (.long ((0 : Int64) + q5)), .second] [(.long (((0 : Int64) + q5) + q7))])) _
    refine XS.lstore X0.here hx rfl (hb hby d8_38) rfl (l' := #[.val (.int p1), .val (.int p2), .val (.long q3), .second, .val (.int p4), .val (.long q5), .second, .val (.int p6), .val (.long q7), .second, .val (.long (((0 : Int64) + q5) + q7)), .second]) rfl ?_
    show Steps p.tables e below (s₁.setTop (mkF m 40 #[.val (.int p1), .val (.int p2), .val (.long q3), .second, .val (.int p4), .val (.long q5), .second, .val (.int p6), .val (.long q7), .second, .val (.long (((0 : Int64) + q5) + q7)), .second] [])) _
    refine XS.lload X0.here hx rfl (hb hby d8_40) rfl ?_
    show Steps p.tables e below (s₁.setTop (mkF m 42 #[.val (.int p1), .val (.int p2), .val (.long q3), .second, .val (.int p4), .val (.long q5), .second, .val (.int p6), .val (.long q7), .second, .val (.long (((0 : Int64) + q5) + q7)), .second] [(.long (((0 : Int64) + q5) + q7))])) _
    exact retOut X0 hx Bd.returns rfl (Or.inr (Or.inl ⟨rfl, rfl, _, rfl⟩)) (hb hby d8_42) hr
  · show Q8 (((0 : Int64) + q5) + q7) Z h0 n0 _ s₁.heap _
    rw [e0]
    exact ⟨rfl, N0, rfl⟩
set_option maxRecDepth 65536 in
set_option maxHeartbeats 40000000 in
theorem rm8ftf (l : Launch) (Z : State) (a0 : Array Value) (hw : ∀ d ∈ tables_1, d.before a0 Z = true) (ws : List Jvm.Cond) (p1 : Int32) (p2 : Int32) (q3 : Int64) (p4 : Int32) (q5 : Int64) (p6 : Int32) (q7 : Int64) (h0 : Heap) (n0 : Nat) (Z0 : n0 ≤ h0.size) (hc5 : p1 = p2) (hc17 : ¬ (p1 = p4)) (hc30 : p1 = p6) :
    MetFree l (⟨"com/example/orgweave/orgweave/fhir/NodesAddPinLaw", "expected", "(IIJIJIJ)J"⟩ : MethodName) (head1 (Jvm.Cond.code (⟨"com/example/orgweave/orgweave/fhir/NodesAddPinLaw", "expected", "(IIJIJIJ)J"⟩ : MethodName) method_3_code 12 (some .long) :: ws) ({ frames := 0, cells := 0, slots := 0, locals := 0 } : Room)) (fun a U => a = #[(.int p1), (.int p2), (.long q3), (.int p4), (.long q5), (.int p6), (.long q7)] ∧ Z.Warmed39 U.vm ∧ U.heap = h0) (fun _ _ _ _ _ => True) (fun _ U o U' => ∃ v L, o = .returned v ∧ Q8 (((0 : Int64) + q3) + q7) Z h0 n0 v U'.heap L ∧ FrameEnd U o U' L ({ frames := 0, cells := 0, slots := 0, locals := 0 } : Room).cells ({ frames := 0, cells := 0, slots := 0, locals := 0 } : Room).slots) := by
  refine MetFree.of_bodySF (plainFor_of_name pn_8) hisR ?_
  intro p e s m args below meth c s₁ Bd hml0 hP hK
  obtain ⟨rfl, hZ, hh⟩ := hP
  have hx := Bd.exec
  have hby := Bd.bytes
  have hml : c.maxLocals = 12 := hml0
  have hown : s.vm.findClass "com/example/orgweave/orgweave/fhir/NodesAddPinLaw" = some m.cls := findClass_of_methodNamed Bd.named
  have hnm := (name_of_methodNamed Bd.named Bd.method).1
  have X0 : Stand p l e ({ frames := 0, cells := 0, slots := 0, locals := 0 } : Room) s m #[(.int p1), (.int p2), (.long q3), (.int p4), (.long q5), (.int p6), (.long q7)] below meth c s₁ [] 0 0 := Stand.of_body Bd
  have e0 : s₁.heap = h0 := by rw [← hh, Bd.state]; rfl
  have N0 := Fr.nil n0
  have pre0 : ∀ t, Steps p.tables e below (s₁.setTop (mkF m 0 #[.val (.int p1), .val (.int p2), .val (.long q3), .second, .val (.int p4), .val (.long q5), .second, .val (.int p6), .val (.long q7), .second, .unset, .unset] [])) t → Steps p.tables e below (s₁.setTop (entryFrame m #[(.int p1), (.int p2), (.long q3), (.int p4), (.long q5), (.int p6), (.long q7)] 12)) t := fun t k => castTop (ef_8 m p1 p2 q3 p4 q5 p6 q7) k
  -- 3. LAWS

  obtain ⟨fs, hr, hrun, hended, hW, hsame⟩ := X0.leave (v := some (.long (((0 : Int64) + q3) + q7))) (fun h => by rw [Bd.returns] at h; cases h)
  refine ⟨_, _, pre0 _ ?_, hrun, hended, _, _, rfl, ?_, ⟨_, rfl⟩, hW, hsame.mono (by decide) (by decide)⟩
  -- 4. STEPS
  · show Steps p.tables e below (s₁.setTop (mkF m 0 #[.val (.int p1), .val (.int p2), .val (.long q3), .second, .val (.int p4), .val (.long q5), .second, .val (.int p6), .val (.long q7), .second, .unset, .unset] [])) _
    refine XS.lconst X0.here hx rfl (hb hby d8_0) ?_
    show Steps p.tables e below (s₁.setTop (mkF m 1 #[.val (.int p1), .val (.int p2), .val (.long q3), .second, .val (.int p4), .val (.long q5), .second, .val (.int p6), .val (.long q7), .second, .unset, .unset] [(.long (0 : Int64))])) _
    refine XS.lstore X0.here hx rfl (hb hby d8_1) rfl (l' := #[.val (.int p1), .val (.int p2), .val (.long q3), .second, .val (.int p4), .val (.long q5), .second, .val (.int p6), .val (.long q7), .second, .val (.long (0 : Int64)), .second]) rfl ?_
    show Steps p.tables e below (s₁.setTop (mkF m 3 #[.val (.int p1), .val (.int p2), .val (.long q3), .second, .val (.int p4), .val (.long q5), .second, .val (.int p6), .val (.long q7), .second, .val (.long (0 : Int64)), .second] [])) _
    refine XS.iloadN X0.here hx rfl (hb hby d8_3) rfl ?_
    show Steps p.tables e below (s₁.setTop (mkF m 4 #[.val (.int p1), .val (.int p2), .val (.long q3), .second, .val (.int p4), .val (.long q5), .second, .val (.int p6), .val (.long q7), .second, .val (.long (0 : Int64)), .second] [(.int p1)])) _
    refine XS.iloadN X0.here hx rfl (hb hby d8_4) rfl ?_
    show Steps p.tables e below (s₁.setTop (mkF m 5 #[.val (.int p1), .val (.int p2), .val (.long q3), .second, .val (.int p4), .val (.long q5), .second, .val (.int p6), .val (.long q7), .second, .val (.long (0 : Int64)), .second] [(.int p2), (.int p1)])) _
    refine XS.icmpNo X0.here hx rfl (hb hby d8_5) rfl (teq hc5).2 ?_
    show Steps p.tables e below (s₁.setTop (mkF m 8 #[.val (.int p1), .val (.int p2), .val (.long q3), .second, .val (.int p4), .val (.long q5), .second, .val (.int p6), .val (.long q7), .second, .val (.long (0 : Int64)), .second] [])) _
    refine XS.lload X0.here hx rfl (hb hby d8_8) rfl ?_
    show Steps p.tables e below (s₁.setTop (mkF m 10 #[.val (.int p1), .val (.int p2), .val (.long q3), .second, .val (.int p4), .val (.long q5), .second, .val (.int p6), .val (.long q7), .second, .val (.long (0 : Int64)), .second] [(.long (0 : Int64))])) _
    refine XS.lloadN X0.here hx rfl (hb hby d8_10) rfl ?_
    show Steps p.tables e below (s₁.setTop (mkF m 11 #[.val (.int p1), .val (.int p2), .val (.long q3), .second, .val (.int p4), .val (.long q5), .second, .val (.int p6), .val (.long q7), .second, .val (.long (0 : Int64)), .second] [(.long q3), (.long (0 : Int64))])) _
    refine XS.ladd X0.here hx rfl (hb hby d8_11) rfl ?_
    show Steps p.tables e below (s₁.setTop (mkF m 12 #[.val (.int p1), .val (.int p2), .val (.long q3), .second, .val (.int p4), .val (.long q5), .second, .val (.int p6), .val (.long q7), .second, .val (.long (0 : Int64)), .second] [(.long ((0 : Int64) + q3))])) _
    refine XS.lstore X0.here hx rfl (hb hby d8_12) rfl (l' := #[.val (.int p1), .val (.int p2), .val (.long q3), .second, .val (.int p4), .val (.long q5), .second, .val (.int p6), .val (.long q7), .second, .val (.long ((0 : Int64) + q3)), .second]) rfl ?_
    show Steps p.tables e below (s₁.setTop (mkF m 14 #[.val (.int p1), .val (.int p2), .val (.long q3), .second, .val (.int p4), .val (.long q5), .second, .val (.int p6), .val (.long q7), .second, .val (.long ((0 : Int64) + q3)), .second] [])) _
    refine XS.iloadN X0.here hx rfl (hb hby d8_14) rfl ?_
    show Steps p.tables e below (s₁.setTop (mkF m 15 #[.val (.int p1), .val (.int p2), .val (.long q3), .second, .val (.int p4), .val (.long q5), .second, .val (.int p6), .val (.long q7), .second, .val (.long ((0 : Int64) + q3)), .second] [(.int p1)])) _
    refine XS.iload X0.here hx rfl (hb hby d8_15) rfl ?_
    show Steps p.tables e below (s₁.setTop (mkF m 17 #[.val (.int p1), .val (.int p2), .val (.long q3), .second, .val (.int p4), .val (.long q5), .second, .val (.int p6), .val (.long q7), .second, .val (.long ((0 : Int64) + q3)), .second] [(.int p4), (.int p1)])) _
    refine XS.icmpYes X0.here hx rfl (pc0 := 17) (pc' := 27) rfl (hb hby d8_17) rfl (feq hc17).2 (by decide) (by decide) ?_
    show Steps p.tables e below (s₁.setTop (mkF m 27 #[.val (.int p1), .val (.int p2), .val (.long q3), .second, .val (.int p4), .val (.long q5), .second, .val (.int p6), .val (.long q7), .second, .val (.long ((0 : Int64) + q3)), .second] [])) _
    refine XS.iloadN X0.here hx rfl (hb hby d8_27) rfl ?_
    show Steps p.tables e below (s₁.setTop (mkF m 28 #[.val (.int p1), .val (.int p2), .val (.long q3), .second, .val (.int p4), .val (.long q5), .second, .val (.int p6), .val (.long q7), .second, .val (.long ((0 : Int64) + q3)), .second] [(.int p1)])) _
    refine XS.iload X0.here hx rfl (hb hby d8_28) rfl ?_
    show Steps p.tables e below (s₁.setTop (mkF m 30 #[.val (.int p1), .val (.int p2), .val (.long q3), .second, .val (.int p4), .val (.long q5), .second, .val (.int p6), .val (.long q7), .second, .val (.long ((0 : Int64) + q3)), .second] [(.int p6), (.int p1)])) _
    refine XS.icmpNo X0.here hx rfl (hb hby d8_30) rfl (teq hc30).2 ?_
    show Steps p.tables e below (s₁.setTop (mkF m 33 #[.val (.int p1), .val (.int p2), .val (.long q3), .second, .val (.int p4), .val (.long q5), .second, .val (.int p6), .val (.long q7), .second, .val (.long ((0 : Int64) + q3)), .second] [])) _
    refine XS.lload X0.here hx rfl (hb hby d8_33) rfl ?_
    show Steps p.tables e below (s₁.setTop (mkF m 35 #[.val (.int p1), .val (.int p2), .val (.long q3), .second, .val (.int p4), .val (.long q5), .second, .val (.int p6), .val (.long q7), .second, .val (.long ((0 : Int64) + q3)), .second] [(.long ((0 : Int64) + q3))])) _
    refine XS.lload X0.here hx rfl (hb hby d8_35) rfl ?_
    show Steps p.tables e below (s₁.setTop (mkF m 37 #[.val (.int p1), .val (.int p2), .val (.long q3), .second, .val (.int p4), .val (.long q5), .second, .val (.int p6), .val (.long q7), .second, .val (.long ((0 : Int64) + q3)), .second] [(.long q7), (.long ((0 : Int64) + q3))])) _
    refine XS.ladd X0.here hx rfl (hb hby d8_37) rfl ?_
    show Steps p.tables e below (s₁.setTop (mkF m 38 #[.val (.int p1), .val (.int p2), .val (.long q3), .second, .val (.int p4), .val (.long q5), .second, .val (.int p6), .val (.long q7), .second, .val (.long ((0 : Int64) + q3)), .second] [(.long (((0 : Int64) + q3) + q7))])) _
    refine XS.lstore X0.here hx rfl (hb hby d8_38) rfl (l' := #[.val (.int p1), .val (.int p2), .val (.long q3), .second, .val (.int p4), .val (.long q5), .second, .val (.int p6), .val (.long q7), .second, .val (.long (((0 : Int64) + q3) + q7)), .second]) rfl ?_
    show Steps p.tables e below (s₁.setTop (mkF m 40 #[.val (.int p1), .val (.int p2), .val (.long q3), .second, .val (.int p4), .val (.long q5), .second, .val (.int p6), .val (.long q7), .second, .val (.long (((0 : Int64) + q3) + q7)), .second] [])) _
    refine XS.lload X0.here hx rfl (hb hby d8_40) rfl ?_
    show Steps p.tables e below (s₁.setTop (mkF m 42 #[.val (.int p1), .val (.int p2), .val (.long q3), .second, .val (.int p4), .val (.long q5), .second, .val (.int p6), .val (.long q7), .second, .val (.long (((0 : Int64) + q3) + q7)), .second] [(.long (((0 : Int64) + q3) + q7))])) _
    exact retOut X0 hx Bd.returns rfl (Or.inr (Or.inl ⟨rfl, rfl, _, rfl⟩)) (hb hby d8_42) hr
  · show Q8 (((0 : Int64) + q3) + q7) Z h0 n0 _ s₁.heap _
    rw [e0]
    exact ⟨rfl, N0, rfl⟩
set_option maxRecDepth 65536 in
set_option maxHeartbeats 40000000 in
theorem rm8ttf (l : Launch) (Z : State) (a0 : Array Value) (hw : ∀ d ∈ tables_1, d.before a0 Z = true) (ws : List Jvm.Cond) (p1 : Int32) (p2 : Int32) (q3 : Int64) (p4 : Int32) (q5 : Int64) (p6 : Int32) (q7 : Int64) (h0 : Heap) (n0 : Nat) (Z0 : n0 ≤ h0.size) (hc5 : ¬ (p1 = p2)) (hc17 : ¬ (p1 = p4)) (hc30 : p1 = p6) :
    MetFree l (⟨"com/example/orgweave/orgweave/fhir/NodesAddPinLaw", "expected", "(IIJIJIJ)J"⟩ : MethodName) (head1 (Jvm.Cond.code (⟨"com/example/orgweave/orgweave/fhir/NodesAddPinLaw", "expected", "(IIJIJIJ)J"⟩ : MethodName) method_3_code 12 (some .long) :: ws) ({ frames := 0, cells := 0, slots := 0, locals := 0 } : Room)) (fun a U => a = #[(.int p1), (.int p2), (.long q3), (.int p4), (.long q5), (.int p6), (.long q7)] ∧ Z.Warmed39 U.vm ∧ U.heap = h0) (fun _ _ _ _ _ => True) (fun _ U o U' => ∃ v L, o = .returned v ∧ Q8 ((0 : Int64) + q7) Z h0 n0 v U'.heap L ∧ FrameEnd U o U' L ({ frames := 0, cells := 0, slots := 0, locals := 0 } : Room).cells ({ frames := 0, cells := 0, slots := 0, locals := 0 } : Room).slots) := by
  refine MetFree.of_bodySF (plainFor_of_name pn_8) hisR ?_
  intro p e s m args below meth c s₁ Bd hml0 hP hK
  obtain ⟨rfl, hZ, hh⟩ := hP
  have hx := Bd.exec
  have hby := Bd.bytes
  have hml : c.maxLocals = 12 := hml0
  have hown : s.vm.findClass "com/example/orgweave/orgweave/fhir/NodesAddPinLaw" = some m.cls := findClass_of_methodNamed Bd.named
  have hnm := (name_of_methodNamed Bd.named Bd.method).1
  have X0 : Stand p l e ({ frames := 0, cells := 0, slots := 0, locals := 0 } : Room) s m #[(.int p1), (.int p2), (.long q3), (.int p4), (.long q5), (.int p6), (.long q7)] below meth c s₁ [] 0 0 := Stand.of_body Bd
  have e0 : s₁.heap = h0 := by rw [← hh, Bd.state]; rfl
  have N0 := Fr.nil n0
  have pre0 : ∀ t, Steps p.tables e below (s₁.setTop (mkF m 0 #[.val (.int p1), .val (.int p2), .val (.long q3), .second, .val (.int p4), .val (.long q5), .second, .val (.int p6), .val (.long q7), .second, .unset, .unset] [])) t → Steps p.tables e below (s₁.setTop (entryFrame m #[(.int p1), (.int p2), (.long q3), (.int p4), (.long q5), (.int p6), (.long q7)] 12)) t := fun t k => castTop (ef_8 m p1 p2 q3 p4 q5 p6 q7) k
  -- 3. LAWS

  obtain ⟨fs, hr, hrun, hended, hW, hsame⟩ := X0.leave (v := some (.long ((0 : Int64) + q7))) (fun h => by rw [Bd.returns] at h; cases h)
  refine ⟨_, _, pre0 _ ?_, hrun, hended, _, _, rfl, ?_, ⟨_, rfl⟩, hW, hsame.mono (by decide) (by decide)⟩
  -- 4. STEPS
  · show Steps p.tables e below (s₁.setTop (mkF m 0 #[.val (.int p1), .val (.int p2), .val (.long q3), .second, .val (.int p4), .val (.long q5), .second, .val (.int p6), .val (.long q7), .second, .unset, .unset] [])) _
    refine XS.lconst X0.here hx rfl (hb hby d8_0) ?_
    show Steps p.tables e below (s₁.setTop (mkF m 1 #[.val (.int p1), .val (.int p2), .val (.long q3), .second, .val (.int p4), .val (.long q5), .second, .val (.int p6), .val (.long q7), .second, .unset, .unset] [(.long (0 : Int64))])) _
    refine XS.lstore X0.here hx rfl (hb hby d8_1) rfl (l' := #[.val (.int p1), .val (.int p2), .val (.long q3), .second, .val (.int p4), .val (.long q5), .second, .val (.int p6), .val (.long q7), .second, .val (.long (0 : Int64)), .second]) rfl ?_
    show Steps p.tables e below (s₁.setTop (mkF m 3 #[.val (.int p1), .val (.int p2), .val (.long q3), .second, .val (.int p4), .val (.long q5), .second, .val (.int p6), .val (.long q7), .second, .val (.long (0 : Int64)), .second] [])) _
    refine XS.iloadN X0.here hx rfl (hb hby d8_3) rfl ?_
    show Steps p.tables e below (s₁.setTop (mkF m 4 #[.val (.int p1), .val (.int p2), .val (.long q3), .second, .val (.int p4), .val (.long q5), .second, .val (.int p6), .val (.long q7), .second, .val (.long (0 : Int64)), .second] [(.int p1)])) _
    refine XS.iloadN X0.here hx rfl (hb hby d8_4) rfl ?_
    show Steps p.tables e below (s₁.setTop (mkF m 5 #[.val (.int p1), .val (.int p2), .val (.long q3), .second, .val (.int p4), .val (.long q5), .second, .val (.int p6), .val (.long q7), .second, .val (.long (0 : Int64)), .second] [(.int p2), (.int p1)])) _
    refine XS.icmpYes X0.here hx rfl (pc0 := 5) (pc' := 14) rfl (hb hby d8_5) rfl (feq hc5).2 (by decide) (by decide) ?_
    show Steps p.tables e below (s₁.setTop (mkF m 14 #[.val (.int p1), .val (.int p2), .val (.long q3), .second, .val (.int p4), .val (.long q5), .second, .val (.int p6), .val (.long q7), .second, .val (.long (0 : Int64)), .second] [])) _
    refine XS.iloadN X0.here hx rfl (hb hby d8_14) rfl ?_
    show Steps p.tables e below (s₁.setTop (mkF m 15 #[.val (.int p1), .val (.int p2), .val (.long q3), .second, .val (.int p4), .val (.long q5), .second, .val (.int p6), .val (.long q7), .second, .val (.long (0 : Int64)), .second] [(.int p1)])) _
    refine XS.iload X0.here hx rfl (hb hby d8_15) rfl ?_
    show Steps p.tables e below (s₁.setTop (mkF m 17 #[.val (.int p1), .val (.int p2), .val (.long q3), .second, .val (.int p4), .val (.long q5), .second, .val (.int p6), .val (.long q7), .second, .val (.long (0 : Int64)), .second] [(.int p4), (.int p1)])) _
    refine XS.icmpYes X0.here hx rfl (pc0 := 17) (pc' := 27) rfl (hb hby d8_17) rfl (feq hc17).2 (by decide) (by decide) ?_
    show Steps p.tables e below (s₁.setTop (mkF m 27 #[.val (.int p1), .val (.int p2), .val (.long q3), .second, .val (.int p4), .val (.long q5), .second, .val (.int p6), .val (.long q7), .second, .val (.long (0 : Int64)), .second] [])) _
    refine XS.iloadN X0.here hx rfl (hb hby d8_27) rfl ?_
    show Steps p.tables e below (s₁.setTop (mkF m 28 #[.val (.int p1), .val (.int p2), .val (.long q3), .second, .val (.int p4), .val (.long q5), .second, .val (.int p6), .val (.long q7), .second, .val (.long (0 : Int64)), .second] [(.int p1)])) _
    refine XS.iload X0.here hx rfl (hb hby d8_28) rfl ?_
    show Steps p.tables e below (s₁.setTop (mkF m 30 #[.val (.int p1), .val (.int p2), .val (.long q3), .second, .val (.int p4), .val (.long q5), .second, .val (.int p6), .val (.long q7), .second, .val (.long (0 : Int64)), .second] [(.int p6), (.int p1)])) _
    refine XS.icmpNo X0.here hx rfl (hb hby d8_30) rfl (teq hc30).2 ?_
    show Steps p.tables e below (s₁.setTop (mkF m 33 #[.val (.int p1), .val (.int p2), .val (.long q3), .second, .val (.int p4), .val (.long q5), .second, .val (.int p6), .val (.long q7), .second, .val (.long (0 : Int64)), .second] [])) _
    refine XS.lload X0.here hx rfl (hb hby d8_33) rfl ?_
    show Steps p.tables e below (s₁.setTop (mkF m 35 #[.val (.int p1), .val (.int p2), .val (.long q3), .second, .val (.int p4), .val (.long q5), .second, .val (.int p6), .val (.long q7), .second, .val (.long (0 : Int64)), .second] [(.long (0 : Int64))])) _
    refine XS.lload X0.here hx rfl (hb hby d8_35) rfl ?_
    show Steps p.tables e below (s₁.setTop (mkF m 37 #[.val (.int p1), .val (.int p2), .val (.long q3), .second, .val (.int p4), .val (.long q5), .second, .val (.int p6), .val (.long q7), .second, .val (.long (0 : Int64)), .second] [(.long q7), (.long (0 : Int64))])) _
    refine XS.ladd X0.here hx rfl (hb hby d8_37) rfl ?_
    show Steps p.tables e below (s₁.setTop (mkF m 38 #[.val (.int p1), .val (.int p2), .val (.long q3), .second, .val (.int p4), .val (.long q5), .second, .val (.int p6), .val (.long q7), .second, .val (.long (0 : Int64)), .second] [(.long ((0 : Int64) + q7))])) _
    refine XS.lstore X0.here hx rfl (hb hby d8_38) rfl (l' := #[.val (.int p1), .val (.int p2), .val (.long q3), .second, .val (.int p4), .val (.long q5), .second, .val (.int p6), .val (.long q7), .second, .val (.long ((0 : Int64) + q7)), .second]) rfl ?_
    show Steps p.tables e below (s₁.setTop (mkF m 40 #[.val (.int p1), .val (.int p2), .val (.long q3), .second, .val (.int p4), .val (.long q5), .second, .val (.int p6), .val (.long q7), .second, .val (.long ((0 : Int64) + q7)), .second] [])) _
    refine XS.lload X0.here hx rfl (hb hby d8_40) rfl ?_
    show Steps p.tables e below (s₁.setTop (mkF m 42 #[.val (.int p1), .val (.int p2), .val (.long q3), .second, .val (.int p4), .val (.long q5), .second, .val (.int p6), .val (.long q7), .second, .val (.long ((0 : Int64) + q7)), .second] [(.long ((0 : Int64) + q7))])) _
    exact retOut X0 hx Bd.returns rfl (Or.inr (Or.inl ⟨rfl, rfl, _, rfl⟩)) (hb hby d8_42) hr
  · show Q8 ((0 : Int64) + q7) Z h0 n0 _ s₁.heap _
    rw [e0]
    exact ⟨rfl, N0, rfl⟩
set_option maxRecDepth 65536 in
set_option maxHeartbeats 40000000 in
theorem rm8fft (l : Launch) (Z : State) (a0 : Array Value) (hw : ∀ d ∈ tables_1, d.before a0 Z = true) (ws : List Jvm.Cond) (p1 : Int32) (p2 : Int32) (q3 : Int64) (p4 : Int32) (q5 : Int64) (p6 : Int32) (q7 : Int64) (h0 : Heap) (n0 : Nat) (Z0 : n0 ≤ h0.size) (hc5 : p1 = p2) (hc17 : p1 = p4) (hc30 : ¬ (p1 = p6)) :
    MetFree l (⟨"com/example/orgweave/orgweave/fhir/NodesAddPinLaw", "expected", "(IIJIJIJ)J"⟩ : MethodName) (head1 (Jvm.Cond.code (⟨"com/example/orgweave/orgweave/fhir/NodesAddPinLaw", "expected", "(IIJIJIJ)J"⟩ : MethodName) method_3_code 12 (some .long) :: ws) ({ frames := 0, cells := 0, slots := 0, locals := 0 } : Room)) (fun a U => a = #[(.int p1), (.int p2), (.long q3), (.int p4), (.long q5), (.int p6), (.long q7)] ∧ Z.Warmed39 U.vm ∧ U.heap = h0) (fun _ _ _ _ _ => True) (fun _ U o U' => ∃ v L, o = .returned v ∧ Q8 (((0 : Int64) + q3) + q5) Z h0 n0 v U'.heap L ∧ FrameEnd U o U' L ({ frames := 0, cells := 0, slots := 0, locals := 0 } : Room).cells ({ frames := 0, cells := 0, slots := 0, locals := 0 } : Room).slots) := by
  refine MetFree.of_bodySF (plainFor_of_name pn_8) hisR ?_
  intro p e s m args below meth c s₁ Bd hml0 hP hK
  obtain ⟨rfl, hZ, hh⟩ := hP
  have hx := Bd.exec
  have hby := Bd.bytes
  have hml : c.maxLocals = 12 := hml0
  have hown : s.vm.findClass "com/example/orgweave/orgweave/fhir/NodesAddPinLaw" = some m.cls := findClass_of_methodNamed Bd.named
  have hnm := (name_of_methodNamed Bd.named Bd.method).1
  have X0 : Stand p l e ({ frames := 0, cells := 0, slots := 0, locals := 0 } : Room) s m #[(.int p1), (.int p2), (.long q3), (.int p4), (.long q5), (.int p6), (.long q7)] below meth c s₁ [] 0 0 := Stand.of_body Bd
  have e0 : s₁.heap = h0 := by rw [← hh, Bd.state]; rfl
  have N0 := Fr.nil n0
  have pre0 : ∀ t, Steps p.tables e below (s₁.setTop (mkF m 0 #[.val (.int p1), .val (.int p2), .val (.long q3), .second, .val (.int p4), .val (.long q5), .second, .val (.int p6), .val (.long q7), .second, .unset, .unset] [])) t → Steps p.tables e below (s₁.setTop (entryFrame m #[(.int p1), (.int p2), (.long q3), (.int p4), (.long q5), (.int p6), (.long q7)] 12)) t := fun t k => castTop (ef_8 m p1 p2 q3 p4 q5 p6 q7) k
  -- 3. LAWS

  obtain ⟨fs, hr, hrun, hended, hW, hsame⟩ := X0.leave (v := some (.long (((0 : Int64) + q3) + q5))) (fun h => by rw [Bd.returns] at h; cases h)
  refine ⟨_, _, pre0 _ ?_, hrun, hended, _, _, rfl, ?_, ⟨_, rfl⟩, hW, hsame.mono (by decide) (by decide)⟩
  -- 4. STEPS
  · show Steps p.tables e below (s₁.setTop (mkF m 0 #[.val (.int p1), .val (.int p2), .val (.long q3), .second, .val (.int p4), .val (.long q5), .second, .val (.int p6), .val (.long q7), .second, .unset, .unset] [])) _
    refine XS.lconst X0.here hx rfl (hb hby d8_0) ?_
    show Steps p.tables e below (s₁.setTop (mkF m 1 #[.val (.int p1), .val (.int p2), .val (.long q3), .second, .val (.int p4), .val (.long q5), .second, .val (.int p6), .val (.long q7), .second, .unset, .unset] [(.long (0 : Int64))])) _
    refine XS.lstore X0.here hx rfl (hb hby d8_1) rfl (l' := #[.val (.int p1), .val (.int p2), .val (.long q3), .second, .val (.int p4), .val (.long q5), .second, .val (.int p6), .val (.long q7), .second, .val (.long (0 : Int64)), .second]) rfl ?_
    show Steps p.tables e below (s₁.setTop (mkF m 3 #[.val (.int p1), .val (.int p2), .val (.long q3), .second, .val (.int p4), .val (.long q5), .second, .val (.int p6), .val (.long q7), .second, .val (.long (0 : Int64)), .second] [])) _
    refine XS.iloadN X0.here hx rfl (hb hby d8_3) rfl ?_
    show Steps p.tables e below (s₁.setTop (mkF m 4 #[.val (.int p1), .val (.int p2), .val (.long q3), .second, .val (.int p4), .val (.long q5), .second, .val (.int p6), .val (.long q7), .second, .val (.long (0 : Int64)), .second] [(.int p1)])) _
    refine XS.iloadN X0.here hx rfl (hb hby d8_4) rfl ?_
    show Steps p.tables e below (s₁.setTop (mkF m 5 #[.val (.int p1), .val (.int p2), .val (.long q3), .second, .val (.int p4), .val (.long q5), .second, .val (.int p6), .val (.long q7), .second, .val (.long (0 : Int64)), .second] [(.int p2), (.int p1)])) _
    refine XS.icmpNo X0.here hx rfl (hb hby d8_5) rfl (teq hc5).2 ?_
    show Steps p.tables e below (s₁.setTop (mkF m 8 #[.val (.int p1), .val (.int p2), .val (.long q3), .second, .val (.int p4), .val (.long q5), .second, .val (.int p6), .val (.long q7), .second, .val (.long (0 : Int64)), .second] [])) _
    refine XS.lload X0.here hx rfl (hb hby d8_8) rfl ?_
    show Steps p.tables e below (s₁.setTop (mkF m 10 #[.val (.int p1), .val (.int p2), .val (.long q3), .second, .val (.int p4), .val (.long q5), .second, .val (.int p6), .val (.long q7), .second, .val (.long (0 : Int64)), .second] [(.long (0 : Int64))])) _
    refine XS.lloadN X0.here hx rfl (hb hby d8_10) rfl ?_
    show Steps p.tables e below (s₁.setTop (mkF m 11 #[.val (.int p1), .val (.int p2), .val (.long q3), .second, .val (.int p4), .val (.long q5), .second, .val (.int p6), .val (.long q7), .second, .val (.long (0 : Int64)), .second] [(.long q3), (.long (0 : Int64))])) _
    refine XS.ladd X0.here hx rfl (hb hby d8_11) rfl ?_
    show Steps p.tables e below (s₁.setTop (mkF m 12 #[.val (.int p1), .val (.int p2), .val (.long q3), .second, .val (.int p4), .val (.long q5), .second, .val (.int p6), .val (.long q7), .second, .val (.long (0 : Int64)), .second] [(.long ((0 : Int64) + q3))])) _
    refine XS.lstore X0.here hx rfl (hb hby d8_12) rfl (l' := #[.val (.int p1), .val (.int p2), .val (.long q3), .second, .val (.int p4), .val (.long q5), .second, .val (.int p6), .val (.long q7), .second, .val (.long ((0 : Int64) + q3)), .second]) rfl ?_
    show Steps p.tables e below (s₁.setTop (mkF m 14 #[.val (.int p1), .val (.int p2), .val (.long q3), .second, .val (.int p4), .val (.long q5), .second, .val (.int p6), .val (.long q7), .second, .val (.long ((0 : Int64) + q3)), .second] [])) _
    refine XS.iloadN X0.here hx rfl (hb hby d8_14) rfl ?_
    show Steps p.tables e below (s₁.setTop (mkF m 15 #[.val (.int p1), .val (.int p2), .val (.long q3), .second, .val (.int p4), .val (.long q5), .second, .val (.int p6), .val (.long q7), .second, .val (.long ((0 : Int64) + q3)), .second] [(.int p1)])) _
    refine XS.iload X0.here hx rfl (hb hby d8_15) rfl ?_
    show Steps p.tables e below (s₁.setTop (mkF m 17 #[.val (.int p1), .val (.int p2), .val (.long q3), .second, .val (.int p4), .val (.long q5), .second, .val (.int p6), .val (.long q7), .second, .val (.long ((0 : Int64) + q3)), .second] [(.int p4), (.int p1)])) _
    refine XS.icmpNo X0.here hx rfl (hb hby d8_17) rfl (teq hc17).2 ?_
    show Steps p.tables e below (s₁.setTop (mkF m 20 #[.val (.int p1), .val (.int p2), .val (.long q3), .second, .val (.int p4), .val (.long q5), .second, .val (.int p6), .val (.long q7), .second, .val (.long ((0 : Int64) + q3)), .second] [])) _
    refine XS.lload X0.here hx rfl (hb hby d8_20) rfl ?_
    show Steps p.tables e below (s₁.setTop (mkF m 22 #[.val (.int p1), .val (.int p2), .val (.long q3), .second, .val (.int p4), .val (.long q5), .second, .val (.int p6), .val (.long q7), .second, .val (.long ((0 : Int64) + q3)), .second] [(.long ((0 : Int64) + q3))])) _
    refine XS.lload X0.here hx rfl (hb hby d8_22) rfl ?_
    show Steps p.tables e below (s₁.setTop (mkF m 24 #[.val (.int p1), .val (.int p2), .val (.long q3), .second, .val (.int p4), .val (.long q5), .second, .val (.int p6), .val (.long q7), .second, .val (.long ((0 : Int64) + q3)), .second] [(.long q5), (.long ((0 : Int64) + q3))])) _
    refine XS.ladd X0.here hx rfl (hb hby d8_24) rfl ?_
    show Steps p.tables e below (s₁.setTop (mkF m 25 #[.val (.int p1), .val (.int p2), .val (.long q3), .second, .val (.int p4), .val (.long q5), .second, .val (.int p6), .val (.long q7), .second, .val (.long ((0 : Int64) + q3)), .second] [(.long (((0 : Int64) + q3) + q5))])) _
    refine XS.lstore X0.here hx rfl (hb hby d8_25) rfl (l' := #[.val (.int p1), .val (.int p2), .val (.long q3), .second, .val (.int p4), .val (.long q5), .second, .val (.int p6), .val (.long q7), .second, .val (.long (((0 : Int64) + q3) + q5)), .second]) rfl ?_
    show Steps p.tables e below (s₁.setTop (mkF m 27 #[.val (.int p1), .val (.int p2), .val (.long q3), .second, .val (.int p4), .val (.long q5), .second, .val (.int p6), .val (.long q7), .second, .val (.long (((0 : Int64) + q3) + q5)), .second] [])) _
    refine XS.iloadN X0.here hx rfl (hb hby d8_27) rfl ?_
    show Steps p.tables e below (s₁.setTop (mkF m 28 #[.val (.int p1), .val (.int p2), .val (.long q3), .second, .val (.int p4), .val (.long q5), .second, .val (.int p6), .val (.long q7), .second, .val (.long (((0 : Int64) + q3) + q5)), .second] [(.int p1)])) _
    refine XS.iload X0.here hx rfl (hb hby d8_28) rfl ?_
    show Steps p.tables e below (s₁.setTop (mkF m 30 #[.val (.int p1), .val (.int p2), .val (.long q3), .second, .val (.int p4), .val (.long q5), .second, .val (.int p6), .val (.long q7), .second, .val (.long (((0 : Int64) + q3) + q5)), .second] [(.int p6), (.int p1)])) _
    refine XS.icmpYes X0.here hx rfl (pc0 := 30) (pc' := 40) rfl (hb hby d8_30) rfl (feq hc30).2 (by decide) (by decide) ?_
    show Steps p.tables e below (s₁.setTop (mkF m 40 #[.val (.int p1), .val (.int p2), .val (.long q3), .second, .val (.int p4), .val (.long q5), .second, .val (.int p6), .val (.long q7), .second, .val (.long (((0 : Int64) + q3) + q5)), .second] [])) _
    refine XS.lload X0.here hx rfl (hb hby d8_40) rfl ?_
    show Steps p.tables e below (s₁.setTop (mkF m 42 #[.val (.int p1), .val (.int p2), .val (.long q3), .second, .val (.int p4), .val (.long q5), .second, .val (.int p6), .val (.long q7), .second, .val (.long (((0 : Int64) + q3) + q5)), .second] [(.long (((0 : Int64) + q3) + q5))])) _
    exact retOut X0 hx Bd.returns rfl (Or.inr (Or.inl ⟨rfl, rfl, _, rfl⟩)) (hb hby d8_42) hr
  · show Q8 (((0 : Int64) + q3) + q5) Z h0 n0 _ s₁.heap _
    rw [e0]
    exact ⟨rfl, N0, rfl⟩
set_option maxRecDepth 65536 in
set_option maxHeartbeats 40000000 in
theorem rm8tft (l : Launch) (Z : State) (a0 : Array Value) (hw : ∀ d ∈ tables_1, d.before a0 Z = true) (ws : List Jvm.Cond) (p1 : Int32) (p2 : Int32) (q3 : Int64) (p4 : Int32) (q5 : Int64) (p6 : Int32) (q7 : Int64) (h0 : Heap) (n0 : Nat) (Z0 : n0 ≤ h0.size) (hc5 : ¬ (p1 = p2)) (hc17 : p1 = p4) (hc30 : ¬ (p1 = p6)) :
    MetFree l (⟨"com/example/orgweave/orgweave/fhir/NodesAddPinLaw", "expected", "(IIJIJIJ)J"⟩ : MethodName) (head1 (Jvm.Cond.code (⟨"com/example/orgweave/orgweave/fhir/NodesAddPinLaw", "expected", "(IIJIJIJ)J"⟩ : MethodName) method_3_code 12 (some .long) :: ws) ({ frames := 0, cells := 0, slots := 0, locals := 0 } : Room)) (fun a U => a = #[(.int p1), (.int p2), (.long q3), (.int p4), (.long q5), (.int p6), (.long q7)] ∧ Z.Warmed39 U.vm ∧ U.heap = h0) (fun _ _ _ _ _ => True) (fun _ U o U' => ∃ v L, o = .returned v ∧ Q8 ((0 : Int64) + q5) Z h0 n0 v U'.heap L ∧ FrameEnd U o U' L ({ frames := 0, cells := 0, slots := 0, locals := 0 } : Room).cells ({ frames := 0, cells := 0, slots := 0, locals := 0 } : Room).slots) := by
  refine MetFree.of_bodySF (plainFor_of_name pn_8) hisR ?_
  intro p e s m args below meth c s₁ Bd hml0 hP hK
  obtain ⟨rfl, hZ, hh⟩ := hP
  have hx := Bd.exec
  have hby := Bd.bytes
  have hml : c.maxLocals = 12 := hml0
  have hown : s.vm.findClass "com/example/orgweave/orgweave/fhir/NodesAddPinLaw" = some m.cls := findClass_of_methodNamed Bd.named
  have hnm := (name_of_methodNamed Bd.named Bd.method).1
  have X0 : Stand p l e ({ frames := 0, cells := 0, slots := 0, locals := 0 } : Room) s m #[(.int p1), (.int p2), (.long q3), (.int p4), (.long q5), (.int p6), (.long q7)] below meth c s₁ [] 0 0 := Stand.of_body Bd
  have e0 : s₁.heap = h0 := by rw [← hh, Bd.state]; rfl
  have N0 := Fr.nil n0
  have pre0 : ∀ t, Steps p.tables e below (s₁.setTop (mkF m 0 #[.val (.int p1), .val (.int p2), .val (.long q3), .second, .val (.int p4), .val (.long q5), .second, .val (.int p6), .val (.long q7), .second, .unset, .unset] [])) t → Steps p.tables e below (s₁.setTop (entryFrame m #[(.int p1), (.int p2), (.long q3), (.int p4), (.long q5), (.int p6), (.long q7)] 12)) t := fun t k => castTop (ef_8 m p1 p2 q3 p4 q5 p6 q7) k
  -- 3. LAWS

  obtain ⟨fs, hr, hrun, hended, hW, hsame⟩ := X0.leave (v := some (.long ((0 : Int64) + q5))) (fun h => by rw [Bd.returns] at h; cases h)
  refine ⟨_, _, pre0 _ ?_, hrun, hended, _, _, rfl, ?_, ⟨_, rfl⟩, hW, hsame.mono (by decide) (by decide)⟩
  -- 4. STEPS
  · show Steps p.tables e below (s₁.setTop (mkF m 0 #[.val (.int p1), .val (.int p2), .val (.long q3), .second, .val (.int p4), .val (.long q5), .second, .val (.int p6), .val (.long q7), .second, .unset, .unset] [])) _
    refine XS.lconst X0.here hx rfl (hb hby d8_0) ?_
    show Steps p.tables e below (s₁.setTop (mkF m 1 #[.val (.int p1), .val (.int p2), .val (.long q3), .second, .val (.int p4), .val (.long q5), .second, .val (.int p6), .val (.long q7), .second, .unset, .unset] [(.long (0 : Int64))])) _
    refine XS.lstore X0.here hx rfl (hb hby d8_1) rfl (l' := #[.val (.int p1), .val (.int p2), .val (.long q3), .second, .val (.int p4), .val (.long q5), .second, .val (.int p6), .val (.long q7), .second, .val (.long (0 : Int64)), .second]) rfl ?_
    show Steps p.tables e below (s₁.setTop (mkF m 3 #[.val (.int p1), .val (.int p2), .val (.long q3), .second, .val (.int p4), .val (.long q5), .second, .val (.int p6), .val (.long q7), .second, .val (.long (0 : Int64)), .second] [])) _
    refine XS.iloadN X0.here hx rfl (hb hby d8_3) rfl ?_
    show Steps p.tables e below (s₁.setTop (mkF m 4 #[.val (.int p1), .val (.int p2), .val (.long q3), .second, .val (.int p4), .val (.long q5), .second, .val (.int p6), .val (.long q7), .second, .val (.long (0 : Int64)), .second] [(.int p1)])) _
    refine XS.iloadN X0.here hx rfl (hb hby d8_4) rfl ?_
    show Steps p.tables e below (s₁.setTop (mkF m 5 #[.val (.int p1), .val (.int p2), .val (.long q3), .second, .val (.int p4), .val (.long q5), .second, .val (.int p6), .val (.long q7), .second, .val (.long (0 : Int64)), .second] [(.int p2), (.int p1)])) _
    refine XS.icmpYes X0.here hx rfl (pc0 := 5) (pc' := 14) rfl (hb hby d8_5) rfl (feq hc5).2 (by decide) (by decide) ?_
    show Steps p.tables e below (s₁.setTop (mkF m 14 #[.val (.int p1), .val (.int p2), .val (.long q3), .second, .val (.int p4), .val (.long q5), .second, .val (.int p6), .val (.long q7), .second, .val (.long (0 : Int64)), .second] [])) _
    refine XS.iloadN X0.here hx rfl (hb hby d8_14) rfl ?_
    show Steps p.tables e below (s₁.setTop (mkF m 15 #[.val (.int p1), .val (.int p2), .val (.long q3), .second, .val (.int p4), .val (.long q5), .second, .val (.int p6), .val (.long q7), .second, .val (.long (0 : Int64)), .second] [(.int p1)])) _
    refine XS.iload X0.here hx rfl (hb hby d8_15) rfl ?_
    show Steps p.tables e below (s₁.setTop (mkF m 17 #[.val (.int p1), .val (.int p2), .val (.long q3), .second, .val (.int p4), .val (.long q5), .second, .val (.int p6), .val (.long q7), .second, .val (.long (0 : Int64)), .second] [(.int p4), (.int p1)])) _
    refine XS.icmpNo X0.here hx rfl (hb hby d8_17) rfl (teq hc17).2 ?_
    show Steps p.tables e below (s₁.setTop (mkF m 20 #[.val (.int p1), .val (.int p2), .val (.long q3), .second, .val (.int p4), .val (.long q5), .second, .val (.int p6), .val (.long q7), .second, .val (.long (0 : Int64)), .second] [])) _
    refine XS.lload X0.here hx rfl (hb hby d8_20) rfl ?_
    show Steps p.tables e below (s₁.setTop (mkF m 22 #[.val (.int p1), .val (.int p2), .val (.long q3), .second, .val (.int p4), .val (.long q5), .second, .val (.int p6), .val (.long q7), .second, .val (.long (0 : Int64)), .second] [(.long (0 : Int64))])) _
    refine XS.lload X0.here hx rfl (hb hby d8_22) rfl ?_
    show Steps p.tables e below (s₁.setTop (mkF m 24 #[.val (.int p1), .val (.int p2), .val (.long q3), .second, .val (.int p4), .val (.long q5), .second, .val (.int p6), .val (.long q7), .second, .val (.long (0 : Int64)), .second] [(.long q5), (.long (0 : Int64))])) _
    refine XS.ladd X0.here hx rfl (hb hby d8_24) rfl ?_
    show Steps p.tables e below (s₁.setTop (mkF m 25 #[.val (.int p1), .val (.int p2), .val (.long q3), .second, .val (.int p4), .val (.long q5), .second, .val (.int p6), .val (.long q7), .second, .val (.long (0 : Int64)), .second] [(.long ((0 : Int64) + q5))])) _
    refine XS.lstore X0.here hx rfl (hb hby d8_25) rfl (l' := #[.val (.int p1), .val (.int p2), .val (.long q3), .second, .val (.int p4), .val (.long q5), .second, .val (.int p6), .val (.long q7), .second, .val (.long ((0 : Int64) + q5)), .second]) rfl ?_
    show Steps p.tables e below (s₁.setTop (mkF m 27 #[.val (.int p1), .val (.int p2), .val (.long q3), .second, .val (.int p4), .val (.long q5), .second, .val (.int p6), .val (.long q7), .second, .val (.long ((0 : Int64) + q5)), .second] [])) _
    refine XS.iloadN X0.here hx rfl (hb hby d8_27) rfl ?_
    show Steps p.tables e below (s₁.setTop (mkF m 28 #[.val (.int p1), .val (.int p2), .val (.long q3), .second, .val (.int p4), .val (.long q5), .second, .val (.int p6), .val (.long q7), .second, .val (.long ((0 : Int64) + q5)), .second] [(.int p1)])) _
    refine XS.iload X0.here hx rfl (hb hby d8_28) rfl ?_
    show Steps p.tables e below (s₁.setTop (mkF m 30 #[.val (.int p1), .val (.int p2), .val (.long q3), .second, .val (.int p4), .val (.long q5), .second, .val (.int p6), .val (.long q7), .second, .val (.long ((0 : Int64) + q5)), .second] [(.int p6), (.int p1)])) _
    refine XS.icmpYes X0.here hx rfl (pc0 := 30) (pc' := 40) rfl (hb hby d8_30) rfl (feq hc30).2 (by decide) (by decide) ?_
    show Steps p.tables e below (s₁.setTop (mkF m 40 #[.val (.int p1), .val (.int p2), .val (.long q3), .second, .val (.int p4), .val (.long q5), .second, .val (.int p6), .val (.long q7), .second, .val (.long ((0 : Int64) + q5)), .second] [])) _
    refine XS.lload X0.here hx rfl (hb hby d8_40) rfl ?_
    show Steps p.tables e below (s₁.setTop (mkF m 42 #[.val (.int p1), .val (.int p2), .val (.long q3), .second, .val (.int p4), .val (.long q5), .second, .val (.int p6), .val (.long q7), .second, .val (.long ((0 : Int64) + q5)), .second] [(.long ((0 : Int64) + q5))])) _
    exact retOut X0 hx Bd.returns rfl (Or.inr (Or.inl ⟨rfl, rfl, _, rfl⟩)) (hb hby d8_42) hr
  · show Q8 ((0 : Int64) + q5) Z h0 n0 _ s₁.heap _
    rw [e0]
    exact ⟨rfl, N0, rfl⟩
set_option maxRecDepth 65536 in
set_option maxHeartbeats 40000000 in
theorem rm8ftt (l : Launch) (Z : State) (a0 : Array Value) (hw : ∀ d ∈ tables_1, d.before a0 Z = true) (ws : List Jvm.Cond) (p1 : Int32) (p2 : Int32) (q3 : Int64) (p4 : Int32) (q5 : Int64) (p6 : Int32) (q7 : Int64) (h0 : Heap) (n0 : Nat) (Z0 : n0 ≤ h0.size) (hc5 : p1 = p2) (hc17 : ¬ (p1 = p4)) (hc30 : ¬ (p1 = p6)) :
    MetFree l (⟨"com/example/orgweave/orgweave/fhir/NodesAddPinLaw", "expected", "(IIJIJIJ)J"⟩ : MethodName) (head1 (Jvm.Cond.code (⟨"com/example/orgweave/orgweave/fhir/NodesAddPinLaw", "expected", "(IIJIJIJ)J"⟩ : MethodName) method_3_code 12 (some .long) :: ws) ({ frames := 0, cells := 0, slots := 0, locals := 0 } : Room)) (fun a U => a = #[(.int p1), (.int p2), (.long q3), (.int p4), (.long q5), (.int p6), (.long q7)] ∧ Z.Warmed39 U.vm ∧ U.heap = h0) (fun _ _ _ _ _ => True) (fun _ U o U' => ∃ v L, o = .returned v ∧ Q8 ((0 : Int64) + q3) Z h0 n0 v U'.heap L ∧ FrameEnd U o U' L ({ frames := 0, cells := 0, slots := 0, locals := 0 } : Room).cells ({ frames := 0, cells := 0, slots := 0, locals := 0 } : Room).slots) := by
  refine MetFree.of_bodySF (plainFor_of_name pn_8) hisR ?_
  intro p e s m args below meth c s₁ Bd hml0 hP hK
  obtain ⟨rfl, hZ, hh⟩ := hP
  have hx := Bd.exec
  have hby := Bd.bytes
  have hml : c.maxLocals = 12 := hml0
  have hown : s.vm.findClass "com/example/orgweave/orgweave/fhir/NodesAddPinLaw" = some m.cls := findClass_of_methodNamed Bd.named
  have hnm := (name_of_methodNamed Bd.named Bd.method).1
  have X0 : Stand p l e ({ frames := 0, cells := 0, slots := 0, locals := 0 } : Room) s m #[(.int p1), (.int p2), (.long q3), (.int p4), (.long q5), (.int p6), (.long q7)] below meth c s₁ [] 0 0 := Stand.of_body Bd
  have e0 : s₁.heap = h0 := by rw [← hh, Bd.state]; rfl
  have N0 := Fr.nil n0
  have pre0 : ∀ t, Steps p.tables e below (s₁.setTop (mkF m 0 #[.val (.int p1), .val (.int p2), .val (.long q3), .second, .val (.int p4), .val (.long q5), .second, .val (.int p6), .val (.long q7), .second, .unset, .unset] [])) t → Steps p.tables e below (s₁.setTop (entryFrame m #[(.int p1), (.int p2), (.long q3), (.int p4), (.long q5), (.int p6), (.long q7)] 12)) t := fun t k => castTop (ef_8 m p1 p2 q3 p4 q5 p6 q7) k
  -- 3. LAWS

  obtain ⟨fs, hr, hrun, hended, hW, hsame⟩ := X0.leave (v := some (.long ((0 : Int64) + q3))) (fun h => by rw [Bd.returns] at h; cases h)
  refine ⟨_, _, pre0 _ ?_, hrun, hended, _, _, rfl, ?_, ⟨_, rfl⟩, hW, hsame.mono (by decide) (by decide)⟩
  -- 4. STEPS
  · show Steps p.tables e below (s₁.setTop (mkF m 0 #[.val (.int p1), .val (.int p2), .val (.long q3), .second, .val (.int p4), .val (.long q5), .second, .val (.int p6), .val (.long q7), .second, .unset, .unset] [])) _
    refine XS.lconst X0.here hx rfl (hb hby d8_0) ?_
    show Steps p.tables e below (s₁.setTop (mkF m 1 #[.val (.int p1), .val (.int p2), .val (.long q3), .second, .val (.int p4), .val (.long q5), .second, .val (.int p6), .val (.long q7), .second, .unset, .unset] [(.long (0 : Int64))])) _
    refine XS.lstore X0.here hx rfl (hb hby d8_1) rfl (l' := #[.val (.int p1), .val (.int p2), .val (.long q3), .second, .val (.int p4), .val (.long q5), .second, .val (.int p6), .val (.long q7), .second, .val (.long (0 : Int64)), .second]) rfl ?_
    show Steps p.tables e below (s₁.setTop (mkF m 3 #[.val (.int p1), .val (.int p2), .val (.long q3), .second, .val (.int p4), .val (.long q5), .second, .val (.int p6), .val (.long q7), .second, .val (.long (0 : Int64)), .second] [])) _
    refine XS.iloadN X0.here hx rfl (hb hby d8_3) rfl ?_
    show Steps p.tables e below (s₁.setTop (mkF m 4 #[.val (.int p1), .val (.int p2), .val (.long q3), .second, .val (.int p4), .val (.long q5), .second, .val (.int p6), .val (.long q7), .second, .val (.long (0 : Int64)), .second] [(.int p1)])) _
    refine XS.iloadN X0.here hx rfl (hb hby d8_4) rfl ?_
    show Steps p.tables e below (s₁.setTop (mkF m 5 #[.val (.int p1), .val (.int p2), .val (.long q3), .second, .val (.int p4), .val (.long q5), .second, .val (.int p6), .val (.long q7), .second, .val (.long (0 : Int64)), .second] [(.int p2), (.int p1)])) _
    refine XS.icmpNo X0.here hx rfl (hb hby d8_5) rfl (teq hc5).2 ?_
    show Steps p.tables e below (s₁.setTop (mkF m 8 #[.val (.int p1), .val (.int p2), .val (.long q3), .second, .val (.int p4), .val (.long q5), .second, .val (.int p6), .val (.long q7), .second, .val (.long (0 : Int64)), .second] [])) _
    refine XS.lload X0.here hx rfl (hb hby d8_8) rfl ?_
    show Steps p.tables e below (s₁.setTop (mkF m 10 #[.val (.int p1), .val (.int p2), .val (.long q3), .second, .val (.int p4), .val (.long q5), .second, .val (.int p6), .val (.long q7), .second, .val (.long (0 : Int64)), .second] [(.long (0 : Int64))])) _
    refine XS.lloadN X0.here hx rfl (hb hby d8_10) rfl ?_
    show Steps p.tables e below (s₁.setTop (mkF m 11 #[.val (.int p1), .val (.int p2), .val (.long q3), .second, .val (.int p4), .val (.long q5), .second, .val (.int p6), .val (.long q7), .second, .val (.long (0 : Int64)), .second] [(.long q3), (.long (0 : Int64))])) _
    refine XS.ladd X0.here hx rfl (hb hby d8_11) rfl ?_
    show Steps p.tables e below (s₁.setTop (mkF m 12 #[.val (.int p1), .val (.int p2), .val (.long q3), .second, .val (.int p4), .val (.long q5), .second, .val (.int p6), .val (.long q7), .second, .val (.long (0 : Int64)), .second] [(.long ((0 : Int64) + q3))])) _
    refine XS.lstore X0.here hx rfl (hb hby d8_12) rfl (l' := #[.val (.int p1), .val (.int p2), .val (.long q3), .second, .val (.int p4), .val (.long q5), .second, .val (.int p6), .val (.long q7), .second, .val (.long ((0 : Int64) + q3)), .second]) rfl ?_
    show Steps p.tables e below (s₁.setTop (mkF m 14 #[.val (.int p1), .val (.int p2), .val (.long q3), .second, .val (.int p4), .val (.long q5), .second, .val (.int p6), .val (.long q7), .second, .val (.long ((0 : Int64) + q3)), .second] [])) _
    refine XS.iloadN X0.here hx rfl (hb hby d8_14) rfl ?_
    show Steps p.tables e below (s₁.setTop (mkF m 15 #[.val (.int p1), .val (.int p2), .val (.long q3), .second, .val (.int p4), .val (.long q5), .second, .val (.int p6), .val (.long q7), .second, .val (.long ((0 : Int64) + q3)), .second] [(.int p1)])) _
    refine XS.iload X0.here hx rfl (hb hby d8_15) rfl ?_
    show Steps p.tables e below (s₁.setTop (mkF m 17 #[.val (.int p1), .val (.int p2), .val (.long q3), .second, .val (.int p4), .val (.long q5), .second, .val (.int p6), .val (.long q7), .second, .val (.long ((0 : Int64) + q3)), .second] [(.int p4), (.int p1)])) _
    refine XS.icmpYes X0.here hx rfl (pc0 := 17) (pc' := 27) rfl (hb hby d8_17) rfl (feq hc17).2 (by decide) (by decide) ?_
    show Steps p.tables e below (s₁.setTop (mkF m 27 #[.val (.int p1), .val (.int p2), .val (.long q3), .second, .val (.int p4), .val (.long q5), .second, .val (.int p6), .val (.long q7), .second, .val (.long ((0 : Int64) + q3)), .second] [])) _
    refine XS.iloadN X0.here hx rfl (hb hby d8_27) rfl ?_
    show Steps p.tables e below (s₁.setTop (mkF m 28 #[.val (.int p1), .val (.int p2), .val (.long q3), .second, .val (.int p4), .val (.long q5), .second, .val (.int p6), .val (.long q7), .second, .val (.long ((0 : Int64) + q3)), .second] [(.int p1)])) _
    refine XS.iload X0.here hx rfl (hb hby d8_28) rfl ?_
    show Steps p.tables e below (s₁.setTop (mkF m 30 #[.val (.int p1), .val (.int p2), .val (.long q3), .second, .val (.int p4), .val (.long q5), .second, .val (.int p6), .val (.long q7), .second, .val (.long ((0 : Int64) + q3)), .second] [(.int p6), (.int p1)])) _
    refine XS.icmpYes X0.here hx rfl (pc0 := 30) (pc' := 40) rfl (hb hby d8_30) rfl (feq hc30).2 (by decide) (by decide) ?_
    show Steps p.tables e below (s₁.setTop (mkF m 40 #[.val (.int p1), .val (.int p2), .val (.long q3), .second, .val (.int p4), .val (.long q5), .second, .val (.int p6), .val (.long q7), .second, .val (.long ((0 : Int64) + q3)), .second] [])) _
    refine XS.lload X0.here hx rfl (hb hby d8_40) rfl ?_
    show Steps p.tables e below (s₁.setTop (mkF m 42 #[.val (.int p1), .val (.int p2), .val (.long q3), .second, .val (.int p4), .val (.long q5), .second, .val (.int p6), .val (.long q7), .second, .val (.long ((0 : Int64) + q3)), .second] [(.long ((0 : Int64) + q3))])) _
    exact retOut X0 hx Bd.returns rfl (Or.inr (Or.inl ⟨rfl, rfl, _, rfl⟩)) (hb hby d8_42) hr
  · show Q8 ((0 : Int64) + q3) Z h0 n0 _ s₁.heap _
    rw [e0]
    exact ⟨rfl, N0, rfl⟩
set_option maxRecDepth 65536 in
set_option maxHeartbeats 40000000 in
theorem rm8ttt (l : Launch) (Z : State) (a0 : Array Value) (hw : ∀ d ∈ tables_1, d.before a0 Z = true) (ws : List Jvm.Cond) (p1 : Int32) (p2 : Int32) (q3 : Int64) (p4 : Int32) (q5 : Int64) (p6 : Int32) (q7 : Int64) (h0 : Heap) (n0 : Nat) (Z0 : n0 ≤ h0.size) (hc5 : ¬ (p1 = p2)) (hc17 : ¬ (p1 = p4)) (hc30 : ¬ (p1 = p6)) :
    MetFree l (⟨"com/example/orgweave/orgweave/fhir/NodesAddPinLaw", "expected", "(IIJIJIJ)J"⟩ : MethodName) (head1 (Jvm.Cond.code (⟨"com/example/orgweave/orgweave/fhir/NodesAddPinLaw", "expected", "(IIJIJIJ)J"⟩ : MethodName) method_3_code 12 (some .long) :: ws) ({ frames := 0, cells := 0, slots := 0, locals := 0 } : Room)) (fun a U => a = #[(.int p1), (.int p2), (.long q3), (.int p4), (.long q5), (.int p6), (.long q7)] ∧ Z.Warmed39 U.vm ∧ U.heap = h0) (fun _ _ _ _ _ => True) (fun _ U o U' => ∃ v L, o = .returned v ∧ Q8 (0 : Int64) Z h0 n0 v U'.heap L ∧ FrameEnd U o U' L ({ frames := 0, cells := 0, slots := 0, locals := 0 } : Room).cells ({ frames := 0, cells := 0, slots := 0, locals := 0 } : Room).slots) := by
  refine MetFree.of_bodySF (plainFor_of_name pn_8) hisR ?_
  intro p e s m args below meth c s₁ Bd hml0 hP hK
  obtain ⟨rfl, hZ, hh⟩ := hP
  have hx := Bd.exec
  have hby := Bd.bytes
  have hml : c.maxLocals = 12 := hml0
  have hown : s.vm.findClass "com/example/orgweave/orgweave/fhir/NodesAddPinLaw" = some m.cls := findClass_of_methodNamed Bd.named
  have hnm := (name_of_methodNamed Bd.named Bd.method).1
  have X0 : Stand p l e ({ frames := 0, cells := 0, slots := 0, locals := 0 } : Room) s m #[(.int p1), (.int p2), (.long q3), (.int p4), (.long q5), (.int p6), (.long q7)] below meth c s₁ [] 0 0 := Stand.of_body Bd
  have e0 : s₁.heap = h0 := by rw [← hh, Bd.state]; rfl
  have N0 := Fr.nil n0
  have pre0 : ∀ t, Steps p.tables e below (s₁.setTop (mkF m 0 #[.val (.int p1), .val (.int p2), .val (.long q3), .second, .val (.int p4), .val (.long q5), .second, .val (.int p6), .val (.long q7), .second, .unset, .unset] [])) t → Steps p.tables e below (s₁.setTop (entryFrame m #[(.int p1), (.int p2), (.long q3), (.int p4), (.long q5), (.int p6), (.long q7)] 12)) t := fun t k => castTop (ef_8 m p1 p2 q3 p4 q5 p6 q7) k
  -- 3. LAWS

  obtain ⟨fs, hr, hrun, hended, hW, hsame⟩ := X0.leave (v := some (.long (0 : Int64))) (fun h => by rw [Bd.returns] at h; cases h)
  refine ⟨_, _, pre0 _ ?_, hrun, hended, _, _, rfl, ?_, ⟨_, rfl⟩, hW, hsame.mono (by decide) (by decide)⟩
  -- 4. STEPS
  · show Steps p.tables e below (s₁.setTop (mkF m 0 #[.val (.int p1), .val (.int p2), .val (.long q3), .second, .val (.int p4), .val (.long q5), .second, .val (.int p6), .val (.long q7), .second, .unset, .unset] [])) _
    refine XS.lconst X0.here hx rfl (hb hby d8_0) ?_
    show Steps p.tables e below (s₁.setTop (mkF m 1 #[.val (.int p1), .val (.int p2), .val (.long q3), .second, .val (.int p4), .val (.long q5), .second, .val (.int p6), .val (.long q7), .second, .unset, .unset] [(.long (0 : Int64))])) _
    refine XS.lstore X0.here hx rfl (hb hby d8_1) rfl (l' := #[.val (.int p1), .val (.int p2), .val (.long q3), .second, .val (.int p4), .val (.long q5), .second, .val (.int p6), .val (.long q7), .second, .val (.long (0 : Int64)), .second]) rfl ?_
    show Steps p.tables e below (s₁.setTop (mkF m 3 #[.val (.int p1), .val (.int p2), .val (.long q3), .second, .val (.int p4), .val (.long q5), .second, .val (.int p6), .val (.long q7), .second, .val (.long (0 : Int64)), .second] [])) _
    refine XS.iloadN X0.here hx rfl (hb hby d8_3) rfl ?_
    show Steps p.tables e below (s₁.setTop (mkF m 4 #[.val (.int p1), .val (.int p2), .val (.long q3), .second, .val (.int p4), .val (.long q5), .second, .val (.int p6), .val (.long q7), .second, .val (.long (0 : Int64)), .second] [(.int p1)])) _
    refine XS.iloadN X0.here hx rfl (hb hby d8_4) rfl ?_
    show Steps p.tables e below (s₁.setTop (mkF m 5 #[.val (.int p1), .val (.int p2), .val (.long q3), .second, .val (.int p4), .val (.long q5), .second, .val (.int p6), .val (.long q7), .second, .val (.long (0 : Int64)), .second] [(.int p2), (.int p1)])) _
    refine XS.icmpYes X0.here hx rfl (pc0 := 5) (pc' := 14) rfl (hb hby d8_5) rfl (feq hc5).2 (by decide) (by decide) ?_
    show Steps p.tables e below (s₁.setTop (mkF m 14 #[.val (.int p1), .val (.int p2), .val (.long q3), .second, .val (.int p4), .val (.long q5), .second, .val (.int p6), .val (.long q7), .second, .val (.long (0 : Int64)), .second] [])) _
    refine XS.iloadN X0.here hx rfl (hb hby d8_14) rfl ?_
    show Steps p.tables e below (s₁.setTop (mkF m 15 #[.val (.int p1), .val (.int p2), .val (.long q3), .second, .val (.int p4), .val (.long q5), .second, .val (.int p6), .val (.long q7), .second, .val (.long (0 : Int64)), .second] [(.int p1)])) _
    refine XS.iload X0.here hx rfl (hb hby d8_15) rfl ?_
    show Steps p.tables e below (s₁.setTop (mkF m 17 #[.val (.int p1), .val (.int p2), .val (.long q3), .second, .val (.int p4), .val (.long q5), .second, .val (.int p6), .val (.long q7), .second, .val (.long (0 : Int64)), .second] [(.int p4), (.int p1)])) _
    refine XS.icmpYes X0.here hx rfl (pc0 := 17) (pc' := 27) rfl (hb hby d8_17) rfl (feq hc17).2 (by decide) (by decide) ?_
    show Steps p.tables e below (s₁.setTop (mkF m 27 #[.val (.int p1), .val (.int p2), .val (.long q3), .second, .val (.int p4), .val (.long q5), .second, .val (.int p6), .val (.long q7), .second, .val (.long (0 : Int64)), .second] [])) _
    refine XS.iloadN X0.here hx rfl (hb hby d8_27) rfl ?_
    show Steps p.tables e below (s₁.setTop (mkF m 28 #[.val (.int p1), .val (.int p2), .val (.long q3), .second, .val (.int p4), .val (.long q5), .second, .val (.int p6), .val (.long q7), .second, .val (.long (0 : Int64)), .second] [(.int p1)])) _
    refine XS.iload X0.here hx rfl (hb hby d8_28) rfl ?_
    show Steps p.tables e below (s₁.setTop (mkF m 30 #[.val (.int p1), .val (.int p2), .val (.long q3), .second, .val (.int p4), .val (.long q5), .second, .val (.int p6), .val (.long q7), .second, .val (.long (0 : Int64)), .second] [(.int p6), (.int p1)])) _
    refine XS.icmpYes X0.here hx rfl (pc0 := 30) (pc' := 40) rfl (hb hby d8_30) rfl (feq hc30).2 (by decide) (by decide) ?_
    show Steps p.tables e below (s₁.setTop (mkF m 40 #[.val (.int p1), .val (.int p2), .val (.long q3), .second, .val (.int p4), .val (.long q5), .second, .val (.int p6), .val (.long q7), .second, .val (.long (0 : Int64)), .second] [])) _
    refine XS.lload X0.here hx rfl (hb hby d8_40) rfl ?_
    show Steps p.tables e below (s₁.setTop (mkF m 42 #[.val (.int p1), .val (.int p2), .val (.long q3), .second, .val (.int p4), .val (.long q5), .second, .val (.int p6), .val (.long q7), .second, .val (.long (0 : Int64)), .second] [(.long (0 : Int64))])) _
    exact retOut X0 hx Bd.returns rfl (Or.inr (Or.inl ⟨rfl, rfl, _, rfl⟩)) (hb hby d8_42) hr
  · show Q8 (0 : Int64) Z h0 n0 _ s₁.heap _
    rw [e0]
    exact ⟨rfl, N0, rfl⟩
theorem rm8 (l : Launch) (Z : State) (a0 : Array Value) (hw : ∀ d ∈ tables_1, d.before a0 Z = true) (ws : List Jvm.Cond) (p1 : Int32) (p2 : Int32) (q3 : Int64) (p4 : Int32) (q5 : Int64) (p6 : Int32) (q7 : Int64) (h0 : Heap) (n0 : Nat) (Z0 : n0 ≤ h0.size) :
    MetFree l (⟨"com/example/orgweave/orgweave/fhir/NodesAddPinLaw", "expected", "(IIJIJIJ)J"⟩ : MethodName) (head1 (Jvm.Cond.code (⟨"com/example/orgweave/orgweave/fhir/NodesAddPinLaw", "expected", "(IIJIJIJ)J"⟩ : MethodName) method_3_code 12 (some .long) :: ws) ({ frames := 0, cells := 0, slots := 0, locals := 0 } : Room)) (fun a U => a = #[(.int p1), (.int p2), (.long q3), (.int p4), (.long q5), (.int p6), (.long q7)] ∧ Z.Warmed39 U.vm ∧ U.heap = h0) (fun _ _ _ _ _ => True) (fun _ U o U' => ∃ v L, o = .returned v ∧ Q8 (own_exp p1 p2 q3 p4 q5 p6 q7) Z h0 n0 v U'.heap L ∧ FrameEnd U o U' L ({ frames := 0, cells := 0, slots := 0, locals := 0 } : Room).cells ({ frames := 0, cells := 0, slots := 0, locals := 0 } : Room).slots) := by
  by_cases a1' : p1 = p2 <;> by_cases a2' : p1 = p4 <;> by_cases a3' : p1 = p6
  · rw [show own_exp p1 p2 q3 p4 q5 p6 q7 = ((((0 : Int64) + q3) + q5) + q7) by simp only [own_exp, if_pos a1', if_pos a2', if_pos a3']]; exact rm8fff l Z a0 hw ws p1 p2 q3 p4 q5 p6 q7 h0 n0 Z0 a1' a2' a3'
  · rw [show own_exp p1 p2 q3 p4 q5 p6 q7 = (((0 : Int64) + q3) + q5) by simp only [own_exp, if_pos a1', if_pos a2', if_neg a3']]; exact rm8fft l Z a0 hw ws p1 p2 q3 p4 q5 p6 q7 h0 n0 Z0 a1' a2' a3'
  · rw [show own_exp p1 p2 q3 p4 q5 p6 q7 = (((0 : Int64) + q3) + q7) by simp only [own_exp, if_pos a1', if_neg a2', if_pos a3']]; exact rm8ftf l Z a0 hw ws p1 p2 q3 p4 q5 p6 q7 h0 n0 Z0 a1' a2' a3'
  · rw [show own_exp p1 p2 q3 p4 q5 p6 q7 = ((0 : Int64) + q3) by simp only [own_exp, if_pos a1', if_neg a2', if_neg a3']]; exact rm8ftt l Z a0 hw ws p1 p2 q3 p4 q5 p6 q7 h0 n0 Z0 a1' a2' a3'
  · rw [show own_exp p1 p2 q3 p4 q5 p6 q7 = (((0 : Int64) + q5) + q7) by simp only [own_exp, if_neg a1', if_pos a2', if_pos a3']]; exact rm8tff l Z a0 hw ws p1 p2 q3 p4 q5 p6 q7 h0 n0 Z0 a1' a2' a3'
  · rw [show own_exp p1 p2 q3 p4 q5 p6 q7 = ((0 : Int64) + q5) by simp only [own_exp, if_neg a1', if_pos a2', if_neg a3']]; exact rm8tft l Z a0 hw ws p1 p2 q3 p4 q5 p6 q7 h0 n0 Z0 a1' a2' a3'
  · rw [show own_exp p1 p2 q3 p4 q5 p6 q7 = ((0 : Int64) + q7) by simp only [own_exp, if_neg a1', if_neg a2', if_pos a3']]; exact rm8ttf l Z a0 hw ws p1 p2 q3 p4 q5 p6 q7 h0 n0 Z0 a1' a2' a3'
  · rw [show own_exp p1 p2 q3 p4 q5 p6 q7 = (0 : Int64) by simp only [own_exp, if_neg a1', if_neg a2', if_neg a3']]; exact rm8ttt l Z a0 hw ws p1 p2 q3 p4 q5 p6 q7 h0 n0 Z0 a1' a2' a3'
theorem pn_0 : plainName "com/example/orgweave/orgweave/fhir/NodesAddPinLaw" = true := by first | (simp [plainName, overriddenIn]; done) | decide +kernel
theorem pd_0_0 : parseMethodDescriptor "(I)Lcom/example/orgweave/orgweave/fhir/Nodes$Kind;" = some ⟨[.int], some (.object "com/example/orgweave/orgweave/fhir/Nodes$Kind")⟩ := by decide +kernel
theorem pd_0_1 : parseMethodDescriptor "()V" = some ⟨[], none⟩ := by decide +kernel
theorem pd_0_4 : parseMethodDescriptor "(Lcom/example/orgweave/orgweave/fhir/Nodes$Kind;J)V" = some ⟨[(.object "com/example/orgweave/orgweave/fhir/Nodes$Kind"), .long], none⟩ := by decide +kernel
theorem pd_0_6 : parseMethodDescriptor "(Lcom/example/orgweave/orgweave/fhir/Nodes$Kind;)J" = some ⟨[(.object "com/example/orgweave/orgweave/fhir/Nodes$Kind")], some .long⟩ := by decide +kernel
theorem pd_0_7 : parseMethodDescriptor "(IIJIJIJ)J" = some ⟨[.int, .int, .long, .int, .long, .int, .long], some .long⟩ := by decide +kernel
theorem pd_0_8 : parseMethodDescriptor "()Z" = some ⟨[], some .boolean⟩ := by decide +kernel
theorem ef_0 (m : MethodId) (x0 : Int32) (x1 : Int64) (x2 : Int32) (x3 : Int64) (x4 : Int32) (x5 : Int64) : entryFrame m #[(.int x0), (.long x1), (.int x2), (.long x3), (.int x4), (.long x5)] maxLocals = mkF m 0 #[.val (.int x0), .val (.long x1), .second, .val (.int x2), .val (.long x3), .second, .val (.int x4), .val (.long x5), .second, .unset, .unset, .unset, .unset, .unset, .unset, .unset, .unset, .unset, .unset, .unset] [] := by first | (simp [entryFrame, mkF, argsToLocals, Value.category, maxLocals]; done) | rfl
def Q0 (Z : State) (p1 : Int32) (q2 : Int64) (p3 : Int32) (q4 : Int64) (p5 : Int32) (q6 : Int64) (h0 : Heap) (n0 : Nat) (v : Option Value) (h : Heap) (L : List Loc) : Prop := v = some (.int (1 : Int32)) ∧ Fr n0 L
set_option maxRecDepth 65536 in
set_option maxHeartbeats 40000000 in
theorem rm0 (l : Launch) (Z : State) (a0 : Array Value) (hw : ∀ d ∈ tables_1, d.before a0 Z = true) (ws : List Jvm.Cond) (p1 : Int32) (q2 : Int64) (p3 : Int32) (q4 : Int64) (p5 : Int32) (q6 : Int64) (h0 : Heap) (n0 : Nat) (Z0 : n0 ≤ h0.size) (r : Nat → Addr) (na nb nc : Nat) (hna : na < 14) (hnb : nb < 14) (hnc : nc < 14) (ena : ((p1 &&& (2147483647 : Int32)) % (14 : Int32)) = Int32.ofNat na) (enb : ((p3 &&& (2147483647 : Int32)) % (14 : Int32)) = Int32.ofNat nb) (enc : ((p5 &&& (2147483647 : Int32)) % (14 : Int32)) = Int32.ofNat nc) (hS : own_S Z h0 r) (hV : own_V Z h0) (hO : own_O Z h0 r) (hnz6 : ¬ ((14 : Int32) = (0 : Int32))) (hnz15 : ¬ ((14 : Int32) = (0 : Int32))) (hnz25 : ¬ ((14 : Int32) = (0 : Int32))) (hc108 : (lcmpW ((own_up (own_up (own_up own_f0 na q2) nb q4) nc q6) na) (own_exp ((p1 &&& (2147483647 : Int32)) % (14 : Int32)) ((p1 &&& (2147483647 : Int32)) % (14 : Int32)) q2 ((p3 &&& (2147483647 : Int32)) % (14 : Int32)) q4 ((p5 &&& (2147483647 : Int32)) % (14 : Int32)) q6)) = (0 : Int32)) (hc142 : (lcmpW ((own_up (own_up (own_up own_f0 na q2) nb q4) nc q6) nb) (own_exp ((p3 &&& (2147483647 : Int32)) % (14 : Int32)) ((p1 &&& (2147483647 : Int32)) % (14 : Int32)) q2 ((p3 &&& (2147483647 : Int32)) % (14 : Int32)) q4 ((p5 &&& (2147483647 : Int32)) % (14 : Int32)) q6)) = (0 : Int32)) (hc176 : (lcmpW ((own_up (own_up (own_up own_f0 na q2) nb q4) nc q6) nc) (own_exp ((p5 &&& (2147483647 : Int32)) % (14 : Int32)) ((p1 &&& (2147483647 : Int32)) % (14 : Int32)) q2 ((p3 &&& (2147483647 : Int32)) % (14 : Int32)) q4 ((p5 &&& (2147483647 : Int32)) % (14 : Int32)) q6)) = (0 : Int32)) (hc203 : ¬ ((1 : Int32) = (0 : Int32))) (hc208 : ¬ ((1 : Int32) = (0 : Int32))) (hc213 : ¬ ((1 : Int32) = (0 : Int32))) (hc218 : ¬ ((1 : Int32) = (0 : Int32))) :
    MetFree l x (head1 (Jvm.Cond.code x code maxLocals ret :: ws) room_1) (fun a U => a = #[(.int p1), (.long q2), (.int p3), (.long q4), (.int p5), (.long q6)] ∧ Z.Warmed39 U.vm ∧ U.heap = h0) (fun _ _ _ _ _ => True) (fun _ U o U' => ∃ v L, o = .returned v ∧ Q0 Z p1 q2 p3 q4 p5 q6 h0 n0 v U'.heap L ∧ FrameEnd U o U' L room_1.cells room_1.slots) := by
  refine MetFree.of_bodySF (plainFor_of_name pn_0) hisR ?_
  intro p e s m args below meth c s₁ Bd hml0 hP hK
  obtain ⟨rfl, hZ, hh⟩ := hP
  have hx := Bd.exec
  have hby := Bd.bytes
  have hml : c.maxLocals = 20 := hml0
  have hown : s.vm.findClass "com/example/orgweave/orgweave/fhir/NodesAddPinLaw" = some m.cls := findClass_of_methodNamed Bd.named
  have hnm := (name_of_methodNamed Bd.named Bd.method).1
  have X0 : Stand p l e room_1 s m #[(.int p1), (.long q2), (.int p3), (.long q4), (.int p5), (.long q6)] below meth c s₁ [] 0 0 := Stand.of_body Bd
  have e0 : s₁.heap = h0 := by rw [← hh, Bd.state]; rfl
  have N0 := Fr.nil n0
  have pre0 : ∀ t, Steps p.tables e below (s₁.setTop (mkF m 0 #[.val (.int p1), .val (.long q2), .second, .val (.int p3), .val (.long q4), .second, .val (.int p5), .val (.long q6), .second, .unset, .unset, .unset, .unset, .unset, .unset, .unset, .unset, .unset, .unset, .unset] [])) t → Steps p.tables e below (s₁.setTop (entryFrame m #[(.int p1), (.long q2), (.int p3), (.long q4), (.int p5), (.long q6)] maxLocals)) t := fun t k => castTop (ef_0 m p1 q2 p3 q4 p5 q6) k
  -- 3. LAWS
  -- pc 30: com/example/orgweave/orgweave/fhir/NodesAddPinLaw.kindOf by its contract rm1
  obtain ⟨_, _, ⟨T7, L7, k7, n7⟩, -, X7, ⟨Lc7, hQ7, l7, y7, z7⟩, st7⟩ := Jvm.LawKit.callS X0 hx (y := (⟨"com/example/orgweave/orgweave/fhir/NodesAddPinLaw", "kindOf", "(I)Lcom/example/orgweave/orgweave/fhir/Nodes$Kind;"⟩ : MethodName)) hown (mvT hZ (hw _ (List.mem_of_getElem? (i := 1) rfl))) (mvT hZ (hw _ (List.mem_of_getElem? (i := 2) rfl))) (mvT hZ (hw _ (List.mem_of_getElem? (i := 3) rfl))) (mvT hZ (hw _ (List.mem_of_getElem? (i := 4) rfl))) (by decide) (backOf (W := 0) (rm1 l Z a0 hw [] ((p1 &&& (2147483647 : Int32)) % (14 : Int32)) r na h0 n0 Z0 hna ena hS) hZ (hw _ (List.mem_of_getElem? (i := 4) rfl)) (hw _ (List.mem_of_getElem? (i := 3) rfl)) (by decide) (by decide)) (g := (mkF m 30 #[.val (.int p1), .val (.long q2), .second, .val (.int p3), .val (.long q4), .second, .val (.int p5), .val (.long q6), .second, .val (.int ((p1 &&& (2147483647 : Int32)) % (14 : Int32))), .val (.int ((p3 &&& (2147483647 : Int32)) % (14 : Int32))), .val (.int ((p5 &&& (2147483647 : Int32)) % (14 : Int32))), .unset, .unset, .unset, .unset, .unset, .unset, .unset, .unset] [(.int ((p1 &&& (2147483647 : Int32)) % (14 : Int32)))])) rfl (by rw [hml]; rfl) (argsL := [(.int ((p1 &&& (2147483647 : Int32)) % (14 : Int32)))]) (rest := []) (lenOf pd_0_0 rfl) rfl (by show 2 * 0 + _ ≤ _; exact Nat.le_of_eq rfl) (hb hby at_30) (fun _ _ => ⟨rfl, e0, (by exact Nat.le_of_ble_eq_true rfl), (by exact Nat.le_of_ble_eq_true rfl)⟩)
  dsimp only [Pt.U, Pt.locs, Pt.cells, Pt.slots] at X7 l7 y7 z7 st7 hQ7
  subst l7 y7 z7
  obtain ⟨rfl, N7q, eQ7⟩ := hQ7      -- what it returned, that it wrote nothing old, and the rest of your Q1
  have N7 := Fr.app N0 N7q
  -- pc 37: com/example/orgweave/orgweave/fhir/NodesAddPinLaw.kindOf by its contract rm1
  obtain ⟨_, _, ⟨T8, L8, k8, n8⟩, -, X8, ⟨Lc8, hQ8, l8, y8, z8⟩, st8⟩ := Jvm.LawKit.callS X7 hx (y := (⟨"com/example/orgweave/orgweave/fhir/NodesAddPinLaw", "kindOf", "(I)Lcom/example/orgweave/orgweave/fhir/Nodes$Kind;"⟩ : MethodName)) hown (mvT hZ (hw _ (List.mem_of_getElem? (i := 1) rfl))) (mvT hZ (hw _ (List.mem_of_getElem? (i := 2) rfl))) (mvT hZ (hw _ (List.mem_of_getElem? (i := 3) rfl))) (mvT hZ (hw _ (List.mem_of_getElem? (i := 4) rfl))) (by decide) (backOf (W := 0) (rm1 l Z a0 hw [] ((p3 &&& (2147483647 : Int32)) % (14 : Int32)) r nb h0 n0 Z0 hnb enb hS) hZ (hw _ (List.mem_of_getElem? (i := 4) rfl)) (hw _ (List.mem_of_getElem? (i := 3) rfl)) (by decide) (by decide)) (g := (mkF m 37 #[.val (.int p1), .val (.long q2), .second, .val (.int p3), .val (.long q4), .second, .val (.int p5), .val (.long q6), .second, .val (.int ((p1 &&& (2147483647 : Int32)) % (14 : Int32))), .val (.int ((p3 &&& (2147483647 : Int32)) % (14 : Int32))), .val (.int ((p5 &&& (2147483647 : Int32)) % (14 : Int32))), .val (.ref (r na)), .unset, .unset, .unset, .unset, .unset, .unset, .unset] [(.int ((p3 &&& (2147483647 : Int32)) % (14 : Int32)))])) rfl (by rw [hml]; rfl) (argsL := [(.int ((p3 &&& (2147483647 : Int32)) % (14 : Int32)))]) (rest := []) (lenOf pd_0_0 rfl) rfl (by show 2 * 0 + _ ≤ _; exact Nat.le_of_eq rfl) (hb hby at_37) (fun _ _ => ⟨rfl, eQ7, (by exact Nat.le_of_ble_eq_true rfl), (by exact Nat.le_of_ble_eq_true rfl)⟩)
  dsimp only [Pt.U, Pt.locs, Pt.cells, Pt.slots] at X8 l8 y8 z8 st8 hQ8
  subst l8 y8 z8
  obtain ⟨rfl, N8q, eQ8⟩ := hQ8      -- what it returned, that it wrote nothing old, and the rest of your Q1
  have N8 := Fr.app N7 N8q
  -- pc 44: com/example/orgweave/orgweave/fhir/NodesAddPinLaw.kindOf by its contract rm1
  obtain ⟨_, _, ⟨T9, L9, k9, n9⟩, -, X9, ⟨Lc9, hQ9, l9, y9, z9⟩, st9⟩ := Jvm.LawKit.callS X8 hx (y := (⟨"com/example/orgweave/orgweave/fhir/NodesAddPinLaw", "kindOf", "(I)Lcom/example/orgweave/orgweave/fhir/Nodes$Kind;"⟩ : MethodName)) hown (mvT hZ (hw _ (List.mem_of_getElem? (i := 1) rfl))) (mvT hZ (hw _ (List.mem_of_getElem? (i := 2) rfl))) (mvT hZ (hw _ (List.mem_of_getElem? (i := 3) rfl))) (mvT hZ (hw _ (List.mem_of_getElem? (i := 4) rfl))) (by decide) (backOf (W := 0) (rm1 l Z a0 hw [] ((p5 &&& (2147483647 : Int32)) % (14 : Int32)) r nc h0 n0 Z0 hnc enc hS) hZ (hw _ (List.mem_of_getElem? (i := 4) rfl)) (hw _ (List.mem_of_getElem? (i := 3) rfl)) (by decide) (by decide)) (g := (mkF m 44 #[.val (.int p1), .val (.long q2), .second, .val (.int p3), .val (.long q4), .second, .val (.int p5), .val (.long q6), .second, .val (.int ((p1 &&& (2147483647 : Int32)) % (14 : Int32))), .val (.int ((p3 &&& (2147483647 : Int32)) % (14 : Int32))), .val (.int ((p5 &&& (2147483647 : Int32)) % (14 : Int32))), .val (.ref (r na)), .val (.ref (r nb)), .unset, .unset, .unset, .unset, .unset, .unset] [(.int ((p5 &&& (2147483647 : Int32)) % (14 : Int32)))])) rfl (by rw [hml]; rfl) (argsL := [(.int ((p5 &&& (2147483647 : Int32)) % (14 : Int32)))]) (rest := []) (lenOf pd_0_0 rfl) rfl (by show 2 * 0 + _ ≤ _; exact Nat.le_of_eq rfl) (hb hby at_44) (fun _ _ => ⟨rfl, eQ8, (by exact Nat.le_of_ble_eq_true rfl), (by exact Nat.le_of_ble_eq_true rfl)⟩)
  dsimp only [Pt.U, Pt.locs, Pt.cells, Pt.slots] at X9 l9 y9 z9 st9 hQ9
  subst l9 y9 z9
  obtain ⟨rfl, N9q, eQ9⟩ := hQ9      -- what it returned, that it wrote nothing old, and the rest of your Q1
  have N9 := Fr.app N8 N9q
  obtain ⟨T10, h10, X10, e10, EN, A10, D10, -, st10⟩ := newO X9 hx hZ hown (hw _ (List.mem_of_getElem? (i := 12) rfl)) (hw _ (List.mem_of_getElem? (i := 13) rfl)) (hw _ (List.mem_of_getElem? (i := 14) rfl)) eQ9 (g := (mkF m 49 #[.val (.int p1), .val (.long q2), .second, .val (.int p3), .val (.long q4), .second, .val (.int p5), .val (.long q6), .second, .val (.int ((p1 &&& (2147483647 : Int32)) % (14 : Int32))), .val (.int ((p3 &&& (2147483647 : Int32)) % (14 : Int32))), .val (.int ((p5 &&& (2147483647 : Int32)) % (14 : Int32))), .val (.ref (r na)), .val (.ref (r nb)), .val (.ref (r nc)), .unset, .unset, .unset, .unset, .unset] [])) rfl (hb hby at_49) (by decide) (by decide)
  obtain ⟨bN, g10⟩ : ∃ z, z = h0.size := ⟨_, rfl⟩      -- the fresh object's address
  rw [← g10] at A10 D10 st10      -- A10 : Exa Z h10 bN "com/example/orgweave/orgweave/fhir/Nodes"; EN : Ext h0 h10 (carries every older fact: .ext EN)
  have F_counts_bN : Fld Z h10 bN "com/example/orgweave/orgweave/fhir/Nodes" "counts" "[J" .null := D10 (Or.inr (hw _ (List.mem_of_getElem? (i := 49) rfl))) (ty := (.array .long)) (by decide)
  have F_beyondLatin1_bN : Fld Z h10 bN "com/example/orgweave/orgweave/fhir/Nodes" "beyondLatin1" "Z" (.int (0 : Int32)) := D10 (Or.inl (hw _ (List.mem_of_getElem? (i := 78) rfl))) (ty := .boolean) (by decide)
  have E_bN := A10
  have g_bN : n0 ≤ bN := Nat.le_trans Z0 (Nat.le_of_eq g10.symm)
  have ZN : n0 ≤ h10.size := Nat.le_trans Z0 EN.1
  have FBN := F_beyondLatin1_bN
  have sz_bN : h0.size ≤ bN := (Nat.le_trans (Keep.refl h0 []).1 (Nat.le_of_eq g10.symm))
  have K10 : Keep h0 h10 [] := (Keep.refl h0 []).ext EN
  -- pc 53: the constructor of com/example/orgweave/orgweave/fhir/Nodes by its contract rm2
  obtain ⟨_, _, ⟨T11, L11, k11, n11⟩, -, X11, ⟨Lc11, hQ11, l11, y11, z11⟩, st11⟩ := X10.specialBack hx (y := (⟨"com/example/orgweave/orgweave/fhir/Nodes", "<init>", "()V"⟩ : MethodName)) rfl hown (mvT hZ (hw _ (List.mem_of_getElem? (i := 15) rfl))) (mvT hZ (hw _ (List.mem_of_getElem? (i := 16) rfl))) (mvT hZ (hw _ (List.mem_of_getElem? (i := 17) rfl))) (by decide) (backOf (W := 1) (rm2 l Z a0 hw [] bN _ h10 n0 ZN (hV.ext EN) FBN E_bN F_counts_bN g_bN) hZ (hw _ (List.mem_of_getElem? (i := 17) rfl)) (hw _ (List.mem_of_getElem? (i := 14) rfl)) (by decide) (by decide)) (g := (mkF m 53 #[.val (.int p1), .val (.long q2), .second, .val (.int p3), .val (.long q4), .second, .val (.int p5), .val (.long q6), .second, .val (.int ((p1 &&& (2147483647 : Int32)) % (14 : Int32))), .val (.int ((p3 &&& (2147483647 : Int32)) % (14 : Int32))), .val (.int ((p5 &&& (2147483647 : Int32)) % (14 : Int32))), .val (.ref (r na)), .val (.ref (r nb)), .val (.ref (r nc)), .unset, .unset, .unset, .unset, .unset] [(.ref bN), (.ref bN)])) rfl (by rw [hml]; rfl) (Steps.refl _) (a := bN) (argsL := []) (rest := [(.ref bN)]) (lenOf pd_0_1 rfl) rfl (by show 2 * 0 + _ ≤ _; exact Nat.le_of_eq rfl) (hb hby at_53) (fun _ _ => ⟨rfl, e10, (by exact Nat.le_of_ble_eq_true rfl), (by exact Nat.le_of_ble_eq_true rfl)⟩)
  dsimp only [Pt.U, Pt.locs, Pt.cells, Pt.slots] at X11 l11 y11 z11 st11 hQ11
  subst l11 y11 z11
  obtain ⟨rfl, N11q, wN, hwz, KP11, EXN, FCa, FBa, hCa⟩ := hQ11      -- what it returned, that it wrote nothing old, and the rest of your Q2
  have N11 := Fr.app N9 N11q
  obtain ⟨ca, Aa, sa, fa⟩ := hCa
  have hOa := (hO.ext EN).keep KP11 (fun k hk => Nat.ne_of_lt (Nat.lt_of_lt_of_le (hO k hk).1.lt sz_bN))
  have szw : h0.size ≤ wN := Nat.le_trans EN.1 hwz
  have new : ∀ k, k < 14 → r k ≠ wN := fun k hk => Nat.ne_of_lt (Nat.lt_of_lt_of_le (hO k hk).1.lt szw)
  have nbw : bN ≠ wN := Nat.ne_of_lt (Nat.lt_of_lt_of_le E_bN.lt hwz)
  have gw : n0 ≤ wN := Nat.le_trans Z0 szw
  have Za : n0 ≤ T11.heap.size := Nat.le_trans ZN KP11.1
  -- pc 63: com/example/orgweave/orgweave/fhir/Nodes.add by the contract of the body that the receiver's class selects, rm5
  obtain ⟨cq12, kq12, q12a, q12b, q12c⟩ := isOf hZ rfl (E_bN.keep KP11)
  obtain ⟨_, _, ⟨T12, L12, k12, n12⟩, -, X12, ⟨Lc12, hQ12, l12, y12, z12⟩, st12⟩ := X11.virtualBack hx (y := (⟨"com/example/orgweave/orgweave/fhir/Nodes", "add", "(Lcom/example/orgweave/orgweave/fhir/Nodes$Kind;J)V"⟩ : MethodName)) (z := (⟨"com/example/orgweave/orgweave/fhir/Nodes", "add", "(Lcom/example/orgweave/orgweave/fhir/Nodes$Kind;J)V"⟩ : MethodName)) hown (mvT hZ (hw _ (List.mem_of_getElem? (i := 50) rfl))) (mvT hZ (hw _ (List.mem_of_getElem? (i := 51) rfl))) (notFace_of_selects (args := #[]) (mvT hZ (hw _ (List.mem_of_getElem? (i := 53) rfl)))) (mvT hZ (hw _ (List.mem_of_getElem? (i := 53) rfl))) (mvT hZ (hw _ (List.mem_of_getElem? (i := 52) rfl))) (by decide) (backOf (W := 0) (rm5 l Z a0 hw [] bN (r na) q2 wN (own_f0 na) ca T11.heap n0 Za (Int32.ofNat na) (hOa na hna).2 FCa (hOa na hna).1 Aa (own_hin sa hna) (own_hat fa hna) (own_hin sa hna) gw) hZ (hw _ (List.mem_of_getElem? (i := 54) rfl)) (hw _ (List.mem_of_getElem? (i := 14) rfl)) (by decide) (by decide)) q12a q12c (g := (mkF m 63 #[.val (.int p1), .val (.long q2), .second, .val (.int p3), .val (.long q4), .second, .val (.int p5), .val (.long q6), .second, .val (.int ((p1 &&& (2147483647 : Int32)) % (14 : Int32))), .val (.int ((p3 &&& (2147483647 : Int32)) % (14 : Int32))), .val (.int ((p5 &&& (2147483647 : Int32)) % (14 : Int32))), .val (.ref (r na)), .val (.ref (r nb)), .val (.ref (r nc)), .val (.ref bN), .unset, .unset, .unset, .unset] [(.long q2), (.ref (r na)), (.ref bN)])) rfl (by rw [hml]; rfl) (Steps.refl _) (argsL := [(.ref (r na)), (.long q2)]) (rest := []) (lenOf pd_0_4 rfl) rfl (by show 2 * 0 + _ ≤ _; exact Nat.le_of_eq rfl) (hb hby at_63) (fun _ _ => ⟨rfl, rfl, (by exact Nat.le_of_ble_eq_true rfl), (by exact Nat.le_of_ble_eq_true rfl)⟩)
  dsimp only [Pt.U, Pt.locs, Pt.cells, Pt.slots] at X12 l12 y12 z12 st12 hQ12
  subst l12 y12 z12
  obtain ⟨rfl, N12q, KP12, B12⟩ := hQ12      -- what it returned, that it wrote nothing old, and the rest of your Q5
  have N12 := Fr.app N11 N12q
  obtain ⟨cb, Ab, sb, fb⟩ := own_Cnt_set sa fa hna B12
  have hOb := hOa.keep KP12 new
  have FCb := FCa.keep KP12 (ninS nbw nin0)
  have FBb := FBa.keep KP12 (ninS nbw nin0)
  have Zb : n0 ≤ T12.heap.size := Nat.le_trans Za KP12.1
  -- pc 72: com/example/orgweave/orgweave/fhir/Nodes.add by the contract of the body that the receiver's class selects, rm5
  obtain ⟨cq13, kq13, q13a, q13b, q13c⟩ := isOf hZ rfl ((E_bN.keep KP11).keep KP12)
  obtain ⟨_, _, ⟨T13, L13, k13, n13⟩, -, X13, ⟨Lc13, hQ13, l13, y13, z13⟩, st13⟩ := X12.virtualBack hx (y := (⟨"com/example/orgweave/orgweave/fhir/Nodes", "add", "(Lcom/example/orgweave/orgweave/fhir/Nodes$Kind;J)V"⟩ : MethodName)) (z := (⟨"com/example/orgweave/orgweave/fhir/Nodes", "add", "(Lcom/example/orgweave/orgweave/fhir/Nodes$Kind;J)V"⟩ : MethodName)) hown (mvT hZ (hw _ (List.mem_of_getElem? (i := 50) rfl))) (mvT hZ (hw _ (List.mem_of_getElem? (i := 51) rfl))) (notFace_of_selects (args := #[]) (mvT hZ (hw _ (List.mem_of_getElem? (i := 53) rfl)))) (mvT hZ (hw _ (List.mem_of_getElem? (i := 53) rfl))) (mvT hZ (hw _ (List.mem_of_getElem? (i := 52) rfl))) (by decide) (backOf (W := 0) (rm5 l Z a0 hw [] bN (r nb) q4 wN ((own_up own_f0 na q2) nb) cb T12.heap n0 Zb (Int32.ofNat nb) (hOb nb hnb).2 FCb (hOb nb hnb).1 Ab (own_hin sb hnb) (own_hat fb hnb) (own_hin sb hnb) gw) hZ (hw _ (List.mem_of_getElem? (i := 54) rfl)) (hw _ (List.mem_of_getElem? (i := 14) rfl)) (by decide) (by decide)) q13a q13c (g := (mkF m 72 #[.val (.int p1), .val (.long q2), .second, .val (.int p3), .val (.long q4), .second, .val (.int p5), .val (.long q6), .second, .val (.int ((p1 &&& (2147483647 : Int32)) % (14 : Int32))), .val (.int ((p3 &&& (2147483647 : Int32)) % (14 : Int32))), .val (.int ((p5 &&& (2147483647 : Int32)) % (14 : Int32))), .val (.ref (r na)), .val (.ref (r nb)), .val (.ref (r nc)), .val (.ref bN), .unset, .unset, .unset, .unset] [(.long q4), (.ref (r nb)), (.ref bN)])) rfl (by rw [hml]; rfl) (Steps.refl _) (argsL := [(.ref (r nb)), (.long q4)]) (rest := []) (lenOf pd_0_4 rfl) rfl (by show 2 * 0 + _ ≤ _; exact Nat.le_of_eq rfl) (hb hby at_72) (fun _ _ => ⟨rfl, rfl, (by exact Nat.le_of_ble_eq_true rfl), (by exact Nat.le_of_ble_eq_true rfl)⟩)
  dsimp only [Pt.U, Pt.locs, Pt.cells, Pt.slots] at X13 l13 y13 z13 st13 hQ13
  subst l13 y13 z13
  obtain ⟨rfl, N13q, KP13, B13⟩ := hQ13      -- what it returned, that it wrote nothing old, and the rest of your Q5
  have N13 := Fr.app N12 N13q
  obtain ⟨cc, Ac, sc, fc⟩ := own_Cnt_set sb fb hnb B13
  have hOc := hOb.keep KP13 new
  have FCc := FCb.keep KP13 (ninS nbw nin0)
  have FBc := FBb.keep KP13 (ninS nbw nin0)
  have Zc : n0 ≤ T13.heap.size := Nat.le_trans Zb KP13.1
  -- pc 81: com/example/orgweave/orgweave/fhir/Nodes.add by the contract of the body that the receiver's class selects, rm5
  obtain ⟨cq14, kq14, q14a, q14b, q14c⟩ := isOf hZ rfl (((E_bN.keep KP11).keep KP12).keep KP13)
  obtain ⟨_, _, ⟨T14, L14, k14, n14⟩, -, X14, ⟨Lc14, hQ14, l14, y14, z14⟩, st14⟩ := X13.virtualBack hx (y := (⟨"com/example/orgweave/orgweave/fhir/Nodes", "add", "(Lcom/example/orgweave/orgweave/fhir/Nodes$Kind;J)V"⟩ : MethodName)) (z := (⟨"com/example/orgweave/orgweave/fhir/Nodes", "add", "(Lcom/example/orgweave/orgweave/fhir/Nodes$Kind;J)V"⟩ : MethodName)) hown (mvT hZ (hw _ (List.mem_of_getElem? (i := 50) rfl))) (mvT hZ (hw _ (List.mem_of_getElem? (i := 51) rfl))) (notFace_of_selects (args := #[]) (mvT hZ (hw _ (List.mem_of_getElem? (i := 53) rfl)))) (mvT hZ (hw _ (List.mem_of_getElem? (i := 53) rfl))) (mvT hZ (hw _ (List.mem_of_getElem? (i := 52) rfl))) (by decide) (backOf (W := 0) (rm5 l Z a0 hw [] bN (r nc) q6 wN ((own_up (own_up own_f0 na q2) nb q4) nc) cc T13.heap n0 Zc (Int32.ofNat nc) (hOc nc hnc).2 FCc (hOc nc hnc).1 Ac (own_hin sc hnc) (own_hat fc hnc) (own_hin sc hnc) gw) hZ (hw _ (List.mem_of_getElem? (i := 54) rfl)) (hw _ (List.mem_of_getElem? (i := 14) rfl)) (by decide) (by decide)) q14a q14c (g := (mkF m 81 #[.val (.int p1), .val (.long q2), .second, .val (.int p3), .val (.long q4), .second, .val (.int p5), .val (.long q6), .second, .val (.int ((p1 &&& (2147483647 : Int32)) % (14 : Int32))), .val (.int ((p3 &&& (2147483647 : Int32)) % (14 : Int32))), .val (.int ((p5 &&& (2147483647 : Int32)) % (14 : Int32))), .val (.ref (r na)), .val (.ref (r nb)), .val (.ref (r nc)), .val (.ref bN), .unset, .unset, .unset, .unset] [(.long q6), (.ref (r nc)), (.ref bN)])) rfl (by rw [hml]; rfl) (Steps.refl _) (argsL := [(.ref (r nc)), (.long q6)]) (rest := []) (lenOf pd_0_4 rfl) rfl (by show 2 * 0 + _ ≤ _; exact Nat.le_of_eq rfl) (hb hby at_81) (fun _ _ => ⟨rfl, rfl, (by exact Nat.le_of_ble_eq_true rfl), (by exact Nat.le_of_ble_eq_true rfl)⟩)
  dsimp only [Pt.U, Pt.locs, Pt.cells, Pt.slots] at X14 l14 y14 z14 st14 hQ14
  subst l14 y14 z14
  obtain ⟨rfl, N14q, KP14, B14⟩ := hQ14      -- what it returned, that it wrote nothing old, and the rest of your Q5
  have N14 := Fr.app N13 N14q
  obtain ⟨cd, Ad, sd, fd⟩ := own_Cnt_set sc fc hnc B14
  have hOd := hOc.keep KP14 new
  have FCd := FCc.keep KP14 (ninS nbw nin0)
  have FBd := FBc.keep KP14 (ninS nbw nin0)
  have Zd : n0 ≤ T14.heap.size := Nat.le_trans Zc KP14.1
  -- pc 88: com/example/orgweave/orgweave/fhir/Nodes.count by the contract of the body that the receiver's class selects, rm7
  obtain ⟨cq15, kq15, q15a, q15b, q15c⟩ := isOf hZ rfl ((((E_bN.keep KP11).keep KP12).keep KP13).keep KP14)
  obtain ⟨_, _, ⟨T15, L15, k15, n15⟩, -, X15, ⟨Lc15, hQ15, l15, y15, z15⟩, st15⟩ := X14.virtualBack hx (y := (⟨"com/example/orgweave/orgweave/fhir/Nodes", "count", "(Lcom/example/orgweave/orgweave/fhir/Nodes$Kind;)J"⟩ : MethodName)) (z := (⟨"com/example/orgweave/orgweave/fhir/Nodes", "count", "(Lcom/example/orgweave/orgweave/fhir/Nodes$Kind;)J"⟩ : MethodName)) hown (mvT hZ (hw _ (List.mem_of_getElem? (i := 64) rfl))) (mvT hZ (hw _ (List.mem_of_getElem? (i := 65) rfl))) (notFace_of_selects (args := #[]) (mvT hZ (hw _ (List.mem_of_getElem? (i := 67) rfl)))) (mvT hZ (hw _ (List.mem_of_getElem? (i := 67) rfl))) (mvT hZ (hw _ (List.mem_of_getElem? (i := 66) rfl))) (by decide) (backOf (W := 0) (rm7 l Z a0 hw [] bN (r na) wN ((own_up (own_up (own_up own_f0 na q2) nb q4) nc q6) na) cd T14.heap n0 Zd (Int32.ofNat na) (hOd na hna).2 FCd (hOd na hna).1 Ad (own_hin sd hna) (own_hat fd hna)) hZ (hw _ (List.mem_of_getElem? (i := 68) rfl)) (hw _ (List.mem_of_getElem? (i := 14) rfl)) (by decide) (by decide)) q15a q15c (g := (mkF m 88 #[.val (.int p1), .val (.long q2), .second, .val (.int p3), .val (.long q4), .second, .val (.int p5), .val (.long q6), .second, .val (.int ((p1 &&& (2147483647 : Int32)) % (14 : Int32))), .val (.int ((p3 &&& (2147483647 : Int32)) % (14 : Int32))), .val (.int ((p5 &&& (2147483647 : Int32)) % (14 : Int32))), .val (.ref (r na)), .val (.ref (r nb)), .val (.ref (r nc)), .val (.ref bN), .unset, .unset, .unset, .unset] [(.ref (r na)), (.ref bN)])) rfl (by rw [hml]; rfl) (Steps.refl _) (argsL := [(.ref (r na))]) (rest := []) (lenOf pd_0_6 rfl) rfl (by show 2 * 0 + _ ≤ _; exact Nat.le_of_eq rfl) (hb hby at_88) (fun _ _ => ⟨rfl, rfl, (by exact Nat.le_of_ble_eq_true rfl), (by exact Nat.le_of_ble_eq_true rfl)⟩)
  dsimp only [Pt.U, Pt.locs, Pt.cells, Pt.slots] at X15 l15 y15 z15 st15 hQ15
  subst l15 y15 z15
  obtain ⟨rfl, N15q, eQ15⟩ := hQ15      -- what it returned, that it wrote nothing old, and the rest of your Q7
  have N15 := Fr.app N14 N15q
  -- pc 104: com/example/orgweave/orgweave/fhir/NodesAddPinLaw.expected by its contract rm8
  obtain ⟨_, _, ⟨T16, L16, k16, n16⟩, -, X16, ⟨Lc16, hQ16, l16, y16, z16⟩, st16⟩ := Jvm.LawKit.callS X15 hx (y := (⟨"com/example/orgweave/orgweave/fhir/NodesAddPinLaw", "expected", "(IIJIJIJ)J"⟩ : MethodName)) hown (mvT hZ (hw _ (List.mem_of_getElem? (i := 69) rfl))) (mvT hZ (hw _ (List.mem_of_getElem? (i := 70) rfl))) (mvT hZ (hw _ (List.mem_of_getElem? (i := 3) rfl))) (mvT hZ (hw _ (List.mem_of_getElem? (i := 71) rfl))) (by decide) (backOf (W := 2) (rm8 l Z a0 hw [] ((p1 &&& (2147483647 : Int32)) % (14 : Int32)) ((p1 &&& (2147483647 : Int32)) % (14 : Int32)) q2 ((p3 &&& (2147483647 : Int32)) % (14 : Int32)) q4 ((p5 &&& (2147483647 : Int32)) % (14 : Int32)) q6 T14.heap n0 Zd) hZ (hw _ (List.mem_of_getElem? (i := 71) rfl)) (hw _ (List.mem_of_getElem? (i := 3) rfl)) (by decide) (by decide)) (g := (mkF m 104 #[.val (.int p1), .val (.long q2), .second, .val (.int p3), .val (.long q4), .second, .val (.int p5), .val (.long q6), .second, .val (.int ((p1 &&& (2147483647 : Int32)) % (14 : Int32))), .val (.int ((p3 &&& (2147483647 : Int32)) % (14 : Int32))), .val (.int ((p5 &&& (2147483647 : Int32)) % (14 : Int32))), .val (.ref (r na)), .val (.ref (r nb)), .val (.ref (r nc)), .val (.ref bN), .unset, .unset, .unset, .unset] [(.long q6), (.int ((p5 &&& (2147483647 : Int32)) % (14 : Int32))), (.long q4), (.int ((p3 &&& (2147483647 : Int32)) % (14 : Int32))), (.long q2), (.int ((p1 &&& (2147483647 : Int32)) % (14 : Int32))), (.int ((p1 &&& (2147483647 : Int32)) % (14 : Int32))), (.long ((own_up (own_up (own_up own_f0 na q2) nb q4) nc q6) na))])) rfl (by rw [hml]; rfl) (argsL := [(.int ((p1 &&& (2147483647 : Int32)) % (14 : Int32))), (.int ((p1 &&& (2147483647 : Int32)) % (14 : Int32))), (.long q2), (.int ((p3 &&& (2147483647 : Int32)) % (14 : Int32))), (.long q4), (.int ((p5 &&& (2147483647 : Int32)) % (14 : Int32))), (.long q6)]) (rest := [(.long ((own_up (own_up (own_up own_f0 na q2) nb q4) nc q6) na))]) (lenOf pd_0_7 rfl) rfl (by show 2 * 0 + _ ≤ _; exact Nat.le_of_eq rfl) (hb hby at_104) (fun _ _ => ⟨rfl, eQ15, (by exact Nat.le_of_ble_eq_true rfl), (by exact Nat.le_of_ble_eq_true rfl)⟩)
  dsimp only [Pt.U, Pt.locs, Pt.cells, Pt.slots] at X16 l16 y16 z16 st16 hQ16
  subst l16 y16 z16
  obtain ⟨rfl, N16q, eQ16⟩ := hQ16      -- what it returned, that it wrote nothing old, and the rest of your Q8
  have N16 := Fr.app N15 N16q
  -- pc 122: com/example/orgweave/orgweave/fhir/Nodes.count by the contract of the body that the receiver's class selects, rm7
  obtain ⟨cq17, kq17, q17a, q17b, q17c⟩ := isOf hZ eQ16 ((((E_bN.keep KP11).keep KP12).keep KP13).keep KP14)
  obtain ⟨_, _, ⟨T17, L17, k17, n17⟩, -, X17, ⟨Lc17, hQ17, l17, y17, z17⟩, st17⟩ := X16.virtualBack hx (y := (⟨"com/example/orgweave/orgweave/fhir/Nodes", "count", "(Lcom/example/orgweave/orgweave/fhir/Nodes$Kind;)J"⟩ : MethodName)) (z := (⟨"com/example/orgweave/orgweave/fhir/Nodes", "count", "(Lcom/example/orgweave/orgweave/fhir/Nodes$Kind;)J"⟩ : MethodName)) hown (mvT hZ (hw _ (List.mem_of_getElem? (i := 64) rfl))) (mvT hZ (hw _ (List.mem_of_getElem? (i := 65) rfl))) (notFace_of_selects (args := #[]) (mvT hZ (hw _ (List.mem_of_getElem? (i := 67) rfl)))) (mvT hZ (hw _ (List.mem_of_getElem? (i := 67) rfl))) (mvT hZ (hw _ (List.mem_of_getElem? (i := 66) rfl))) (by decide) (backOf (W := 0) (rm7 l Z a0 hw [] bN (r nb) wN ((own_up (own_up (own_up own_f0 na q2) nb q4) nc q6) nb) cd T14.heap n0 Zd (Int32.ofNat nb) (hOd nb hnb).2 FCd (hOd nb hnb).1 Ad (own_hin sd hnb) (own_hat fd hnb)) hZ (hw _ (List.mem_of_getElem? (i := 68) rfl)) (hw _ (List.mem_of_getElem? (i := 14) rfl)) (by decide) (by decide)) q17a q17c (g := (mkF m 122 #[.val (.int p1), .val (.long q2), .second, .val (.int p3), .val (.long q4), .second, .val (.int p5), .val (.long q6), .second, .val (.int ((p1 &&& (2147483647 : Int32)) % (14 : Int32))), .val (.int ((p3 &&& (2147483647 : Int32)) % (14 : Int32))), .val (.int ((p5 &&& (2147483647 : Int32)) % (14 : Int32))), .val (.ref (r na)), .val (.ref (r nb)), .val (.ref (r nc)), .val (.ref bN), .val (.int (1 : Int32)), .unset, .unset, .unset] [(.ref (r nb)), (.ref bN)])) rfl (by rw [hml]; rfl) (Steps.refl _) (argsL := [(.ref (r nb))]) (rest := []) (lenOf pd_0_6 rfl) rfl (by show 2 * 0 + _ ≤ _; exact Nat.le_of_eq rfl) (hb hby at_122) (fun _ _ => ⟨rfl, eQ16, (by exact Nat.le_of_ble_eq_true rfl), (by exact Nat.le_of_ble_eq_true rfl)⟩)
  dsimp only [Pt.U, Pt.locs, Pt.cells, Pt.slots] at X17 l17 y17 z17 st17 hQ17
  subst l17 y17 z17
  obtain ⟨rfl, N17q, eQ17⟩ := hQ17      -- what it returned, that it wrote nothing old, and the rest of your Q7
  have N17 := Fr.app N16 N17q
  -- pc 138: com/example/orgweave/orgweave/fhir/NodesAddPinLaw.expected by its contract rm8
  obtain ⟨_, _, ⟨T18, L18, k18, n18⟩, -, X18, ⟨Lc18, hQ18, l18, y18, z18⟩, st18⟩ := Jvm.LawKit.callS X17 hx (y := (⟨"com/example/orgweave/orgweave/fhir/NodesAddPinLaw", "expected", "(IIJIJIJ)J"⟩ : MethodName)) hown (mvT hZ (hw _ (List.mem_of_getElem? (i := 69) rfl))) (mvT hZ (hw _ (List.mem_of_getElem? (i := 70) rfl))) (mvT hZ (hw _ (List.mem_of_getElem? (i := 3) rfl))) (mvT hZ (hw _ (List.mem_of_getElem? (i := 71) rfl))) (by decide) (backOf (W := 2) (rm8 l Z a0 hw [] ((p3 &&& (2147483647 : Int32)) % (14 : Int32)) ((p1 &&& (2147483647 : Int32)) % (14 : Int32)) q2 ((p3 &&& (2147483647 : Int32)) % (14 : Int32)) q4 ((p5 &&& (2147483647 : Int32)) % (14 : Int32)) q6 T14.heap n0 Zd) hZ (hw _ (List.mem_of_getElem? (i := 71) rfl)) (hw _ (List.mem_of_getElem? (i := 3) rfl)) (by decide) (by decide)) (g := (mkF m 138 #[.val (.int p1), .val (.long q2), .second, .val (.int p3), .val (.long q4), .second, .val (.int p5), .val (.long q6), .second, .val (.int ((p1 &&& (2147483647 : Int32)) % (14 : Int32))), .val (.int ((p3 &&& (2147483647 : Int32)) % (14 : Int32))), .val (.int ((p5 &&& (2147483647 : Int32)) % (14 : Int32))), .val (.ref (r na)), .val (.ref (r nb)), .val (.ref (r nc)), .val (.ref bN), .val (.int (1 : Int32)), .unset, .unset, .unset] [(.long q6), (.int ((p5 &&& (2147483647 : Int32)) % (14 : Int32))), (.long q4), (.int ((p3 &&& (2147483647 : Int32)) % (14 : Int32))), (.long q2), (.int ((p1 &&& (2147483647 : Int32)) % (14 : Int32))), (.int ((p3 &&& (2147483647 : Int32)) % (14 : Int32))), (.long ((own_up (own_up (own_up own_f0 na q2) nb q4) nc q6) nb))])) rfl (by rw [hml]; rfl) (argsL := [(.int ((p3 &&& (2147483647 : Int32)) % (14 : Int32))), (.int ((p1 &&& (2147483647 : Int32)) % (14 : Int32))), (.long q2), (.int ((p3 &&& (2147483647 : Int32)) % (14 : Int32))), (.long q4), (.int ((p5 &&& (2147483647 : Int32)) % (14 : Int32))), (.long q6)]) (rest := [(.long ((own_up (own_up (own_up own_f0 na q2) nb q4) nc q6) nb))]) (lenOf pd_0_7 rfl) rfl (by show 2 * 0 + _ ≤ _; exact Nat.le_of_eq rfl) (hb hby at_138) (fun _ _ => ⟨rfl, eQ17, (by exact Nat.le_of_ble_eq_true rfl), (by exact Nat.le_of_ble_eq_true rfl)⟩)
  dsimp only [Pt.U, Pt.locs, Pt.cells, Pt.slots] at X18 l18 y18 z18 st18 hQ18
  subst l18 y18 z18
  obtain ⟨rfl, N18q, eQ18⟩ := hQ18      -- what it returned, that it wrote nothing old, and the rest of your Q8
  have N18 := Fr.app N17 N18q
  -- pc 156: com/example/orgweave/orgweave/fhir/Nodes.count by the contract of the body that the receiver's class selects, rm7
  obtain ⟨cq19, kq19, q19a, q19b, q19c⟩ := isOf hZ eQ18 ((((E_bN.keep KP11).keep KP12).keep KP13).keep KP14)
  obtain ⟨_, _, ⟨T19, L19, k19, n19⟩, -, X19, ⟨Lc19, hQ19, l19, y19, z19⟩, st19⟩ := X18.virtualBack hx (y := (⟨"com/example/orgweave/orgweave/fhir/Nodes", "count", "(Lcom/example/orgweave/orgweave/fhir/Nodes$Kind;)J"⟩ : MethodName)) (z := (⟨"com/example/orgweave/orgweave/fhir/Nodes", "count", "(Lcom/example/orgweave/orgweave/fhir/Nodes$Kind;)J"⟩ : MethodName)) hown (mvT hZ (hw _ (List.mem_of_getElem? (i := 64) rfl))) (mvT hZ (hw _ (List.mem_of_getElem? (i := 65) rfl))) (notFace_of_selects (args := #[]) (mvT hZ (hw _ (List.mem_of_getElem? (i := 67) rfl)))) (mvT hZ (hw _ (List.mem_of_getElem? (i := 67) rfl))) (mvT hZ (hw _ (List.mem_of_getElem? (i := 66) rfl))) (by decide) (backOf (W := 0) (rm7 l Z a0 hw [] bN (r nc) wN ((own_up (own_up (own_up own_f0 na q2) nb q4) nc q6) nc) cd T14.heap n0 Zd (Int32.ofNat nc) (hOd nc hnc).2 FCd (hOd nc hnc).1 Ad (own_hin sd hnc) (own_hat fd hnc)) hZ (hw _ (List.mem_of_getElem? (i := 68) rfl)) (hw _ (List.mem_of_getElem? (i := 14) rfl)) (by decide) (by decide)) q19a q19c (g := (mkF m 156 #[.val (.int p1), .val (.long q2), .second, .val (.int p3), .val (.long q4), .second, .val (.int p5), .val (.long q6), .second, .val (.int ((p1 &&& (2147483647 : Int32)) % (14 : Int32))), .val (.int ((p3 &&& (2147483647 : Int32)) % (14 : Int32))), .val (.int ((p5 &&& (2147483647 : Int32)) % (14 : Int32))), .val (.ref (r na)), .val (.ref (r nb)), .val (.ref (r nc)), .val (.ref bN), .val (.int (1 : Int32)), .val (.int (1 : Int32)), .unset, .unset] [(.ref (r nc)), (.ref bN)])) rfl (by rw [hml]; rfl) (Steps.refl _) (argsL := [(.ref (r nc))]) (rest := []) (lenOf pd_0_6 rfl) rfl (by show 2 * 0 + _ ≤ _; exact Nat.le_of_eq rfl) (hb hby at_156) (fun _ _ => ⟨rfl, eQ18, (by exact Nat.le_of_ble_eq_true rfl), (by exact Nat.le_of_ble_eq_true rfl)⟩)
  dsimp only [Pt.U, Pt.locs, Pt.cells, Pt.slots] at X19 l19 y19 z19 st19 hQ19
  subst l19 y19 z19
  obtain ⟨rfl, N19q, eQ19⟩ := hQ19      -- what it returned, that it wrote nothing old, and the rest of your Q7
  have N19 := Fr.app N18 N19q
  -- pc 172: com/example/orgweave/orgweave/fhir/NodesAddPinLaw.expected by its contract rm8
  obtain ⟨_, _, ⟨T20, L20, k20, n20⟩, -, X20, ⟨Lc20, hQ20, l20, y20, z20⟩, st20⟩ := Jvm.LawKit.callS X19 hx (y := (⟨"com/example/orgweave/orgweave/fhir/NodesAddPinLaw", "expected", "(IIJIJIJ)J"⟩ : MethodName)) hown (mvT hZ (hw _ (List.mem_of_getElem? (i := 69) rfl))) (mvT hZ (hw _ (List.mem_of_getElem? (i := 70) rfl))) (mvT hZ (hw _ (List.mem_of_getElem? (i := 3) rfl))) (mvT hZ (hw _ (List.mem_of_getElem? (i := 71) rfl))) (by decide) (backOf (W := 2) (rm8 l Z a0 hw [] ((p5 &&& (2147483647 : Int32)) % (14 : Int32)) ((p1 &&& (2147483647 : Int32)) % (14 : Int32)) q2 ((p3 &&& (2147483647 : Int32)) % (14 : Int32)) q4 ((p5 &&& (2147483647 : Int32)) % (14 : Int32)) q6 T14.heap n0 Zd) hZ (hw _ (List.mem_of_getElem? (i := 71) rfl)) (hw _ (List.mem_of_getElem? (i := 3) rfl)) (by decide) (by decide)) (g := (mkF m 172 #[.val (.int p1), .val (.long q2), .second, .val (.int p3), .val (.long q4), .second, .val (.int p5), .val (.long q6), .second, .val (.int ((p1 &&& (2147483647 : Int32)) % (14 : Int32))), .val (.int ((p3 &&& (2147483647 : Int32)) % (14 : Int32))), .val (.int ((p5 &&& (2147483647 : Int32)) % (14 : Int32))), .val (.ref (r na)), .val (.ref (r nb)), .val (.ref (r nc)), .val (.ref bN), .val (.int (1 : Int32)), .val (.int (1 : Int32)), .unset, .unset] [(.long q6), (.int ((p5 &&& (2147483647 : Int32)) % (14 : Int32))), (.long q4), (.int ((p3 &&& (2147483647 : Int32)) % (14 : Int32))), (.long q2), (.int ((p1 &&& (2147483647 : Int32)) % (14 : Int32))), (.int ((p5 &&& (2147483647 : Int32)) % (14 : Int32))), (.long ((own_up (own_up (own_up own_f0 na q2) nb q4) nc q6) nc))])) rfl (by rw [hml]; rfl) (argsL := [(.int ((p5 &&& (2147483647 : Int32)) % (14 : Int32))), (.int ((p1 &&& (2147483647 : Int32)) % (14 : Int32))), (.long q2), (.int ((p3 &&& (2147483647 : Int32)) % (14 : Int32))), (.long q4), (.int ((p5 &&& (2147483647 : Int32)) % (14 : Int32))), (.long q6)]) (rest := [(.long ((own_up (own_up (own_up own_f0 na q2) nb q4) nc q6) nc))]) (lenOf pd_0_7 rfl) rfl (by show 2 * 0 + _ ≤ _; exact Nat.le_of_eq rfl) (hb hby at_172) (fun _ _ => ⟨rfl, eQ19, (by exact Nat.le_of_ble_eq_true rfl), (by exact Nat.le_of_ble_eq_true rfl)⟩)
  dsimp only [Pt.U, Pt.locs, Pt.cells, Pt.slots] at X20 l20 y20 z20 st20 hQ20
  subst l20 y20 z20
  obtain ⟨rfl, N20q, eQ20⟩ := hQ20      -- what it returned, that it wrote nothing old, and the rest of your Q8
  have N20 := Fr.app N19 N20q
  -- pc 188: com/example/orgweave/orgweave/fhir/Nodes.beyondLatin1 by the contract of the body that the receiver's class selects, rm9
  obtain ⟨cq21, kq21, q21a, q21b, q21c⟩ := isOf hZ eQ20 ((((E_bN.keep KP11).keep KP12).keep KP13).keep KP14)
  obtain ⟨_, _, ⟨T21, L21, k21, n21⟩, -, X21, ⟨Lc21, hQ21, l21, y21, z21⟩, st21⟩ := X20.virtualBack hx (y := (⟨"com/example/orgweave/orgweave/fhir/Nodes", "beyondLatin1", "()Z"⟩ : MethodName)) (z := (⟨"com/example/orgweave/orgweave/fhir/Nodes", "beyondLatin1", "()Z"⟩ : MethodName)) hown (mvT hZ (hw _ (List.mem_of_getElem? (i := 72) rfl))) (mvT hZ (hw _ (List.mem_of_getElem? (i := 73) rfl))) (notFace_of_selects (args := #[]) (mvT hZ (hw _ (List.mem_of_getElem? (i := 75) rfl)))) (mvT hZ (hw _ (List.mem_of_getElem? (i := 75) rfl))) (mvT hZ (hw _ (List.mem_of_getElem? (i := 74) rfl))) (by decide) (backOf (W := 0) (rm9 l Z a0 hw [] bN (0 : Int32) T14.heap n0 Zd rfl FBd) hZ (hw _ (List.mem_of_getElem? (i := 76) rfl)) (hw _ (List.mem_of_getElem? (i := 14) rfl)) (by decide) (by decide)) q21a q21c (g := (mkF m 188 #[.val (.int p1), .val (.long q2), .second, .val (.int p3), .val (.long q4), .second, .val (.int p5), .val (.long q6), .second, .val (.int ((p1 &&& (2147483647 : Int32)) % (14 : Int32))), .val (.int ((p3 &&& (2147483647 : Int32)) % (14 : Int32))), .val (.int ((p5 &&& (2147483647 : Int32)) % (14 : Int32))), .val (.ref (r na)), .val (.ref (r nb)), .val (.ref (r nc)), .val (.ref bN), .val (.int (1 : Int32)), .val (.int (1 : Int32)), .val (.int (1 : Int32)), .unset] [(.ref bN)])) rfl (by rw [hml]; rfl) (Steps.refl _) (argsL := []) (rest := []) (lenOf pd_0_8 rfl) rfl (by show 2 * 0 + _ ≤ _; exact Nat.le_of_eq rfl) (hb hby at_188) (fun _ _ => ⟨rfl, eQ20, (by exact Nat.le_of_ble_eq_true rfl), (by exact Nat.le_of_ble_eq_true rfl)⟩)
  dsimp only [Pt.U, Pt.locs, Pt.cells, Pt.slots] at X21 l21 y21 z21 st21 hQ21
  subst l21 y21 z21
  obtain ⟨rfl, N21q, eQ21⟩ := hQ21      -- what it returned, that it wrote nothing old, and the rest of your Q9
  have N21 := Fr.app N20 N21q
  obtain ⟨fs, hr, hrun, hended, hW, hsame⟩ := X21.leave (v := some (.int (1 : Int32))) (fun h => by rw [Bd.returns] at h; cases h)
  refine ⟨_, _, pre0 _ ?_, hrun, hended, _, _, rfl, ?_, ⟨_, rfl⟩, hW, hsame.mono (by decide) (by decide)⟩
  -- 4. STEPS
  · show Steps p.tables e below (s₁.setTop (mkF m 0 #[.val (.int p1), .val (.long q2), .second, .val (.int p3), .val (.long q4), .second, .val (.int p5), .val (.long q6), .second, .unset, .unset, .unset, .unset, .unset, .unset, .unset, .unset, .unset, .unset, .unset] [])) _
    refine XS.iloadN X0.here hx rfl (hb hby at_0) rfl ?_
    show Steps p.tables e below (s₁.setTop (mkF m 1 #[.val (.int p1), .val (.long q2), .second, .val (.int p3), .val (.long q4), .second, .val (.int p5), .val (.long q6), .second, .unset, .unset, .unset, .unset, .unset, .unset, .unset, .unset, .unset, .unset, .unset] [(.int p1)])) _
    refine X0.ldcInt hx hown (mvT hZ (hw _ (List.mem_of_getElem? (i := 0) rfl))) (g := (mkF m 1 #[.val (.int p1), .val (.long q2), .second, .val (.int p3), .val (.long q4), .second, .val (.int p5), .val (.long q6), .second, .unset, .unset, .unset, .unset, .unset, .unset, .unset, .unset, .unset, .unset, .unset] [(.int p1)])) rfl (hb hby at_1) _ ?_
    show Steps p.tables e below (s₁.setTop (mkF m 3 #[.val (.int p1), .val (.long q2), .second, .val (.int p3), .val (.long q4), .second, .val (.int p5), .val (.long q6), .second, .unset, .unset, .unset, .unset, .unset, .unset, .unset, .unset, .unset, .unset, .unset] [(.int (2147483647 : Int32)), (.int p1)])) _
    refine XS.iand X0.here hx rfl (hb hby at_3) rfl ?_
    show Steps p.tables e below (s₁.setTop (mkF m 4 #[.val (.int p1), .val (.long q2), .second, .val (.int p3), .val (.long q4), .second, .val (.int p5), .val (.long q6), .second, .unset, .unset, .unset, .unset, .unset, .unset, .unset, .unset, .unset, .unset, .unset] [(.int (p1 &&& (2147483647 : Int32)))])) _
    refine XS.bipush X0.here hx rfl (hb hby at_4) ?_
    show Steps p.tables e below (s₁.setTop (mkF m 6 #[.val (.int p1), .val (.long q2), .second, .val (.int p3), .val (.long q4), .second, .val (.int p5), .val (.long q6), .second, .unset, .unset, .unset, .unset, .unset, .unset, .unset, .unset, .unset, .unset, .unset] [(.int (14 : Int32)), (.int (p1 &&& (2147483647 : Int32)))])) _
    refine Jvm.RoadKit.iremM X0 hx rfl (hb hby at_6) rfl hnz6 ?_
    show Steps p.tables e below (s₁.setTop (mkF m 7 #[.val (.int p1), .val (.long q2), .second, .val (.int p3), .val (.long q4), .second, .val (.int p5), .val (.long q6), .second, .unset, .unset, .unset, .unset, .unset, .unset, .unset, .unset, .unset, .unset, .unset] [(.int ((p1 &&& (2147483647 : Int32)) % (14 : Int32)))])) _
    refine XS.istore X0.here hx rfl (hb hby at_7) rfl (l' := #[.val (.int p1), .val (.long q2), .second, .val (.int p3), .val (.long q4), .second, .val (.int p5), .val (.long q6), .second, .val (.int ((p1 &&& (2147483647 : Int32)) % (14 : Int32))), .unset, .unset, .unset, .unset, .unset, .unset, .unset, .unset, .unset, .unset]) rfl ?_
    show Steps p.tables e below (s₁.setTop (mkF m 9 #[.val (.int p1), .val (.long q2), .second, .val (.int p3), .val (.long q4), .second, .val (.int p5), .val (.long q6), .second, .val (.int ((p1 &&& (2147483647 : Int32)) % (14 : Int32))), .unset, .unset, .unset, .unset, .unset, .unset, .unset, .unset, .unset, .unset] [])) _
    refine XS.iloadN X0.here hx rfl (hb hby at_9) rfl ?_
    show Steps p.tables e below (s₁.setTop (mkF m 10 #[.val (.int p1), .val (.long q2), .second, .val (.int p3), .val (.long q4), .second, .val (.int p5), .val (.long q6), .second, .val (.int ((p1 &&& (2147483647 : Int32)) % (14 : Int32))), .unset, .unset, .unset, .unset, .unset, .unset, .unset, .unset, .unset, .unset] [(.int p3)])) _
    refine X0.ldcInt hx hown (mvT hZ (hw _ (List.mem_of_getElem? (i := 0) rfl))) (g := (mkF m 10 #[.val (.int p1), .val (.long q2), .second, .val (.int p3), .val (.long q4), .second, .val (.int p5), .val (.long q6), .second, .val (.int ((p1 &&& (2147483647 : Int32)) % (14 : Int32))), .unset, .unset, .unset, .unset, .unset, .unset, .unset, .unset, .unset, .unset] [(.int p3)])) rfl (hb hby at_10) _ ?_
    show Steps p.tables e below (s₁.setTop (mkF m 12 #[.val (.int p1), .val (.long q2), .second, .val (.int p3), .val (.long q4), .second, .val (.int p5), .val (.long q6), .second, .val (.int ((p1 &&& (2147483647 : Int32)) % (14 : Int32))), .unset, .unset, .unset, .unset, .unset, .unset, .unset, .unset, .unset, .unset] [(.int (2147483647 : Int32)), (.int p3)])) _
    refine XS.iand X0.here hx rfl (hb hby at_12) rfl ?_
    show Steps p.tables e below (s₁.setTop (mkF m 13 #[.val (.int p1), .val (.long q2), .second, .val (.int p3), .val (.long q4), .second, .val (.int p5), .val (.long q6), .second, .val (.int ((p1 &&& (2147483647 : Int32)) % (14 : Int32))), .unset, .unset, .unset, .unset, .unset, .unset, .unset, .unset, .unset, .unset] [(.int (p3 &&& (2147483647 : Int32)))])) _
    refine XS.bipush X0.here hx rfl (hb hby at_13) ?_
    show Steps p.tables e below (s₁.setTop (mkF m 15 #[.val (.int p1), .val (.long q2), .second, .val (.int p3), .val (.long q4), .second, .val (.int p5), .val (.long q6), .second, .val (.int ((p1 &&& (2147483647 : Int32)) % (14 : Int32))), .unset, .unset, .unset, .unset, .unset, .unset, .unset, .unset, .unset, .unset] [(.int (14 : Int32)), (.int (p3 &&& (2147483647 : Int32)))])) _
    refine Jvm.RoadKit.iremM X0 hx rfl (hb hby at_15) rfl hnz15 ?_
    show Steps p.tables e below (s₁.setTop (mkF m 16 #[.val (.int p1), .val (.long q2), .second, .val (.int p3), .val (.long q4), .second, .val (.int p5), .val (.long q6), .second, .val (.int ((p1 &&& (2147483647 : Int32)) % (14 : Int32))), .unset, .unset, .unset, .unset, .unset, .unset, .unset, .unset, .unset, .unset] [(.int ((p3 &&& (2147483647 : Int32)) % (14 : Int32)))])) _
    refine XS.istore X0.here hx rfl (hb hby at_16) rfl (l' := #[.val (.int p1), .val (.long q2), .second, .val (.int p3), .val (.long q4), .second, .val (.int p5), .val (.long q6), .second, .val (.int ((p1 &&& (2147483647 : Int32)) % (14 : Int32))), .val (.int ((p3 &&& (2147483647 : Int32)) % (14 : Int32))), .unset, .unset, .unset, .unset, .unset, .unset, .unset, .unset, .unset]) rfl ?_
    show Steps p.tables e below (s₁.setTop (mkF m 18 #[.val (.int p1), .val (.long q2), .second, .val (.int p3), .val (.long q4), .second, .val (.int p5), .val (.long q6), .second, .val (.int ((p1 &&& (2147483647 : Int32)) % (14 : Int32))), .val (.int ((p3 &&& (2147483647 : Int32)) % (14 : Int32))), .unset, .unset, .unset, .unset, .unset, .unset, .unset, .unset, .unset] [])) _
    refine XS.iload X0.here hx rfl (hb hby at_18) rfl ?_
    show Steps p.tables e below (s₁.setTop (mkF m 20 #[.val (.int p1), .val (.long q2), .second, .val (.int p3), .val (.long q4), .second, .val (.int p5), .val (.long q6), .second, .val (.int ((p1 &&& (2147483647 : Int32)) % (14 : Int32))), .val (.int ((p3 &&& (2147483647 : Int32)) % (14 : Int32))), .unset, .unset, .unset, .unset, .unset, .unset, .unset, .unset, .unset] [(.int p5)])) _
    refine X0.ldcInt hx hown (mvT hZ (hw _ (List.mem_of_getElem? (i := 0) rfl))) (g := (mkF m 20 #[.val (.int p1), .val (.long q2), .second, .val (.int p3), .val (.long q4), .second, .val (.int p5), .val (.long q6), .second, .val (.int ((p1 &&& (2147483647 : Int32)) % (14 : Int32))), .val (.int ((p3 &&& (2147483647 : Int32)) % (14 : Int32))), .unset, .unset, .unset, .unset, .unset, .unset, .unset, .unset, .unset] [(.int p5)])) rfl (hb hby at_20) _ ?_
    show Steps p.tables e below (s₁.setTop (mkF m 22 #[.val (.int p1), .val (.long q2), .second, .val (.int p3), .val (.long q4), .second, .val (.int p5), .val (.long q6), .second, .val (.int ((p1 &&& (2147483647 : Int32)) % (14 : Int32))), .val (.int ((p3 &&& (2147483647 : Int32)) % (14 : Int32))), .unset, .unset, .unset, .unset, .unset, .unset, .unset, .unset, .unset] [(.int (2147483647 : Int32)), (.int p5)])) _
    refine XS.iand X0.here hx rfl (hb hby at_22) rfl ?_
    show Steps p.tables e below (s₁.setTop (mkF m 23 #[.val (.int p1), .val (.long q2), .second, .val (.int p3), .val (.long q4), .second, .val (.int p5), .val (.long q6), .second, .val (.int ((p1 &&& (2147483647 : Int32)) % (14 : Int32))), .val (.int ((p3 &&& (2147483647 : Int32)) % (14 : Int32))), .unset, .unset, .unset, .unset, .unset, .unset, .unset, .unset, .unset] [(.int (p5 &&& (2147483647 : Int32)))])) _
    refine XS.bipush X0.here hx rfl (hb hby at_23) ?_
    show Steps p.tables e below (s₁.setTop (mkF m 25 #[.val (.int p1), .val (.long q2), .second, .val (.int p3), .val (.long q4), .second, .val (.int p5), .val (.long q6), .second, .val (.int ((p1 &&& (2147483647 : Int32)) % (14 : Int32))), .val (.int ((p3 &&& (2147483647 : Int32)) % (14 : Int32))), .unset, .unset, .unset, .unset, .unset, .unset, .unset, .unset, .unset] [(.int (14 : Int32)), (.int (p5 &&& (2147483647 : Int32)))])) _
    refine Jvm.RoadKit.iremM X0 hx rfl (hb hby at_25) rfl hnz25 ?_
    show Steps p.tables e below (s₁.setTop (mkF m 26 #[.val (.int p1), .val (.long q2), .second, .val (.int p3), .val (.long q4), .second, .val (.int p5), .val (.long q6), .second, .val (.int ((p1 &&& (2147483647 : Int32)) % (14 : Int32))), .val (.int ((p3 &&& (2147483647 : Int32)) % (14 : Int32))), .unset, .unset, .unset, .unset, .unset, .unset, .unset, .unset, .unset] [(.int ((p5 &&& (2147483647 : Int32)) % (14 : Int32)))])) _
    refine XS.istore X0.here hx rfl (hb hby at_26) rfl (l' := #[.val (.int p1), .val (.long q2), .second, .val (.int p3), .val (.long q4), .second, .val (.int p5), .val (.long q6), .second, .val (.int ((p1 &&& (2147483647 : Int32)) % (14 : Int32))), .val (.int ((p3 &&& (2147483647 : Int32)) % (14 : Int32))), .val (.int ((p5 &&& (2147483647 : Int32)) % (14 : Int32))), .unset, .unset, .unset, .unset, .unset, .unset, .unset, .unset]) rfl ?_
    show Steps p.tables e below (s₁.setTop (mkF m 28 #[.val (.int p1), .val (.long q2), .second, .val (.int p3), .val (.long q4), .second, .val (.int p5), .val (.long q6), .second, .val (.int ((p1 &&& (2147483647 : Int32)) % (14 : Int32))), .val (.int ((p3 &&& (2147483647 : Int32)) % (14 : Int32))), .val (.int ((p5 &&& (2147483647 : Int32)) % (14 : Int32))), .unset, .unset, .unset, .unset, .unset, .unset, .unset, .unset] [])) _
    refine XS.iload X0.here hx rfl (hb hby at_28) rfl ?_
    show Steps p.tables e below (s₁.setTop (mkF m 30 #[.val (.int p1), .val (.long q2), .second, .val (.int p3), .val (.long q4), .second, .val (.int p5), .val (.long q6), .second, .val (.int ((p1 &&& (2147483647 : Int32)) % (14 : Int32))), .val (.int ((p3 &&& (2147483647 : Int32)) % (14 : Int32))), .val (.int ((p5 &&& (2147483647 : Int32)) % (14 : Int32))), .unset, .unset, .unset, .unset, .unset, .unset, .unset, .unset] [(.int ((p1 &&& (2147483647 : Int32)) % (14 : Int32)))])) _
    refine st7 _ ?_
    show Steps p.tables e below (T7.setTop (mkF m 33 #[.val (.int p1), .val (.long q2), .second, .val (.int p3), .val (.long q4), .second, .val (.int p5), .val (.long q6), .second, .val (.int ((p1 &&& (2147483647 : Int32)) % (14 : Int32))), .val (.int ((p3 &&& (2147483647 : Int32)) % (14 : Int32))), .val (.int ((p5 &&& (2147483647 : Int32)) % (14 : Int32))), .unset, .unset, .unset, .unset, .unset, .unset, .unset, .unset] [(.ref (r na))])) _
    refine XS.astore X7.here hx rfl (hb hby at_33) rfl rfl (l' := #[.val (.int p1), .val (.long q2), .second, .val (.int p3), .val (.long q4), .second, .val (.int p5), .val (.long q6), .second, .val (.int ((p1 &&& (2147483647 : Int32)) % (14 : Int32))), .val (.int ((p3 &&& (2147483647 : Int32)) % (14 : Int32))), .val (.int ((p5 &&& (2147483647 : Int32)) % (14 : Int32))), .val (.ref (r na)), .unset, .unset, .unset, .unset, .unset, .unset, .unset]) rfl ?_
    show Steps p.tables e below (T7.setTop (mkF m 35 #[.val (.int p1), .val (.long q2), .second, .val (.int p3), .val (.long q4), .second, .val (.int p5), .val (.long q6), .second, .val (.int ((p1 &&& (2147483647 : Int32)) % (14 : Int32))), .val (.int ((p3 &&& (2147483647 : Int32)) % (14 : Int32))), .val (.int ((p5 &&& (2147483647 : Int32)) % (14 : Int32))), .val (.ref (r na)), .unset, .unset, .unset, .unset, .unset, .unset, .unset] [])) _
    refine XS.iload X7.here hx rfl (hb hby at_35) rfl ?_
    show Steps p.tables e below (T7.setTop (mkF m 37 #[.val (.int p1), .val (.long q2), .second, .val (.int p3), .val (.long q4), .second, .val (.int p5), .val (.long q6), .second, .val (.int ((p1 &&& (2147483647 : Int32)) % (14 : Int32))), .val (.int ((p3 &&& (2147483647 : Int32)) % (14 : Int32))), .val (.int ((p5 &&& (2147483647 : Int32)) % (14 : Int32))), .val (.ref (r na)), .unset, .unset, .unset, .unset, .unset, .unset, .unset] [(.int ((p3 &&& (2147483647 : Int32)) % (14 : Int32)))])) _
    refine st8 _ ?_
    show Steps p.tables e below (T8.setTop (mkF m 40 #[.val (.int p1), .val (.long q2), .second, .val (.int p3), .val (.long q4), .second, .val (.int p5), .val (.long q6), .second, .val (.int ((p1 &&& (2147483647 : Int32)) % (14 : Int32))), .val (.int ((p3 &&& (2147483647 : Int32)) % (14 : Int32))), .val (.int ((p5 &&& (2147483647 : Int32)) % (14 : Int32))), .val (.ref (r na)), .unset, .unset, .unset, .unset, .unset, .unset, .unset] [(.ref (r nb))])) _
    refine XS.astore X8.here hx rfl (hb hby at_40) rfl rfl (l' := #[.val (.int p1), .val (.long q2), .second, .val (.int p3), .val (.long q4), .second, .val (.int p5), .val (.long q6), .second, .val (.int ((p1 &&& (2147483647 : Int32)) % (14 : Int32))), .val (.int ((p3 &&& (2147483647 : Int32)) % (14 : Int32))), .val (.int ((p5 &&& (2147483647 : Int32)) % (14 : Int32))), .val (.ref (r na)), .val (.ref (r nb)), .unset, .unset, .unset, .unset, .unset, .unset]) rfl ?_
    show Steps p.tables e below (T8.setTop (mkF m 42 #[.val (.int p1), .val (.long q2), .second, .val (.int p3), .val (.long q4), .second, .val (.int p5), .val (.long q6), .second, .val (.int ((p1 &&& (2147483647 : Int32)) % (14 : Int32))), .val (.int ((p3 &&& (2147483647 : Int32)) % (14 : Int32))), .val (.int ((p5 &&& (2147483647 : Int32)) % (14 : Int32))), .val (.ref (r na)), .val (.ref (r nb)), .unset, .unset, .unset, .unset, .unset, .unset] [])) _
    refine XS.iload X8.here hx rfl (hb hby at_42) rfl ?_
    show Steps p.tables e below (T8.setTop (mkF m 44 #[.val (.int p1), .val (.long q2), .second, .val (.int p3), .val (.long q4), .second, .val (.int p5), .val (.long q6), .second, .val (.int ((p1 &&& (2147483647 : Int32)) % (14 : Int32))), .val (.int ((p3 &&& (2147483647 : Int32)) % (14 : Int32))), .val (.int ((p5 &&& (2147483647 : Int32)) % (14 : Int32))), .val (.ref (r na)), .val (.ref (r nb)), .unset, .unset, .unset, .unset, .unset, .unset] [(.int ((p5 &&& (2147483647 : Int32)) % (14 : Int32)))])) _
    refine st9 _ ?_
    show Steps p.tables e below (T9.setTop (mkF m 47 #[.val (.int p1), .val (.long q2), .second, .val (.int p3), .val (.long q4), .second, .val (.int p5), .val (.long q6), .second, .val (.int ((p1 &&& (2147483647 : Int32)) % (14 : Int32))), .val (.int ((p3 &&& (2147483647 : Int32)) % (14 : Int32))), .val (.int ((p5 &&& (2147483647 : Int32)) % (14 : Int32))), .val (.ref (r na)), .val (.ref (r nb)), .unset, .unset, .unset, .unset, .unset, .unset] [(.ref (r nc))])) _
    refine XS.astore X9.here hx rfl (hb hby at_47) rfl rfl (l' := #[.val (.int p1), .val (.long q2), .second, .val (.int p3), .val (.long q4), .second, .val (.int p5), .val (.long q6), .second, .val (.int ((p1 &&& (2147483647 : Int32)) % (14 : Int32))), .val (.int ((p3 &&& (2147483647 : Int32)) % (14 : Int32))), .val (.int ((p5 &&& (2147483647 : Int32)) % (14 : Int32))), .val (.ref (r na)), .val (.ref (r nb)), .val (.ref (r nc)), .unset, .unset, .unset, .unset, .unset]) rfl ?_
    show Steps p.tables e below (T9.setTop (mkF m 49 #[.val (.int p1), .val (.long q2), .second, .val (.int p3), .val (.long q4), .second, .val (.int p5), .val (.long q6), .second, .val (.int ((p1 &&& (2147483647 : Int32)) % (14 : Int32))), .val (.int ((p3 &&& (2147483647 : Int32)) % (14 : Int32))), .val (.int ((p5 &&& (2147483647 : Int32)) % (14 : Int32))), .val (.ref (r na)), .val (.ref (r nb)), .val (.ref (r nc)), .unset, .unset, .unset, .unset, .unset] [])) _
    refine st10 _ ?_
    show Steps p.tables e below (T10.setTop (mkF m 52 #[.val (.int p1), .val (.long q2), .second, .val (.int p3), .val (.long q4), .second, .val (.int p5), .val (.long q6), .second, .val (.int ((p1 &&& (2147483647 : Int32)) % (14 : Int32))), .val (.int ((p3 &&& (2147483647 : Int32)) % (14 : Int32))), .val (.int ((p5 &&& (2147483647 : Int32)) % (14 : Int32))), .val (.ref (r na)), .val (.ref (r nb)), .val (.ref (r nc)), .unset, .unset, .unset, .unset, .unset] [(.ref bN)])) _
    refine XS.dup X10.here hx rfl (hb hby at_52) rfl rfl ?_
    show Steps p.tables e below (T10.setTop (mkF m 53 #[.val (.int p1), .val (.long q2), .second, .val (.int p3), .val (.long q4), .second, .val (.int p5), .val (.long q6), .second, .val (.int ((p1 &&& (2147483647 : Int32)) % (14 : Int32))), .val (.int ((p3 &&& (2147483647 : Int32)) % (14 : Int32))), .val (.int ((p5 &&& (2147483647 : Int32)) % (14 : Int32))), .val (.ref (r na)), .val (.ref (r nb)), .val (.ref (r nc)), .unset, .unset, .unset, .unset, .unset] [(.ref bN), (.ref bN)])) _
    refine st11.trans ?_
    show Steps p.tables e below (T11.setTop (mkF m 56 #[.val (.int p1), .val (.long q2), .second, .val (.int p3), .val (.long q4), .second, .val (.int p5), .val (.long q6), .second, .val (.int ((p1 &&& (2147483647 : Int32)) % (14 : Int32))), .val (.int ((p3 &&& (2147483647 : Int32)) % (14 : Int32))), .val (.int ((p5 &&& (2147483647 : Int32)) % (14 : Int32))), .val (.ref (r na)), .val (.ref (r nb)), .val (.ref (r nc)), .unset, .unset, .unset, .unset, .unset] [(.ref bN)])) _
    refine XS.astore X11.here hx rfl (hb hby at_56) rfl rfl (l' := #[.val (.int p1), .val (.long q2), .second, .val (.int p3), .val (.long q4), .second, .val (.int p5), .val (.long q6), .second, .val (.int ((p1 &&& (2147483647 : Int32)) % (14 : Int32))), .val (.int ((p3 &&& (2147483647 : Int32)) % (14 : Int32))), .val (.int ((p5 &&& (2147483647 : Int32)) % (14 : Int32))), .val (.ref (r na)), .val (.ref (r nb)), .val (.ref (r nc)), .val (.ref bN), .unset, .unset, .unset, .unset]) rfl ?_
    show Steps p.tables e below (T11.setTop (mkF m 58 #[.val (.int p1), .val (.long q2), .second, .val (.int p3), .val (.long q4), .second, .val (.int p5), .val (.long q6), .second, .val (.int ((p1 &&& (2147483647 : Int32)) % (14 : Int32))), .val (.int ((p3 &&& (2147483647 : Int32)) % (14 : Int32))), .val (.int ((p5 &&& (2147483647 : Int32)) % (14 : Int32))), .val (.ref (r na)), .val (.ref (r nb)), .val (.ref (r nc)), .val (.ref bN), .unset, .unset, .unset, .unset] [])) _
    refine XS.aload X11.here hx rfl (hb hby at_58) rfl rfl ?_
    show Steps p.tables e below (T11.setTop (mkF m 60 #[.val (.int p1), .val (.long q2), .second, .val (.int p3), .val (.long q4), .second, .val (.int p5), .val (.long q6), .second, .val (.int ((p1 &&& (2147483647 : Int32)) % (14 : Int32))), .val (.int ((p3 &&& (2147483647 : Int32)) % (14 : Int32))), .val (.int ((p5 &&& (2147483647 : Int32)) % (14 : Int32))), .val (.ref (r na)), .val (.ref (r nb)), .val (.ref (r nc)), .val (.ref bN), .unset, .unset, .unset, .unset] [(.ref bN)])) _
    refine XS.aload X11.here hx rfl (hb hby at_60) rfl rfl ?_
    show Steps p.tables e below (T11.setTop (mkF m 62 #[.val (.int p1), .val (.long q2), .second, .val (.int p3), .val (.long q4), .second, .val (.int p5), .val (.long q6), .second, .val (.int ((p1 &&& (2147483647 : Int32)) % (14 : Int32))), .val (.int ((p3 &&& (2147483647 : Int32)) % (14 : Int32))), .val (.int ((p5 &&& (2147483647 : Int32)) % (14 : Int32))), .val (.ref (r na)), .val (.ref (r nb)), .val (.ref (r nc)), .val (.ref bN), .unset, .unset, .unset, .unset] [(.ref (r na)), (.ref bN)])) _
    refine XS.lloadN X11.here hx rfl (hb hby at_62) rfl ?_
    show Steps p.tables e below (T11.setTop (mkF m 63 #[.val (.int p1), .val (.long q2), .second, .val (.int p3), .val (.long q4), .second, .val (.int p5), .val (.long q6), .second, .val (.int ((p1 &&& (2147483647 : Int32)) % (14 : Int32))), .val (.int ((p3 &&& (2147483647 : Int32)) % (14 : Int32))), .val (.int ((p5 &&& (2147483647 : Int32)) % (14 : Int32))), .val (.ref (r na)), .val (.ref (r nb)), .val (.ref (r nc)), .val (.ref bN), .unset, .unset, .unset, .unset] [(.long q2), (.ref (r na)), (.ref bN)])) _
    refine st12.trans ?_
    show Steps p.tables e below (T12.setTop (mkF m 66 #[.val (.int p1), .val (.long q2), .second, .val (.int p3), .val (.long q4), .second, .val (.int p5), .val (.long q6), .second, .val (.int ((p1 &&& (2147483647 : Int32)) % (14 : Int32))), .val (.int ((p3 &&& (2147483647 : Int32)) % (14 : Int32))), .val (.int ((p5 &&& (2147483647 : Int32)) % (14 : Int32))), .val (.ref (r na)), .val (.ref (r nb)), .val (.ref (r nc)), .val (.ref bN), .unset, .unset, .unset, .unset] [])) _
    refine XS.aload X12.here hx rfl (hb hby at_66) rfl rfl ?_
    show Steps p.tables e below (T12.setTop (mkF m 68 #[.val (.int p1), .val (.long q2), .second, .val (.int p3), .val (.long q4), .second, .val (.int p5), .val (.long q6), .second, .val (.int ((p1 &&& (2147483647 : Int32)) % (14 : Int32))), .val (.int ((p3 &&& (2147483647 : Int32)) % (14 : Int32))), .val (.int ((p5 &&& (2147483647 : Int32)) % (14 : Int32))), .val (.ref (r na)), .val (.ref (r nb)), .val (.ref (r nc)), .val (.ref bN), .unset, .unset, .unset, .unset] [(.ref bN)])) _
    refine XS.aload X12.here hx rfl (hb hby at_68) rfl rfl ?_
    show Steps p.tables e below (T12.setTop (mkF m 70 #[.val (.int p1), .val (.long q2), .second, .val (.int p3), .val (.long q4), .second, .val (.int p5), .val (.long q6), .second, .val (.int ((p1 &&& (2147483647 : Int32)) % (14 : Int32))), .val (.int ((p3 &&& (2147483647 : Int32)) % (14 : Int32))), .val (.int ((p5 &&& (2147483647 : Int32)) % (14 : Int32))), .val (.ref (r na)), .val (.ref (r nb)), .val (.ref (r nc)), .val (.ref bN), .unset, .unset, .unset, .unset] [(.ref (r nb)), (.ref bN)])) _
    refine XS.lload X12.here hx rfl (hb hby at_70) rfl ?_
    show Steps p.tables e below (T12.setTop (mkF m 72 #[.val (.int p1), .val (.long q2), .second, .val (.int p3), .val (.long q4), .second, .val (.int p5), .val (.long q6), .second, .val (.int ((p1 &&& (2147483647 : Int32)) % (14 : Int32))), .val (.int ((p3 &&& (2147483647 : Int32)) % (14 : Int32))), .val (.int ((p5 &&& (2147483647 : Int32)) % (14 : Int32))), .val (.ref (r na)), .val (.ref (r nb)), .val (.ref (r nc)), .val (.ref bN), .unset, .unset, .unset, .unset] [(.long q4), (.ref (r nb)), (.ref bN)])) _
    refine st13.trans ?_
    show Steps p.tables e below (T13.setTop (mkF m 75 #[.val (.int p1), .val (.long q2), .second, .val (.int p3), .val (.long q4), .second, .val (.int p5), .val (.long q6), .second, .val (.int ((p1 &&& (2147483647 : Int32)) % (14 : Int32))), .val (.int ((p3 &&& (2147483647 : Int32)) % (14 : Int32))), .val (.int ((p5 &&& (2147483647 : Int32)) % (14 : Int32))), .val (.ref (r na)), .val (.ref (r nb)), .val (.ref (r nc)), .val (.ref bN), .unset, .unset, .unset, .unset] [])) _
    refine XS.aload X13.here hx rfl (hb hby at_75) rfl rfl ?_
    show Steps p.tables e below (T13.setTop (mkF m 77 #[.val (.int p1), .val (.long q2), .second, .val (.int p3), .val (.long q4), .second, .val (.int p5), .val (.long q6), .second, .val (.int ((p1 &&& (2147483647 : Int32)) % (14 : Int32))), .val (.int ((p3 &&& (2147483647 : Int32)) % (14 : Int32))), .val (.int ((p5 &&& (2147483647 : Int32)) % (14 : Int32))), .val (.ref (r na)), .val (.ref (r nb)), .val (.ref (r nc)), .val (.ref bN), .unset, .unset, .unset, .unset] [(.ref bN)])) _
    refine XS.aload X13.here hx rfl (hb hby at_77) rfl rfl ?_
    show Steps p.tables e below (T13.setTop (mkF m 79 #[.val (.int p1), .val (.long q2), .second, .val (.int p3), .val (.long q4), .second, .val (.int p5), .val (.long q6), .second, .val (.int ((p1 &&& (2147483647 : Int32)) % (14 : Int32))), .val (.int ((p3 &&& (2147483647 : Int32)) % (14 : Int32))), .val (.int ((p5 &&& (2147483647 : Int32)) % (14 : Int32))), .val (.ref (r na)), .val (.ref (r nb)), .val (.ref (r nc)), .val (.ref bN), .unset, .unset, .unset, .unset] [(.ref (r nc)), (.ref bN)])) _
    refine XS.lload X13.here hx rfl (hb hby at_79) rfl ?_
    show Steps p.tables e below (T13.setTop (mkF m 81 #[.val (.int p1), .val (.long q2), .second, .val (.int p3), .val (.long q4), .second, .val (.int p5), .val (.long q6), .second, .val (.int ((p1 &&& (2147483647 : Int32)) % (14 : Int32))), .val (.int ((p3 &&& (2147483647 : Int32)) % (14 : Int32))), .val (.int ((p5 &&& (2147483647 : Int32)) % (14 : Int32))), .val (.ref (r na)), .val (.ref (r nb)), .val (.ref (r nc)), .val (.ref bN), .unset, .unset, .unset, .unset] [(.long q6), (.ref (r nc)), (.ref bN)])) _
    refine st14.trans ?_
    show Steps p.tables e below (T14.setTop (mkF m 84 #[.val (.int p1), .val (.long q2), .second, .val (.int p3), .val (.long q4), .second, .val (.int p5), .val (.long q6), .second, .val (.int ((p1 &&& (2147483647 : Int32)) % (14 : Int32))), .val (.int ((p3 &&& (2147483647 : Int32)) % (14 : Int32))), .val (.int ((p5 &&& (2147483647 : Int32)) % (14 : Int32))), .val (.ref (r na)), .val (.ref (r nb)), .val (.ref (r nc)), .val (.ref bN), .unset, .unset, .unset, .unset] [])) _
    refine XS.aload X14.here hx rfl (hb hby at_84) rfl rfl ?_
    show Steps p.tables e below (T14.setTop (mkF m 86 #[.val (.int p1), .val (.long q2), .second, .val (.int p3), .val (.long q4), .second, .val (.int p5), .val (.long q6), .second, .val (.int ((p1 &&& (2147483647 : Int32)) % (14 : Int32))), .val (.int ((p3 &&& (2147483647 : Int32)) % (14 : Int32))), .val (.int ((p5 &&& (2147483647 : Int32)) % (14 : Int32))), .val (.ref (r na)), .val (.ref (r nb)), .val (.ref (r nc)), .val (.ref bN), .unset, .unset, .unset, .unset] [(.ref bN)])) _
    refine XS.aload X14.here hx rfl (hb hby at_86) rfl rfl ?_
    show Steps p.tables e below (T14.setTop (mkF m 88 #[.val (.int p1), .val (.long q2), .second, .val (.int p3), .val (.long q4), .second, .val (.int p5), .val (.long q6), .second, .val (.int ((p1 &&& (2147483647 : Int32)) % (14 : Int32))), .val (.int ((p3 &&& (2147483647 : Int32)) % (14 : Int32))), .val (.int ((p5 &&& (2147483647 : Int32)) % (14 : Int32))), .val (.ref (r na)), .val (.ref (r nb)), .val (.ref (r nc)), .val (.ref bN), .unset, .unset, .unset, .unset] [(.ref (r na)), (.ref bN)])) _
    refine st15.trans ?_
    show Steps p.tables e below (T15.setTop (mkF m 91 #[.val (.int p1), .val (.long q2), .second, .val (.int p3), .val (.long q4), .second, .val (.int p5), .val (.long q6), .second, .val (.int ((p1 &&& (2147483647 : Int32)) % (14 : Int32))), .val (.int ((p3 &&& (2147483647 : Int32)) % (14 : Int32))), .val (.int ((p5 &&& (2147483647 : Int32)) % (14 : Int32))), .val (.ref (r na)), .val (.ref (r nb)), .val (.ref (r nc)), .val (.ref bN), .unset, .unset, .unset, .unset] [(.long ((own_up (own_up (own_up own_f0 na q2) nb q4) nc q6) na))])) _
    refine XS.iload X15.here hx rfl (hb hby at_91) rfl ?_
    show Steps p.tables e below (T15.setTop (mkF m 93 #[.val (.int p1), .val (.long q2), .second, .val (.int p3), .val (.long q4), .second, .val (.int p5), .val (.long q6), .second, .val (.int ((p1 &&& (2147483647 : Int32)) % (14 : Int32))), .val (.int ((p3 &&& (2147483647 : Int32)) % (14 : Int32))), .val (.int ((p5 &&& (2147483647 : Int32)) % (14 : Int32))), .val (.ref (r na)), .val (.ref (r nb)), .val (.ref (r nc)), .val (.ref bN), .unset, .unset, .unset, .unset] [(.int ((p1 &&& (2147483647 : Int32)) % (14 : Int32))), (.long ((own_up (own_up (own_up own_f0 na q2) nb q4) nc q6) na))])) _
    refine XS.iload X15.here hx rfl (hb hby at_93) rfl ?_
    show Steps p.tables e below (T15.setTop (mkF m 95 #[.val (.int p1), .val (.long q2), .second, .val (.int p3), .val (.long q4), .second, .val (.int p5), .val (.long q6), .second, .val (.int ((p1 &&& (2147483647 : Int32)) % (14 : Int32))), .val (.int ((p3 &&& (2147483647 : Int32)) % (14 : Int32))), .val (.int ((p5 &&& (2147483647 : Int32)) % (14 : Int32))), .val (.ref (r na)), .val (.ref (r nb)), .val (.ref (r nc)), .val (.ref bN), .unset, .unset, .unset, .unset] [(.int ((p1 &&& (2147483647 : Int32)) % (14 : Int32))), (.int ((p1 &&& (2147483647 : Int32)) % (14 : Int32))), (.long ((own_up (own_up (own_up own_f0 na q2) nb q4) nc q6) na))])) _
    refine XS.lloadN X15.here hx rfl (hb hby at_95) rfl ?_
    show Steps p.tables e below (T15.setTop (mkF m 96 #[.val (.int p1), .val (.long q2), .second, .val (.int p3), .val (.long q4), .second, .val (.int p5), .val (.long q6), .second, .val (.int ((p1 &&& (2147483647 : Int32)) % (14 : Int32))), .val (.int ((p3 &&& (2147483647 : Int32)) % (14 : Int32))), .val (.int ((p5 &&& (2147483647 : Int32)) % (14 : Int32))), .val (.ref (r na)), .val (.ref (r nb)), .val (.ref (r nc)), .val (.ref bN), .unset, .unset, .unset, .unset] [(.long q2), (.int ((p1 &&& (2147483647 : Int32)) % (14 : Int32))), (.int ((p1 &&& (2147483647 : Int32)) % (14 : Int32))), (.long ((own_up (own_up (own_up own_f0 na q2) nb q4) nc q6) na))])) _
    refine XS.iload X15.here hx rfl (hb hby at_96) rfl ?_
    show Steps p.tables e below (T15.setTop (mkF m 98 #[.val (.int p1), .val (.long q2), .second, .val (.int p3), .val (.long q4), .second, .val (.int p5), .val (.long q6), .second, .val (.int ((p1 &&& (2147483647 : Int32)) % (14 : Int32))), .val (.int ((p3 &&& (2147483647 : Int32)) % (14 : Int32))), .val (.int ((p5 &&& (2147483647 : Int32)) % (14 : Int32))), .val (.ref (r na)), .val (.ref (r nb)), .val (.ref (r nc)), .val (.ref bN), .unset, .unset, .unset, .unset] [(.int ((p3 &&& (2147483647 : Int32)) % (14 : Int32))), (.long q2), (.int ((p1 &&& (2147483647 : Int32)) % (14 : Int32))), (.int ((p1 &&& (2147483647 : Int32)) % (14 : Int32))), (.long ((own_up (own_up (own_up own_f0 na q2) nb q4) nc q6) na))])) _
    refine XS.lload X15.here hx rfl (hb hby at_98) rfl ?_
    show Steps p.tables e below (T15.setTop (mkF m 100 #[.val (.int p1), .val (.long q2), .second, .val (.int p3), .val (.long q4), .second, .val (.int p5), .val (.long q6), .second, .val (.int ((p1 &&& (2147483647 : Int32)) % (14 : Int32))), .val (.int ((p3 &&& (2147483647 : Int32)) % (14 : Int32))), .val (.int ((p5 &&& (2147483647 : Int32)) % (14 : Int32))), .val (.ref (r na)), .val (.ref (r nb)), .val (.ref (r nc)), .val (.ref bN), .unset, .unset, .unset, .unset] [(.long q4), (.int ((p3 &&& (2147483647 : Int32)) % (14 : Int32))), (.long q2), (.int ((p1 &&& (2147483647 : Int32)) % (14 : Int32))), (.int ((p1 &&& (2147483647 : Int32)) % (14 : Int32))), (.long ((own_up (own_up (own_up own_f0 na q2) nb q4) nc q6) na))])) _
    refine XS.iload X15.here hx rfl (hb hby at_100) rfl ?_
    show Steps p.tables e below (T15.setTop (mkF m 102 #[.val (.int p1), .val (.long q2), .second, .val (.int p3), .val (.long q4), .second, .val (.int p5), .val (.long q6), .second, .val (.int ((p1 &&& (2147483647 : Int32)) % (14 : Int32))), .val (.int ((p3 &&& (2147483647 : Int32)) % (14 : Int32))), .val (.int ((p5 &&& (2147483647 : Int32)) % (14 : Int32))), .val (.ref (r na)), .val (.ref (r nb)), .val (.ref (r nc)), .val (.ref bN), .unset, .unset, .unset, .unset] [(.int ((p5 &&& (2147483647 : Int32)) % (14 : Int32))), (.long q4), (.int ((p3 &&& (2147483647 : Int32)) % (14 : Int32))), (.long q2), (.int ((p1 &&& (2147483647 : Int32)) % (14 : Int32))), (.int ((p1 &&& (2147483647 : Int32)) % (14 : Int32))), (.long ((own_up (own_up (own_up own_f0 na q2) nb q4) nc q6) na))])) _
    refine XS.lload X15.here hx rfl (hb hby at_102) rfl ?_
    show Steps p.tables e below (T15.setTop (mkF m 104 #[.val (.int p1), .val (.long q2), .second, .val (.int p3), .val (.long q4), .second, .val (.int p5), .val (.long q6), .second, .val (.int ((p1 &&& (2147483647 : Int32)) % (14 : Int32))), .val (.int ((p3 &&& (2147483647 : Int32)) % (14 : Int32))), .val (.int ((p5 &&& (2147483647 : Int32)) % (14 : Int32))), .val (.ref (r na)), .val (.ref (r nb)), .val (.ref (r nc)), .val (.ref bN), .unset, .unset, .unset, .unset] [(.long q6), (.int ((p5 &&& (2147483647 : Int32)) % (14 : Int32))), (.long q4), (.int ((p3 &&& (2147483647 : Int32)) % (14 : Int32))), (.long q2), (.int ((p1 &&& (2147483647 : Int32)) % (14 : Int32))), (.int ((p1 &&& (2147483647 : Int32)) % (14 : Int32))), (.long ((own_up (own_up (own_up own_f0 na q2) nb q4) nc q6) na))])) _
    refine st16 _ ?_
    show Steps p.tables e below (T16.setTop (mkF m 107 #[.val (.int p1), .val (.long q2), .second, .val (.int p3), .val (.long q4), .second, .val (.int p5), .val (.long q6), .second, .val (.int ((p1 &&& (2147483647 : Int32)) % (14 : Int32))), .val (.int ((p3 &&& (2147483647 : Int32)) % (14 : Int32))), .val (.int ((p5 &&& (2147483647 : Int32)) % (14 : Int32))), .val (.ref (r na)), .val (.ref (r nb)), .val (.ref (r nc)), .val (.ref bN), .unset, .unset, .unset, .unset] [(.long (own_exp ((p1 &&& (2147483647 : Int32)) % (14 : Int32)) ((p1 &&& (2147483647 : Int32)) % (14 : Int32)) q2 ((p3 &&& (2147483647 : Int32)) % (14 : Int32)) q4 ((p5 &&& (2147483647 : Int32)) % (14 : Int32)) q6)), (.long ((own_up (own_up (own_up own_f0 na q2) nb q4) nc q6) na))])) _
    refine XS.lcmp X16.here hx rfl (hb hby at_107) rfl ?_
    show Steps p.tables e below (T16.setTop (mkF m 108 #[.val (.int p1), .val (.long q2), .second, .val (.int p3), .val (.long q4), .second, .val (.int p5), .val (.long q6), .second, .val (.int ((p1 &&& (2147483647 : Int32)) % (14 : Int32))), .val (.int ((p3 &&& (2147483647 : Int32)) % (14 : Int32))), .val (.int ((p5 &&& (2147483647 : Int32)) % (14 : Int32))), .val (.ref (r na)), .val (.ref (r nb)), .val (.ref (r nc)), .val (.ref bN), .unset, .unset, .unset, .unset] [(.int (lcmpW ((own_up (own_up (own_up own_f0 na q2) nb q4) nc q6) na) (own_exp ((p1 &&& (2147483647 : Int32)) % (14 : Int32)) ((p1 &&& (2147483647 : Int32)) % (14 : Int32)) q2 ((p3 &&& (2147483647 : Int32)) % (14 : Int32)) q4 ((p5 &&& (2147483647 : Int32)) % (14 : Int32)) q6)))])) _
    refine XS.ifNo X16.here hx rfl (hb hby at_108) rfl ((if0 _ _).trans (teq hc108).2) ?_
    show Steps p.tables e below (T16.setTop (mkF m 111 #[.val (.int p1), .val (.long q2), .second, .val (.int p3), .val (.long q4), .second, .val (.int p5), .val (.long q6), .second, .val (.int ((p1 &&& (2147483647 : Int32)) % (14 : Int32))), .val (.int ((p3 &&& (2147483647 : Int32)) % (14 : Int32))), .val (.int ((p5 &&& (2147483647 : Int32)) % (14 : Int32))), .val (.ref (r na)), .val (.ref (r nb)), .val (.ref (r nc)), .val (.ref bN), .unset, .unset, .unset, .unset] [])) _
    refine XS.iconst X16.here hx rfl (hb hby at_111) ?_
    show Steps p.tables e below (T16.setTop (mkF m 112 #[.val (.int p1), .val (.long q2), .second, .val (.int p3), .val (.long q4), .second, .val (.int p5), .val (.long q6), .second, .val (.int ((p1 &&& (2147483647 : Int32)) % (14 : Int32))), .val (.int ((p3 &&& (2147483647 : Int32)) % (14 : Int32))), .val (.int ((p5 &&& (2147483647 : Int32)) % (14 : Int32))), .val (.ref (r na)), .val (.ref (r nb)), .val (.ref (r nc)), .val (.ref bN), .unset, .unset, .unset, .unset] [(.int (1 : Int32))])) _
    refine XS.goto X16.here hx rfl (pc0 := 112) (pc' := 116) rfl (hb hby at_112) (by decide) (by decide) ?_
    show Steps p.tables e below (T16.setTop (mkF m 116 #[.val (.int p1), .val (.long q2), .second, .val (.int p3), .val (.long q4), .second, .val (.int p5), .val (.long q6), .second, .val (.int ((p1 &&& (2147483647 : Int32)) % (14 : Int32))), .val (.int ((p3 &&& (2147483647 : Int32)) % (14 : Int32))), .val (.int ((p5 &&& (2147483647 : Int32)) % (14 : Int32))), .val (.ref (r na)), .val (.ref (r nb)), .val (.ref (r nc)), .val (.ref bN), .unset, .unset, .unset, .unset] [(.int (1 : Int32))])) _
    refine XS.istore X16.here hx rfl (hb hby at_116) rfl (l' := #[.val (.int p1), .val (.long q2), .second, .val (.int p3), .val (.long q4), .second, .val (.int p5), .val (.long q6), .second, .val (.int ((p1 &&& (2147483647 : Int32)) % (14 : Int32))), .val (.int ((p3 &&& (2147483647 : Int32)) % (14 : Int32))), .val (.int ((p5 &&& (2147483647 : Int32)) % (14 : Int32))), .val (.ref (r na)), .val (.ref (r nb)), .val (.ref (r nc)), .val (.ref bN), .val (.int (1 : Int32)), .unset, .unset, .unset]) rfl ?_
    show Steps p.tables e below (T16.setTop (mkF m 118 #[.val (.int p1), .val (.long q2), .second, .val (.int p3), .val (.long q4), .second, .val (.int p5), .val (.long q6), .second, .val (.int ((p1 &&& (2147483647 : Int32)) % (14 : Int32))), .val (.int ((p3 &&& (2147483647 : Int32)) % (14 : Int32))), .val (.int ((p5 &&& (2147483647 : Int32)) % (14 : Int32))), .val (.ref (r na)), .val (.ref (r nb)), .val (.ref (r nc)), .val (.ref bN), .val (.int (1 : Int32)), .unset, .unset, .unset] [])) _
    refine XS.aload X16.here hx rfl (hb hby at_118) rfl rfl ?_
    show Steps p.tables e below (T16.setTop (mkF m 120 #[.val (.int p1), .val (.long q2), .second, .val (.int p3), .val (.long q4), .second, .val (.int p5), .val (.long q6), .second, .val (.int ((p1 &&& (2147483647 : Int32)) % (14 : Int32))), .val (.int ((p3 &&& (2147483647 : Int32)) % (14 : Int32))), .val (.int ((p5 &&& (2147483647 : Int32)) % (14 : Int32))), .val (.ref (r na)), .val (.ref (r nb)), .val (.ref (r nc)), .val (.ref bN), .val (.int (1 : Int32)), .unset, .unset, .unset] [(.ref bN)])) _
    refine XS.aload X16.here hx rfl (hb hby at_120) rfl rfl ?_
    show Steps p.tables e below (T16.setTop (mkF m 122 #[.val (.int p1), .val (.long q2), .second, .val (.int p3), .val (.long q4), .second, .val (.int p5), .val (.long q6), .second, .val (.int ((p1 &&& (2147483647 : Int32)) % (14 : Int32))), .val (.int ((p3 &&& (2147483647 : Int32)) % (14 : Int32))), .val (.int ((p5 &&& (2147483647 : Int32)) % (14 : Int32))), .val (.ref (r na)), .val (.ref (r nb)), .val (.ref (r nc)), .val (.ref bN), .val (.int (1 : Int32)), .unset, .unset, .unset] [(.ref (r nb)), (.ref bN)])) _
    refine st17.trans ?_
    show Steps p.tables e below (T17.setTop (mkF m 125 #[.val (.int p1), .val (.long q2), .second, .val (.int p3), .val (.long q4), .second, .val (.int p5), .val (.long q6), .second, .val (.int ((p1 &&& (2147483647 : Int32)) % (14 : Int32))), .val (.int ((p3 &&& (2147483647 : Int32)) % (14 : Int32))), .val (.int ((p5 &&& (2147483647 : Int32)) % (14 : Int32))), .val (.ref (r na)), .val (.ref (r nb)), .val (.ref (r nc)), .val (.ref bN), .val (.int (1 : Int32)), .unset, .unset, .unset] [(.long ((own_up (own_up (own_up own_f0 na q2) nb q4) nc q6) nb))])) _
    refine XS.iload X17.here hx rfl (hb hby at_125) rfl ?_
    show Steps p.tables e below (T17.setTop (mkF m 127 #[.val (.int p1), .val (.long q2), .second, .val (.int p3), .val (.long q4), .second, .val (.int p5), .val (.long q6), .second, .val (.int ((p1 &&& (2147483647 : Int32)) % (14 : Int32))), .val (.int ((p3 &&& (2147483647 : Int32)) % (14 : Int32))), .val (.int ((p5 &&& (2147483647 : Int32)) % (14 : Int32))), .val (.ref (r na)), .val (.ref (r nb)), .val (.ref (r nc)), .val (.ref bN), .val (.int (1 : Int32)), .unset, .unset, .unset] [(.int ((p3 &&& (2147483647 : Int32)) % (14 : Int32))), (.long ((own_up (own_up (own_up own_f0 na q2) nb q4) nc q6) nb))])) _
    refine XS.iload X17.here hx rfl (hb hby at_127) rfl ?_
    show Steps p.tables e below (T17.setTop (mkF m 129 #[.val (.int p1), .val (.long q2), .second, .val (.int p3), .val (.long q4), .second, .val (.int p5), .val (.long q6), .second, .val (.int ((p1 &&& (2147483647 : Int32)) % (14 : Int32))), .val (.int ((p3 &&& (2147483647 : Int32)) % (14 : Int32))), .val (.int ((p5 &&& (2147483647 : Int32)) % (14 : Int32))), .val (.ref (r na)), .val (.ref (r nb)), .val (.ref (r nc)), .val (.ref bN), .val (.int (1 : Int32)), .unset, .unset, .unset] [(.int ((p1 &&& (2147483647 : Int32)) % (14 : Int32))), (.int ((p3 &&& (2147483647 : Int32)) % (14 : Int32))), (.long ((own_up (own_up (own_up own_f0 na q2) nb q4) nc q6) nb))])) _
    refine XS.lloadN X17.here hx rfl (hb hby at_129) rfl ?_
    show Steps p.tables e below (T17.setTop (mkF m 130 #[.val (.int p1), .val (.long q2), .second, .val (.int p3), .val (.long q4), .second, .val (.int p5), .val (.long q6), .second, .val (.int ((p1 &&& (2147483647 : Int32)) % (14 : Int32))), .val (.int ((p3 &&& (2147483647 : Int32)) % (14 : Int32))), .val (.int ((p5 &&& (2147483647 : Int32)) % (14 : Int32))), .val (.ref (r na)), .val (.ref (r nb)), .val (.ref (r nc)), .val (.ref bN), .val (.int (1 : Int32)), .unset, .unset, .unset] [(.long q2), (.int ((p1 &&& (2147483647 : Int32)) % (14 : Int32))), (.int ((p3 &&& (2147483647 : Int32)) % (14 : Int32))), (.long ((own_up (own_up (own_up own_f0 na q2) nb q4) nc q6) nb))])) _
    refine XS.iload X17.here hx rfl (hb hby at_130) rfl ?_
    show Steps p.tables e below (T17.setTop (mkF m 132 #[.val (.int p1), .val (.long q2), .second, .val (.int p3), .val (.long q4), .second, .val (.int p5), .val (.long q6), .second, .val (.int ((p1 &&& (2147483647 : Int32)) % (14 : Int32))), .val (.int ((p3 &&& (2147483647 : Int32)) % (14 : Int32))), .val (.int ((p5 &&& (2147483647 : Int32)) % (14 : Int32))), .val (.ref (r na)), .val (.ref (r nb)), .val (.ref (r nc)), .val (.ref bN), .val (.int (1 : Int32)), .unset, .unset, .unset] [(.int ((p3 &&& (2147483647 : Int32)) % (14 : Int32))), (.long q2), (.int ((p1 &&& (2147483647 : Int32)) % (14 : Int32))), (.int ((p3 &&& (2147483647 : Int32)) % (14 : Int32))), (.long ((own_up (own_up (own_up own_f0 na q2) nb q4) nc q6) nb))])) _
    refine XS.lload X17.here hx rfl (hb hby at_132) rfl ?_
    show Steps p.tables e below (T17.setTop (mkF m 134 #[.val (.int p1), .val (.long q2), .second, .val (.int p3), .val (.long q4), .second, .val (.int p5), .val (.long q6), .second, .val (.int ((p1 &&& (2147483647 : Int32)) % (14 : Int32))), .val (.int ((p3 &&& (2147483647 : Int32)) % (14 : Int32))), .val (.int ((p5 &&& (2147483647 : Int32)) % (14 : Int32))), .val (.ref (r na)), .val (.ref (r nb)), .val (.ref (r nc)), .val (.ref bN), .val (.int (1 : Int32)), .unset, .unset, .unset] [(.long q4), (.int ((p3 &&& (2147483647 : Int32)) % (14 : Int32))), (.long q2), (.int ((p1 &&& (2147483647 : Int32)) % (14 : Int32))), (.int ((p3 &&& (2147483647 : Int32)) % (14 : Int32))), (.long ((own_up (own_up (own_up own_f0 na q2) nb q4) nc q6) nb))])) _
    refine XS.iload X17.here hx rfl (hb hby at_134) rfl ?_
    show Steps p.tables e below (T17.setTop (mkF m 136 #[.val (.int p1), .val (.long q2), .second, .val (.int p3), .val (.long q4), .second, .val (.int p5), .val (.long q6), .second, .val (.int ((p1 &&& (2147483647 : Int32)) % (14 : Int32))), .val (.int ((p3 &&& (2147483647 : Int32)) % (14 : Int32))), .val (.int ((p5 &&& (2147483647 : Int32)) % (14 : Int32))), .val (.ref (r na)), .val (.ref (r nb)), .val (.ref (r nc)), .val (.ref bN), .val (.int (1 : Int32)), .unset, .unset, .unset] [(.int ((p5 &&& (2147483647 : Int32)) % (14 : Int32))), (.long q4), (.int ((p3 &&& (2147483647 : Int32)) % (14 : Int32))), (.long q2), (.int ((p1 &&& (2147483647 : Int32)) % (14 : Int32))), (.int ((p3 &&& (2147483647 : Int32)) % (14 : Int32))), (.long ((own_up (own_up (own_up own_f0 na q2) nb q4) nc q6) nb))])) _
    refine XS.lload X17.here hx rfl (hb hby at_136) rfl ?_
    show Steps p.tables e below (T17.setTop (mkF m 138 #[.val (.int p1), .val (.long q2), .second, .val (.int p3), .val (.long q4), .second, .val (.int p5), .val (.long q6), .second, .val (.int ((p1 &&& (2147483647 : Int32)) % (14 : Int32))), .val (.int ((p3 &&& (2147483647 : Int32)) % (14 : Int32))), .val (.int ((p5 &&& (2147483647 : Int32)) % (14 : Int32))), .val (.ref (r na)), .val (.ref (r nb)), .val (.ref (r nc)), .val (.ref bN), .val (.int (1 : Int32)), .unset, .unset, .unset] [(.long q6), (.int ((p5 &&& (2147483647 : Int32)) % (14 : Int32))), (.long q4), (.int ((p3 &&& (2147483647 : Int32)) % (14 : Int32))), (.long q2), (.int ((p1 &&& (2147483647 : Int32)) % (14 : Int32))), (.int ((p3 &&& (2147483647 : Int32)) % (14 : Int32))), (.long ((own_up (own_up (own_up own_f0 na q2) nb q4) nc q6) nb))])) _
    refine st18 _ ?_
    show Steps p.tables e below (T18.setTop (mkF m 141 #[.val (.int p1), .val (.long q2), .second, .val (.int p3), .val (.long q4), .second, .val (.int p5), .val (.long q6), .second, .val (.int ((p1 &&& (2147483647 : Int32)) % (14 : Int32))), .val (.int ((p3 &&& (2147483647 : Int32)) % (14 : Int32))), .val (.int ((p5 &&& (2147483647 : Int32)) % (14 : Int32))), .val (.ref (r na)), .val (.ref (r nb)), .val (.ref (r nc)), .val (.ref bN), .val (.int (1 : Int32)), .unset, .unset, .unset] [(.long (own_exp ((p3 &&& (2147483647 : Int32)) % (14 : Int32)) ((p1 &&& (2147483647 : Int32)) % (14 : Int32)) q2 ((p3 &&& (2147483647 : Int32)) % (14 : Int32)) q4 ((p5 &&& (2147483647 : Int32)) % (14 : Int32)) q6)), (.long ((own_up (own_up (own_up own_f0 na q2) nb q4) nc q6) nb))])) _
    refine XS.lcmp X18.here hx rfl (hb hby at_141) rfl ?_
    show Steps p.tables e below (T18.setTop (mkF m 142 #[.val (.int p1), .val (.long q2), .second, .val (.int p3), .val (.long q4), .second, .val (.int p5), .val (.long q6), .second, .val (.int ((p1 &&& (2147483647 : Int32)) % (14 : Int32))), .val (.int ((p3 &&& (2147483647 : Int32)) % (14 : Int32))), .val (.int ((p5 &&& (2147483647 : Int32)) % (14 : Int32))), .val (.ref (r na)), .val (.ref (r nb)), .val (.ref (r nc)), .val (.ref bN), .val (.int (1 : Int32)), .unset, .unset, .unset] [(.int (lcmpW ((own_up (own_up (own_up own_f0 na q2) nb q4) nc q6) nb) (own_exp ((p3 &&& (2147483647 : Int32)) % (14 : Int32)) ((p1 &&& (2147483647 : Int32)) % (14 : Int32)) q2 ((p3 &&& (2147483647 : Int32)) % (14 : Int32)) q4 ((p5 &&& (2147483647 : Int32)) % (14 : Int32)) q6)))])) _
    refine XS.ifNo X18.here hx rfl (hb hby at_142) rfl ((if0 _ _).trans (teq hc142).2) ?_
    show Steps p.tables e below (T18.setTop (mkF m 145 #[.val (.int p1), .val (.long q2), .second, .val (.int p3), .val (.long q4), .second, .val (.int p5), .val (.long q6), .second, .val (.int ((p1 &&& (2147483647 : Int32)) % (14 : Int32))), .val (.int ((p3 &&& (2147483647 : Int32)) % (14 : Int32))), .val (.int ((p5 &&& (2147483647 : Int32)) % (14 : Int32))), .val (.ref (r na)), .val (.ref (r nb)), .val (.ref (r nc)), .val (.ref bN), .val (.int (1 : Int32)), .unset, .unset, .unset] [])) _
    refine XS.iconst X18.here hx rfl (hb hby at_145) ?_
    show Steps p.tables e below (T18.setTop (mkF m 146 #[.val (.int p1), .val (.long q2), .second, .val (.int p3), .val (.long q4), .second, .val (.int p5), .val (.long q6), .second, .val (.int ((p1 &&& (2147483647 : Int32)) % (14 : Int32))), .val (.int ((p3 &&& (2147483647 : Int32)) % (14 : Int32))), .val (.int ((p5 &&& (2147483647 : Int32)) % (14 : Int32))), .val (.ref (r na)), .val (.ref (r nb)), .val (.ref (r nc)), .val (.ref bN), .val (.int (1 : Int32)), .unset, .unset, .unset] [(.int (1 : Int32))])) _
    refine XS.goto X18.here hx rfl (pc0 := 146) (pc' := 150) rfl (hb hby at_146) (by decide) (by decide) ?_
    show Steps p.tables e below (T18.setTop (mkF m 150 #[.val (.int p1), .val (.long q2), .second, .val (.int p3), .val (.long q4), .second, .val (.int p5), .val (.long q6), .second, .val (.int ((p1 &&& (2147483647 : Int32)) % (14 : Int32))), .val (.int ((p3 &&& (2147483647 : Int32)) % (14 : Int32))), .val (.int ((p5 &&& (2147483647 : Int32)) % (14 : Int32))), .val (.ref (r na)), .val (.ref (r nb)), .val (.ref (r nc)), .val (.ref bN), .val (.int (1 : Int32)), .unset, .unset, .unset] [(.int (1 : Int32))])) _
    refine XS.istore X18.here hx rfl (hb hby at_150) rfl (l' := #[.val (.int p1), .val (.long q2), .second, .val (.int p3), .val (.long q4), .second, .val (.int p5), .val (.long q6), .second, .val (.int ((p1 &&& (2147483647 : Int32)) % (14 : Int32))), .val (.int ((p3 &&& (2147483647 : Int32)) % (14 : Int32))), .val (.int ((p5 &&& (2147483647 : Int32)) % (14 : Int32))), .val (.ref (r na)), .val (.ref (r nb)), .val (.ref (r nc)), .val (.ref bN), .val (.int (1 : Int32)), .val (.int (1 : Int32)), .unset, .unset]) rfl ?_
    show Steps p.tables e below (T18.setTop (mkF m 152 #[.val (.int p1), .val (.long q2), .second, .val (.int p3), .val (.long q4), .second, .val (.int p5), .val (.long q6), .second, .val (.int ((p1 &&& (2147483647 : Int32)) % (14 : Int32))), .val (.int ((p3 &&& (2147483647 : Int32)) % (14 : Int32))), .val (.int ((p5 &&& (2147483647 : Int32)) % (14 : Int32))), .val (.ref (r na)), .val (.ref (r nb)), .val (.ref (r nc)), .val (.ref bN), .val (.int (1 : Int32)), .val (.int (1 : Int32)), .unset, .unset] [])) _
    refine XS.aload X18.here hx rfl (hb hby at_152) rfl rfl ?_
    show Steps p.tables e below (T18.setTop (mkF m 154 #[.val (.int p1), .val (.long q2), .second, .val (.int p3), .val (.long q4), .second, .val (.int p5), .val (.long q6), .second, .val (.int ((p1 &&& (2147483647 : Int32)) % (14 : Int32))), .val (.int ((p3 &&& (2147483647 : Int32)) % (14 : Int32))), .val (.int ((p5 &&& (2147483647 : Int32)) % (14 : Int32))), .val (.ref (r na)), .val (.ref (r nb)), .val (.ref (r nc)), .val (.ref bN), .val (.int (1 : Int32)), .val (.int (1 : Int32)), .unset, .unset] [(.ref bN)])) _
    refine XS.aload X18.here hx rfl (hb hby at_154) rfl rfl ?_
    show Steps p.tables e below (T18.setTop (mkF m 156 #[.val (.int p1), .val (.long q2), .second, .val (.int p3), .val (.long q4), .second, .val (.int p5), .val (.long q6), .second, .val (.int ((p1 &&& (2147483647 : Int32)) % (14 : Int32))), .val (.int ((p3 &&& (2147483647 : Int32)) % (14 : Int32))), .val (.int ((p5 &&& (2147483647 : Int32)) % (14 : Int32))), .val (.ref (r na)), .val (.ref (r nb)), .val (.ref (r nc)), .val (.ref bN), .val (.int (1 : Int32)), .val (.int (1 : Int32)), .unset, .unset] [(.ref (r nc)), (.ref bN)])) _
    refine st19.trans ?_
    show Steps p.tables e below (T19.setTop (mkF m 159 #[.val (.int p1), .val (.long q2), .second, .val (.int p3), .val (.long q4), .second, .val (.int p5), .val (.long q6), .second, .val (.int ((p1 &&& (2147483647 : Int32)) % (14 : Int32))), .val (.int ((p3 &&& (2147483647 : Int32)) % (14 : Int32))), .val (.int ((p5 &&& (2147483647 : Int32)) % (14 : Int32))), .val (.ref (r na)), .val (.ref (r nb)), .val (.ref (r nc)), .val (.ref bN), .val (.int (1 : Int32)), .val (.int (1 : Int32)), .unset, .unset] [(.long ((own_up (own_up (own_up own_f0 na q2) nb q4) nc q6) nc))])) _
    refine XS.iload X19.here hx rfl (hb hby at_159) rfl ?_
    show Steps p.tables e below (T19.setTop (mkF m 161 #[.val (.int p1), .val (.long q2), .second, .val (.int p3), .val (.long q4), .second, .val (.int p5), .val (.long q6), .second, .val (.int ((p1 &&& (2147483647 : Int32)) % (14 : Int32))), .val (.int ((p3 &&& (2147483647 : Int32)) % (14 : Int32))), .val (.int ((p5 &&& (2147483647 : Int32)) % (14 : Int32))), .val (.ref (r na)), .val (.ref (r nb)), .val (.ref (r nc)), .val (.ref bN), .val (.int (1 : Int32)), .val (.int (1 : Int32)), .unset, .unset] [(.int ((p5 &&& (2147483647 : Int32)) % (14 : Int32))), (.long ((own_up (own_up (own_up own_f0 na q2) nb q4) nc q6) nc))])) _
    refine XS.iload X19.here hx rfl (hb hby at_161) rfl ?_
    show Steps p.tables e below (T19.setTop (mkF m 163 #[.val (.int p1), .val (.long q2), .second, .val (.int p3), .val (.long q4), .second, .val (.int p5), .val (.long q6), .second, .val (.int ((p1 &&& (2147483647 : Int32)) % (14 : Int32))), .val (.int ((p3 &&& (2147483647 : Int32)) % (14 : Int32))), .val (.int ((p5 &&& (2147483647 : Int32)) % (14 : Int32))), .val (.ref (r na)), .val (.ref (r nb)), .val (.ref (r nc)), .val (.ref bN), .val (.int (1 : Int32)), .val (.int (1 : Int32)), .unset, .unset] [(.int ((p1 &&& (2147483647 : Int32)) % (14 : Int32))), (.int ((p5 &&& (2147483647 : Int32)) % (14 : Int32))), (.long ((own_up (own_up (own_up own_f0 na q2) nb q4) nc q6) nc))])) _
    refine XS.lloadN X19.here hx rfl (hb hby at_163) rfl ?_
    show Steps p.tables e below (T19.setTop (mkF m 164 #[.val (.int p1), .val (.long q2), .second, .val (.int p3), .val (.long q4), .second, .val (.int p5), .val (.long q6), .second, .val (.int ((p1 &&& (2147483647 : Int32)) % (14 : Int32))), .val (.int ((p3 &&& (2147483647 : Int32)) % (14 : Int32))), .val (.int ((p5 &&& (2147483647 : Int32)) % (14 : Int32))), .val (.ref (r na)), .val (.ref (r nb)), .val (.ref (r nc)), .val (.ref bN), .val (.int (1 : Int32)), .val (.int (1 : Int32)), .unset, .unset] [(.long q2), (.int ((p1 &&& (2147483647 : Int32)) % (14 : Int32))), (.int ((p5 &&& (2147483647 : Int32)) % (14 : Int32))), (.long ((own_up (own_up (own_up own_f0 na q2) nb q4) nc q6) nc))])) _
    refine XS.iload X19.here hx rfl (hb hby at_164) rfl ?_
    show Steps p.tables e below (T19.setTop (mkF m 166 #[.val (.int p1), .val (.long q2), .second, .val (.int p3), .val (.long q4), .second, .val (.int p5), .val (.long q6), .second, .val (.int ((p1 &&& (2147483647 : Int32)) % (14 : Int32))), .val (.int ((p3 &&& (2147483647 : Int32)) % (14 : Int32))), .val (.int ((p5 &&& (2147483647 : Int32)) % (14 : Int32))), .val (.ref (r na)), .val (.ref (r nb)), .val (.ref (r nc)), .val (.ref bN), .val (.int (1 : Int32)), .val (.int (1 : Int32)), .unset, .unset] [(.int ((p3 &&& (2147483647 : Int32)) % (14 : Int32))), (.long q2), (.int ((p1 &&& (2147483647 : Int32)) % (14 : Int32))), (.int ((p5 &&& (2147483647 : Int32)) % (14 : Int32))), (.long ((own_up (own_up (own_up own_f0 na q2) nb q4) nc q6) nc))])) _
    refine XS.lload X19.here hx rfl (hb hby at_166) rfl ?_
    show Steps p.tables e below (T19.setTop (mkF m 168 #[.val (.int p1), .val (.long q2), .second, .val (.int p3), .val (.long q4), .second, .val (.int p5), .val (.long q6), .second, .val (.int ((p1 &&& (2147483647 : Int32)) % (14 : Int32))), .val (.int ((p3 &&& (2147483647 : Int32)) % (14 : Int32))), .val (.int ((p5 &&& (2147483647 : Int32)) % (14 : Int32))), .val (.ref (r na)), .val (.ref (r nb)), .val (.ref (r nc)), .val (.ref bN), .val (.int (1 : Int32)), .val (.int (1 : Int32)), .unset, .unset] [(.long q4), (.int ((p3 &&& (2147483647 : Int32)) % (14 : Int32))), (.long q2), (.int ((p1 &&& (2147483647 : Int32)) % (14 : Int32))), (.int ((p5 &&& (2147483647 : Int32)) % (14 : Int32))), (.long ((own_up (own_up (own_up own_f0 na q2) nb q4) nc q6) nc))])) _
    refine XS.iload X19.here hx rfl (hb hby at_168) rfl ?_
    show Steps p.tables e below (T19.setTop (mkF m 170 #[.val (.int p1), .val (.long q2), .second, .val (.int p3), .val (.long q4), .second, .val (.int p5), .val (.long q6), .second, .val (.int ((p1 &&& (2147483647 : Int32)) % (14 : Int32))), .val (.int ((p3 &&& (2147483647 : Int32)) % (14 : Int32))), .val (.int ((p5 &&& (2147483647 : Int32)) % (14 : Int32))), .val (.ref (r na)), .val (.ref (r nb)), .val (.ref (r nc)), .val (.ref bN), .val (.int (1 : Int32)), .val (.int (1 : Int32)), .unset, .unset] [(.int ((p5 &&& (2147483647 : Int32)) % (14 : Int32))), (.long q4), (.int ((p3 &&& (2147483647 : Int32)) % (14 : Int32))), (.long q2), (.int ((p1 &&& (2147483647 : Int32)) % (14 : Int32))), (.int ((p5 &&& (2147483647 : Int32)) % (14 : Int32))), (.long ((own_up (own_up (own_up own_f0 na q2) nb q4) nc q6) nc))])) _
    refine XS.lload X19.here hx rfl (hb hby at_170) rfl ?_
    show Steps p.tables e below (T19.setTop (mkF m 172 #[.val (.int p1), .val (.long q2), .second, .val (.int p3), .val (.long q4), .second, .val (.int p5), .val (.long q6), .second, .val (.int ((p1 &&& (2147483647 : Int32)) % (14 : Int32))), .val (.int ((p3 &&& (2147483647 : Int32)) % (14 : Int32))), .val (.int ((p5 &&& (2147483647 : Int32)) % (14 : Int32))), .val (.ref (r na)), .val (.ref (r nb)), .val (.ref (r nc)), .val (.ref bN), .val (.int (1 : Int32)), .val (.int (1 : Int32)), .unset, .unset] [(.long q6), (.int ((p5 &&& (2147483647 : Int32)) % (14 : Int32))), (.long q4), (.int ((p3 &&& (2147483647 : Int32)) % (14 : Int32))), (.long q2), (.int ((p1 &&& (2147483647 : Int32)) % (14 : Int32))), (.int ((p5 &&& (2147483647 : Int32)) % (14 : Int32))), (.long ((own_up (own_up (own_up own_f0 na q2) nb q4) nc q6) nc))])) _
    refine st20 _ ?_
    show Steps p.tables e below (T20.setTop (mkF m 175 #[.val (.int p1), .val (.long q2), .second, .val (.int p3), .val (.long q4), .second, .val (.int p5), .val (.long q6), .second, .val (.int ((p1 &&& (2147483647 : Int32)) % (14 : Int32))), .val (.int ((p3 &&& (2147483647 : Int32)) % (14 : Int32))), .val (.int ((p5 &&& (2147483647 : Int32)) % (14 : Int32))), .val (.ref (r na)), .val (.ref (r nb)), .val (.ref (r nc)), .val (.ref bN), .val (.int (1 : Int32)), .val (.int (1 : Int32)), .unset, .unset] [(.long (own_exp ((p5 &&& (2147483647 : Int32)) % (14 : Int32)) ((p1 &&& (2147483647 : Int32)) % (14 : Int32)) q2 ((p3 &&& (2147483647 : Int32)) % (14 : Int32)) q4 ((p5 &&& (2147483647 : Int32)) % (14 : Int32)) q6)), (.long ((own_up (own_up (own_up own_f0 na q2) nb q4) nc q6) nc))])) _
    refine XS.lcmp X20.here hx rfl (hb hby at_175) rfl ?_
    show Steps p.tables e below (T20.setTop (mkF m 176 #[.val (.int p1), .val (.long q2), .second, .val (.int p3), .val (.long q4), .second, .val (.int p5), .val (.long q6), .second, .val (.int ((p1 &&& (2147483647 : Int32)) % (14 : Int32))), .val (.int ((p3 &&& (2147483647 : Int32)) % (14 : Int32))), .val (.int ((p5 &&& (2147483647 : Int32)) % (14 : Int32))), .val (.ref (r na)), .val (.ref (r nb)), .val (.ref (r nc)), .val (.ref bN), .val (.int (1 : Int32)), .val (.int (1 : Int32)), .unset, .unset] [(.int (lcmpW ((own_up (own_up (own_up own_f0 na q2) nb q4) nc q6) nc) (own_exp ((p5 &&& (2147483647 : Int32)) % (14 : Int32)) ((p1 &&& (2147483647 : Int32)) % (14 : Int32)) q2 ((p3 &&& (2147483647 : Int32)) % (14 : Int32)) q4 ((p5 &&& (2147483647 : Int32)) % (14 : Int32)) q6)))])) _
    refine XS.ifNo X20.here hx rfl (hb hby at_176) rfl ((if0 _ _).trans (teq hc176).2) ?_
    show Steps p.tables e below (T20.setTop (mkF m 179 #[.val (.int p1), .val (.long q2), .second, .val (.int p3), .val (.long q4), .second, .val (.int p5), .val (.long q6), .second, .val (.int ((p1 &&& (2147483647 : Int32)) % (14 : Int32))), .val (.int ((p3 &&& (2147483647 : Int32)) % (14 : Int32))), .val (.int ((p5 &&& (2147483647 : Int32)) % (14 : Int32))), .val (.ref (r na)), .val (.ref (r nb)), .val (.ref (r nc)), .val (.ref bN), .val (.int (1 : Int32)), .val (.int (1 : Int32)), .unset, .unset] [])) _
    refine XS.iconst X20.here hx rfl (hb hby at_179) ?_
    show Steps p.tables e below (T20.setTop (mkF m 180 #[.val (.int p1), .val (.long q2), .second, .val (.int p3), .val (.long q4), .second, .val (.int p5), .val (.long q6), .second, .val (.int ((p1 &&& (2147483647 : Int32)) % (14 : Int32))), .val (.int ((p3 &&& (2147483647 : Int32)) % (14 : Int32))), .val (.int ((p5 &&& (2147483647 : Int32)) % (14 : Int32))), .val (.ref (r na)), .val (.ref (r nb)), .val (.ref (r nc)), .val (.ref bN), .val (.int (1 : Int32)), .val (.int (1 : Int32)), .unset, .unset] [(.int (1 : Int32))])) _
    refine XS.goto X20.here hx rfl (pc0 := 180) (pc' := 184) rfl (hb hby at_180) (by decide) (by decide) ?_
    show Steps p.tables e below (T20.setTop (mkF m 184 #[.val (.int p1), .val (.long q2), .second, .val (.int p3), .val (.long q4), .second, .val (.int p5), .val (.long q6), .second, .val (.int ((p1 &&& (2147483647 : Int32)) % (14 : Int32))), .val (.int ((p3 &&& (2147483647 : Int32)) % (14 : Int32))), .val (.int ((p5 &&& (2147483647 : Int32)) % (14 : Int32))), .val (.ref (r na)), .val (.ref (r nb)), .val (.ref (r nc)), .val (.ref bN), .val (.int (1 : Int32)), .val (.int (1 : Int32)), .unset, .unset] [(.int (1 : Int32))])) _
    refine XS.istore X20.here hx rfl (hb hby at_184) rfl (l' := #[.val (.int p1), .val (.long q2), .second, .val (.int p3), .val (.long q4), .second, .val (.int p5), .val (.long q6), .second, .val (.int ((p1 &&& (2147483647 : Int32)) % (14 : Int32))), .val (.int ((p3 &&& (2147483647 : Int32)) % (14 : Int32))), .val (.int ((p5 &&& (2147483647 : Int32)) % (14 : Int32))), .val (.ref (r na)), .val (.ref (r nb)), .val (.ref (r nc)), .val (.ref bN), .val (.int (1 : Int32)), .val (.int (1 : Int32)), .val (.int (1 : Int32)), .unset]) rfl ?_
    show Steps p.tables e below (T20.setTop (mkF m 186 #[.val (.int p1), .val (.long q2), .second, .val (.int p3), .val (.long q4), .second, .val (.int p5), .val (.long q6), .second, .val (.int ((p1 &&& (2147483647 : Int32)) % (14 : Int32))), .val (.int ((p3 &&& (2147483647 : Int32)) % (14 : Int32))), .val (.int ((p5 &&& (2147483647 : Int32)) % (14 : Int32))), .val (.ref (r na)), .val (.ref (r nb)), .val (.ref (r nc)), .val (.ref bN), .val (.int (1 : Int32)), .val (.int (1 : Int32)), .val (.int (1 : Int32)), .unset] [])) _
    refine XS.aload X20.here hx rfl (hb hby at_186) rfl rfl ?_
    show Steps p.tables e below (T20.setTop (mkF m 188 #[.val (.int p1), .val (.long q2), .second, .val (.int p3), .val (.long q4), .second, .val (.int p5), .val (.long q6), .second, .val (.int ((p1 &&& (2147483647 : Int32)) % (14 : Int32))), .val (.int ((p3 &&& (2147483647 : Int32)) % (14 : Int32))), .val (.int ((p5 &&& (2147483647 : Int32)) % (14 : Int32))), .val (.ref (r na)), .val (.ref (r nb)), .val (.ref (r nc)), .val (.ref bN), .val (.int (1 : Int32)), .val (.int (1 : Int32)), .val (.int (1 : Int32)), .unset] [(.ref bN)])) _
    refine st21.trans ?_
    show Steps p.tables e below (T21.setTop (mkF m 191 #[.val (.int p1), .val (.long q2), .second, .val (.int p3), .val (.long q4), .second, .val (.int p5), .val (.long q6), .second, .val (.int ((p1 &&& (2147483647 : Int32)) % (14 : Int32))), .val (.int ((p3 &&& (2147483647 : Int32)) % (14 : Int32))), .val (.int ((p5 &&& (2147483647 : Int32)) % (14 : Int32))), .val (.ref (r na)), .val (.ref (r nb)), .val (.ref (r nc)), .val (.ref bN), .val (.int (1 : Int32)), .val (.int (1 : Int32)), .val (.int (1 : Int32)), .unset] [(.int (0 : Int32))])) _
    refine XS.ifNo X21.here hx rfl (hb hby at_191) rfl ((if0 _ _).trans (teq (rfl : (0 : Int32) = (0 : Int32))).2) ?_
    show Steps p.tables e below (T21.setTop (mkF m 194 #[.val (.int p1), .val (.long q2), .second, .val (.int p3), .val (.long q4), .second, .val (.int p5), .val (.long q6), .second, .val (.int ((p1 &&& (2147483647 : Int32)) % (14 : Int32))), .val (.int ((p3 &&& (2147483647 : Int32)) % (14 : Int32))), .val (.int ((p5 &&& (2147483647 : Int32)) % (14 : Int32))), .val (.ref (r na)), .val (.ref (r nb)), .val (.ref (r nc)), .val (.ref bN), .val (.int (1 : Int32)), .val (.int (1 : Int32)), .val (.int (1 : Int32)), .unset] [])) _
    refine XS.iconst X21.here hx rfl (hb hby at_194) ?_
    show Steps p.tables e below (T21.setTop (mkF m 195 #[.val (.int p1), .val (.long q2), .second, .val (.int p3), .val (.long q4), .second, .val (.int p5), .val (.long q6), .second, .val (.int ((p1 &&& (2147483647 : Int32)) % (14 : Int32))), .val (.int ((p3 &&& (2147483647 : Int32)) % (14 : Int32))), .val (.int ((p5 &&& (2147483647 : Int32)) % (14 : Int32))), .val (.ref (r na)), .val (.ref (r nb)), .val (.ref (r nc)), .val (.ref bN), .val (.int (1 : Int32)), .val (.int (1 : Int32)), .val (.int (1 : Int32)), .unset] [(.int (1 : Int32))])) _
    refine XS.goto X21.here hx rfl (pc0 := 195) (pc' := 199) rfl (hb hby at_195) (by decide) (by decide) ?_
    show Steps p.tables e below (T21.setTop (mkF m 199 #[.val (.int p1), .val (.long q2), .second, .val (.int p3), .val (.long q4), .second, .val (.int p5), .val (.long q6), .second, .val (.int ((p1 &&& (2147483647 : Int32)) % (14 : Int32))), .val (.int ((p3 &&& (2147483647 : Int32)) % (14 : Int32))), .val (.int ((p5 &&& (2147483647 : Int32)) % (14 : Int32))), .val (.ref (r na)), .val (.ref (r nb)), .val (.ref (r nc)), .val (.ref bN), .val (.int (1 : Int32)), .val (.int (1 : Int32)), .val (.int (1 : Int32)), .unset] [(.int (1 : Int32))])) _
    refine XS.istore X21.here hx rfl (hb hby at_199) rfl (l' := #[.val (.int p1), .val (.long q2), .second, .val (.int p3), .val (.long q4), .second, .val (.int p5), .val (.long q6), .second, .val (.int ((p1 &&& (2147483647 : Int32)) % (14 : Int32))), .val (.int ((p3 &&& (2147483647 : Int32)) % (14 : Int32))), .val (.int ((p5 &&& (2147483647 : Int32)) % (14 : Int32))), .val (.ref (r na)), .val (.ref (r nb)), .val (.ref (r nc)), .val (.ref bN), .val (.int (1 : Int32)), .val (.int (1 : Int32)), .val (.int (1 : Int32)), .val (.int (1 : Int32))]) rfl ?_
    show Steps p.tables e below (T21.setTop (mkF m 201 #[.val (.int p1), .val (.long q2), .second, .val (.int p3), .val (.long q4), .second, .val (.int p5), .val (.long q6), .second, .val (.int ((p1 &&& (2147483647 : Int32)) % (14 : Int32))), .val (.int ((p3 &&& (2147483647 : Int32)) % (14 : Int32))), .val (.int ((p5 &&& (2147483647 : Int32)) % (14 : Int32))), .val (.ref (r na)), .val (.ref (r nb)), .val (.ref (r nc)), .val (.ref bN), .val (.int (1 : Int32)), .val (.int (1 : Int32)), .val (.int (1 : Int32)), .val (.int (1 : Int32))] [])) _
    refine XS.iload X21.here hx rfl (hb hby at_201) rfl ?_
    show Steps p.tables e below (T21.setTop (mkF m 203 #[.val (.int p1), .val (.long q2), .second, .val (.int p3), .val (.long q4), .second, .val (.int p5), .val (.long q6), .second, .val (.int ((p1 &&& (2147483647 : Int32)) % (14 : Int32))), .val (.int ((p3 &&& (2147483647 : Int32)) % (14 : Int32))), .val (.int ((p5 &&& (2147483647 : Int32)) % (14 : Int32))), .val (.ref (r na)), .val (.ref (r nb)), .val (.ref (r nc)), .val (.ref bN), .val (.int (1 : Int32)), .val (.int (1 : Int32)), .val (.int (1 : Int32)), .val (.int (1 : Int32))] [(.int (1 : Int32))])) _
    refine XS.ifNo X21.here hx rfl (hb hby at_203) rfl ((if0 _ _).trans (feq hc203).1) ?_
    show Steps p.tables e below (T21.setTop (mkF m 206 #[.val (.int p1), .val (.long q2), .second, .val (.int p3), .val (.long q4), .second, .val (.int p5), .val (.long q6), .second, .val (.int ((p1 &&& (2147483647 : Int32)) % (14 : Int32))), .val (.int ((p3 &&& (2147483647 : Int32)) % (14 : Int32))), .val (.int ((p5 &&& (2147483647 : Int32)) % (14 : Int32))), .val (.ref (r na)), .val (.ref (r nb)), .val (.ref (r nc)), .val (.ref bN), .val (.int (1 : Int32)), .val (.int (1 : Int32)), .val (.int (1 : Int32)), .val (.int (1 : Int32))] [])) _
    refine XS.iload X21.here hx rfl (hb hby at_206) rfl ?_
    show Steps p.tables e below (T21.setTop (mkF m 208 #[.val (.int p1), .val (.long q2), .second, .val (.int p3), .val (.long q4), .second, .val (.int p5), .val (.long q6), .second, .val (.int ((p1 &&& (2147483647 : Int32)) % (14 : Int32))), .val (.int ((p3 &&& (2147483647 : Int32)) % (14 : Int32))), .val (.int ((p5 &&& (2147483647 : Int32)) % (14 : Int32))), .val (.ref (r na)), .val (.ref (r nb)), .val (.ref (r nc)), .val (.ref bN), .val (.int (1 : Int32)), .val (.int (1 : Int32)), .val (.int (1 : Int32)), .val (.int (1 : Int32))] [(.int (1 : Int32))])) _
    refine XS.ifNo X21.here hx rfl (hb hby at_208) rfl ((if0 _ _).trans (feq hc208).1) ?_
    show Steps p.tables e below (T21.setTop (mkF m 211 #[.val (.int p1), .val (.long q2), .second, .val (.int p3), .val (.long q4), .second, .val (.int p5), .val (.long q6), .second, .val (.int ((p1 &&& (2147483647 : Int32)) % (14 : Int32))), .val (.int ((p3 &&& (2147483647 : Int32)) % (14 : Int32))), .val (.int ((p5 &&& (2147483647 : Int32)) % (14 : Int32))), .val (.ref (r na)), .val (.ref (r nb)), .val (.ref (r nc)), .val (.ref bN), .val (.int (1 : Int32)), .val (.int (1 : Int32)), .val (.int (1 : Int32)), .val (.int (1 : Int32))] [])) _
    refine XS.iload X21.here hx rfl (hb hby at_211) rfl ?_
    show Steps p.tables e below (T21.setTop (mkF m 213 #[.val (.int p1), .val (.long q2), .second, .val (.int p3), .val (.long q4), .second, .val (.int p5), .val (.long q6), .second, .val (.int ((p1 &&& (2147483647 : Int32)) % (14 : Int32))), .val (.int ((p3 &&& (2147483647 : Int32)) % (14 : Int32))), .val (.int ((p5 &&& (2147483647 : Int32)) % (14 : Int32))), .val (.ref (r na)), .val (.ref (r nb)), .val (.ref (r nc)), .val (.ref bN), .val (.int (1 : Int32)), .val (.int (1 : Int32)), .val (.int (1 : Int32)), .val (.int (1 : Int32))] [(.int (1 : Int32))])) _
    refine XS.ifNo X21.here hx rfl (hb hby at_213) rfl ((if0 _ _).trans (feq hc213).1) ?_
    show Steps p.tables e below (T21.setTop (mkF m 216 #[.val (.int p1), .val (.long q2), .second, .val (.int p3), .val (.long q4), .second, .val (.int p5), .val (.long q6), .second, .val (.int ((p1 &&& (2147483647 : Int32)) % (14 : Int32))), .val (.int ((p3 &&& (2147483647 : Int32)) % (14 : Int32))), .val (.int ((p5 &&& (2147483647 : Int32)) % (14 : Int32))), .val (.ref (r na)), .val (.ref (r nb)), .val (.ref (r nc)), .val (.ref bN), .val (.int (1 : Int32)), .val (.int (1 : Int32)), .val (.int (1 : Int32)), .val (.int (1 : Int32))] [])) _
    refine XS.iload X21.here hx rfl (hb hby at_216) rfl ?_
    show Steps p.tables e below (T21.setTop (mkF m 218 #[.val (.int p1), .val (.long q2), .second, .val (.int p3), .val (.long q4), .second, .val (.int p5), .val (.long q6), .second, .val (.int ((p1 &&& (2147483647 : Int32)) % (14 : Int32))), .val (.int ((p3 &&& (2147483647 : Int32)) % (14 : Int32))), .val (.int ((p5 &&& (2147483647 : Int32)) % (14 : Int32))), .val (.ref (r na)), .val (.ref (r nb)), .val (.ref (r nc)), .val (.ref bN), .val (.int (1 : Int32)), .val (.int (1 : Int32)), .val (.int (1 : Int32)), .val (.int (1 : Int32))] [(.int (1 : Int32))])) _
    refine XS.ifNo X21.here hx rfl (hb hby at_218) rfl ((if0 _ _).trans (feq hc218).1) ?_
    show Steps p.tables e below (T21.setTop (mkF m 221 #[.val (.int p1), .val (.long q2), .second, .val (.int p3), .val (.long q4), .second, .val (.int p5), .val (.long q6), .second, .val (.int ((p1 &&& (2147483647 : Int32)) % (14 : Int32))), .val (.int ((p3 &&& (2147483647 : Int32)) % (14 : Int32))), .val (.int ((p5 &&& (2147483647 : Int32)) % (14 : Int32))), .val (.ref (r na)), .val (.ref (r nb)), .val (.ref (r nc)), .val (.ref bN), .val (.int (1 : Int32)), .val (.int (1 : Int32)), .val (.int (1 : Int32)), .val (.int (1 : Int32))] [])) _
    refine XS.iconst X21.here hx rfl (hb hby at_221) ?_
    show Steps p.tables e below (T21.setTop (mkF m 222 #[.val (.int p1), .val (.long q2), .second, .val (.int p3), .val (.long q4), .second, .val (.int p5), .val (.long q6), .second, .val (.int ((p1 &&& (2147483647 : Int32)) % (14 : Int32))), .val (.int ((p3 &&& (2147483647 : Int32)) % (14 : Int32))), .val (.int ((p5 &&& (2147483647 : Int32)) % (14 : Int32))), .val (.ref (r na)), .val (.ref (r nb)), .val (.ref (r nc)), .val (.ref bN), .val (.int (1 : Int32)), .val (.int (1 : Int32)), .val (.int (1 : Int32)), .val (.int (1 : Int32))] [(.int (1 : Int32))])) _
    refine XS.goto X21.here hx rfl (pc0 := 222) (pc' := 226) rfl (hb hby at_222) (by decide) (by decide) ?_
    show Steps p.tables e below (T21.setTop (mkF m 226 #[.val (.int p1), .val (.long q2), .second, .val (.int p3), .val (.long q4), .second, .val (.int p5), .val (.long q6), .second, .val (.int ((p1 &&& (2147483647 : Int32)) % (14 : Int32))), .val (.int ((p3 &&& (2147483647 : Int32)) % (14 : Int32))), .val (.int ((p5 &&& (2147483647 : Int32)) % (14 : Int32))), .val (.ref (r na)), .val (.ref (r nb)), .val (.ref (r nc)), .val (.ref bN), .val (.int (1 : Int32)), .val (.int (1 : Int32)), .val (.int (1 : Int32)), .val (.int (1 : Int32))] [(.int (1 : Int32))])) _
    exact retN X21 hx (t := .boolean) Bd.returns (by simp) (hb hby at_226) hr
  · show Q0 Z p1 q2 p3 q4 p5 q6 h0 n0 _ T21.heap _
    rw [eQ21]
    exact ⟨rfl, N21⟩
set_option maxRecDepth 65536 in
set_option maxHeartbeats 40000000 in
theorem comes_1 {Post : Tables → Env → Array Value → State → Outcome → State → Prop} (hpost : ∀ tb e args s v u, (limb_1_1.after args s (.returned v) u = true ∧ limb_1_2.after args s (.returned v) u = true ∧ True) → FrameEnd s (.returned v) u (Jvm.fieldLocs frame_1_writes args s ++ Jvm.arrayLocs frame_1_arrays args s ++ Jvm.staticLocs frame_1_statics s) 16 128 → Post tb e args s (.returned v) u) :
    ArmFor flags0 classFile x code maxLocals ret World_1 tables_1 room_1 Calls_1 rest_1 Pre_1 Post := by
  intro l hfl _ _ p e ha hc hk s m args below hf hA hF happ hP
  obtain ⟨hcalls, hrest, hpre⟩ := hP
  obtain ⟨-, -, -, hnamed, -, -, -, hat⟩ := (Spec.applies_iff hf).mp happ
  obtain ⟨hg, hn⟩ := and_e (Cond.before_iff.mp (show (Jvm.Cond.and given_1 narrow_1).before args s = true from hpre))
  obtain ⟨g22, g23⟩ := and_e hg
  obtain ⟨g24, g25⟩ := and_e g23
  obtain ⟨g26, g27⟩ := and_e g25
  obtain ⟨g28, g29⟩ := and_e g27
  obtain ⟨g30, g31⟩ := and_e g29
  obtain ⟨g32, g33⟩ := and_e g31
  obtain ⟨w0, w1, w2, w3, w4, w5, rfl⟩ : ∃ w0 w1 w2 w3 w4 w5 : Value, args = #[w0, w1, w2, w3, w4, w5] := by
    have hs : args.size = 6 := by simpa [Cond.value, given_1] using g22
    obtain ⟨L⟩ := args
    match L, hs with
    | [w0, w1, w2, w3, w4, w5], _ => exact ⟨w0, w1, w2, w3, w4, w5, rfl⟩
  have hw := fun d (hd : d ∈ tables_1) => atoms_spec (ws := Jvm.Cond.code x code maxLocals ret :: tables_1) hat d (List.mem_cons_of_mem _ hd)
  have hfit : Fit s := fun {y c} hc i hi => by
    obtain ⟨ha, rfl⟩ := Array.getElem?_eq_some_iff.mp hc
    have q := List.all_eq_true.mp ((Array.all_eq_true_iff_forall_mem.mp hF) _ (Array.getElem_mem ha)) i (List.mem_range.mpr hi)
    simpa [Array.getElem?_eq_getElem hi] using q
  obtain ⟨i0, ei0⟩ := is_v g24
  obtain rfl : w0 = (.int i0) := Option.some.inj ei0
  obtain ⟨i1, ei1⟩ := isL_v g26
  obtain rfl : w1 = (.long i1) := Option.some.inj ei1
  obtain ⟨i2, ei2⟩ := is_v g28
  obtain rfl : w2 = (.int i2) := Option.some.inj ei2
  obtain ⟨i3, ei3⟩ := isL_v g30
  obtain rfl : w3 = (.long i3) := Option.some.inj ei3
  obtain ⟨i4, ei4⟩ := is_v g32
  obtain rfl : w4 = (.int i4) := Option.some.inj ei4
  obtain ⟨i5, ei5⟩ := isL_v g33
  obtain rfl : w5 = (.long i5) := Option.some.inj ei5
  obtain ⟨x0, hn⟩ := and_e hn
  obtain ⟨x1, hn⟩ := and_e hn
  obtain ⟨x2, hn⟩ := and_e hn
  obtain ⟨xA, hn⟩ := and_e hn
  obtain ⟨yA, hn⟩ := and_e hn
  obtain ⟨nA, hn⟩ := and_e hn
  obtain ⟨j0, hn⟩ := and_e hn
  obtain ⟨j1, hn⟩ := and_e hn
  obtain ⟨j2, hn⟩ := and_e hn
  obtain ⟨x3, hn⟩ := and_e hn
  obtain ⟨j3, hn⟩ := and_e hn
  obtain ⟨x4, hn⟩ := and_e hn
  obtain ⟨j4, hn⟩ := and_e hn
  obtain ⟨x5, hn⟩ := and_e hn
  obtain ⟨j5, hn⟩ := and_e hn
  obtain ⟨x6, hn⟩ := and_e hn
  obtain ⟨j6, hn⟩ := and_e hn
  obtain ⟨x7, hn⟩ := and_e hn
  obtain ⟨j7, hn⟩ := and_e hn
  obtain ⟨x8, hn⟩ := and_e hn
  obtain ⟨j8, hn⟩ := and_e hn
  obtain ⟨x9, hn⟩ := and_e hn
  obtain ⟨j9, hn⟩ := and_e hn
  obtain ⟨x10, hn⟩ := and_e hn
  obtain ⟨j10, hn⟩ := and_e hn
  obtain ⟨x11, hn⟩ := and_e hn
  obtain ⟨j11, hn⟩ := and_e hn
  obtain ⟨x12, hn⟩ := and_e hn
  obtain ⟨j12, hn⟩ := and_e hn
  obtain ⟨x13, hn⟩ := and_e hn
  obtain ⟨j13, hn⟩ := and_e hn
  obtain ⟨f0, hn⟩ := and_e hn
  obtain ⟨f1, hn⟩ := and_e hn
  obtain ⟨f2, hn⟩ := and_e hn
  obtain ⟨f8, hn⟩ := and_e hn
  obtain ⟨f9, hn⟩ := and_e hn
  obtain ⟨f5, hn⟩ := and_e hn
  obtain ⟨f3, hn⟩ := and_e hn
  obtain ⟨f4, hn⟩ := and_e hn
  obtain ⟨f10, hn⟩ := and_e hn
  obtain ⟨f7, hn⟩ := and_e hn
  obtain ⟨f12, hn⟩ := and_e hn
  obtain ⟨f6, hn⟩ := and_e hn
  obtain ⟨f13, hn⟩ := and_e hn
  have f11 := hn
  obtain ⟨rA, vA⟩ := arr_v xA
  have sA := Sta.start vA (Or.inr ⟨(hw _ (List.mem_of_getElem? (i := 6) rfl)), (hw _ (List.mem_of_getElem? (i := 25) rfl))⟩)
  obtain ⟨cA, AA⟩ := Arr.start vA xA
  have EA := Exa.start vA yA
  have zA := own_size (own_len vA AA.1 nA)
  have FA : FitC s cA := fitC_of AA fun i hi v hv => elem_fits (j := Nat.toInt32 i) hfit AA (idx_in hi (own_len vA AA.1 nA).1) (by rw [show (Nat.toInt32 i).toNatClampNeg = i from own_clamp (Nat.lt_trans hi (own_len vA AA.1 nA).1)]; exact hv)
  obtain ⟨r0, v0⟩ := exa_v x0
  have s0 := Sta.start v0 (Or.inr ⟨(hw _ (List.mem_of_getElem? (i := 6) rfl)), (hw _ (List.mem_of_getElem? (i := 7) rfl))⟩)
  have E0 := Exa.start v0 x0
  have F0 := own_fldI v0 f0
  obtain ⟨r1, v1⟩ := exa_v x1
  have s1 := Sta.start v1 (Or.inr ⟨(hw _ (List.mem_of_getElem? (i := 6) rfl)), (hw _ (List.mem_of_getElem? (i := 9) rfl))⟩)
  have E1 := Exa.start v1 x1
  have F1 := own_fldI v1 f1
  obtain ⟨r2, v2⟩ := exa_v x2
  have s2 := Sta.start v2 (Or.inr ⟨(hw _ (List.mem_of_getElem? (i := 6) rfl)), (hw _ (List.mem_of_getElem? (i := 11) rfl))⟩)
  have E2 := Exa.start v2 x2
  have F2 := own_fldI v2 f2
  obtain ⟨r3, v3⟩ := exa_v x3
  have s3 := Sta.start v3 (Or.inr ⟨(hw _ (List.mem_of_getElem? (i := 6) rfl)), (hw _ (List.mem_of_getElem? (i := 33) rfl))⟩)
  have E3 := Exa.start v3 x3
  have F3 := own_fldI v3 f3
  obtain ⟨r4, v4⟩ := exa_v x4
  have s4 := Sta.start v4 (Or.inr ⟨(hw _ (List.mem_of_getElem? (i := 6) rfl)), (hw _ (List.mem_of_getElem? (i := 34) rfl))⟩)
  have E4 := Exa.start v4 x4
  have F4 := own_fldI v4 f4
  obtain ⟨r5, v5⟩ := exa_v x5
  have s5 := Sta.start v5 (Or.inr ⟨(hw _ (List.mem_of_getElem? (i := 6) rfl)), (hw _ (List.mem_of_getElem? (i := 35) rfl))⟩)
  have E5 := Exa.start v5 x5
  have F5 := own_fldI v5 f5
  obtain ⟨r6, v6⟩ := exa_v x6
  have s6 := Sta.start v6 (Or.inr ⟨(hw _ (List.mem_of_getElem? (i := 6) rfl)), (hw _ (List.mem_of_getElem? (i := 36) rfl))⟩)
  have E6 := Exa.start v6 x6
  have F6 := own_fldI v6 f6
  obtain ⟨r7, v7⟩ := exa_v x7
  have s7 := Sta.start v7 (Or.inr ⟨(hw _ (List.mem_of_getElem? (i := 6) rfl)), (hw _ (List.mem_of_getElem? (i := 37) rfl))⟩)
  have E7 := Exa.start v7 x7
  have F7 := own_fldI v7 f7
  obtain ⟨r8, v8⟩ := exa_v x8
  have s8 := Sta.start v8 (Or.inr ⟨(hw _ (List.mem_of_getElem? (i := 6) rfl)), (hw _ (List.mem_of_getElem? (i := 38) rfl))⟩)
  have E8 := Exa.start v8 x8
  have F8 := own_fldI v8 f8
  obtain ⟨r9, v9⟩ := exa_v x9
  have s9 := Sta.start v9 (Or.inr ⟨(hw _ (List.mem_of_getElem? (i := 6) rfl)), (hw _ (List.mem_of_getElem? (i := 39) rfl))⟩)
  have E9 := Exa.start v9 x9
  have F9 := own_fldI v9 f9
  obtain ⟨r10, v10⟩ := exa_v x10
  have s10 := Sta.start v10 (Or.inr ⟨(hw _ (List.mem_of_getElem? (i := 6) rfl)), (hw _ (List.mem_of_getElem? (i := 40) rfl))⟩)
  have E10 := Exa.start v10 x10
  have F10 := own_fldI v10 f10
  obtain ⟨r11, v11⟩ := exa_v x11
  have s11 := Sta.start v11 (Or.inr ⟨(hw _ (List.mem_of_getElem? (i := 6) rfl)), (hw _ (List.mem_of_getElem? (i := 41) rfl))⟩)
  have E11 := Exa.start v11 x11
  have F11 := own_fldI v11 f11
  obtain ⟨r12, v12⟩ := exa_v x12
  have s12 := Sta.start v12 (Or.inr ⟨(hw _ (List.mem_of_getElem? (i := 6) rfl)), (hw _ (List.mem_of_getElem? (i := 42) rfl))⟩)
  have E12 := Exa.start v12 x12
  have F12 := own_fldI v12 f12
  obtain ⟨r13, v13⟩ := exa_v x13
  have s13 := Sta.start v13 (Or.inr ⟨(hw _ (List.mem_of_getElem? (i := 6) rfl)), (hw _ (List.mem_of_getElem? (i := 43) rfl))⟩)
  have E13 := Exa.start v13 x13
  have F13 := own_fldI v13 f13
  let r : Nat → Addr := fun k => [r0, r1, r2, r3, r4, r5, r6, r7, r8, r9, r10, r11, r12, r13].getD k 0
  have hS : own_S s s.heap r := ⟨s0, s1, s2, s3, s4, s5, s6, s7, s8, s9, s10, s11, s12, s13⟩
  have hV : own_V s s.heap := ⟨rA, cA, sA, AA, EA, FA, zA⟩
  have hO : own_O s s.heap r := by
    intro k hk
    match k, hk with
    | 0, _ => exact ⟨E0, F0⟩
    | 1, _ => exact ⟨E1, F1⟩
    | 2, _ => exact ⟨E2, F2⟩
    | 3, _ => exact ⟨E3, F3⟩
    | 4, _ => exact ⟨E4, F4⟩
    | 5, _ => exact ⟨E5, F5⟩
    | 6, _ => exact ⟨E6, F6⟩
    | 7, _ => exact ⟨E7, F7⟩
    | 8, _ => exact ⟨E8, F8⟩
    | 9, _ => exact ⟨E9, F9⟩
    | 10, _ => exact ⟨E10, F10⟩
    | 11, _ => exact ⟨E11, F11⟩
    | 12, _ => exact ⟨E12, F12⟩
    | 13, _ => exact ⟨E13, F13⟩
    | k + 14, hk => exact absurd hk (by omega)
  obtain ⟨na, hna, ena⟩ := own_idx i0
  obtain ⟨nb, hnb, enb⟩ := own_idx i2
  obtain ⟨nc, hnc, enc⟩ := own_idx i4
  obtain ⟨n, o, h1, h2, h3, _, L, rfl, ⟨rfl, N⟩, hq⟩ := rm0 l s _ hw tables_1 i0 i1 i2 i3 i4 i5  s.heap s.heap.size (Nat.le_refl _) r na nb nc hna hnb hnc ena enb enc hS hV hO (by decide : ¬ ((14 : Int32) = (0 : Int32))) (by decide : ¬ ((14 : Int32) = (0 : Int32))) (by decide : ¬ ((14 : Int32) = (0 : Int32))) ((lw_eq _ _).mpr (own_exp_up hna hna hnb hnc _ _ _ ena ena enb enc)) ((lw_eq _ _).mpr (own_exp_up hnb hna hnb hnc _ _ _ enb ena enb enc)) ((lw_eq _ _).mpr (own_exp_up hnc hna hnb hnc _ _ _ enc ena enb enc)) (by decide : ¬ ((1 : Int32) = (0 : Int32))) (by decide : ¬ ((1 : Int32) = (0 : Int32))) (by decide : ¬ ((1 : Int32) = (0 : Int32))) (by decide : ¬ ((1 : Int32) = (0 : Int32))) p e ha hc hk s m _ below hf ((Spec.applies_iff_loose hf).mp happ).1 ⟨rfl, State.Warmed39.refl s, rfl⟩ trivial
  refine ⟨n, _, h1, h2, h3, hpost _ _ _ _ _ _ ⟨Cond.after_iff.mpr rfl, Cond.after_iff.mpr (eq_i res_at (Term.int_eval (1)) rfl), trivial⟩ ⟨hq.1, hq.2.1, (hq.2.2.sift fun y hy => Or.inr (N y hy)).mono (by decide) (by decide)⟩⟩
theorem main_1_1 : Claimed_1_1 := comes_1 fun _ _ _ _ _ _ h hF => ⟨h.1, hF⟩
theorem main_1_2 : Claimed_1_2 := comes_1 fun _ _ _ _ _ _ h hF => ⟨h.2.1, hF⟩
end Jvm.Pilot.@@N@@
namespace Jvm.Pilot.@@N@@
open Jvm Jvm.ClassFile Sem Op Lib Jvm.Free Jvm.Stand Jvm.Pilot.@@N@@.Jvm.D
/-! MADE BY PROGRAM (witnessworld.py) out of the Statement's table words and the real class files: 14 classes; the members and pool entries that the words name. The judged class is class 1, her method 3. -/
namespace start1
open Jvm.ClassFile
def u (s : String) : CpInfo := .utf8 (stringToUtf16 s)
/-- a pool by its gaps: so many unusable entries, then the entry; so many at the end -/
def gap : Nat → List CpInfo → List CpInfo
  | 0, r => r
  | n + 1, r => .unusable :: gap n r
def poolList (es : List (Nat × CpInfo)) (last : Nat) : List CpInfo := es.foldr (fun e r => gap e.1 (e.2 :: r)) (gap last [])
def pool (es : List (Nat × CpInfo)) (last : Nat) : Array CpInfo := ⟨poolList es last⟩
def fileOf (pool : Array CpInfo) (this : Nat) (attrs : Array Attribute := #[]) (ms : Array MethodInfo := #[]) (fl : Nat := 33) (sup : Nat := 0) (ifs : Array Nat := #[]) (fds : Array FieldInfo := #[]) : ClassFile where
  minorVersion := 0
  majorVersion := 65
  constantPool := pool
  accessFlags := fl
  thisClass := this
  superClass := sup
  interfaces := ifs
  fields := fds
  methods := ms
  attributes := attrs
def plain (name : String) (sup : Option ClassId) : Class where
  name := name
  kind := .ordinary
  loader := none
  accessFlags := 33
  super := sup
  interfaces := #[]
  cf := none
  fields := #[]
  methods := #[]
  instanceTypes := #[]
  staticTypes := #[]
  resolved := #[]
  callSites := []
  init := .initialized
  statics := none
  mirror := none

def pool0 : Array CpInfo := pool [(5, u "<init>"), (0, u "()V"), (1, .class_ 10), (1, u "java/lang/Object"), (85, u "clone"), (0, u "()Ljava/lang/Object;")] 26

def k0c0 : Code := { maxStack := 0, maxLocals := 1, code := object_method_1_code, exceptionTable := #[], attributes := #[] }
def k0m0 : Method := { name := "<init>", desc := "()V", sig := { parameters := [], returnType := none }, accessFlags := 1, code := some k0c0 }
def k0m1 : Method := { name := "clone", desc := "()Ljava/lang/Object;", sig := { parameters := [], returnType := some (.object "java/lang/Object") }, accessFlags := 260, code := none }
/-- java/lang/Object -/
def k0 : Class := { plain "java/lang/Object" none with
  accessFlags := 33
  interfaces := #[]
  cf := some (fileOf pool0 8 #[] #[{ accessFlags := 1, nameIndex := 5, descriptorIndex := 6, attributes := #[] }, { accessFlags := 260, nameIndex := 96, descriptorIndex := 97, attributes := #[] }] 33 0 #[] #[])
  fields := #[]
  methods := #[k0m0, k0m1]
  instanceTypes := #[]
  staticTypes := #[]
  resolved := Array.replicate 124 none
  statics := none }

def pool1 : Array CpInfo := pool [(2, .class_ 4), (0, .nameAndType 5 6), (0, u "java/lang/Object"), (0, u "<init>"), (0, u "()V"), (0, .fieldref 8 9), (0, .class_ 10), (0, .nameAndType 11 12), (0, u "com/example/orgweave/orgweave/fhir/Nodes$Kind"), (0, u "RESOURCE"), (0, u "Lcom/example/orgweave/orgweave/fhir/Nodes$Kind;"), (0, .fieldref 8 14), (0, .nameAndType 15 12), (0, u "OBJECT"), (0, .fieldref 8 17), (0, .nameAndType 18 12), (0, u "ARRAY"), (0, .fieldref 8 20), (0, .nameAndType 21 12), (0, u "FIELD"), (0, .fieldref 8 23), (0, .nameAndType 24 12), (0, u "VALUE"), (0, .fieldref 8 26), (0, .nameAndType 27 12), (0, u "HELD"), (0, .fieldref 8 29), (0, .nameAndType 30 12), (0, u "ELEMENT"), (0, .fieldref 8 32), (0, .nameAndType 33 12), (0, u "ATTRIBUTE"), (0, .fieldref 8 35), (0, .nameAndType 36 12), (0, u "XHTML_ELEMENT"), (0, .fieldref 8 38), (0, .nameAndType 39 12), (0, u "XHTML_ATTRIBUTE"), (0, .fieldref 8 41), (0, .nameAndType 42 12), (0, u "XHTML_TEXT"), (0, .fieldref 8 44), (0, .nameAndType 45 12), (0, u "XHTML_PART"), (0, .fieldref 8 47), (0, .nameAndType 48 12), (0, u "XHTML_REFERENCE"), (0, .fieldref 8 50), (0, .nameAndType 51 12), (0, u "XHTML_ESCAPED"), (0, .integer 2147483647), (0, .methodref 54 55), (0, .class_ 56), (0, .nameAndType 57 58), (0, u "com/example/orgweave/orgweave/fhir/NodesAddPinLaw"), (0, u "kindOf"), (0, u "(I)Lcom/example/orgweave/orgweave/fhir/Nodes$Kind;"), (0, .class_ 60), (0, u "com/example/orgweave/orgweave/fhir/Nodes"), (0, .methodref 59 3), (0, .methodref 59 63), (0, .nameAndType 64 65), (0, u "add"), (0, u "(Lcom/example/orgweave/orgweave/fhir/Nodes$Kind;J)V"), (0, .methodref 59 67), (0, .nameAndType 68 69), (0, u "count"), (0, u "(Lcom/example/orgweave/orgweave/fhir/Nodes$Kind;)J"), (0, .methodref 54 71), (0, .nameAndType 72 73), (0, u "expected"), (0, u "(IIJIJIJ)J"), (0, .methodref 59 75), (0, .nameAndType 76 77), (0, u "beyondLatin1"), (0, u "()Z"), (3, u "law"), (0, u "(IJIJIJ)Z")] 4

def k1m0 : Method := { name := "<init>", desc := "()V", sig := { parameters := [], returnType := none }, accessFlags := 1, code := none }
def k1c1 : Code := { maxStack := 2, maxLocals := 1, code := method_2_code, exceptionTable := #[], attributes := #[] }
def k1m1 : Method := { name := "kindOf", desc := "(I)Lcom/example/orgweave/orgweave/fhir/Nodes$Kind;", sig := { parameters := [.int], returnType := some (.object "com/example/orgweave/orgweave/fhir/Nodes$Kind") }, accessFlags := 10, code := some k1c1 }
def k1c2 : Code := { maxStack := 4, maxLocals := 12, code := method_3_code, exceptionTable := #[], attributes := #[] }
def k1m2 : Method := { name := "expected", desc := "(IIJIJIJ)J", sig := { parameters := [.int, .int, .long, .int, .long, .int, .long], returnType := some .long }, accessFlags := 10, code := some k1c2 }
def k1c3 : Code := { maxStack := 12, maxLocals := 20, code := code, exceptionTable := #[], attributes := #[] }
def k1m3 : Method := { name := "law", desc := "(IJIJIJ)Z", sig := { parameters := [.int, .long, .int, .long, .int, .long], returnType := some .boolean }, accessFlags := 9, code := some k1c3 }
/-- com/example/orgweave/orgweave/fhir/NodesAddPinLaw -/
def k1 : Class := { plain "com/example/orgweave/orgweave/fhir/NodesAddPinLaw" (some 0) with
  accessFlags := 49
  interfaces := #[]
  cf := some (fileOf pool1 54 #[] #[{ accessFlags := 1, nameIndex := 5, descriptorIndex := 6, attributes := #[] }, { accessFlags := 10, nameIndex := 57, descriptorIndex := 58, attributes := #[] }, { accessFlags := 10, nameIndex := 72, descriptorIndex := 73, attributes := #[] }, { accessFlags := 9, nameIndex := 81, descriptorIndex := 82, attributes := #[] }] 49 2 #[] #[])
  fields := #[]
  methods := #[k1m0, k1m1, k1m2, k1m3]
  instanceTypes := #[]
  staticTypes := #[]
  resolved := Array.replicate 87 none
  statics := none }

def pool2 : Array CpInfo := pool [(1, .class_ 2), (0, u "java/lang/constant/Constable"), (0, .class_ 4), (0, u "java/lang/Object")] 6

/-- java/lang/constant/Constable -/
def k2 : Class := { plain "java/lang/constant/Constable" (some 0) with
  accessFlags := 1537
  interfaces := #[]
  cf := some (fileOf pool2 1 #[] #[] 1537 3 #[] #[])
  fields := #[]
  methods := #[]
  instanceTypes := #[]
  staticTypes := #[]
  resolved := Array.replicate 11 none
  statics := none }

def pool3 : Array CpInfo := pool [(1, .class_ 2), (0, u "java/lang/Comparable"), (0, .class_ 4), (0, u "java/lang/Object")] 7

/-- java/lang/Comparable -/
def k3 : Class := { plain "java/lang/Comparable" (some 0) with
  accessFlags := 1537
  interfaces := #[]
  cf := some (fileOf pool3 1 #[] #[] 1537 3 #[] #[])
  fields := #[]
  methods := #[]
  instanceTypes := #[]
  staticTypes := #[]
  resolved := Array.replicate 12 none
  statics := none }

def pool4 : Array CpInfo := pool [(1, .class_ 2), (0, u "java/io/Serializable"), (0, .class_ 4), (0, u "java/lang/Object")] 2

/-- java/io/Serializable -/
def k4 : Class := { plain "java/io/Serializable" (some 0) with
  accessFlags := 1537
  interfaces := #[]
  cf := some (fileOf pool4 1 #[] #[] 1537 3 #[] #[])
  fields := #[]
  methods := #[]
  instanceTypes := #[]
  staticTypes := #[]
  resolved := Array.replicate 7 none
  statics := none }

def pool5 : Array CpInfo := pool [(2, .class_ 4), (1, u "java/lang/Enum"), (0, u "name"), (0, u "Ljava/lang/String;"), (0, .fieldref 2 8), (0, .nameAndType 9 10), (0, u "ordinal"), (0, u "I"), (1, .class_ 14), (1, u "java/lang/Object"), (4, u "hash"), (86, .class_ 108), (1, u "java/lang/Enum$EnumDesc"), (2, .class_ 112), (0, u "java/lang/constant/Constable"), (0, .class_ 114), (0, u "java/lang/Comparable"), (0, .class_ 116), (0, u "java/io/Serializable"), (9, u "()I")] 77

def k5c0 : Code := { maxStack := 1, maxLocals := 1, code := jdk_37_method_2_code, exceptionTable := #[], attributes := #[] }
def k5m0 : Method := { name := "ordinal", desc := "()I", sig := { parameters := [], returnType := some .int }, accessFlags := 17, code := some k5c0 }
/-- java/lang/Enum -/
def k5 : Class := { plain "java/lang/Enum" (some 0) with
  accessFlags := 1057
  interfaces := #[2, 3, 4]
  cf := some (fileOf pool5 2 #[.nestMembers #[106]] #[{ accessFlags := 17, nameIndex := 9, descriptorIndex := 126, attributes := #[] }] 1057 12 #[111, 113, 115] #[{ accessFlags := 18, nameIndex := 5, descriptorIndex := 6, attributes := #[] }, { accessFlags := 18, nameIndex := 9, descriptorIndex := 10, attributes := #[] }, { accessFlags := 2, nameIndex := 19, descriptorIndex := 10, attributes := #[] }])
  fields := #[{ name := "name", type := (.object "java/lang/String"), accessFlags := 18, slot := 0, constantValue := 0 }, { name := "ordinal", type := .int, accessFlags := 18, slot := 1, constantValue := 0 }, { name := "hash", type := .int, accessFlags := 2, slot := 2, constantValue := 0 }]
  methods := #[k5m0]
  instanceTypes := #[(.object "java/lang/String"), .int, .int]
  staticTypes := #[]
  resolved := Array.replicate 204 none
  statics := none }

def pool6 : Array CpInfo := pool [(1, .class_ 2), (0, u "com/example/orgweave/orgweave/fhir/Nodes$Kind"), (2, u "RESOURCE"), (0, u "Lcom/example/orgweave/orgweave/fhir/Nodes$Kind;"), (2, u "OBJECT"), (2, u "ARRAY"), (2, u "FIELD"), (2, u "VALUE"), (2, u "HELD"), (2, u "ELEMENT"), (2, u "ATTRIBUTE"), (2, u "XHTML_ELEMENT"), (2, u "XHTML_ATTRIBUTE"), (2, u "XHTML_TEXT"), (2, u "XHTML_PART"), (2, u "XHTML_REFERENCE"), (2, u "XHTML_ESCAPED"), (0, .fieldref 1 47), (0, .nameAndType 48 49), (0, u "$VALUES"), (0, u "[Lcom/example/orgweave/orgweave/fhir/Nodes$Kind;"), (0, .methodref 51 52), (0, .class_ 49), (0, .nameAndType 53 54), (0, u "clone"), (0, u "()Ljava/lang/Object;"), (1, .class_ 58), (1, u "java/lang/Enum"), (24, u "()[Lcom/example/orgweave/orgweave/fhir/Nodes$Kind;"), (0, u "values"), (11, .class_ 97), (0, u "com/example/orgweave/orgweave/fhir/Nodes")] 2

def k6c0 : Code := { maxStack := 1, maxLocals := 0, code := prog_10_method_1_code, exceptionTable := #[], attributes := #[] }
def k6m0 : Method := { name := "values", desc := "()[Lcom/example/orgweave/orgweave/fhir/Nodes$Kind;", sig := { parameters := [], returnType := some (.array (.object "com/example/orgweave/orgweave/fhir/Nodes$Kind")) }, accessFlags := 9, code := some k6c0 }
/-- com/example/orgweave/orgweave/fhir/Nodes$Kind -/
def k6 : Class := { plain "com/example/orgweave/orgweave/fhir/Nodes$Kind" (some 5) with
  accessFlags := 16433
  interfaces := #[]
  cf := some (fileOf pool6 1 #[.nestHost 96] #[{ accessFlags := 9, nameIndex := 84, descriptorIndex := 83, attributes := #[] }] 16433 56 #[] #[{ accessFlags := 16409, nameIndex := 5, descriptorIndex := 6, attributes := #[] }, { accessFlags := 16409, nameIndex := 9, descriptorIndex := 6, attributes := #[] }, { accessFlags := 16409, nameIndex := 12, descriptorIndex := 6, attributes := #[] }, { accessFlags := 16409, nameIndex := 15, descriptorIndex := 6, attributes := #[] }, { accessFlags := 16409, nameIndex := 18, descriptorIndex := 6, attributes := #[] }, { accessFlags := 16409, nameIndex := 21, descriptorIndex := 6, attributes := #[] }, { accessFlags := 16409, nameIndex := 24, descriptorIndex := 6, attributes := #[] }, { accessFlags := 16409, nameIndex := 27, descriptorIndex := 6, attributes := #[] }, { accessFlags := 16409, nameIndex := 30, descriptorIndex := 6, attributes := #[] }, { accessFlags := 16409, nameIndex := 33, descriptorIndex := 6, attributes := #[] }, { accessFlags := 16409, nameIndex := 36, descriptorIndex := 6, attributes := #[] }, { accessFlags := 16409, nameIndex := 39, descriptorIndex := 6, attributes := #[] }, { accessFlags := 16409, nameIndex := 42, descriptorIndex := 6, attributes := #[] }, { accessFlags := 16409, nameIndex := 45, descriptorIndex := 6, attributes := #[] }, { accessFlags := 4122, nameIndex := 48, descriptorIndex := 49, attributes := #[] }])
  fields := #[{ name := "RESOURCE", type := (.object "com/example/orgweave/orgweave/fhir/Nodes$Kind"), accessFlags := 16409, slot := 0, constantValue := 0 }, { name := "OBJECT", type := (.object "com/example/orgweave/orgweave/fhir/Nodes$Kind"), accessFlags := 16409, slot := 1, constantValue := 0 }, { name := "ARRAY", type := (.object "com/example/orgweave/orgweave/fhir/Nodes$Kind"), accessFlags := 16409, slot := 2, constantValue := 0 }, { name := "FIELD", type := (.object "com/example/orgweave/orgweave/fhir/Nodes$Kind"), accessFlags := 16409, slot := 3, constantValue := 0 }, { name := "VALUE", type := (.object "com/example/orgweave/orgweave/fhir/Nodes$Kind"), accessFlags := 16409, slot := 4, constantValue := 0 }, { name := "HELD", type := (.object "com/example/orgweave/orgweave/fhir/Nodes$Kind"), accessFlags := 16409, slot := 5, constantValue := 0 }, { name := "ELEMENT", type := (.object "com/example/orgweave/orgweave/fhir/Nodes$Kind"), accessFlags := 16409, slot := 6, constantValue := 0 }, { name := "ATTRIBUTE", type := (.object "com/example/orgweave/orgweave/fhir/Nodes$Kind"), accessFlags := 16409, slot := 7, constantValue := 0 }, { name := "XHTML_ELEMENT", type := (.object "com/example/orgweave/orgweave/fhir/Nodes$Kind"), accessFlags := 16409, slot := 8, constantValue := 0 }, { name := "XHTML_ATTRIBUTE", type := (.object "com/example/orgweave/orgweave/fhir/Nodes$Kind"), accessFlags := 16409, slot := 9, constantValue := 0 }, { name := "XHTML_TEXT", type := (.object "com/example/orgweave/orgweave/fhir/Nodes$Kind"), accessFlags := 16409, slot := 10, constantValue := 0 }, { name := "XHTML_PART", type := (.object "com/example/orgweave/orgweave/fhir/Nodes$Kind"), accessFlags := 16409, slot := 11, constantValue := 0 }, { name := "XHTML_REFERENCE", type := (.object "com/example/orgweave/orgweave/fhir/Nodes$Kind"), accessFlags := 16409, slot := 12, constantValue := 0 }, { name := "XHTML_ESCAPED", type := (.object "com/example/orgweave/orgweave/fhir/Nodes$Kind"), accessFlags := 16409, slot := 13, constantValue := 0 }, { name := "$VALUES", type := (.array (.object "com/example/orgweave/orgweave/fhir/Nodes$Kind")), accessFlags := 4122, slot := 14, constantValue := 0 }]
  methods := #[k6m0]
  instanceTypes := #[(.object "java/lang/String"), .int, .int]
  staticTypes := #[(.object "com/example/orgweave/orgweave/fhir/Nodes$Kind"), (.object "com/example/orgweave/orgweave/fhir/Nodes$Kind"), (.object "com/example/orgweave/orgweave/fhir/Nodes$Kind"), (.object "com/example/orgweave/orgweave/fhir/Nodes$Kind"), (.object "com/example/orgweave/orgweave/fhir/Nodes$Kind"), (.object "com/example/orgweave/orgweave/fhir/Nodes$Kind"), (.object "com/example/orgweave/orgweave/fhir/Nodes$Kind"), (.object "com/example/orgweave/orgweave/fhir/Nodes$Kind"), (.object "com/example/orgweave/orgweave/fhir/Nodes$Kind"), (.object "com/example/orgweave/orgweave/fhir/Nodes$Kind"), (.object "com/example/orgweave/orgweave/fhir/Nodes$Kind"), (.object "com/example/orgweave/orgweave/fhir/Nodes$Kind"), (.object "com/example/orgweave/orgweave/fhir/Nodes$Kind"), (.object "com/example/orgweave/orgweave/fhir/Nodes$Kind"), (.array (.object "com/example/orgweave/orgweave/fhir/Nodes$Kind"))]
  resolved := Array.replicate 100 none
  statics := some 0 }

def pool7 : Array CpInfo := pool [(1, .methodref 2 3), (0, .class_ 4), (0, .nameAndType 5 6), (0, u "java/lang/Object"), (0, u "<init>"), (0, u "()V"), (0, .methodref 8 9), (0, .class_ 10), (0, .nameAndType 11 12), (0, u "com/example/orgweave/orgweave/fhir/Nodes$Kind"), (0, u "values"), (0, u "()[Lcom/example/orgweave/orgweave/fhir/Nodes$Kind;"), (0, .fieldref 14 15), (0, .class_ 16), (0, .nameAndType 17 18), (0, u "com/example/orgweave/orgweave/fhir/Nodes"), (0, u "counts"), (0, u "[J"), (0, .methodref 8 20), (0, .nameAndType 21 22), (0, u "ordinal"), (0, u "()I"), (0, .fieldref 14 24), (0, .nameAndType 25 26), (0, u "beyondLatin1"), (0, u "Z"), (31, u "add"), (0, u "(Lcom/example/orgweave/orgweave/fhir/Nodes$Kind;J)V"), (0, u "ESCAPED"), (0, u "Ljava/lang/String;"), (3, u "count"), (0, u "(Lcom/example/orgweave/orgweave/fhir/Nodes$Kind;)J"), (0, u "()Z")] 10

def k7c0 : Code := { maxStack := 2, maxLocals := 1, code := prog_9_method_1_code, exceptionTable := #[], attributes := #[] }
def k7m0 : Method := { name := "<init>", desc := "()V", sig := { parameters := [], returnType := none }, accessFlags := 1, code := some k7c0 }
def k7c1 : Code := { maxStack := 2, maxLocals := 2, code := prog_9_method_2_code, exceptionTable := #[], attributes := #[] }
def k7m1 : Method := { name := "count", desc := "(Lcom/example/orgweave/orgweave/fhir/Nodes$Kind;)J", sig := { parameters := [(.object "com/example/orgweave/orgweave/fhir/Nodes$Kind")], returnType := some .long }, accessFlags := 1, code := some k7c1 }
def k7c2 : Code := { maxStack := 1, maxLocals := 1, code := prog_9_method_3_code, exceptionTable := #[], attributes := #[] }
def k7m2 : Method := { name := "beyondLatin1", desc := "()Z", sig := { parameters := [], returnType := some .boolean }, accessFlags := 1, code := some k7c2 }
def k7c3 : Code := { maxStack := 6, maxLocals := 4, code := prog_9_method_4_code, exceptionTable := #[], attributes := #[] }
def k7m3 : Method := { name := "add", desc := "(Lcom/example/orgweave/orgweave/fhir/Nodes$Kind;J)V", sig := { parameters := [(.object "com/example/orgweave/orgweave/fhir/Nodes$Kind"), .long], returnType := none }, accessFlags := 0, code := some k7c3 }
/-- com/example/orgweave/orgweave/fhir/Nodes -/
def k7 : Class := { plain "com/example/orgweave/orgweave/fhir/Nodes" (some 0) with
  accessFlags := 49
  interfaces := #[]
  cf := some (fileOf pool7 14 #[.nestMembers #[8]] #[{ accessFlags := 1, nameIndex := 5, descriptorIndex := 6, attributes := #[] }, { accessFlags := 1, nameIndex := 65, descriptorIndex := 66, attributes := #[] }, { accessFlags := 1, nameIndex := 25, descriptorIndex := 67, attributes := #[] }, { accessFlags := 0, nameIndex := 58, descriptorIndex := 59, attributes := #[] }] 49 2 #[] #[{ accessFlags := 26, nameIndex := 60, descriptorIndex := 61, attributes := #[] }, { accessFlags := 18, nameIndex := 17, descriptorIndex := 18, attributes := #[] }, { accessFlags := 2, nameIndex := 25, descriptorIndex := 26, attributes := #[] }])
  fields := #[{ name := "ESCAPED", type := (.object "java/lang/String"), accessFlags := 26, slot := 0, constantValue := 0 }, { name := "counts", type := (.array .long), accessFlags := 18, slot := 0, constantValue := 0 }, { name := "beyondLatin1", type := .boolean, accessFlags := 2, slot := 1, constantValue := 0 }]
  methods := #[k7m0, k7m1, k7m2, k7m3]
  instanceTypes := #[(.array .long), .boolean]
  staticTypes := #[(.object "java/lang/String")]
  resolved := Array.replicate 78 none
  statics := none }

def pool8 : Array CpInfo := pool [(1, .class_ 2), (0, u "java/lang/Cloneable"), (0, .class_ 4), (0, u "java/lang/Object")] 2

/-- java/lang/Cloneable -/
def k8 : Class := { plain "java/lang/Cloneable" (some 0) with
  accessFlags := 1537
  interfaces := #[]
  cf := some (fileOf pool8 1 #[] #[] 1537 3 #[] #[])
  fields := #[]
  methods := #[]
  instanceTypes := #[]
  staticTypes := #[]
  resolved := Array.replicate 7 none
  statics := none }

/-- the primitive byte -/
def k9 : Class := { plain "byte" none with kind := .primitive 'B', accessFlags := 0x411 }
/-- [B -/
def k10 : Class := { plain "[B" (some 0) with kind := .array 9 .byte, interfaces := #[8, 4], accessFlags := 1041 }

/-- the primitive long -/
def k11 : Class := { plain "long" none with kind := .primitive 'J', accessFlags := 0x411 }
/-- [J -/
def k12 : Class := { plain "[J" (some 0) with kind := .array 11 .long, interfaces := #[8, 4], accessFlags := 1041 }

/-- [Lcom/example/orgweave/orgweave/fhir/Nodes$Kind; -/
def k13 : Class := { plain "[Lcom/example/orgweave/orgweave/fhir/Nodes$Kind;" (some 0) with kind := .array 6 (.object "com/example/orgweave/orgweave/fhir/Nodes$Kind"), interfaces := #[8, 4], accessFlags := 1041 }

def heap : Heap := #[{ cls := 6, slots := #[.ref 2, .ref 3, .ref 4, .ref 5, .ref 6, .ref 7, .ref 8, .ref 9, .ref 10, .ref 11, .ref 12, .ref 13, .ref 14, .ref 15, .ref 1], vm := .statics 6 },
  { cls := 13, slots := #[.ref 2, .ref 3, .ref 4, .ref 5, .ref 6, .ref 7, .ref 8, .ref 9, .ref 10, .ref 11, .ref 12, .ref 13, .ref 14, .ref 15], vm := .none },
  { cls := 6, slots := #[.null, .int 0, .int 0], vm := .none },
  { cls := 6, slots := #[.null, .int 1, .int 0], vm := .none },
  { cls := 6, slots := #[.null, .int 2, .int 0], vm := .none },
  { cls := 6, slots := #[.null, .int 3, .int 0], vm := .none },
  { cls := 6, slots := #[.null, .int 4, .int 0], vm := .none },
  { cls := 6, slots := #[.null, .int 5, .int 0], vm := .none },
  { cls := 6, slots := #[.null, .int 6, .int 0], vm := .none },
  { cls := 6, slots := #[.null, .int 7, .int 0], vm := .none },
  { cls := 6, slots := #[.null, .int 8, .int 0], vm := .none },
  { cls := 6, slots := #[.null, .int 9, .int 0], vm := .none },
  { cls := 6, slots := #[.null, .int 10, .int 0], vm := .none },
  { cls := 6, slots := #[.null, .int 11, .int 0], vm := .none },
  { cls := 6, slots := #[.null, .int 12, .int 0], vm := .none },
  { cls := 6, slots := #[.null, .int 13, .int 0], vm := .none }]
def classes : Array Class := #[k0, k1, k2, k3, k4, k5, k6, k7, k8, k9, k10, k11, k12, k13]
def interned : List (Array UInt16 × Addr) := []
def slotsUsed : Nat := 71
def theMethod : MethodId := ⟨1, 3⟩
def args0 : Array Value := #[.int 1, .long 5, .int 2, .long 6, .int 3, .long 7]
def aboutOver (below : List Frame) : State where
  vm := { classes := classes, interned := interned.toArray }
  heap := heap
  slotsUsed := slotsUsed
  threads := #[{ frames := .invoking theMethod args0 :: below }]
def below0 : List Frame := [.native { method := ⟨0, 0⟩, args := #[] }]
def about1 : State := aboutOver below0
def p0 : Program := .bare "" "" ""
def e0 : Env := launch0.env 0 0 0
theorem w_frames : about1.frames = Frame.invoking theMethod args0 :: below0 := rfl
set_option maxRecDepth 65536 in
theorem w_args : argsFit about1.vm theMethod args0 = true := by decide +kernel
set_option maxRecDepth 65536 in
theorem w_heap : heapFits about1 = true := by decide +kernel
set_option maxRecDepth 65536 in
theorem w_runnable : about1.curStatus? = some .runnable := by decide +kernel
set_option maxRecDepth 65536 in
theorem w_alone : about1.alone = true := by decide +kernel
set_option maxRecDepth 65536 in
theorem w_named : about1.methodNamed? x = some theMethod := by decide +kernel
set_option maxRecDepth 65536 in
theorem w_hears : about1.hears theMethod below0 = true := by decide +kernel
set_option maxRecDepth 65536 in
theorem w_ripe : about1.ripe theMethod args0 below0 = true := by decide +kernel
theorem w_running : about1.status = .running := rfl
set_option maxRecDepth 65536 in
theorem w_room : about1.hasRoom e0.platform room_1 = true :=
  launch0.hasRoom_least _ room_1 (by decide +kernel) (by decide +kernel) (by decide +kernel) (by decide +kernel) (by decide +kernel) (by decide +kernel)
theorem allAtoms_all (ts : List Jvm.Cond) (a : Array Jvm.Value) (st : Jvm.State) : (allAtoms ts).before a st = ts.all (fun c => c.before a st) := by
  induction ts with
  | nil => rfl
  | cons c t ih =>
    show (Jvm.Cond.and c (allAtoms t)).before a st = _
    rw [Jvm.Cond.before_and, ih, List.all_cons]
def words1 : List Jvm.Cond := Jvm.Cond.code x code maxLocals ret :: tables_1
/-- a 'code' word, met by the world's own term for the bytes: nothing is compared byte by byte -/
theorem code_word {y : MethodName} {bytes : ByteArray} {mx : Nat} {rt : Option FieldType} {a : Array Value} {s : State} {m : MethodId} {meth : Method} {c : Code} (h1 : s.methodNamed? y = some m) (h2 : s.vm.method? m = some meth) (h3 : meth.code = some c) (h4 : c.code = bytes)
    (h5 : (c.maxLocals == mx && c.exceptionTable.isEmpty && decide (c.maxStack ≤ mostOperands) && decide (meth.sig.returnType = rt) && !meth.locks && decide (parseMethodDescriptor y.desc = some meth.sig)) = true) : (Jvm.Cond.code y bytes mx rt).before a s = true := by
  simp only [Bool.and_eq_true, beq_iff_eq, Bool.not_eq_true', decide_eq_true_eq] at h5
  obtain ⟨⟨⟨⟨⟨g1, g2⟩, g3⟩, g4⟩, g5⟩, g6⟩ := h5
  simp [Cond.before, Cond.holds, Cond.value, h1, h2, h3, h4, g1, g2, g3, g4, g5, g6]
def isCode : Jvm.Cond → Bool
  | .code _ _ _ _ => true
  | _ => false
theorem all_split {L : List Jvm.Cond} {P : Jvm.Cond → Bool} (h1 : L.all (fun c => isCode c || P c) = true) (h2 : ∀ c ∈ L.filter isCode, P c = true) : L.all P = true := by
  refine List.all_eq_true.mpr fun c hc => ?_
  have h := List.all_eq_true.mp h1 c hc
  rcases Bool.eq_false_or_eq_true (isCode c) with hi | hi
  · exact h2 c (List.mem_filter.mpr ⟨hc, hi⟩)
  · simpa [hi] using h
set_option maxRecDepth 65536 in
theorem w_c0 : (Jvm.Cond.code x code maxLocals ret).before args0 about1 = true := code_word (m := ⟨1, 3⟩) (meth := k1m3) (c := k1c3) (by decide +kernel) rfl rfl rfl (by decide +kernel)
set_option maxRecDepth 65536 in
theorem w_c1 : (Jvm.Cond.code ({ cls := "com/example/orgweave/orgweave/fhir/NodesAddPinLaw", name := "kindOf", desc := "(I)Lcom/example/orgweave/orgweave/fhir/Nodes$Kind;" } : Jvm.MethodName) method_2_code (1 : Nat) (Option.some (Jvm.ClassFile.FieldType.object "com/example/orgweave/orgweave/fhir/Nodes$Kind"))).before args0 about1 = true := code_word (m := ⟨1, 1⟩) (meth := k1m1) (c := k1c1) (by decide +kernel) rfl rfl rfl (by decide +kernel)
set_option maxRecDepth 65536 in
theorem w_c2 : (Jvm.Cond.code ({ cls := "com/example/orgweave/orgweave/fhir/Nodes", name := "<init>", desc := "()V" } : Jvm.MethodName) prog_9_method_1_code (1 : Nat) (Option.none : Option Jvm.ClassFile.FieldType)).before args0 about1 = true := code_word (m := ⟨7, 0⟩) (meth := k7m0) (c := k7c0) (by decide +kernel) rfl rfl rfl (by decide +kernel)
set_option maxRecDepth 65536 in
theorem w_c3 : (Jvm.Cond.code ({ cls := "java/lang/Object", name := "<init>", desc := "()V" } : Jvm.MethodName) object_method_1_code (1 : Nat) (Option.none : Option Jvm.ClassFile.FieldType)).before args0 about1 = true := code_word (m := ⟨0, 0⟩) (meth := k0m0) (c := k0c0) (by decide +kernel) rfl rfl rfl (by decide +kernel)
set_option maxRecDepth 65536 in
theorem w_c4 : (Jvm.Cond.code ({ cls := "com/example/orgweave/orgweave/fhir/Nodes$Kind", name := "values", desc := "()[Lcom/example/orgweave/orgweave/fhir/Nodes$Kind;" } : Jvm.MethodName) prog_10_method_1_code (0 : Nat) (Option.some (Jvm.ClassFile.FieldType.array (Jvm.ClassFile.FieldType.object "com/example/orgweave/orgweave/fhir/Nodes$Kind")))).before args0 about1 = true := code_word (m := ⟨6, 0⟩) (meth := k6m0) (c := k6c0) (by decide +kernel) rfl rfl rfl (by decide +kernel)
set_option maxRecDepth 65536 in
theorem w_c5 : (Jvm.Cond.code ({ cls := "com/example/orgweave/orgweave/fhir/Nodes", name := "add", desc := "(Lcom/example/orgweave/orgweave/fhir/Nodes$Kind;J)V" } : Jvm.MethodName) prog_9_method_4_code (4 : Nat) (Option.none : Option Jvm.ClassFile.FieldType)).before args0 about1 = true := code_word (m := ⟨7, 3⟩) (meth := k7m3) (c := k7c3) (by decide +kernel) rfl rfl rfl (by decide +kernel)
set_option maxRecDepth 65536 in
theorem w_c6 : (Jvm.Cond.code ({ cls := "java/lang/Enum", name := "ordinal", desc := "()I" } : Jvm.MethodName) jdk_37_method_2_code (1 : Nat) (Option.some Jvm.ClassFile.FieldType.int)).before args0 about1 = true := code_word (m := ⟨5, 0⟩) (meth := k5m0) (c := k5c0) (by decide +kernel) rfl rfl rfl (by decide +kernel)
set_option maxRecDepth 65536 in
theorem w_c7 : (Jvm.Cond.code ({ cls := "com/example/orgweave/orgweave/fhir/Nodes", name := "count", desc := "(Lcom/example/orgweave/orgweave/fhir/Nodes$Kind;)J" } : Jvm.MethodName) prog_9_method_2_code (2 : Nat) (Option.some Jvm.ClassFile.FieldType.long)).before args0 about1 = true := code_word (m := ⟨7, 1⟩) (meth := k7m1) (c := k7c1) (by decide +kernel) rfl rfl rfl (by decide +kernel)
set_option maxRecDepth 65536 in
theorem w_c8 : (Jvm.Cond.code ({ cls := "com/example/orgweave/orgweave/fhir/NodesAddPinLaw", name := "expected", desc := "(IIJIJIJ)J" } : Jvm.MethodName) method_3_code (12 : Nat) (Option.some Jvm.ClassFile.FieldType.long)).before args0 about1 = true := code_word (m := ⟨1, 2⟩) (meth := k1m2) (c := k1c2) (by decide +kernel) rfl rfl rfl (by decide +kernel)
set_option maxRecDepth 65536 in
theorem w_c9 : (Jvm.Cond.code ({ cls := "com/example/orgweave/orgweave/fhir/Nodes", name := "beyondLatin1", desc := "()Z" } : Jvm.MethodName) prog_9_method_3_code (1 : Nat) (Option.some Jvm.ClassFile.FieldType.boolean)).before args0 about1 = true := code_word (m := ⟨7, 2⟩) (meth := k7m2) (c := k7c2) (by decide +kernel) rfl rfl rfl (by decide +kernel)
def codes1 : List Jvm.Cond := [Jvm.Cond.code x code maxLocals ret, Jvm.Cond.code ({ cls := "com/example/orgweave/orgweave/fhir/NodesAddPinLaw", name := "kindOf", desc := "(I)Lcom/example/orgweave/orgweave/fhir/Nodes$Kind;" } : Jvm.MethodName) method_2_code (1 : Nat) (Option.some (Jvm.ClassFile.FieldType.object "com/example/orgweave/orgweave/fhir/Nodes$Kind")), Jvm.Cond.code ({ cls := "com/example/orgweave/orgweave/fhir/Nodes", name := "<init>", desc := "()V" } : Jvm.MethodName) prog_9_method_1_code (1 : Nat) (Option.none : Option Jvm.ClassFile.FieldType), Jvm.Cond.code ({ cls := "java/lang/Object", name := "<init>", desc := "()V" } : Jvm.MethodName) object_method_1_code (1 : Nat) (Option.none : Option Jvm.ClassFile.FieldType), Jvm.Cond.code ({ cls := "com/example/orgweave/orgweave/fhir/Nodes$Kind", name := "values", desc := "()[Lcom/example/orgweave/orgweave/fhir/Nodes$Kind;" } : Jvm.MethodName) prog_10_method_1_code (0 : Nat) (Option.some (Jvm.ClassFile.FieldType.array (Jvm.ClassFile.FieldType.object "com/example/orgweave/orgweave/fhir/Nodes$Kind"))), Jvm.Cond.code ({ cls := "com/example/orgweave/orgweave/fhir/Nodes", name := "add", desc := "(Lcom/example/orgweave/orgweave/fhir/Nodes$Kind;J)V" } : Jvm.MethodName) prog_9_method_4_code (4 : Nat) (Option.none : Option Jvm.ClassFile.FieldType), Jvm.Cond.code ({ cls := "java/lang/Enum", name := "ordinal", desc := "()I" } : Jvm.MethodName) jdk_37_method_2_code (1 : Nat) (Option.some Jvm.ClassFile.FieldType.int), Jvm.Cond.code ({ cls := "com/example/orgweave/orgweave/fhir/Nodes", name := "count", desc := "(Lcom/example/orgweave/orgweave/fhir/Nodes$Kind;)J" } : Jvm.MethodName) prog_9_method_2_code (2 : Nat) (Option.some Jvm.ClassFile.FieldType.long), Jvm.Cond.code ({ cls := "com/example/orgweave/orgweave/fhir/NodesAddPinLaw", name := "expected", desc := "(IIJIJIJ)J" } : Jvm.MethodName) method_3_code (12 : Nat) (Option.some Jvm.ClassFile.FieldType.long), Jvm.Cond.code ({ cls := "com/example/orgweave/orgweave/fhir/Nodes", name := "beyondLatin1", desc := "()Z" } : Jvm.MethodName) prog_9_method_3_code (1 : Nat) (Option.some Jvm.ClassFile.FieldType.boolean)]
set_option maxRecDepth 65536 in
theorem codes_eq : words1.filter isCode = codes1 := rfl
theorem w_codes : ∀ c ∈ words1.filter isCode, c.before args0 about1 = true := by
  rw [codes_eq]
  intro c hc
  simp only [codes1, List.mem_cons, List.not_mem_nil, or_false] at hc
  rcases hc with rfl | rfl | rfl | rfl | rfl | rfl | rfl | rfl | rfl | rfl
  · exact w_c0
  · exact w_c1
  · exact w_c2
  · exact w_c3
  · exact w_c4
  · exact w_c5
  · exact w_c6
  · exact w_c7
  · exact w_c8
  · exact w_c9
set_option maxRecDepth 65536 in
theorem w_t1 : (words1.take 24).all (fun c => isCode c || c.before args0 about1) = true := by decide +kernel
set_option maxRecDepth 65536 in
theorem w_t2 : ((words1.drop 24).take 24).all (fun c => isCode c || c.before args0 about1) = true := by decide +kernel
set_option maxRecDepth 65536 in
theorem w_t3 : (((words1.drop 24).drop 24).take 24).all (fun c => isCode c || c.before args0 about1) = true := by decide +kernel
set_option maxRecDepth 65536 in
theorem w_t4 : (((words1.drop 24).drop 24).drop 24).all (fun c => isCode c || c.before args0 about1) = true := by decide +kernel
theorem w_tables : (allAtoms (Jvm.Cond.code x code maxLocals ret :: tables_1)).before args0 about1 = true := by
  rw [allAtoms_all]
  show words1.all (fun c => c.before args0 about1) = true
  refine all_split ?_ w_codes
  rw [← List.take_append_drop 24 words1, List.all_append, w_t1, ← List.take_append_drop 24 (words1.drop 24), List.all_append, w_t2, ← List.take_append_drop 24 ((words1.drop 24).drop 24), List.all_append, w_t3, w_t4]
  rfl
set_option maxRecDepth 65536 in
theorem w_case : (Jvm.Cond.and given_1 narrow_1).before args0 about1 = true := by decide +kernel
theorem w_applies : (headSpec (Jvm.Cond.code x code maxLocals ret :: tables_1) room_1).applies x e0.platform about1 = true :=
  (Spec.applies_iff w_frames).mpr ⟨w_running, w_runnable, w_alone, w_named, w_hears, w_ripe, w_room, w_tables⟩
theorem atStart : AtStart classFile x code maxLocals ret World_1 tables_1 room_1 Calls_1 rest_1 Pre_1 launch0 p0 e0 about1 theMethod args0 below0 :=
  ⟨lists_1, trivial, launch0.admits_env _ _ _, launch0.least_env, fairChoices_fair.cas, fairChoices_fair.clock, w_frames, w_args, w_heap, w_applies, trivial, trivial, w_case⟩
end start1
theorem witness_1 : WitnessClaimed_1 := ⟨start1.p0, start1.e0, start1.about1, start1.theMethod, start1.args0, start1.below0, start1.atStart⟩
end Jvm.Pilot.@@N@@
