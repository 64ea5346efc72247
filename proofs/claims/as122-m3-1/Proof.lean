import JvmDerived
import JvmDerived.Pilot.@@N@@Statement
import JvmDerived.Pilot.@@N@@Code
set_option linter.unusedVariables false
set_option linter.unusedSimpArgs false
namespace Jvm.RoadKit
open Sem ClassFile Op Lib Jvm.Stand Jvm.Free Jvm.LawKit
section New
variable {p : Program} {l : Launch} {e : Env} {R : Room} {s : State} {m : MethodId} {args : Array Value} {below : List Frame} {meth : Method} {c : Code} {T : State} {locs : List Loc} {cells slots : Nat}
theorem retI (X : Stand p l e R s m args below meth c T locs cells slots) (hx : p.tables.exec = Jvm.exec) {pc : Nat} {Ls : Array Slot} {z : Int32} {rest : List Value} (hret : meth.sig.returnType = some .int) (hd : decode c.code pc = .ok (.ireturn, 1)) {fs : List Frame}
    (hl : ∀ (f : JFrame) (acts : List Action), f.method = m → f.locked = none → f.entered = [] → (doReturn e (T.setTop f) acts (some (.int z))).1 = T.setFrames fs) : Steps p.tables e below (T.setTop (mkF m pc Ls (.int z :: rest))) (T.setFrames fs) := by
  have hm' : T.vm.method? m = some meth := X.method'
  have hn : narrow .int (.int z) = .int z := rfl
  show Steps p.tables e below (T.setTop { method := m, pc := pc, locals := Ls, stack := _ :: rest, locked := none }) _
  jvm_step X.here [X.here.top, hx, hd, hm', hret, hn]
  first | (intro acts; rw [hl _ acts rfl rfl rfl]) | rw [hl _ _ rfl rfl rfl]
  exact Steps.refl _
end New
end Jvm.RoadKit
namespace Jvm.Pilot.@@N@@
open Jvm Jvm.ClassFile Sem Op Lib Jvm.Free Jvm.Stand Jvm.LawKit Jvm.RoadKit Bundle Jvm.Pilot.@@N@@.Jvm.D
theorem own_fldI {args : Array Value} {s : State} {t : Term} {C n d : String} {x : Addr} {k : Int32} (ht : t.eval args s none [] s = some (.ref x)) (h : (Cond.eq (.field t C n d) (.int k)).value args s none s [] = some true) : Fld s s.heap x C n d (.int k) := by
  obtain ⟨v, y, e1, e2, k1, k2⟩ := cmp_v (Or.inl h)
  have e2' : y = .int k := (Option.some.inj e2).symm
  subst e2'
  obtain ⟨z, rfl⟩ := k2
  have q : z = k := gotT (Cond.eq_ints e1 (Term.int_eval k)) h
  subst q
  exact Fld.start ((fld_at ht).symm.trans e1)
theorem own_elem {args : Array Value} {s : State} {t u : Term} {a r : Addr} {cl : Cell} {k : Int32} (ht : t.eval args s none [] s = some (.ref a)) (hc : s.heap[a]? = some cl) (hu : u.eval args s none [] s = some (.ref r)) (h : (Cond.eq (.elem t (.int k)) u).value args s none s [] = some true) : cl.slots[k.toNatClampNeg]? = some (.ref r) := by
  obtain ⟨v, y, e1, e2, k1, k2⟩ := cmp_v (Or.inl h)
  have e2' : y = .ref r := Option.some.inj (e2.symm.trans hu)
  subst e2'
  have hv : v.isRef = true := k2.2
  have q := gotT (eq_R e1 e2 hv rfl) h
  subst q
  exact (elem_in e1 ht (Term.int_eval k) hc).2
theorem own_len {args : Array Value} {s : State} {t : Term} {a : Addr} {cl : Cell} {k : Int32} (ht : t.eval args s none [] s = some (.ref a)) (hc : s.heap[a]? = some cl) (h : (Cond.eq (.length t) (.int k)).value args s none s [] = some true) : cl.slots.size < 2147483648 ∧ cl.slots.size.toInt32 = k := by
  obtain ⟨v, y, e1, e2, k1, k2⟩ := cmp_v (Or.inl h)
  obtain ⟨a', cell, ha', hat, rfl⟩ := Term.length_spec e1
  cases ht.symm.trans ha'
  cases hc.symm.trans (State.arrayAt?_spec hat).1
  refine ⟨?_, gotT (Cond.eq_ints e1 (Term.int_eval k)) h⟩
  by_cases hn : cl.slots.size < 2147483648
  · exact hn
  · exfalso
    simp [Term.eval, ht, hat, hn] at e1
theorem own_size {cl : Cell} {k : Int32} (h : cl.slots.size < 2147483648 ∧ cl.slots.size.toInt32 = k) : cl.slots.size = k.toNatClampNeg := by
  rw [← h.2]
  exact (Int32.toNatClampNeg_ofNat_of_lt h.1).symm
theorem own_one (i : Nat) : Int32.ofNat i + (1 : Int32) = Int32.ofNat (i + 1) := (Int32.ofNat_add i 1).symm
theorem own_clamp {i : Nat} (h : i < 2147483648) : (Int32.ofNat i).toNatClampNeg = i := Int32.toNatClampNeg_ofNat_of_lt h
def own_b (t : Bool) : Int32 := match t with
  | true => 1
  | false => 0
def own_w (t : Bool) (v : Value) : Value := match t with
  | true => v
  | false => .null
theorem own_w_ref {t : Bool} {v : Value} (h : v.isRef = true) : (own_w t v).isRef = true := by cases t <;> first | rfl | exact h
def own_set (f : Nat → Value) (k : Nat) (v : Value) : Nat → Value := fun x => if x = k then v else f x
def own_upd (w : Nat → Addr) (k : Nat) (x : Addr) : Nat → Addr := fun i => if i = k then x else w i
def own_sets (f : Nat → Value) : (Nat → Value) → List Nat → (Nat → Value)
  | P, [] => P
  | P, b :: bs => own_sets f (own_set P b (f b)) bs
theorem own_arrKeep {Z : State} {h h' : Heap} {a : Addr} {c : Cell} {ty : FieldType} {ws : List Addr} (A : Arr Z h a c ty) (K : Keep h h' ws) (q : a ∉ ws) : Arr Z h' a c ty := ⟨K.2.1 a c A.1 q, A.2⟩
theorem own_keepMono {h h' : Heap} {ws : List Addr} (K : Keep h h' []) : Keep h h' ws := ⟨K.1, fun x c q _ => K.2.1 x c q nin0, K.2.2⟩
def own_Ch (Z : State) (h : Heap) (w : Addr) (P : Nat → Value) (i : Nat) : Prop := ∃ cw : Cell, Arr Z h w cw (.object "java/lang/Object") ∧ Exa Z h w "[Ljava/lang/Object;" ∧ Ovr Z cw.cls "java/lang/Object" ∧ cw.slots.size = 64 ∧ ∀ j, j < 64 → cw.slots[j]? = some (P (64 * i + j))
section OwnCh
variable {Z : State} {h h' : Heap} {w b : Addr} {P P' : Nat → Value} {i : Nat} {ws : List Addr} {sl : Nat} {v : Value}
theorem own_Ch.lt (H : own_Ch Z h w P i) : w < h.size := by obtain ⟨cw, A, -⟩ := H; exact A.lt
theorem own_Ch.keep (H : own_Ch Z h w P i) (K : Keep h h' ws) (q : w ∉ ws) : own_Ch Z h' w P i := by
  obtain ⟨cw, A, E, O, z, f⟩ := H
  exact ⟨cw, own_arrKeep A K q, E.keep K, O, z, f⟩
theorem own_Ch.ext (H : own_Ch Z h w P i) (E : Ext h h') : own_Ch Z h' w P i := by
  obtain ⟨cw, A, X, O, z, f⟩ := H
  exact ⟨cw, A.ext E, X.ext E, O, z, f⟩
theorem own_Ch.other (H : own_Ch Z h w P i) (W : Wr h h' b sl v) (q : w ≠ b) : own_Ch Z h' w P i := by
  obtain ⟨cw, A, X, O, z, f⟩ := H
  exact ⟨cw, A.other W q, X.wr W, O, z, f⟩
theorem own_Ch.congr (H : own_Ch Z h w P i) (q : ∀ j, j < 64 → P' (64 * i + j) = P (64 * i + j)) : own_Ch Z h w P' i := by
  obtain ⟨cw, A, X, O, z, f⟩ := H
  exact ⟨cw, A, X, O, z, fun j hj => by rw [q j hj]; exact f j hj⟩
theorem own_Ch.set {j : Nat} (H : own_Ch Z h w P i) (W : Wr h h' w j v) (hj : j < 64) : own_Ch Z h' w (own_set P (64 * i + j) v) i := by
  obtain ⟨cw, A, X, O, z, f⟩ := H
  refine ⟨cw.setSlot j v, A.same W, X.wr W, O, (sz_set _ _ _).trans z, fun k hk => ?_⟩
  by_cases e : k = j
  · subst e
    have q : own_set P (64 * i + k) v (64 * i + k) = v := if_pos rfl
    rw [q]
    simp [Cell.setSlot, show k < cw.slots.size by omega]
  · have q : own_set P (64 * i + j) v (64 * i + k) = P (64 * i + k) := if_neg (by omega)
    rw [q]
    exact (Array.getElem?_setIfInBounds_ne (Ne.symm e)).trans (f k hk)
end OwnCh
def own_Tb (Z : State) (h : Heap) (ch : Addr) (kc : ClassId) (n : Nat) (w : Nat → Addr) : Prop := ∃ cc : Cell, Arr Z h ch cc (.array (.object "java/lang/Object")) ∧ Exa Z h ch "[[Ljava/lang/Object;" ∧ cc.cls = kc ∧ cc.slots.size = n ∧ ∀ i, i < n → cc.slots[i]? = some (.ref (w i))
section OwnTb
variable {Z : State} {h h' : Heap} {ch b : Addr} {kc : ClassId} {n : Nat} {w : Nat → Addr} {ws : List Addr} {sl : Nat} {v : Value}
theorem own_Tb.lt (H : own_Tb Z h ch kc n w) : ch < h.size := by obtain ⟨cw, A, -⟩ := H; exact A.lt
theorem own_Tb.keep (H : own_Tb Z h ch kc n w) (K : Keep h h' ws) (q : ch ∉ ws) : own_Tb Z h' ch kc n w := by
  obtain ⟨cw, A, E, O, z, f⟩ := H
  exact ⟨cw, own_arrKeep A K q, E.keep K, O, z, f⟩
theorem own_Tb.ext (H : own_Tb Z h ch kc n w) (E : Ext h h') : own_Tb Z h' ch kc n w := by
  obtain ⟨cw, A, X, O, z, f⟩ := H
  exact ⟨cw, A.ext E, X.ext E, O, z, f⟩
theorem own_Tb.other (H : own_Tb Z h ch kc n w) (W : Wr h h' b sl v) (q : ch ≠ b) : own_Tb Z h' ch kc n w := by
  obtain ⟨cw, A, X, O, z, f⟩ := H
  exact ⟨cw, A.other W q, X.wr W, O, z, f⟩
theorem own_Tb.put {i : Nat} {x : Addr} (H : own_Tb Z h ch kc n w) (W : Wr h h' ch i (.ref x)) (hi : i < n) : own_Tb Z h' ch kc n (own_upd w i x) := by
  obtain ⟨cw, A, X, O, z, f⟩ := H
  refine ⟨cw.setSlot i (.ref x), A.same W, X.wr W, O, (sz_set _ _ _).trans z, fun k hk => ?_⟩
  by_cases e : k = i
  · subst e
    have q : own_upd w k x k = x := if_pos rfl
    rw [q]
    simp [Cell.setSlot, show k < cw.slots.size by omega]
  · have q : own_upd w i x k = w k := if_neg e
    rw [q]
    exact (Array.getElem?_setIfInBounds_ne (Ne.symm e)).trans (f k hk)
theorem own_Tb.fit (H : own_Tb Z h ch kc n w) : ∃ cc : Cell, Arr Z h ch cc (.array (.object "java/lang/Object")) ∧ FitC Z cc ∧ cc.cls = kc ∧ cc.slots.size = n ∧ ∀ i, i < n → cc.slots[i]? = some (.ref (w i)) := by
  obtain ⟨cw, A, X, O, z, f⟩ := H
  refine ⟨cw, A, fitC_of A fun i hi v hv => ?_, O, z, f⟩
  rw [f i (by omega)] at hv
  cases hv
  rfl
end OwnTb
def own_Ps (Z : State) (h : Heap) (n0 : Nat) (a : Addr) (kc : ClassId) (n : Nat) (P : Nat → Value) : Prop := ∃ (ch : Addr) (w : Nat → Addr), Exa Z h a "com/example/runner_bean/runnerbean/service/PublishedSingletons" ∧ n0 ≤ a ∧ Fld Z h a "com/example/runner_bean/runnerbean/service/PublishedSingletons" "chunks" "[[Ljava/lang/Object;" (.ref ch) ∧ ch ≠ a ∧ own_Tb Z h ch kc n w ∧ (∀ i, i < n → w i ≠ a ∧ own_Ch Z h (w i) P i) ∧ ∀ k, (P k).isRef = true
theorem own_Ps.exa {Z : State} {h : Heap} {n0 : Nat} {a : Addr} {kc : ClassId} {n : Nat} {P : Nat → Value} (H : own_Ps Z h n0 a kc n P) : Exa Z h a "com/example/runner_bean/runnerbean/service/PublishedSingletons" := by obtain ⟨_, _, E, -⟩ := H; exact E
theorem own_Ps.sz {Z : State} {h : Heap} {n0 : Nat} {a : Addr} {kc : ClassId} {n : Nat} {P : Nat → Value} (H : own_Ps Z h n0 a kc n P) : n0 ≤ h.size := by obtain ⟨_, _, E, q, -⟩ := H; exact Nat.le_of_lt (Nat.lt_of_le_of_lt q E.lt)
def own_Inv (Z : State) (h0 h : Heap) (c2 : Addr) (kc : ClassId) (n : Nat) (w w' : Nat → Addr) (P P' : Nat → Value) : Prop := Keep h0 h [] ∧ h0.size ≤ c2 ∧ own_Tb Z h c2 kc n w' ∧ (∀ i, i < n → (w' i = w i ∧ ∀ j, j < 64 → P' (64 * i + j) = P (64 * i + j)) ∨ (h0.size ≤ w' i ∧ w' i ≠ c2 ∧ own_Ch Z h (w' i) P' i)) ∧ ∀ i j, i < n → j < n → i ≠ j → h0.size ≤ w' i → w' i ≠ w' j
theorem own_Inv.lt {Z : State} {h0 h : Heap} {c2 : Addr} {kc : ClassId} {n : Nat} {w w' : Nat → Addr} {P P' : Nat → Value} (I : own_Inv Z h0 h c2 kc n w w' P P') (wl : ∀ i, i < n → w i < h0.size) {i : Nat} (hi : i < n) : w' i < h.size := by
  obtain ⟨K, g, T, f, d⟩ := I
  rcases f i hi with ⟨e, -⟩ | ⟨-, -, H⟩
  · rw [e]; exact Nat.lt_of_lt_of_le (wl i hi) K.1
  · exact H.lt
theorem own_Inv.stepB {Z : State} {h0 h h1 h2 : Heap} {c2 : Addr} {kc : ClassId} {n : Nat} {w w' : Nat → Addr} {P P' : Nat → Value} {c : Nat} (I : own_Inv Z h0 h c2 kc n w w' P P') (wl : ∀ i, i < n → w i < h0.size) (hc : c < n) (e : w' c = w c) (E : Ext h h1) (Ch : own_Ch Z h1 h.size P c) (W : Wr h1 h2 c2 c (.ref h.size)) : own_Inv Z h0 h2 c2 kc n w (own_upd w' c h.size) P P' ∧ h0.size ≤ own_upd w' c h.size c := by
  have lt := fun {i : Nat} (hi : i < n) => I.lt wl hi
  obtain ⟨K, g, T, f, d⟩ := I
  have uc : own_upd w' c h.size c = h.size := if_pos rfl
  have un : ∀ i, i ≠ c → own_upd w' c h.size i = w' i := fun i q => if_neg q
  have xc : h.size ≠ c2 := Ne.symm (Nat.ne_of_lt T.lt)
  refine ⟨⟨(K.ext E).wr W (Or.inr g), g, (T.ext E).put W hc, fun i hi => ?_, fun i j hi hj ij gi => ?_⟩, by rw [uc]; exact K.1⟩
  · by_cases q : i = c
    · subst q
      rw [uc]
      refine Or.inr ⟨K.1, xc, ?_⟩
      have Ch' : own_Ch Z h1 h.size P' i := Ch.congr fun j hj => by
        rcases f i hi with ⟨-, r⟩ | ⟨r, -⟩
        · exact r j hj
        · rw [e] at r; exact absurd (wl i hi) (Nat.not_lt.mpr r)
      exact Ch'.other W xc
    · rw [un i q]
      rcases f i hi with r | ⟨r1, r2, r3⟩
      · exact Or.inl r
      · exact Or.inr ⟨r1, r2, (r3.ext E).other W r2⟩
  · by_cases q : i = c
    · subst q
      rw [uc, un j (Ne.symm ij)]
      exact Ne.symm (Nat.ne_of_lt (lt hj))
    · rw [un i q] at gi ⊢
      by_cases q' : j = c
      · subst q'
        rw [uc]
        exact Nat.ne_of_lt (lt hi)
      · rw [un j q']
        exact d i j hi hj ij gi
theorem own_Inv.stepC {Z : State} {h0 h h3 : Heap} {c2 : Addr} {kc : ClassId} {n : Nat} {w w' : Nat → Addr} {P P' : Nat → Value} {c j b : Nat} {v : Value} (I : own_Inv Z h0 h c2 kc n w w' P P') (wl : ∀ i, i < n → w i < h0.size) (hc : c < n) (gc : h0.size ≤ w' c) (hj : j < 64) (eb : b = 64 * c + j) (W : Wr h h3 (w' c) j v) : own_Inv Z h0 h3 c2 kc n w w' P (own_set P' b v) := by
  obtain ⟨K, g, T, f, d⟩ := I
  have hcc : w' c ≠ c2 ∧ own_Ch Z h (w' c) P' c := by
    rcases f c hc with ⟨r, -⟩ | ⟨-, r2, r3⟩
    · rw [r] at gc; exact absurd (wl c hc) (Nat.not_lt.mpr gc)
    · exact ⟨r2, r3⟩
  refine ⟨K.wr W (Or.inr gc), g, T.other W (Ne.symm hcc.1), fun i hi => ?_, d⟩
  by_cases q : i = c
  · subst q
    subst eb
    exact Or.inr ⟨gc, hcc.1, hcc.2.set W hj⟩
  · have pe : ∀ k, k < 64 → own_set P' b v (64 * i + k) = P' (64 * i + k) := fun k hk => if_neg (by omega)
    rcases f i hi with ⟨r1, r2⟩ | ⟨r1, r2, r3⟩
    · exact Or.inl ⟨r1, fun k hk => (pe k hk).trans (r2 k hk)⟩
    · exact Or.inr ⟨r1, r2, (r3.other W (d i c hi hc q r1)).congr pe⟩
def own_Oa (Z : State) (h : Heap) (o : Addr) (f : Nat → Value) : Prop := ∃ co : Cell, Arr Z h o co (.object "java/lang/Object") ∧ Ovr Z co.cls "java/lang/Object" ∧ co.slots.size = 256 ∧ ∀ k, k < 256 → co.slots[k]? = some (f k)
theorem own_Oa.keep {Z : State} {h h' : Heap} {o : Addr} {f : Nat → Value} {ws : List Addr} (H : own_Oa Z h o f) (K : Keep h h' ws) (q : o ∉ ws) : own_Oa Z h' o f := by
  obtain ⟨cw, A, O, z, g⟩ := H
  exact ⟨cw, own_arrKeep A K q, O, z, g⟩
theorem own_Oa.ext {Z : State} {h h' : Heap} {o : Addr} {f : Nat → Value} (H : own_Oa Z h o f) (E : Ext h h') : own_Oa Z h' o f := by
  obtain ⟨cw, A, O, z, g⟩ := H
  exact ⟨cw, A.ext E, O, z, g⟩
theorem own_Oa.other {Z : State} {h h' : Heap} {o b : Addr} {f : Nat → Value} {sl : Nat} {v : Value} (H : own_Oa Z h o f) (W : Wr h h' b sl v) (q : o ≠ b) : own_Oa Z h' o f := by
  obtain ⟨cw, A, O, z, g⟩ := H
  exact ⟨cw, A.other W q, O, z, g⟩
theorem own_Oa.lt {Z : State} {h : Heap} {o : Addr} {f : Nat → Value} (H : own_Oa Z h o f) : o < h.size := by obtain ⟨cw, A, -⟩ := H; exact A.lt
theorem own_Oa.set {Z : State} {h h' : Heap} {o : Addr} {f : Nat → Value} {j : Nat} {v : Value} (H : own_Oa Z h o f) (W : Wr h h' o j v) (hj : j < 256) : own_Oa Z h' o (own_set f j v) := by
  obtain ⟨cw, A, O, z, g⟩ := H
  refine ⟨cw.setSlot j v, A.same W, O, (sz_set _ _ _).trans z, fun k hk => ?_⟩
  by_cases e : k = j
  · subst e
    have q : own_set f k v k = v := if_pos rfl
    rw [q]
    simp [Cell.setSlot, show k < cw.slots.size by omega]
  · have q : own_set f j v k = f k := if_neg e
    rw [q]
    exact (Array.getElem?_setIfInBounds_ne (Ne.symm e)).trans (g k hk)
def own_Rf (Z : State) (h : Heap) (f : Nat → Value) : Prop := ∀ k, f k = .null ∨ ∃ y : Addr, f k = .ref y ∧ Ins Z h y "java/lang/Object" true
theorem own_Rf.ref {Z : State} {h : Heap} {f : Nat → Value} (H : own_Rf Z h f) (k : Nat) : (f k).isRef = true := by rcases H k with e | ⟨y, e, -⟩ <;> rw [e] <;> rfl
theorem own_insKeep {Z : State} {h h' : Heap} {a : Addr} {C : String} {bo : Bool} {ws : List Addr} (F : Ins Z h a C bo) (K : Keep h h' ws) : Ins Z h' a C bo := by
  obtain ⟨cell, cT, h1, h2, h3⟩ := F
  obtain ⟨c', q1, q2, q3, -⟩ := K.2.2 a cell h1
  exact ⟨c', cT, q1, h2, by rw [q2, q3]; exact h3⟩
theorem own_Rf.keep {Z : State} {h h' : Heap} {f : Nat → Value} {ws : List Addr} (H : own_Rf Z h f) (K : Keep h h' ws) : own_Rf Z h' f := fun k => (H k).imp id fun ⟨y, e, q⟩ => ⟨y, e, own_insKeep q K⟩
theorem own_Rf.sto {Z : State} {h : Heap} {f : Nat → Value} (H : own_Rf Z h f) {a : Addr} {cl : Cell} {ty : FieldType} (A : Arr Z h a cl ty) (O : Ovr Z cl.cls "java/lang/Object") (k : Nat) : Sto Z h a (f k) := by
  rcases H k with e | ⟨y, e, q⟩
  · exact Or.inl e
  · rw [e]; exact Sto.of A O q
def own_Bn (Z : State) (h : Heap) (o : Addr) (bs : List Nat) : Prop := ∃ cb : Cell, Arr Z h o cb .int ∧ bs.length ≤ cb.slots.size ∧ cb.slots.size < 10 ∧ ∀ k, k < bs.length → cb.slots[k]? = some (.int (Int32.ofNat (bs.getD k 0)))
theorem own_Bn.keep {Z : State} {h h' : Heap} {o : Addr} {bs : List Nat} {ws : List Addr} (H : own_Bn Z h o bs) (K : Keep h h' ws) (q : o ∉ ws) : own_Bn Z h' o bs := by
  obtain ⟨cw, A, r⟩ := H
  exact ⟨cw, own_arrKeep A K q, r⟩
theorem own_sh6 {b : Nat} (hb : b < 256) : (((Int32.ofNat b).toUInt32 >>> ((6 : Int32) &&& 31).toUInt32).toInt32) = Int32.ofNat (b / 64) := by
  have e := c_iushr (Int32.ofNat b) 6 6 (by decide) (by decide)
  have t := Int32.toInt_ofNat_of_lt (n := b) (by omega)
  have p : ((2 ^ 6 : Nat) : Int) = 64 := by decide
  rw [p, t] at e
  apply Int32.toInt_inj.mp
  rw [Int32.toInt_ofNat_of_lt (by omega)]
  omega
theorem own_and63 {b : Nat} (hb : b < 256) : (Int32.ofNat b &&& (63 : Int32)) = Int32.ofNat (b % 64) := by
  have e := c_mask (Int32.ofNat b) 63 6 (by decide) (by decide)
  have t := Int32.toInt_ofNat_of_lt (n := b) (by omega)
  have p : ((2 ^ 6 : Nat) : Int) = 64 := by decide
  rw [p, t] at e
  apply Int32.toInt_inj.mp
  rw [Int32.toInt_ofNat_of_lt (by omega)]
  omega
theorem own_ltI {i j : Nat} (h : i < j) (hj : j < 1000) : Int32.ofNat i < Int32.ofNat j := by
  rw [Int32.lt_iff_toInt_lt, Int32.toInt_ofNat_of_lt (by omega), Int32.toInt_ofNat_of_lt (by omega)]
  omega
theorem own_geI {i : Nat} (hj : i < 1000) : ¬ Int32.ofNat i < Int32.ofNat i := by
  rw [Int32.lt_iff_toInt_lt]
  omega
theorem own_injI {i j : Nat} (hi : i < 1000) (hj : j < 1000) (h : Int32.ofNat i = Int32.ofNat j) : i = j := by
  have := congrArg Int32.toNatClampNeg h
  rwa [own_clamp (by omega), own_clamp (by omega)] at this
theorem d1_0 : decode jdk_33_method_22_code 0 = .ok (.iload_n 0, 1) := by decide +kernel
theorem d1_1 : decode jdk_33_method_22_code 1 = .ok (.bipush (-128), 2) := by decide +kernel
theorem d1_3 : decode jdk_33_method_22_code 3 = .ok (.if_icmp .lt 20, 3) := by decide +kernel
theorem d1_6 : decode jdk_33_method_22_code 6 = .ok (.iload_n 0, 1) := by decide +kernel
theorem d1_7 : decode jdk_33_method_22_code 7 = .ok (.getstatic 191, 3) := by decide +kernel
theorem d1_10 : decode jdk_33_method_22_code 10 = .ok (.if_icmp .gt 13, 3) := by decide +kernel
theorem d1_13 : decode jdk_33_method_22_code 13 = .ok (.getstatic 195, 3) := by decide +kernel
theorem d1_16 : decode jdk_33_method_22_code 16 = .ok (.iload_n 0, 1) := by decide +kernel
theorem d1_17 : decode jdk_33_method_22_code 17 = .ok (.sipush 128, 3) := by decide +kernel
theorem d1_20 : decode jdk_33_method_22_code 20 = .ok (.iadd, 1) := by decide +kernel
theorem d1_21 : decode jdk_33_method_22_code 21 = .ok (.aaload, 1) := by decide +kernel
theorem d1_22 : decode jdk_33_method_22_code 22 = .ok (.areturn, 1) := by decide +kernel
theorem pn_1 : plainName "java/lang/Integer" = true := by first | (simp [plainName, overriddenIn]; done) | decide +kernel
theorem ef_1 (m : MethodId) (x0 : Int32) : entryFrame m #[(.int x0)] 1 = mkF m 0 #[.val (.int x0)] [] := by first | (simp [entryFrame, mkF, argsToLocals, Value.category]; done) | rfl
def Q1 (Z : State) (p1 : Int32) (w2 : Int32) (w4 : Addr) (w6 : Addr) (cl_w4 : Cell) (h0 : Heap) (n0 : Nat) (v : Option Value) (h : Heap) (L : List Loc) : Prop := v = some (.ref w6) ∧ Fr n0 L ∧ h = h0
set_option maxRecDepth 65536 in
set_option maxHeartbeats 40000000 in
theorem rm1 (l : Launch) (Z : State) (a0 : Array Value) (hw : ∀ d ∈ tables_1, d.before a0 Z = true) (ws : List Jvm.Cond) (p1 : Int32) (w2 : Int32) (w4 : Addr) (w6 : Addr) (cl_w4 : Cell) (h0 : Heap) (n0 : Nat) (Z0 : n0 ≤ h0.size) (S_high : Sta Z h0 "java/lang/Integer$IntegerCache" "high" "I" (.int w2)) (S_cache : Sta Z h0 "java/lang/Integer$IntegerCache" "cache" "[Ljava/lang/Integer;" (.ref w4)) (Ar_w4 : Arr Z h0 w4 cl_w4 (.object "java/lang/Integer")) (hin21 : ¬ ((p1 + (128 : Int32)) < 0 ∨ cl_w4.slots.size ≤ ((p1 + (128 : Int32))).toNatClampNeg)) (hat21 : cl_w4.slots[((p1 + (128 : Int32))).toNatClampNeg]? = some (.ref w6)) (hc3 : ¬ (p1 < (-128 : Int32))) (hc10 : ¬ (w2 < p1)) :
    MetFree l (⟨"java/lang/Integer", "valueOf", "(I)Ljava/lang/Integer;"⟩ : MethodName) (head1 (Jvm.Cond.code (⟨"java/lang/Integer", "valueOf", "(I)Ljava/lang/Integer;"⟩ : MethodName) jdk_33_method_22_code 1 (some (.object "java/lang/Integer")) :: ws) ({ frames := 0, cells := 0, slots := 0, locals := 0 } : Room)) (fun a U => a = #[(.int p1)] ∧ Z.Warmed39 U.vm ∧ U.heap = h0) (fun _ _ _ _ _ => True) (fun _ U o U' => ∃ v L, o = .returned v ∧ Q1 Z p1 w2 w4 w6 cl_w4 h0 n0 v U'.heap L ∧ FrameEnd U o U' L ({ frames := 0, cells := 0, slots := 0, locals := 0 } : Room).cells ({ frames := 0, cells := 0, slots := 0, locals := 0 } : Room).slots) := by
  refine MetFree.of_bodySF (plainFor_of_name pn_1) hisR ?_
  intro p e s m args below meth c s₁ Bd hml0 hP hK
  obtain ⟨rfl, hZ, hh⟩ := hP
  have hx := Bd.exec
  have hby := Bd.bytes
  have hml : c.maxLocals = 1 := hml0
  have hown : s.vm.findClass "java/lang/Integer" = some m.cls := findClass_of_methodNamed Bd.named
  have hnm := (name_of_methodNamed Bd.named Bd.method).1
  have X0 : Stand p l e ({ frames := 0, cells := 0, slots := 0, locals := 0 } : Room) s m #[(.int p1)] below meth c s₁ [] 0 0 := Stand.of_body Bd
  have e0 : s₁.heap = h0 := by rw [← hh, Bd.state]; rfl
  have N0 := Fr.nil n0
  have pre0 : ∀ t, Steps p.tables e below (s₁.setTop (mkF m 0 #[.val (.int p1)] [])) t → Steps p.tables e below (s₁.setTop (entryFrame m #[(.int p1)] 1)) t := fun t k => castTop (ef_1 m p1) k
  -- 3. LAWS
  obtain ⟨T3, X3, e3, st3⟩ := getS2 X0 hx hZ hown (host := "") (Or.inl (hw _ (List.mem_of_getElem? (i := 7) rfl))) Via.refl e0 S_high (g := (mkF m 7 #[.val (.int p1)] [(.int p1)])) rfl (hb hby d1_7)
  obtain ⟨T5, X5, e5, st5⟩ := getS2 X3 hx hZ hown (host := "") (Or.inl (hw _ (List.mem_of_getElem? (i := 9) rfl))) Via.refl e3 S_cache (g := (mkF m 13 #[.val (.int p1)] [])) rfl (hb hby d1_13)
  obtain ⟨fs, hr, hrun, hended, hW, hsame⟩ := X5.leave (v := some (.ref w6)) (fun h => by rw [Bd.returns] at h; cases h)
  refine ⟨_, _, pre0 _ ?_, hrun, hended, _, _, rfl, ?_, ⟨_, rfl⟩, hW, hsame.mono (by decide) (by decide)⟩
  -- 4. STEPS
  · show Steps p.tables e below (s₁.setTop (mkF m 0 #[.val (.int p1)] [])) _
    refine XS.iloadN X0.here hx rfl (hb hby d1_0) rfl ?_
    show Steps p.tables e below (s₁.setTop (mkF m 1 #[.val (.int p1)] [(.int p1)])) _
    refine XS.bipush X0.here hx rfl (hb hby d1_1) ?_
    show Steps p.tables e below (s₁.setTop (mkF m 3 #[.val (.int p1)] [(.int (-128 : Int32)), (.int p1)])) _
    refine XS.icmpNo X0.here hx rfl (hb hby d1_3) rfl (flt hc3).1 ?_
    show Steps p.tables e below (s₁.setTop (mkF m 6 #[.val (.int p1)] [])) _
    refine XS.iloadN X0.here hx rfl (hb hby d1_6) rfl ?_
    show Steps p.tables e below (s₁.setTop (mkF m 7 #[.val (.int p1)] [(.int p1)])) _
    refine st3 _ ?_
    show Steps p.tables e below (T3.setTop (mkF m 10 #[.val (.int p1)] [(.int w2), (.int p1)])) _
    refine XS.icmpNo X3.here hx rfl (hb hby d1_10) rfl (flt hc10).2.2.1 ?_
    show Steps p.tables e below (T3.setTop (mkF m 13 #[.val (.int p1)] [])) _
    refine st5 _ ?_
    show Steps p.tables e below (T5.setTop (mkF m 16 #[.val (.int p1)] [(.ref w4)])) _
    refine XS.iloadN X5.here hx rfl (hb hby d1_16) rfl ?_
    show Steps p.tables e below (T5.setTop (mkF m 17 #[.val (.int p1)] [(.int p1), (.ref w4)])) _
    refine XS.sipush X5.here hx rfl (hb hby d1_17) ?_
    show Steps p.tables e below (T5.setTop (mkF m 20 #[.val (.int p1)] [(.int (128 : Int32)), (.int p1), (.ref w4)])) _
    refine XS.iadd X5.here hx rfl (hb hby d1_20) rfl ?_
    show Steps p.tables e below (T5.setTop (mkF m 21 #[.val (.int p1)] [(.int (p1 + (128 : Int32))), (.ref w4)])) _
    refine X5.aaload hx (j := (p1 + (128 : Int32))) (v := (.ref w6)) (by rw [e5]; exact Ar_w4.1) (State.isArrayOf_alike hZ.alike Ar_w4.2.1) rfl Ar_w4.2.2 hin21 hat21 (g := (mkF m 21 #[.val (.int p1)] [(.int (p1 + (128 : Int32))), (.ref w4)])) rfl rfl (hb hby d1_21) _ ?_
    show Steps p.tables e below (T5.setTop (mkF m 22 #[.val (.int p1)] [(.ref w6)])) _
    jvm_step X5.here [X5.here.top, hx, (hb hby d1_22), X5.method', Bd.returns, Value.isRef, FieldType.isReference]
    first | (intro acts; rw [hr _ acts rfl rfl rfl]) | rw [hr _ _ rfl rfl rfl]
    exact Steps.refl _
  · show Q1 Z p1 w2 w4 w6 cl_w4 h0 n0 _ T5.heap _
    rw [e5]
    exact ⟨rfl, N0, rfl⟩
theorem d5_0 : decode prog_41_method_2_code 0 = .ok (.aload_n 0, 1) := by decide +kernel
theorem d5_1 : decode prog_41_method_2_code 1 = .ok (.getfield 20, 3) := by decide +kernel
theorem d5_4 : decode prog_41_method_2_code 4 = .ok (.iload_n 1, 1) := by decide +kernel
theorem d5_5 : decode prog_41_method_2_code 5 = .ok (.bipush 6, 2) := by decide +kernel
theorem d5_7 : decode prog_41_method_2_code 7 = .ok (.iushr, 1) := by decide +kernel
theorem d5_8 : decode prog_41_method_2_code 8 = .ok (.aaload, 1) := by decide +kernel
theorem d5_9 : decode prog_41_method_2_code 9 = .ok (.iload_n 1, 1) := by decide +kernel
theorem d5_10 : decode prog_41_method_2_code 10 = .ok (.bipush 63, 2) := by decide +kernel
theorem d5_12 : decode prog_41_method_2_code 12 = .ok (.iand, 1) := by decide +kernel
theorem d5_13 : decode prog_41_method_2_code 13 = .ok (.aaload, 1) := by decide +kernel
theorem d5_14 : decode prog_41_method_2_code 14 = .ok (.areturn, 1) := by decide +kernel
theorem pn_5 : plainName "com/example/runner_bean/runnerbean/service/PublishedSingletons" = true := by first | (simp [plainName, overriddenIn]; done) | decide +kernel
theorem ef_5 (m : MethodId) (x0 : Addr) (x1 : Int32) : entryFrame m #[(.ref x0), (.int x1)] 2 = mkF m 0 #[.val (.ref x0), .val (.int x1)] [] := by first | (simp [entryFrame, mkF, argsToLocals, Value.category]; done) | rfl
def Q5 (Z : State) (P : Nat → Value) (b : Nat) (h0 : Heap) (n0 : Nat) (v : Option Value) (h : Heap) (L : List Loc) : Prop := v = some (P b) ∧ Fr n0 L ∧ h = h0
set_option maxRecDepth 65536 in
set_option maxHeartbeats 40000000 in
theorem rm5 (l : Launch) (Z : State) (a0 : Array Value) (hw : ∀ d ∈ tables_1, d.before a0 Z = true) (ws : List Jvm.Cond) (a1 : Addr) (p2 : Int32) (kc : ClassId) (n : Nat) (P : Nat → Value) (b : Nat) (h0 : Heap) (n0 : Nat) (Z0 : n0 ≤ h0.size) (hn : n ≤ 4) (hbn : b < 64 * n) (hp : p2 = Int32.ofNat b) (hP : own_Ps Z h0 n0 a1 kc n P) :
    MetFree l (⟨"com/example/runner_bean/runnerbean/service/PublishedSingletons", "get", "(I)Ljava/lang/Object;"⟩ : MethodName) (head1 (Jvm.Cond.code (⟨"com/example/runner_bean/runnerbean/service/PublishedSingletons", "get", "(I)Ljava/lang/Object;"⟩ : MethodName) prog_41_method_2_code 2 (some (.object "java/lang/Object")) :: ws) ({ frames := 0, cells := 0, slots := 0, locals := 0 } : Room)) (fun a U => a = #[(.ref a1), (.int p2)] ∧ Z.Warmed39 U.vm ∧ U.heap = h0) (fun _ _ _ _ _ => True) (fun _ U o U' => ∃ v L, o = .returned v ∧ Q5 Z P b h0 n0 v U'.heap L ∧ FrameEnd U o U' L ({ frames := 0, cells := 0, slots := 0, locals := 0 } : Room).cells ({ frames := 0, cells := 0, slots := 0, locals := 0 } : Room).slots) := by
  refine MetFree.of_bodySF (plainFor_of_name pn_5) hisR ?_
  intro p e s m args below meth c s₁ Bd hml0 hP hK
  obtain ⟨rfl, hZ, hh⟩ := hP
  have hx := Bd.exec
  have hby := Bd.bytes
  have hml : c.maxLocals = 2 := hml0
  have hown : s.vm.findClass "com/example/runner_bean/runnerbean/service/PublishedSingletons" = some m.cls := findClass_of_methodNamed Bd.named
  have hnm := (name_of_methodNamed Bd.named Bd.method).1
  have X0 : Stand p l e ({ frames := 0, cells := 0, slots := 0, locals := 0 } : Room) s m #[(.ref a1), (.int p2)] below meth c s₁ [] 0 0 := Stand.of_body Bd
  have e0 : s₁.heap = h0 := by rw [← hh, Bd.state]; rfl
  have N0 := Fr.nil n0
  obtain ⟨w3, w, Ea, ga, F_chunks_a1, ne, ⟨cl_w3, Ar_w3, Ex3, O3, z3, f3⟩, hC, hR⟩ := hP
  have hc : b / 64 < n := by omega
  have ec : ((p2.toUInt32 >>> ((6 : Int32) &&& 31).toUInt32).toInt32) = Int32.ofNat (b / 64) := by rw [hp]; exact own_sh6 (by omega)
  have ej : (p2 &&& (63 : Int32)) = Int32.ofNat (b % 64) := by rw [hp]; exact own_and63 (by omega)
  obtain ⟨wK, hwK⟩ : ∃ z, z = w (b / 64) := ⟨_, rfl⟩
  obtain ⟨cl_wK, Ar_wK, ExK, OK, zK, fK⟩ := (hC (b / 64) hc).2
  rw [← hwK] at Ar_wK
  have hin8 : ¬ (((p2.toUInt32 >>> ((6 : Int32) &&& 31).toUInt32).toInt32) < 0 ∨ cl_w3.slots.size ≤ (((p2.toUInt32 >>> ((6 : Int32) &&& 31).toUInt32).toInt32)).toNatClampNeg) := by rw [ec, z3]; exact idx_in hc (by omega)
  have hat8 : cl_w3.slots[(((p2.toUInt32 >>> ((6 : Int32) &&& 31).toUInt32).toInt32)).toNatClampNeg]? = some (.ref wK) := by rw [ec, own_clamp (by omega), hwK]; exact f3 _ hc
  have hin13 : ¬ ((p2 &&& (63 : Int32)) < 0 ∨ cl_wK.slots.size ≤ ((p2 &&& (63 : Int32))).toNatClampNeg) := by rw [ej, zK]; exact idx_in (by omega) (by decide)
  have hat13 : cl_wK.slots[((p2 &&& (63 : Int32))).toNatClampNeg]? = some (P b) := by
    rw [ej, own_clamp (by omega), fK _ (by omega), show 64 * (b / 64) + b % 64 = b by omega]
  have pre0 : ∀ t, Steps p.tables e below (s₁.setTop (mkF m 0 #[.val (.ref a1), .val (.int p2)] [])) t → Steps p.tables e below (s₁.setTop (entryFrame m #[(.ref a1), (.int p2)] 2)) t := fun t k => castTop (ef_5 m a1 p2) k
  -- 3. LAWS
  obtain ⟨T4, X4, e4, st4⟩ := getF X0 hx hZ hown (host := "") (Or.inl (hw _ (List.mem_of_getElem? (i := 30) rfl))) Via.refl e0 F_chunks_a1 (g := (mkF m 1 #[.val (.ref a1), .val (.int p2)] [(.ref a1)])) rfl rfl (hb hby d5_1)
  obtain ⟨fs, hr, hrun, hended, hW, hsame⟩ := X4.leave (v := some (P b)) (fun h => by rw [Bd.returns] at h; cases h)
  refine ⟨_, _, pre0 _ ?_, hrun, hended, _, _, rfl, ?_, ⟨_, rfl⟩, hW, hsame.mono (by decide) (by decide)⟩
  -- 4. STEPS
  · show Steps p.tables e below (s₁.setTop (mkF m 0 #[.val (.ref a1), .val (.int p2)] [])) _
    refine XS.aloadN X0.here hx rfl (hb hby d5_0) rfl rfl ?_
    show Steps p.tables e below (s₁.setTop (mkF m 1 #[.val (.ref a1), .val (.int p2)] [(.ref a1)])) _
    refine st4 _ ?_
    show Steps p.tables e below (T4.setTop (mkF m 4 #[.val (.ref a1), .val (.int p2)] [(.ref w3)])) _
    refine XS.iloadN X4.here hx rfl (hb hby d5_4) rfl ?_
    show Steps p.tables e below (T4.setTop (mkF m 5 #[.val (.ref a1), .val (.int p2)] [(.int p2), (.ref w3)])) _
    refine XS.bipush X4.here hx rfl (hb hby d5_5) ?_
    show Steps p.tables e below (T4.setTop (mkF m 7 #[.val (.ref a1), .val (.int p2)] [(.int (6 : Int32)), (.int p2), (.ref w3)])) _
    refine XS.iushr X4.here hx rfl (hb hby d5_7) rfl ?_
    show Steps p.tables e below (T4.setTop (mkF m 8 #[.val (.ref a1), .val (.int p2)] [(.int ((p2.toUInt32 >>> ((6 : Int32) &&& 31).toUInt32).toInt32)), (.ref w3)])) _
    refine X4.aaload hx (j := ((p2.toUInt32 >>> ((6 : Int32) &&& 31).toUInt32).toInt32)) (v := (.ref wK)) (by rw [e4]; exact Ar_w3.1) (State.isArrayOf_alike hZ.alike Ar_w3.2.1) rfl Ar_w3.2.2 hin8 hat8 (g := (mkF m 8 #[.val (.ref a1), .val (.int p2)] [(.int ((p2.toUInt32 >>> ((6 : Int32) &&& 31).toUInt32).toInt32)), (.ref w3)])) rfl rfl (hb hby d5_8) _ ?_
    show Steps p.tables e below (T4.setTop (mkF m 9 #[.val (.ref a1), .val (.int p2)] [(.ref wK)])) _
    refine XS.iloadN X4.here hx rfl (hb hby d5_9) rfl ?_
    show Steps p.tables e below (T4.setTop (mkF m 10 #[.val (.ref a1), .val (.int p2)] [(.int p2), (.ref wK)])) _
    refine XS.bipush X4.here hx rfl (hb hby d5_10) ?_
    show Steps p.tables e below (T4.setTop (mkF m 12 #[.val (.ref a1), .val (.int p2)] [(.int (63 : Int32)), (.int p2), (.ref wK)])) _
    refine XS.iand X4.here hx rfl (hb hby d5_12) rfl ?_
    show Steps p.tables e below (T4.setTop (mkF m 13 #[.val (.ref a1), .val (.int p2)] [(.int (p2 &&& (63 : Int32))), (.ref wK)])) _
    refine X4.aaload hx (j := (p2 &&& (63 : Int32))) (v := (P b)) (by rw [e4]; exact Ar_wK.1) (State.isArrayOf_alike hZ.alike Ar_wK.2.1) rfl Ar_wK.2.2 hin13 hat13 (g := (mkF m 13 #[.val (.ref a1), .val (.int p2)] [(.int (p2 &&& (63 : Int32))), (.ref wK)])) rfl rfl (hb hby d5_13) _ ?_
    show Steps p.tables e below (T4.setTop (mkF m 14 #[.val (.ref a1), .val (.int p2)] [(P b)])) _
    refine retOut X4 hx Bd.returns ?_ (Or.inr (Or.inr (Or.inr (Or.inr ⟨rfl, rfl, hR b⟩)))) (hb hby d5_14) hr
    have := hR b
    cases P b <;> rfl
  · show Q5 Z P b h0 n0 _ T4.heap _
    rw [e4]
    exact ⟨rfl, N0, rfl⟩
theorem d2_0 : decode prog_41_method_1_code 0 = .ok (.aload_n 0, 1) := by decide +kernel
theorem d2_1 : decode prog_41_method_1_code 1 = .ok (.invokespecial 3, 3) := by decide +kernel
theorem d2_4 : decode prog_41_method_1_code 4 = .ok (.iload_n 1, 1) := by decide +kernel
theorem d2_5 : decode prog_41_method_1_code 5 = .ok (.bipush 64, 2) := by decide +kernel
theorem d2_7 : decode prog_41_method_1_code 7 = .ok (.iadd, 1) := by decide +kernel
theorem d2_8 : decode prog_41_method_1_code 8 = .ok (.iconst 1, 1) := by decide +kernel
theorem d2_9 : decode prog_41_method_1_code 9 = .ok (.isub, 1) := by decide +kernel
theorem d2_10 : decode prog_41_method_1_code 10 = .ok (.bipush 6, 2) := by decide +kernel
theorem d2_12 : decode prog_41_method_1_code 12 = .ok (.iushr, 1) := by decide +kernel
theorem d2_13 : decode prog_41_method_1_code 13 = .ok (.anewarray 9, 3) := by decide +kernel
theorem d2_16 : decode prog_41_method_1_code 16 = .ok (.astore_n 2, 1) := by decide +kernel
theorem d2_17 : decode prog_41_method_1_code 17 = .ok (.aload_n 2, 1) := by decide +kernel
theorem d2_18 : decode prog_41_method_1_code 18 = .ok (.getstatic 11, 3) := by decide +kernel
theorem d2_21 : decode prog_41_method_1_code 21 = .ok (.invokestatic 14, 3) := by decide +kernel
theorem d2_24 : decode prog_41_method_1_code 24 = .ok (.aload_n 0, 1) := by decide +kernel
theorem d2_25 : decode prog_41_method_1_code 25 = .ok (.aload_n 2, 1) := by decide +kernel
theorem d2_26 : decode prog_41_method_1_code 26 = .ok (.putfield 20, 3) := by decide +kernel
theorem d2_29 : decode prog_41_method_1_code 29 = .ok (.return_, 1) := by decide +kernel
theorem pn_2 : plainName "com/example/runner_bean/runnerbean/service/PublishedSingletons" = true := by first | (simp [plainName, overriddenIn]; done) | decide +kernel
theorem pd_2_3 : parseMethodDescriptor "([Ljava/lang/Object;Ljava/lang/Object;)V" = some ⟨[(.array (.object "java/lang/Object")), (.object "java/lang/Object")], none⟩ := by decide +kernel
theorem ef_2 (m : MethodId) (x0 : Addr) (x1 : Int32) : entryFrame m #[(.ref x0), (.int x1)] 3 = mkF m 0 #[.val (.ref x0), .val (.int x1), .unset] [] := by first | (simp [entryFrame, mkF, argsToLocals, Value.category]; done) | rfl
theorem pd_2_f : parseMethodDescriptor "([Ljava/lang/Object;Ljava/lang/Object;)V" = some ⟨[(.array (.object "java/lang/Object")), (.object "java/lang/Object")], none⟩ := by decide +kernel
def Put9 (h h' : Heap) (a : Addr) (A' : Cell) : Prop := h'[a]? = some A' ∧ (∀ y : Addr, y ≠ a → h'[y]? = h[y]?) ∧ h'.size = h.size
theorem own_putKeep {h h' : Heap} {a : Addr} {A A' : Cell} (hA : h[a]? = some A) (q : Put9 h h' a A') (e1 : A'.cls = A.cls) (e2 : A'.vm = A.vm) (e3 : A'.slots.size = A.slots.size) : Keep h h' [a] := by
  refine ⟨Nat.le_of_eq q.2.2.symm, fun x c hx hn => ?_, fun x c hx => ?_⟩
  · rw [q.2.1 x (fun z => hn (List.mem_singleton.mpr z))]; exact hx
  · by_cases z : x = a
    · subst z
      cases hA.symm.trans hx
      exact ⟨A', q.1, e1, e2, e3⟩
    · exact ⟨c, by rw [q.2.1 x z]; exact hx, rfl, rfl, rfl⟩
theorem own_copyFr {k n p : Nat} {d : Addr} (h : k ≤ d) : Fr k (copyLocs d p n) := fun y hy => by
  obtain ⟨i, -, rfl⟩ := List.mem_map.mp hy
  exact h
theorem own_tabF {Z s : State} {a0 args : Array Value} (hZ : Z.Warmed39 s.vm) (hw : ∀ d ∈ tables_1, d.before a0 Z = true) : Jvm.Free.JA.FillL.tab.before args s = true := by
  refine Jvm.Free.XT.unparts (mvT hZ (hw _ (List.mem_of_getElem? (i := 28) rfl))) fun w hm => ?_
  have hm' : w ∈ [Jvm.Cond.initialized "java/util/Arrays"] := hm
  simp only [List.mem_cons, List.not_mem_nil, or_false] at hm'
  subst hm'
  exact mvT hZ (hw _ (List.mem_of_getElem? (i := 27) rfl))
theorem own_xaArr {Z s T : State} {vm₁ : Vm} (hZ : Z.Warmed39 s.vm) (hW : s.WarmedH vm₁) {a : Addr} {A : Cell} {t : FieldType} (h1 : T.heap[a]? = some A) (h2 : Z.isArrayOf A t) (h3 : A.vm ≠ .unknown) (h4 : A.slots.size < 2 ^ 31) : Jvm.Free.XT.Arr t a A (T.setVm vm₁) := ⟨h1, State.isArrayOf_alike (T := T.setVm vm₁) (hZ.alike.trans hW.alike) h2, h3, h4⟩
theorem own_tks {Z s T : State} {vm₁ : Vm} (hZ : Z.Warmed39 s.vm) (hW : s.WarmedH vm₁) {h : Heap} (e : T.heap = h) {a : Addr} {A : Cell} {t : FieldType} {v : Value} (hA : Arr Z h a A t) (F : Sto Z h a v) : Jvm.Free.XT.Tks A v (T.setVm vm₁) := by
  subst e
  have al := hZ.alike.trans hW.alike
  rcases F with q | ⟨cell, cv, k, kv, kc, comp, t', y, h1, h2, h3, h4, h5, h6, h7, h8, h9⟩
  · exact Or.inl q
  · cases hA.1.symm.trans h1
    obtain ⟨k', a1, b1⟩ := al.2.2 _ _ h2
    obtain ⟨kv', a2, -⟩ := al.2.2 _ _ h8
    obtain ⟨kc', a3, -⟩ := al.2.2 _ _ h4
    exact Or.inr ⟨y, cv, kv', k', kc', comp, t', h5, h6, (fun q z => by rw [z] at h7; cases h7), a2, a1, by rw [b1]; exact h3, a3, by rw [show (T.setVm vm₁).vm.assignable cv.cls comp = Z.vm.assignable cv.cls comp from al.assignable .. ]; exact h9⟩
theorem own_keepExt {h h1 h2 : Heap} {b : Addr} {ws : List Addr} (E : Ext h h1) (K : Keep h1 h2 [b]) (q : h.size ≤ b) : Keep h h2 ws := ((Keep.refl h ws).ext E).trans K fun x hx => by cases List.mem_singleton.mp hx; exact Or.inr q
def Q2 (Z : State) (a1 : Addr) (n : Nat) (h0 : Heap) (n0 : Nat) (v : Option Value) (h : Heap) (L : List Loc) : Prop := v = none ∧ Fr n0 L ∧ Keep h0 h [a1] ∧ ∃ kc : ClassId, OvrA Z kc (.object "java/lang/Object") "[Ljava/lang/Object;" ∧ own_Ps Z h n0 a1 kc n (fun _ => .null)
set_option maxRecDepth 65536 in
set_option maxHeartbeats 40000000 in
theorem rm2 (l : Launch) (Z : State) (a0 : Array Value) (hw : ∀ d ∈ tables_1, d.before a0 Z = true) (ws : List Jvm.Cond) (a1 : Addr) (p2 : Int32) (u : Addr) (n : Nat) (h0 : Heap) (n0 : Nat) (Z0 : n0 ≤ h0.size) (hn : n ≤ 4) (hcnt : ((((p2 + (64 : Int32)) - (1 : Int32)).toUInt32 >>> ((6 : Int32) &&& 31).toUInt32).toInt32) = Int32.ofNat n) (E_a1 : Exa Z h0 a1 "com/example/runner_bean/runnerbean/service/PublishedSingletons") (F0 : Fld Z h0 a1 "com/example/runner_bean/runnerbean/service/PublishedSingletons" "chunks" "[[Ljava/lang/Object;" .null) (g_a1 : n0 ≤ a1) (SU : Sta Z h0 "com/example/runner_bean/runnerbean/service/PublishedSingletons" "UNPUBLISHED" "[Ljava/lang/Object;" (.ref u)) (ua : u ≠ a1) (HU : ∀ i, own_Ch Z h0 u (fun _ => .null) i) :
    MetFree l (⟨"com/example/runner_bean/runnerbean/service/PublishedSingletons", "<init>", "(I)V"⟩ : MethodName) (head1 (Jvm.Cond.code (⟨"com/example/runner_bean/runnerbean/service/PublishedSingletons", "<init>", "(I)V"⟩ : MethodName) prog_41_method_1_code 3 none :: ws) ({ frames := 1, cells := 1, slots := 4, locals := 15 } : Room)) (fun a U => a = #[(.ref a1), (.int p2)] ∧ Z.Warmed39 U.vm ∧ U.heap = h0) (fun _ _ _ _ _ => True) (fun _ U o U' => ∃ v L, o = .returned v ∧ Q2 Z a1 n h0 n0 v U'.heap L ∧ FrameEnd U o U' L ({ frames := 1, cells := 1, slots := 4, locals := 15 } : Room).cells ({ frames := 1, cells := 1, slots := 4, locals := 15 } : Room).slots) := by
  refine MetFree.of_bodySF (plainFor_of_name pn_2) hisR ?_
  intro p e s m args below meth c s₁ Bd hml0 hP hK
  obtain ⟨rfl, hZ, hh⟩ := hP
  have hx := Bd.exec
  have hby := Bd.bytes
  have hml : c.maxLocals = 3 := hml0
  have hown : s.vm.findClass "com/example/runner_bean/runnerbean/service/PublishedSingletons" = some m.cls := findClass_of_methodNamed Bd.named
  have hnm := (name_of_methodNamed Bd.named Bd.method).1
  have X0 : Stand p l e ({ frames := 1, cells := 1, slots := 4, locals := 15 } : Room) s m #[(.ref a1), (.int p2)] below meth c s₁ [] 0 0 := Stand.of_body Bd
  have e0 : s₁.heap = h0 := by rw [← hh, Bd.state]; rfl
  have N0 := Fr.nil n0
  have pre0 : ∀ t, Steps p.tables e below (s₁.setTop (mkF m 0 #[.val (.ref a1), .val (.int p2), .unset] [])) t → Steps p.tables e below (s₁.setTop (entryFrame m #[(.ref a1), (.int p2)] 3)) t := fun t k => castTop (ef_2 m a1 p2) k
  obtain ⟨T1, X1, e1, st1⟩ := initO X0 hx hZ hown (hw _ (List.mem_of_getElem? (i := 18) rfl)) (hw _ (List.mem_of_getElem? (i := 19) rfl)) (hw _ (List.mem_of_getElem? (i := 20) rfl)) e0 (g := (mkF m 1 #[.val (.ref a1), .val (.int p2), .unset] [(.ref a1)])) rfl (by rw [hml]; rfl) rfl (hb hby d2_1) (by decide) (W := 0) (by show 2 * 0 + _ ≤ _; exact Nat.le_of_eq rfl) (by decide)
  have P1 : ∀ t, Steps p.tables e below (T1.setTop (mkF m 13 #[.val (.ref a1), .val (.int p2), .unset] [(.int ((((p2 + (64 : Int32)) - (1 : Int32)).toUInt32 >>> ((6 : Int32) &&& 31).toUInt32).toInt32))])) t → Steps p.tables e below (s₁.setTop (entryFrame m #[(.ref a1), (.int p2)] 3)) t := fun t k => pre0 t (by
    show Steps p.tables e below (s₁.setTop (mkF m 0 #[.val (.ref a1), .val (.int p2), .unset] [])) _
    refine XS.aloadN X0.here hx rfl (hb hby d2_0) rfl rfl ?_
    show Steps p.tables e below (s₁.setTop (mkF m 1 #[.val (.ref a1), .val (.int p2), .unset] [(.ref a1)])) _
    refine st1 _ ?_
    show Steps p.tables e below (T1.setTop (mkF m 4 #[.val (.ref a1), .val (.int p2), .unset] [])) _
    refine XS.iloadN X1.here hx rfl (hb hby d2_4) rfl ?_
    show Steps p.tables e below (T1.setTop (mkF m 5 #[.val (.ref a1), .val (.int p2), .unset] [(.int p2)])) _
    refine XS.bipush X1.here hx rfl (hb hby d2_5) ?_
    show Steps p.tables e below (T1.setTop (mkF m 7 #[.val (.ref a1), .val (.int p2), .unset] [(.int (64 : Int32)), (.int p2)])) _
    refine XS.iadd X1.here hx rfl (hb hby d2_7) rfl ?_
    show Steps p.tables e below (T1.setTop (mkF m 8 #[.val (.ref a1), .val (.int p2), .unset] [(.int (p2 + (64 : Int32)))])) _
    refine XS.iconst X1.here hx rfl (hb hby d2_8) ?_
    show Steps p.tables e below (T1.setTop (mkF m 9 #[.val (.ref a1), .val (.int p2), .unset] [(.int (1 : Int32)), (.int (p2 + (64 : Int32)))])) _
    refine XS.isub X1.here hx rfl (hb hby d2_9) rfl ?_
    show Steps p.tables e below (T1.setTop (mkF m 10 #[.val (.ref a1), .val (.int p2), .unset] [(.int ((p2 + (64 : Int32)) - (1 : Int32)))])) _
    refine XS.bipush X1.here hx rfl (hb hby d2_10) ?_
    show Steps p.tables e below (T1.setTop (mkF m 12 #[.val (.ref a1), .val (.int p2), .unset] [(.int (6 : Int32)), (.int ((p2 + (64 : Int32)) - (1 : Int32)))])) _
    refine XS.iushr X1.here hx rfl (hb hby d2_12) rfl ?_
    exact k)
  rw [hcnt] at P1
  have hneg : ¬ (Int32.ofNat n) < 0 := fun q => idx_in (i := n) (n := n + 1) (by omega) (by omega) (Or.inl q)
  have hcap : (Int32.ofNat n).toNatClampNeg ≤ 4 := by rw [own_clamp (by omega)]; exact hn
  obtain ⟨T2, h2, k2, X2, e2, E2, A2, B2, O2, st2⟩ := newRA X1 hx hZ hown (C := "[Ljava/lang/Object;") (by decide) (hw _ (List.mem_of_getElem? (i := 21) rfl)) (hw _ (List.mem_of_getElem? (i := 22) rfl)) e1 (g := (mkF m 13 #[.val (.ref a1), .val (.int p2), .unset] [(.int (Int32.ofNat n))])) rfl (hb hby d2_13) rfl hneg (cap := 4) hcap (by decide) (by decide) (by decide) (ad := "[[Ljava/lang/Object;") (by decide)
  obtain ⟨b2, g2⟩ : ∃ z, z = h0.size := ⟨_, rfl⟩
  rw [← g2] at A2 B2 st2
  have g_b2 : n0 ≤ b2 := Nat.le_trans Z0 (Nat.le_of_eq g2.symm)
  have sz_b2 : h0.size ≤ b2 := (Nat.le_trans (Keep.refl h0 []).1 (Nat.le_of_eq g2.symm))
  have K2 : Keep h0 h2 [] := (Keep.refl h0 []).ext E2
  have P2 : ∀ t, Steps p.tables e below (T2.setTop (mkF m 16 #[.val (.ref a1), .val (.int p2), .unset] [(.ref b2)])) t → Steps p.tables e below (s₁.setTop (entryFrame m #[(.ref a1), (.int p2)] 3)) t := fun t k => P1 t (by
    show Steps p.tables e below (T1.setTop (mkF m 13 #[.val (.ref a1), .val (.int p2), .unset] [(.int (Int32.ofNat n))])) _
    refine st2 _ ?_
    exact k)
  have S_UNPUBLISHED := SU.ext E2
  obtain ⟨T3, X3, e3, st3⟩ := getS2 X2 hx hZ hown (host := "") (Or.inl (hw _ (List.mem_of_getElem? (i := 23) rfl))) Via.refl e2 S_UNPUBLISHED (g := (mkF m 18 #[.val (.ref a1), .val (.int p2), .val (.ref b2)] [(.ref b2)])) rfl (hb hby d2_18)
  have P3 : ∀ t, Steps p.tables e below (T3.setTop (mkF m 21 #[.val (.ref a1), .val (.int p2), .val (.ref b2)] [(.ref u), (.ref b2)])) t → Steps p.tables e below (s₁.setTop (entryFrame m #[(.ref a1), (.int p2)] 3)) t := fun t k => P2 t (by
    show Steps p.tables e below (T2.setTop (mkF m 16 #[.val (.ref a1), .val (.int p2), .unset] [(.ref b2)])) _
    refine XS.astoreN X2.here hx rfl (hb hby d2_16) rfl rfl (l' := #[.val (.ref a1), .val (.int p2), .val (.ref b2)]) rfl ?_
    show Steps p.tables e below (T2.setTop (mkF m 17 #[.val (.ref a1), .val (.int p2), .val (.ref b2)] [])) _
    refine XS.aloadN X2.here hx rfl (hb hby d2_17) rfl rfl ?_
    show Steps p.tables e below (T2.setTop (mkF m 18 #[.val (.ref a1), .val (.int p2), .val (.ref b2)] [(.ref b2)])) _
    refine st3 _ ?_
    exact k)
  have ub : u ≠ b2 := Nat.ne_of_lt (Nat.lt_of_lt_of_le (HU 0).lt sz_b2)
  have ab : a1 ≠ b2 := Nat.ne_of_lt (Nat.lt_of_lt_of_le E_a1.lt sz_b2)
  obtain ⟨cu, Au, Xu, Ou, zu, fu⟩ := (HU 0).ext E2
  have hSto : Sto Z h2 b2 (.ref u) := Sto.ofVA A2 rfl O2 (Ins.self Xu)
  obtain ⟨v9, _, ⟨T9, L9, k9, n9⟩, -, X9, ⟨⟨hv9, A9, Pt9, Fi9⟩, l9, y9, z9⟩, st9⟩ := Jvm.LawKit.callS X3 hx (y := (⟨"java/util/Arrays", "fill", "([Ljava/lang/Object;Ljava/lang/Object;)V"⟩ : MethodName)) hown (mvT hZ (hw _ (List.mem_of_getElem? (i := 25) rfl))) (mvT hZ (hw _ (List.mem_of_getElem? (i := 26) rfl))) (mvT hZ (hw _ (List.mem_of_getElem? (i := 27) rfl))) (mvT hZ (hw _ (List.mem_of_getElem? (i := 28) rfl))) (by decide) (Jvm.Free.JA.FillL.pays (W := 0) b2 (newA k2 (.array (.object "java/lang/Object")) (Int32.ofNat n)) (.array (.object "java/lang/Object")) (.ref u) (own_tabF hZ hw) (by decide) (by decide)) (g := (mkF m 21 #[.val (.ref a1), .val (.int p2), .val (.ref b2)] [(.ref u), (.ref b2)])) rfl (by rw [hml]; rfl) (argsL := [(.ref b2), (.ref u)]) (rest := []) (lenOf pd_2_f rfl) rfl (by show 2 * 0 + _ ≤ _; exact Nat.le_of_eq rfl) (hb hby d2_21) (fun vm₁ hW₁ => ⟨by exact Nat.le_of_ble_eq_true rfl, by exact Nat.le_of_ble_eq_true rfl, rfl, own_xaArr hZ hW₁ (by rw [e3]; exact A2.1) A2.2.1 A2.2.2 (by rw [sz_new, own_clamp (by omega)]; omega), rfl, own_tks hZ hW₁ e3 A2 hSto⟩)
  dsimp only [Pt.U, Pt.locs, Pt.cells, Pt.slots] at X9 l9 y9 z9 st9 Pt9
  subst l9 y9 z9
  subst hv9
  have q9 : Put9 h2 T9.heap b2 A9 := ⟨Pt9.1, fun y q => by rw [Pt9.2.1 y q]; exact congrArg (fun z => z[y]?) e3, Pt9.2.2.trans (congrArg Array.size e3)⟩
  have K9 := own_putKeep A2.1 q9 Fi9.1 Fi9.2.1 Fi9.2.2.1
  have N9 := Fr.app N0 (own_copyFr (k := n0) (n := (newA k2 (.array (.object "java/lang/Object")) (Int32.ofNat n)).slots.size) (p := 0) g_b2)
  have F9 := (F0.ext E2).keep K9 (ninS ab nin0)
  have Ea9 := (E_a1.ext E2).keep K9
  have P4 : ∀ t, Steps p.tables e below (T9.setTop (mkF m 24 #[.val (.ref a1), .val (.int p2), .val (.ref b2)] [])) t → Steps p.tables e below (s₁.setTop (entryFrame m #[(.ref a1), (.int p2)] 3)) t := fun t k => P3 t (st9 _ k)
  have F_chunks_a1 := F9
  have E_a1 := Ea9
  obtain ⟨T21, h21, X21, e21, W21, st21⟩ := putF X9 hx hZ hown (host := "") (Or.inl (hw _ (List.mem_of_getElem? (i := 30) rfl))) Via.refl rfl F_chunks_a1 E_a1 (Or.inl (hw _ (List.mem_of_getElem? (i := 31) rfl))) (hw _ (List.mem_of_getElem? (i := 13) rfl)) (ty := (.array (.array (.object "java/lang/Object")))) (by decide) rfl rfl (g := (mkF m 26 #[.val (.ref a1), .val (.int p2), .val (.ref b2)] [(.ref b2), (.ref a1)])) rfl rfl (hb hby d2_26)
  have Fw21 := F_chunks_a1.same W21
  have N21 := Fr.snoc X21 N9 g_a1
  have P5 : ∀ t, Steps p.tables e below (T21.setTop (mkF m 29 #[.val (.ref a1), .val (.int p2), .val (.ref b2)] [])) t → Steps p.tables e below (s₁.setTop (entryFrame m #[(.ref a1), (.int p2)] 3)) t := fun t k => P4 t (by
    show Steps p.tables e below (T9.setTop (mkF m 24 #[.val (.ref a1), .val (.int p2), .val (.ref b2)] [])) _
    refine XS.aloadN X9.here hx rfl (hb hby d2_24) rfl rfl ?_
    show Steps p.tables e below (T9.setTop (mkF m 25 #[.val (.ref a1), .val (.int p2), .val (.ref b2)] [(.ref a1)])) _
    refine XS.aloadN X9.here hx rfl (hb hby d2_25) rfl rfl ?_
    show Steps p.tables e below (T9.setTop (mkF m 26 #[.val (.ref a1), .val (.int p2), .val (.ref b2)] [(.ref b2), (.ref a1)])) _
    refine st21 _ ?_
    exact k)
  obtain ⟨fs, hr, hrun, hended, hW, hsame⟩ := X21.leave (v := none) (fun _ => rfl)
  refine ⟨_, _, P5 _ (X21.returnOut hx Bd.returns (hb hby d2_29) hr), hrun, hended, _, _, rfl, ?_, ⟨_, rfl⟩, hW, hsame.mono (by decide) (by decide)⟩
  show Q2 Z a1 n h0 n0 _ T21.heap _
  rw [e21]
  have bA : b2 ≠ a1 := Ne.symm ab
  have TbX : own_Tb Z h21 b2 k2 n (fun _ => u) := by
    have T0 : own_Tb Z T9.heap b2 k2 n (fun _ => u) := by
      refine ⟨A9, ⟨q9.1, ?_, ?_⟩, B2.keep K9, Fi9.1, ?_, fun i hi => ?_⟩
      · exact ⟨fun q z => A2.2.1.1 q (Fi9.2.1.symm.trans z), by rw [Fi9.1]; exact A2.2.1.2⟩
      · rw [Fi9.2.1]; exact A2.2.2
      · rw [Fi9.2.2.1, sz_new, own_clamp (by omega)]
      · have z := Fi9.2.2.2 i
        rw [if_pos ⟨Nat.zero_le _, by rw [sz_new, own_clamp (by omega)]; exact hi⟩] at z
        exact z
    exact T0.other W21 bA
  exact ⟨rfl, N21, ((own_keepExt E2 K9 sz_b2).wr W21 (Or.inl (List.mem_singleton.mpr rfl))), k2, O2, b2, fun _ => u, Ea9.wr W21, g_a1, Fw21, bA, TbX, fun i hi => ⟨ua, (((HU i).ext E2).keep K9 (ninS ub nin0)).other W21 ua⟩, fun _ => rfl⟩
theorem d6_19 : decode prog_41_method_3_code 19 = .ok (.iload 6, 2) := by decide +kernel
theorem d6_21 : decode prog_41_method_3_code 21 = .ok (.iload_n 2, 1) := by decide +kernel
theorem d6_22 : decode prog_41_method_3_code 22 = .ok (.if_icmp .ge 66, 3) := by decide +kernel
theorem d6_25 : decode prog_41_method_3_code 25 = .ok (.aload_n 1, 1) := by decide +kernel
theorem d6_26 : decode prog_41_method_3_code 26 = .ok (.iload 6, 2) := by decide +kernel
theorem d6_28 : decode prog_41_method_3_code 28 = .ok (.iaload, 1) := by decide +kernel
theorem d6_29 : decode prog_41_method_3_code 29 = .ok (.istore 7, 2) := by decide +kernel
theorem d6_31 : decode prog_41_method_3_code 31 = .ok (.iload 7, 2) := by decide +kernel
theorem d6_33 : decode prog_41_method_3_code 33 = .ok (.bipush 6, 2) := by decide +kernel
theorem d6_35 : decode prog_41_method_3_code 35 = .ok (.iushr, 1) := by decide +kernel
theorem d6_36 : decode prog_41_method_3_code 36 = .ok (.istore 8, 2) := by decide +kernel
theorem os6_29 {s0 : Slot} {z1 : Value} {z2 : Value} {s3 : Slot} {s4 : Slot} {s5 : Slot} {z6 : Value} {s7 : Slot} {s8 : Slot} {v : Int32} (h : One s7) : storeLocals #[s0, .val z1, .val z2, s3, s4, s5, .val z6, s7, s8] 7 (.int v) = some #[s0, .val z1, .val z2, s3, s4, s5, .val z6, .val (.int v), s8] := by
  rcases h with rfl | ⟨w, rfl, hw⟩
  · rfl
  · cases w <;> first | rfl | (simp [Value.category] at hw)
theorem os6_36 {s0 : Slot} {z1 : Value} {z2 : Value} {s3 : Slot} {s4 : Slot} {s5 : Slot} {z6 : Value} {z7 : Value} {s8 : Slot} {v : Int32} (h : One s8) : storeLocals #[s0, .val z1, .val z2, s3, s4, s5, .val z6, .val z7, s8] 8 (.int v) = some #[s0, .val z1, .val z2, s3, s4, s5, .val z6, .val z7, .val (.int v)] := by
  rcases h with rfl | ⟨w, rfl, hw⟩
  · rfl
  · cases w <;> first | rfl | (simp [Value.category] at hw)
set_option maxRecDepth 65536 in
set_option maxHeartbeats 40000000 in
theorem own_p19 {p : Program} {l : Launch} {e : Env} {R : Room} {s : State} {m : MethodId} {args : Array Value} {below : List Frame} {meth : Method} {c : Code} {T0 : State} {locs : List Loc} {cells slots : Nat} {Z : State} {a0 : Array Value} {h0 : Heap} (s0 : Slot) (o1 : Addr) (i2 : Int32) (s3 : Slot) (s4 : Slot) (s5 : Slot) (i6 : Int32) (s7 : Slot) (s8 : Slot) (cl_o1 : Cell) (bn : Int32)
    (X0 : Stand p l e R s m args below meth c T0 locs cells slots) (hx : p.tables.exec = Jvm.exec) (hZ : Z.Warmed39 s.vm) (hw : ∀ d ∈ tables_1, d.before a0 Z = true) (hby : c.code = prog_41_method_3_code) (hml : c.maxLocals = 9) (hown : s.vm.findClass "com/example/runner_bean/runnerbean/service/PublishedSingletons" = some m.cls) (e0 : T0.heap = h0) (Ar_o1 : Arr Z h0 o1 cl_o1 .int) (hin28 : ¬ (i6 < 0 ∨ cl_o1.slots.size ≤ (i6).toNatClampNeg)) (hat28 : cl_o1.slots[(i6).toNatClampNeg]? = some (.int bn)) (hs7 : One s7) (hs8 : One s8) (hc22 : i6 < i2) :
    ∃ (T' : State), Stand p l e R s m args below meth c T' locs cells slots ∧ T'.heap = h0 ∧
      ∀ target, Steps p.tables e below (T'.setTop (mkF m 38 #[s0, .val (.ref o1), .val (.int i2), s3, s4, s5, .val (.int i6), .val (.int bn), .val (.int ((bn.toUInt32 >>> ((6 : Int32) &&& 31).toUInt32).toInt32))] [])) target → Steps p.tables e below (T0.setTop (mkF m 19 #[s0, .val (.ref o1), .val (.int i2), s3, s4, s5, .val (.int i6), s7, s8] [])) target := by
  -- 3. LAWS

  refine ⟨T0, X0, e0, fun target kt => ?_⟩
  -- 4. STEPS
  show Steps p.tables e below (T0.setTop (mkF m 19 #[s0, .val (.ref o1), .val (.int i2), s3, s4, s5, .val (.int i6), s7, s8] [])) _
  refine XS.iload X0.here hx rfl (hb hby d6_19) rfl ?_
  show Steps p.tables e below (T0.setTop (mkF m 21 #[s0, .val (.ref o1), .val (.int i2), s3, s4, s5, .val (.int i6), s7, s8] [(.int i6)])) _
  refine XS.iloadN X0.here hx rfl (hb hby d6_21) rfl ?_
  show Steps p.tables e below (T0.setTop (mkF m 22 #[s0, .val (.ref o1), .val (.int i2), s3, s4, s5, .val (.int i6), s7, s8] [(.int i2), (.int i6)])) _
  refine XS.icmpNo X0.here hx rfl (hb hby d6_22) rfl (tlt hc22).2.1 ?_
  show Steps p.tables e below (T0.setTop (mkF m 25 #[s0, .val (.ref o1), .val (.int i2), s3, s4, s5, .val (.int i6), s7, s8] [])) _
  refine XS.aloadN X0.here hx rfl (hb hby d6_25) rfl rfl ?_
  show Steps p.tables e below (T0.setTop (mkF m 26 #[s0, .val (.ref o1), .val (.int i2), s3, s4, s5, .val (.int i6), s7, s8] [(.ref o1)])) _
  refine XS.iload X0.here hx rfl (hb hby d6_26) rfl ?_
  show Steps p.tables e below (T0.setTop (mkF m 28 #[s0, .val (.ref o1), .val (.int i2), s3, s4, s5, .val (.int i6), s7, s8] [(.int i6), (.ref o1)])) _
  refine X0.iaload hx (j := i6) (v := (.int bn)) (by rw [e0]; exact Ar_o1.1) (State.isArrayOf_alike hZ.alike Ar_o1.2.1) Ar_o1.2.2 hin28 hat28 (g := (mkF m 28 #[s0, .val (.ref o1), .val (.int i2), s3, s4, s5, .val (.int i6), s7, s8] [(.int i6), (.ref o1)])) rfl rfl (hb hby d6_28) _ ?_
  show Steps p.tables e below (T0.setTop (mkF m 29 #[s0, .val (.ref o1), .val (.int i2), s3, s4, s5, .val (.int i6), s7, s8] [(.int bn)])) _
  refine XS.istore X0.here hx rfl (hb hby d6_29) rfl (l' := #[s0, .val (.ref o1), .val (.int i2), s3, s4, s5, .val (.int i6), .val (.int bn), s8]) (os6_29 hs7) ?_
  show Steps p.tables e below (T0.setTop (mkF m 31 #[s0, .val (.ref o1), .val (.int i2), s3, s4, s5, .val (.int i6), .val (.int bn), s8] [])) _
  refine XS.iload X0.here hx rfl (hb hby d6_31) rfl ?_
  show Steps p.tables e below (T0.setTop (mkF m 33 #[s0, .val (.ref o1), .val (.int i2), s3, s4, s5, .val (.int i6), .val (.int bn), s8] [(.int bn)])) _
  refine XS.bipush X0.here hx rfl (hb hby d6_33) ?_
  show Steps p.tables e below (T0.setTop (mkF m 35 #[s0, .val (.ref o1), .val (.int i2), s3, s4, s5, .val (.int i6), .val (.int bn), s8] [(.int (6 : Int32)), (.int bn)])) _
  refine XS.iushr X0.here hx rfl (hb hby d6_35) rfl ?_
  show Steps p.tables e below (T0.setTop (mkF m 36 #[s0, .val (.ref o1), .val (.int i2), s3, s4, s5, .val (.int i6), .val (.int bn), s8] [(.int ((bn.toUInt32 >>> ((6 : Int32) &&& 31).toUInt32).toInt32))])) _
  refine XS.istore X0.here hx rfl (hb hby d6_36) rfl (l' := #[s0, .val (.ref o1), .val (.int i2), s3, s4, s5, .val (.int i6), .val (.int bn), .val (.int ((bn.toUInt32 >>> ((6 : Int32) &&& 31).toUInt32).toInt32))]) (os6_36 hs8) ?_
  exact kt
set_option maxRecDepth 65536 in
set_option maxHeartbeats 40000000 in
theorem own_p19t {p : Program} {l : Launch} {e : Env} {R : Room} {s : State} {m : MethodId} {args : Array Value} {below : List Frame} {meth : Method} {c : Code} {T0 : State} {locs : List Loc} {cells slots : Nat} {Z : State} {a0 : Array Value} {h0 : Heap} (s0 : Slot) (s1 : Slot) (i2 : Int32) (s3 : Slot) (s4 : Slot) (s5 : Slot) (i6 : Int32) (s7 : Slot) (s8 : Slot)
    (X0 : Stand p l e R s m args below meth c T0 locs cells slots) (hx : p.tables.exec = Jvm.exec) (hZ : Z.Warmed39 s.vm) (hw : ∀ d ∈ tables_1, d.before a0 Z = true) (hby : c.code = prog_41_method_3_code) (hml : c.maxLocals = 9) (hown : s.vm.findClass "com/example/runner_bean/runnerbean/service/PublishedSingletons" = some m.cls) (e0 : T0.heap = h0) (hc22 : ¬ (i6 < i2)) :
    ∃ (T' : State), Stand p l e R s m args below meth c T' locs cells slots ∧ T'.heap = h0 ∧
      ∀ target, Steps p.tables e below (T'.setTop (mkF m 88 #[s0, s1, .val (.int i2), s3, s4, s5, .val (.int i6), s7, s8] [])) target → Steps p.tables e below (T0.setTop (mkF m 19 #[s0, s1, .val (.int i2), s3, s4, s5, .val (.int i6), s7, s8] [])) target := by
  -- 3. LAWS

  refine ⟨T0, X0, e0, fun target kt => ?_⟩
  -- 4. STEPS
  show Steps p.tables e below (T0.setTop (mkF m 19 #[s0, s1, .val (.int i2), s3, s4, s5, .val (.int i6), s7, s8] [])) _
  refine XS.iload X0.here hx rfl (hb hby d6_19) rfl ?_
  show Steps p.tables e below (T0.setTop (mkF m 21 #[s0, s1, .val (.int i2), s3, s4, s5, .val (.int i6), s7, s8] [(.int i6)])) _
  refine XS.iloadN X0.here hx rfl (hb hby d6_21) rfl ?_
  show Steps p.tables e below (T0.setTop (mkF m 22 #[s0, s1, .val (.int i2), s3, s4, s5, .val (.int i6), s7, s8] [(.int i2), (.int i6)])) _
  refine XS.icmpYes X0.here hx rfl (pc0 := 22) (pc' := 88) rfl (hb hby d6_22) rfl (flt hc22).2.1 (by decide) (by decide) ?_
  exact kt
theorem d6_38 : decode prog_41_method_3_code 38 = .ok (.aload 5, 2) := by decide +kernel
theorem d6_40 : decode prog_41_method_3_code 40 = .ok (.iload 8, 2) := by decide +kernel
theorem d6_42 : decode prog_41_method_3_code 42 = .ok (.aaload, 1) := by decide +kernel
theorem d6_43 : decode prog_41_method_3_code 43 = .ok (.aload 4, 2) := by decide +kernel
theorem d6_45 : decode prog_41_method_3_code 45 = .ok (.iload 8, 2) := by decide +kernel
theorem d6_47 : decode prog_41_method_3_code 47 = .ok (.aaload, 1) := by decide +kernel
theorem d6_48 : decode prog_41_method_3_code 48 = .ok (.if_acmp .ne 19, 3) := by decide +kernel
theorem d6_51 : decode prog_41_method_3_code 51 = .ok (.aload 5, 2) := by decide +kernel
theorem d6_53 : decode prog_41_method_3_code 53 = .ok (.iload 8, 2) := by decide +kernel
theorem d6_55 : decode prog_41_method_3_code 55 = .ok (.aload 4, 2) := by decide +kernel
theorem d6_57 : decode prog_41_method_3_code 57 = .ok (.iload 8, 2) := by decide +kernel
theorem d6_59 : decode prog_41_method_3_code 59 = .ok (.aaload, 1) := by decide +kernel
theorem d6_60 : decode prog_41_method_3_code 60 = .ok (.invokevirtual 29, 3) := by decide +kernel
theorem d6_63 : decode prog_41_method_3_code 63 = .ok (.checkcast 9, 3) := by decide +kernel
theorem d6_66 : decode prog_41_method_3_code 66 = .ok (.aastore, 1) := by decide +kernel
set_option maxRecDepth 65536 in
set_option maxHeartbeats 40000000 in
theorem own_p38f {p : Program} {l : Launch} {e : Env} {R : Room} {s : State} {m : MethodId} {args : Array Value} {below : List Frame} {meth : Method} {c : Code} {T0 : State} {locs : List Loc} {cells slots : Nat} {Z : State} {a0 : Array Value} {h0 : Heap} (s0 : Slot) (s1 : Slot) (s2 : Slot) (s3 : Slot) (o4 : Addr) (o5 : Addr) (s6 : Slot) (s7 : Slot) (i8 : Int32) (cl_o5 : Cell) (cl_o4 : Cell) (w : Addr) (cl_w : Cell)
    (X0 : Stand p l e R s m args below meth c T0 locs cells slots) (hx : p.tables.exec = Jvm.exec) (hZ : Z.Warmed39 s.vm) (hw : ∀ d ∈ tables_1, d.before a0 Z = true) (hby : c.code = prog_41_method_3_code) (hml : c.maxLocals = 9) (hown : s.vm.findClass "com/example/runner_bean/runnerbean/service/PublishedSingletons" = some m.cls) (e0 : T0.heap = h0) (Ar_o5 : Arr Z h0 o5 cl_o5 (.array (.object "java/lang/Object"))) (hin42 : ¬ (i8 < 0 ∨ cl_o5.slots.size ≤ (i8).toNatClampNeg)) (hat42 : cl_o5.slots[(i8).toNatClampNeg]? = some (.ref w)) (Ar_o4 : Arr Z h0 o4 cl_o4 (.array (.object "java/lang/Object"))) (hin47 : ¬ (i8 < 0 ∨ cl_o4.slots.size ≤ (i8).toNatClampNeg)) (hat47 : cl_o4.slots[(i8).toNatClampNeg]? = some (.ref w)) (hin59 : ¬ (i8 < 0 ∨ cl_o4.slots.size ≤ (i8).toNatClampNeg)) (hat59 : cl_o4.slots[(i8).toNatClampNeg]? = some (.ref w)) (hin66 : ¬ (i8 < 0 ∨ cl_o5.slots.size ≤ (i8).toNatClampNeg)) (Ar_w : Arr Z h0 w cl_w (.object "java/lang/Object")) (Ex_w : Exa Z h0 w "[Ljava/lang/Object;") (Fi_w : FitC Z cl_w) (hcapw : cl_w.slots.size ≤ 64) (hO : OvrA Z cl_o5.cls (.object "java/lang/Object") "[Ljava/lang/Object;") (hRf : 1 ≤ R.frames) (hRl : 2 + 14 ≤ R.locals) (hRc : cells + 1 ≤ R.cells) (hRs : slots + 64 ≤ R.slots) :
    ∃ (T' : State) (h' : Heap), Stand p l e R s m args below meth c T' (locs ++ [⟨o5, (i8).toNatClampNeg⟩]) (cells + 1) (slots + 64) ∧ T'.heap = h' ∧ (∃ h1 : Heap, Ext h0 h1 ∧ Arr Z h1 h0.size (cloneOf cl_w) (.object "java/lang/Object") ∧ Exa Z h1 h0.size "[Ljava/lang/Object;" ∧ Wr h1 h' o5 (i8).toNatClampNeg (.ref h0.size)) ∧
      ∀ target, Steps p.tables e below (T'.setTop (mkF m 67 #[s0, s1, s2, s3, .val (.ref o4), .val (.ref o5), s6, s7, .val (.int i8)] [])) target → Steps p.tables e below (T0.setTop (mkF m 38 #[s0, s1, s2, s3, .val (.ref o4), .val (.ref o5), s6, s7, .val (.int i8)] [])) target := by
  -- 3. LAWS
  obtain ⟨T5, h5, X5, e5, E5, A5, B5, st5⟩ := cloneA X0 hx hZ hown (hw _ (List.mem_of_getElem? (i := 51) rfl)) (hw _ (List.mem_of_getElem? (i := 52) rfl)) (hw _ (List.mem_of_getElem? (i := 47) rfl)) (hw _ (List.mem_of_getElem? (i := 45) rfl)) (hw _ (List.mem_of_getElem? (i := 53) rfl)) (hw _ (List.mem_of_getElem? (i := 54) rfl)) e0 Ar_w Ex_w Fi_w (g := (mkF m 60 #[s0, s1, s2, s3, .val (.ref o4), .val (.ref o5), s6, s7, .val (.int i8)] [(.ref w), (.int i8), (.ref o5)])) rfl (by rw [hml]; rfl) rfl (hb hby d6_60) hRf (W := 2) (cap := 64) (by show 2 * 0 + _ ≤ _; exact Nat.le_of_eq rfl) hRl hcapw hRc hRs
  obtain ⟨b5, g5⟩ : ∃ z, z = h0.size := ⟨_, rfl⟩
  rw [← g5] at A5 B5 st5
  have sz_b5 : h0.size ≤ b5 := (Nat.le_trans (Keep.refl h0 [o5]).1 (Nat.le_of_eq g5.symm))
  have K5 : Keep h0 h5 [o5] := (Keep.refl h0 [o5]).ext E5
  obtain ⟨T6, X6, e6, st6⟩ := castY X5 hx hZ hown (hw _ (List.mem_of_getElem? (i := 21) rfl)) e5 (Ins.self B5) (g := (mkF m 63 #[s0, s1, s2, s3, .val (.ref o4), .val (.ref o5), s6, s7, .val (.int i8)] [(.ref b5), (.int i8), (.ref o5)])) rfl rfl (hb hby d6_63)
  -- ✋ yours: Ar_o5 must speak of h5 here (Ar.other W.. | .ext E..)
  -- Sto66: the object may lie in that array: Sto.of Ar.. (an 'Ovr', by the sheet's words) (an 'Ins' of its class), Shelf42/RW6; carried by Sto.ext E.. | Sto.wr W..
  have ArE := Ar_o5.ext E5
  have Sto66 : Sto Z h5 o5 (.ref b5) := Sto.ofVA ArE rfl hO (Ins.self B5)
  obtain ⟨T7, h7, X7, e7, W7, st7⟩ := stR X6 hx hZ e6 ArE (j := i8) hin66 rfl Sto66 (g := (mkF m 66 #[s0, s1, s2, s3, .val (.ref o4), .val (.ref o5), s6, s7, .val (.int i8)] [(.ref b5), (.int i8), (.ref o5)])) rfl rfl (hb hby d6_66)
  -- Ar_o5.same W7 : the array with (.ref b5) at the place i8
  have K7 : Keep h0 h7 [o5] := K5.wr W7 (Or.inl (List.mem_of_getElem? (i := 0) rfl))
  refine ⟨T7, _, X7, e7, ⟨h5, E5, by rw [← g5]; exact A5, by rw [← g5]; exact B5, by rw [← g5]; exact W7⟩, fun target kt => ?_⟩
  -- 4. STEPS
  show Steps p.tables e below (T0.setTop (mkF m 38 #[s0, s1, s2, s3, .val (.ref o4), .val (.ref o5), s6, s7, .val (.int i8)] [])) _
  refine XS.aload X0.here hx rfl (hb hby d6_38) rfl rfl ?_
  show Steps p.tables e below (T0.setTop (mkF m 40 #[s0, s1, s2, s3, .val (.ref o4), .val (.ref o5), s6, s7, .val (.int i8)] [(.ref o5)])) _
  refine XS.iload X0.here hx rfl (hb hby d6_40) rfl ?_
  show Steps p.tables e below (T0.setTop (mkF m 42 #[s0, s1, s2, s3, .val (.ref o4), .val (.ref o5), s6, s7, .val (.int i8)] [(.int i8), (.ref o5)])) _
  refine X0.aaload hx (j := i8) (v := (.ref w)) (by rw [e0]; exact Ar_o5.1) (State.isArrayOf_alike hZ.alike Ar_o5.2.1) rfl Ar_o5.2.2 hin42 hat42 (g := (mkF m 42 #[s0, s1, s2, s3, .val (.ref o4), .val (.ref o5), s6, s7, .val (.int i8)] [(.int i8), (.ref o5)])) rfl rfl (hb hby d6_42) _ ?_
  show Steps p.tables e below (T0.setTop (mkF m 43 #[s0, s1, s2, s3, .val (.ref o4), .val (.ref o5), s6, s7, .val (.int i8)] [(.ref w)])) _
  refine XS.aload X0.here hx rfl (hb hby d6_43) rfl rfl ?_
  show Steps p.tables e below (T0.setTop (mkF m 45 #[s0, s1, s2, s3, .val (.ref o4), .val (.ref o5), s6, s7, .val (.int i8)] [(.ref o4), (.ref w)])) _
  refine XS.iload X0.here hx rfl (hb hby d6_45) rfl ?_
  show Steps p.tables e below (T0.setTop (mkF m 47 #[s0, s1, s2, s3, .val (.ref o4), .val (.ref o5), s6, s7, .val (.int i8)] [(.int i8), (.ref o4), (.ref w)])) _
  refine X0.aaload hx (j := i8) (v := (.ref w)) (by rw [e0]; exact Ar_o4.1) (State.isArrayOf_alike hZ.alike Ar_o4.2.1) rfl Ar_o4.2.2 hin47 hat47 (g := (mkF m 47 #[s0, s1, s2, s3, .val (.ref o4), .val (.ref o5), s6, s7, .val (.int i8)] [(.int i8), (.ref o4), (.ref w)])) rfl rfl (hb hby d6_47) _ ?_
  show Steps p.tables e below (T0.setTop (mkF m 48 #[s0, s1, s2, s3, .val (.ref o4), .val (.ref o5), s6, s7, .val (.int i8)] [(.ref w), (.ref w)])) _
  refine Jvm.RoadKit.acmp (g := (mkF m 48 #[s0, s1, s2, s3, .val (.ref o4), .val (.ref o5), s6, s7, .val (.int i8)] [(.ref w), (.ref w)])) X0 hx rfl rfl rfl (pc0 := 48) (pc' := 51) (same := true) rfl (hb hby d6_48) rfl (decide_eq_true rfl) (by decide) (by decide) ?_
  show Steps p.tables e below (T0.setTop (mkF m 51 #[s0, s1, s2, s3, .val (.ref o4), .val (.ref o5), s6, s7, .val (.int i8)] [])) _
  refine XS.aload X0.here hx rfl (hb hby d6_51) rfl rfl ?_
  show Steps p.tables e below (T0.setTop (mkF m 53 #[s0, s1, s2, s3, .val (.ref o4), .val (.ref o5), s6, s7, .val (.int i8)] [(.ref o5)])) _
  refine XS.iload X0.here hx rfl (hb hby d6_53) rfl ?_
  show Steps p.tables e below (T0.setTop (mkF m 55 #[s0, s1, s2, s3, .val (.ref o4), .val (.ref o5), s6, s7, .val (.int i8)] [(.int i8), (.ref o5)])) _
  refine XS.aload X0.here hx rfl (hb hby d6_55) rfl rfl ?_
  show Steps p.tables e below (T0.setTop (mkF m 57 #[s0, s1, s2, s3, .val (.ref o4), .val (.ref o5), s6, s7, .val (.int i8)] [(.ref o4), (.int i8), (.ref o5)])) _
  refine XS.iload X0.here hx rfl (hb hby d6_57) rfl ?_
  show Steps p.tables e below (T0.setTop (mkF m 59 #[s0, s1, s2, s3, .val (.ref o4), .val (.ref o5), s6, s7, .val (.int i8)] [(.int i8), (.ref o4), (.int i8), (.ref o5)])) _
  refine X0.aaload hx (j := i8) (v := (.ref w)) (by rw [e0]; exact Ar_o4.1) (State.isArrayOf_alike hZ.alike Ar_o4.2.1) rfl Ar_o4.2.2 hin59 hat59 (g := (mkF m 59 #[s0, s1, s2, s3, .val (.ref o4), .val (.ref o5), s6, s7, .val (.int i8)] [(.int i8), (.ref o4), (.int i8), (.ref o5)])) rfl rfl (hb hby d6_59) _ ?_
  show Steps p.tables e below (T0.setTop (mkF m 60 #[s0, s1, s2, s3, .val (.ref o4), .val (.ref o5), s6, s7, .val (.int i8)] [(.ref w), (.int i8), (.ref o5)])) _
  refine st5 _ ?_
  show Steps p.tables e below (T5.setTop (mkF m 63 #[s0, s1, s2, s3, .val (.ref o4), .val (.ref o5), s6, s7, .val (.int i8)] [(.ref b5), (.int i8), (.ref o5)])) _
  refine st6 _ ?_
  show Steps p.tables e below (T6.setTop (mkF m 66 #[s0, s1, s2, s3, .val (.ref o4), .val (.ref o5), s6, s7, .val (.int i8)] [(.ref b5), (.int i8), (.ref o5)])) _
  refine st7 _ ?_
  exact kt
set_option maxRecDepth 65536 in
set_option maxHeartbeats 40000000 in
theorem own_p38t {p : Program} {l : Launch} {e : Env} {R : Room} {s : State} {m : MethodId} {args : Array Value} {below : List Frame} {meth : Method} {c : Code} {T0 : State} {locs : List Loc} {cells slots : Nat} {Z : State} {a0 : Array Value} {h0 : Heap} (s0 : Slot) (s1 : Slot) (s2 : Slot) (s3 : Slot) (o4 : Addr) (o5 : Addr) (s6 : Slot) (s7 : Slot) (i8 : Int32) (cl_o5 : Cell) (cl_o4 : Cell) (x : Addr) (w : Addr)
    (X0 : Stand p l e R s m args below meth c T0 locs cells slots) (hx : p.tables.exec = Jvm.exec) (hZ : Z.Warmed39 s.vm) (hw : ∀ d ∈ tables_1, d.before a0 Z = true) (hby : c.code = prog_41_method_3_code) (hml : c.maxLocals = 9) (hown : s.vm.findClass "com/example/runner_bean/runnerbean/service/PublishedSingletons" = some m.cls) (e0 : T0.heap = h0) (Ar_o5 : Arr Z h0 o5 cl_o5 (.array (.object "java/lang/Object"))) (hin42 : ¬ (i8 < 0 ∨ cl_o5.slots.size ≤ (i8).toNatClampNeg)) (hat42 : cl_o5.slots[(i8).toNatClampNeg]? = some (.ref x)) (Ar_o4 : Arr Z h0 o4 cl_o4 (.array (.object "java/lang/Object"))) (hin47 : ¬ (i8 < 0 ∨ cl_o4.slots.size ≤ (i8).toNatClampNeg)) (hat47 : cl_o4.slots[(i8).toNatClampNeg]? = some (.ref w)) (ha48 : ¬ (x = w)) :
    ∃ (T' : State), Stand p l e R s m args below meth c T' locs cells slots ∧ T'.heap = h0 ∧
      ∀ target, Steps p.tables e below (T'.setTop (mkF m 67 #[s0, s1, s2, s3, .val (.ref o4), .val (.ref o5), s6, s7, .val (.int i8)] [])) target → Steps p.tables e below (T0.setTop (mkF m 38 #[s0, s1, s2, s3, .val (.ref o4), .val (.ref o5), s6, s7, .val (.int i8)] [])) target := by
  -- 3. LAWS

  refine ⟨T0, X0, e0, fun target kt => ?_⟩
  -- 4. STEPS
  show Steps p.tables e below (T0.setTop (mkF m 38 #[s0, s1, s2, s3, .val (.ref o4), .val (.ref o5), s6, s7, .val (.int i8)] [])) _
  refine XS.aload X0.here hx rfl (hb hby d6_38) rfl rfl ?_
  show Steps p.tables e below (T0.setTop (mkF m 40 #[s0, s1, s2, s3, .val (.ref o4), .val (.ref o5), s6, s7, .val (.int i8)] [(.ref o5)])) _
  refine XS.iload X0.here hx rfl (hb hby d6_40) rfl ?_
  show Steps p.tables e below (T0.setTop (mkF m 42 #[s0, s1, s2, s3, .val (.ref o4), .val (.ref o5), s6, s7, .val (.int i8)] [(.int i8), (.ref o5)])) _
  refine X0.aaload hx (j := i8) (v := (.ref x)) (by rw [e0]; exact Ar_o5.1) (State.isArrayOf_alike hZ.alike Ar_o5.2.1) rfl Ar_o5.2.2 hin42 hat42 (g := (mkF m 42 #[s0, s1, s2, s3, .val (.ref o4), .val (.ref o5), s6, s7, .val (.int i8)] [(.int i8), (.ref o5)])) rfl rfl (hb hby d6_42) _ ?_
  show Steps p.tables e below (T0.setTop (mkF m 43 #[s0, s1, s2, s3, .val (.ref o4), .val (.ref o5), s6, s7, .val (.int i8)] [(.ref x)])) _
  refine XS.aload X0.here hx rfl (hb hby d6_43) rfl rfl ?_
  show Steps p.tables e below (T0.setTop (mkF m 45 #[s0, s1, s2, s3, .val (.ref o4), .val (.ref o5), s6, s7, .val (.int i8)] [(.ref o4), (.ref x)])) _
  refine XS.iload X0.here hx rfl (hb hby d6_45) rfl ?_
  show Steps p.tables e below (T0.setTop (mkF m 47 #[s0, s1, s2, s3, .val (.ref o4), .val (.ref o5), s6, s7, .val (.int i8)] [(.int i8), (.ref o4), (.ref x)])) _
  refine X0.aaload hx (j := i8) (v := (.ref w)) (by rw [e0]; exact Ar_o4.1) (State.isArrayOf_alike hZ.alike Ar_o4.2.1) rfl Ar_o4.2.2 hin47 hat47 (g := (mkF m 47 #[s0, s1, s2, s3, .val (.ref o4), .val (.ref o5), s6, s7, .val (.int i8)] [(.int i8), (.ref o4), (.ref x)])) rfl rfl (hb hby d6_47) _ ?_
  show Steps p.tables e below (T0.setTop (mkF m 48 #[s0, s1, s2, s3, .val (.ref o4), .val (.ref o5), s6, s7, .val (.int i8)] [(.ref w), (.ref x)])) _
  refine Jvm.RoadKit.acmp (g := (mkF m 48 #[s0, s1, s2, s3, .val (.ref o4), .val (.ref o5), s6, s7, .val (.int i8)] [(.ref w), (.ref x)])) X0 hx rfl rfl rfl (pc0 := 48) (pc' := 67) (same := false) rfl (hb hby d6_48) rfl (decide_eq_false fun q => ha48 (Value.ref.inj q)) (by decide) (by decide) ?_
  exact kt
theorem d6_67 : decode prog_41_method_3_code 67 = .ok (.aload 5, 2) := by decide +kernel
theorem d6_69 : decode prog_41_method_3_code 69 = .ok (.iload 8, 2) := by decide +kernel
theorem d6_71 : decode prog_41_method_3_code 71 = .ok (.aaload, 1) := by decide +kernel
theorem d6_72 : decode prog_41_method_3_code 72 = .ok (.iload 7, 2) := by decide +kernel
theorem d6_74 : decode prog_41_method_3_code 74 = .ok (.bipush 63, 2) := by decide +kernel
theorem d6_76 : decode prog_41_method_3_code 76 = .ok (.iand, 1) := by decide +kernel
theorem d6_77 : decode prog_41_method_3_code 77 = .ok (.aload_n 3, 1) := by decide +kernel
theorem d6_78 : decode prog_41_method_3_code 78 = .ok (.iload 7, 2) := by decide +kernel
theorem d6_80 : decode prog_41_method_3_code 80 = .ok (.aaload, 1) := by decide +kernel
theorem d6_81 : decode prog_41_method_3_code 81 = .ok (.aastore, 1) := by decide +kernel
theorem d6_82 : decode prog_41_method_3_code 82 = .ok (.iinc 6 1, 3) := by decide +kernel
theorem d6_85 : decode prog_41_method_3_code 85 = .ok (.goto (-66), 3) := by decide +kernel
set_option maxRecDepth 65536 in
set_option maxHeartbeats 40000000 in
theorem own_p67 {p : Program} {l : Launch} {e : Env} {R : Room} {s : State} {m : MethodId} {args : Array Value} {below : List Frame} {meth : Method} {c : Code} {T0 : State} {locs : List Loc} {cells slots : Nat} {Z : State} {a0 : Array Value} {h0 : Heap} (s0 : Slot) (s1 : Slot) (s2 : Slot) (o3 : Addr) (s4 : Slot) (o5 : Addr) (i6 : Int32) (i7 : Int32) (i8 : Int32) (cl_o5 : Cell) (cl_o3 : Cell) (cl_x : Cell) (x : Addr) (vO : Value)
    (X0 : Stand p l e R s m args below meth c T0 locs cells slots) (hx : p.tables.exec = Jvm.exec) (hZ : Z.Warmed39 s.vm) (hw : ∀ d ∈ tables_1, d.before a0 Z = true) (hby : c.code = prog_41_method_3_code) (hml : c.maxLocals = 9) (hown : s.vm.findClass "com/example/runner_bean/runnerbean/service/PublishedSingletons" = some m.cls) (e0 : T0.heap = h0) (Ar_o5 : Arr Z h0 o5 cl_o5 (.array (.object "java/lang/Object"))) (hin71 : ¬ (i8 < 0 ∨ cl_o5.slots.size ≤ (i8).toNatClampNeg)) (hat71 : cl_o5.slots[(i8).toNatClampNeg]? = some (.ref x)) (Ar_o3 : Arr Z h0 o3 cl_o3 (.object "java/lang/Object")) (hin80 : ¬ (i7 < 0 ∨ cl_o3.slots.size ≤ (i7).toNatClampNeg)) (hat80 : cl_o3.slots[(i7).toNatClampNeg]? = some vO) (Ar_x : Arr Z h0 x cl_x (.object "java/lang/Object")) (hin81 : ¬ ((i7 &&& (63 : Int32)) < 0 ∨ cl_x.slots.size ≤ ((i7 &&& (63 : Int32))).toNatClampNeg)) (Sto81 : Sto Z h0 x vO) :
    ∃ (T' : State) (h' : Heap), Stand p l e R s m args below meth c T' (locs ++ [⟨x, ((i7 &&& (63 : Int32))).toNatClampNeg⟩]) cells slots ∧ T'.heap = h' ∧ Wr h0 h' x ((i7 &&& (63 : Int32))).toNatClampNeg vO ∧
      ∀ target, Steps p.tables e below (T'.setTop (mkF m 19 #[s0, s1, s2, .val (.ref o3), s4, .val (.ref o5), .val (.int (i6 + (1 : Int32))), .val (.int i7), .val (.int i8)] [])) target → Steps p.tables e below (T0.setTop (mkF m 67 #[s0, s1, s2, .val (.ref o3), s4, .val (.ref o5), .val (.int i6), .val (.int i7), .val (.int i8)] [])) target := by
  -- 3. LAWS
  -- Sto81: the object may lie in that array: Sto.of Ar.. (an 'Ovr', by the sheet's words) (an 'Ins' of its class), Shelf42/RW6; carried by Sto.ext E.. | Sto.wr W..
  obtain ⟨T5, h5, X5, e5, W5, st5⟩ := stR X0 hx hZ e0 Ar_x (j := (i7 &&& (63 : Int32))) hin81 rfl Sto81 (g := (mkF m 81 #[s0, s1, s2, .val (.ref o3), s4, .val (.ref o5), .val (.int i6), .val (.int i7), .val (.int i8)] [vO, (.int (i7 &&& (63 : Int32))), (.ref x)])) rfl rfl (hb hby d6_81)
  -- Ar_x.same W5 : the array with vO at the place (i7 &&& (63 : Int32))
  have K5 : Keep h0 h5 [x] := (Keep.refl h0 [x]).wr W5 (Or.inl (List.mem_of_getElem? (i := 0) rfl))
  refine ⟨T5, _, X5, e5, W5, fun target kt => ?_⟩
  -- 4. STEPS
  show Steps p.tables e below (T0.setTop (mkF m 67 #[s0, s1, s2, .val (.ref o3), s4, .val (.ref o5), .val (.int i6), .val (.int i7), .val (.int i8)] [])) _
  refine XS.aload X0.here hx rfl (hb hby d6_67) rfl rfl ?_
  show Steps p.tables e below (T0.setTop (mkF m 69 #[s0, s1, s2, .val (.ref o3), s4, .val (.ref o5), .val (.int i6), .val (.int i7), .val (.int i8)] [(.ref o5)])) _
  refine XS.iload X0.here hx rfl (hb hby d6_69) rfl ?_
  show Steps p.tables e below (T0.setTop (mkF m 71 #[s0, s1, s2, .val (.ref o3), s4, .val (.ref o5), .val (.int i6), .val (.int i7), .val (.int i8)] [(.int i8), (.ref o5)])) _
  refine X0.aaload hx (j := i8) (v := (.ref x)) (by rw [e0]; exact Ar_o5.1) (State.isArrayOf_alike hZ.alike Ar_o5.2.1) rfl Ar_o5.2.2 hin71 hat71 (g := (mkF m 71 #[s0, s1, s2, .val (.ref o3), s4, .val (.ref o5), .val (.int i6), .val (.int i7), .val (.int i8)] [(.int i8), (.ref o5)])) rfl rfl (hb hby d6_71) _ ?_
  show Steps p.tables e below (T0.setTop (mkF m 72 #[s0, s1, s2, .val (.ref o3), s4, .val (.ref o5), .val (.int i6), .val (.int i7), .val (.int i8)] [(.ref x)])) _
  refine XS.iload X0.here hx rfl (hb hby d6_72) rfl ?_
  show Steps p.tables e below (T0.setTop (mkF m 74 #[s0, s1, s2, .val (.ref o3), s4, .val (.ref o5), .val (.int i6), .val (.int i7), .val (.int i8)] [(.int i7), (.ref x)])) _
  refine XS.bipush X0.here hx rfl (hb hby d6_74) ?_
  show Steps p.tables e below (T0.setTop (mkF m 76 #[s0, s1, s2, .val (.ref o3), s4, .val (.ref o5), .val (.int i6), .val (.int i7), .val (.int i8)] [(.int (63 : Int32)), (.int i7), (.ref x)])) _
  refine XS.iand X0.here hx rfl (hb hby d6_76) rfl ?_
  show Steps p.tables e below (T0.setTop (mkF m 77 #[s0, s1, s2, .val (.ref o3), s4, .val (.ref o5), .val (.int i6), .val (.int i7), .val (.int i8)] [(.int (i7 &&& (63 : Int32))), (.ref x)])) _
  refine XS.aloadN X0.here hx rfl (hb hby d6_77) rfl rfl ?_
  show Steps p.tables e below (T0.setTop (mkF m 78 #[s0, s1, s2, .val (.ref o3), s4, .val (.ref o5), .val (.int i6), .val (.int i7), .val (.int i8)] [(.ref o3), (.int (i7 &&& (63 : Int32))), (.ref x)])) _
  refine XS.iload X0.here hx rfl (hb hby d6_78) rfl ?_
  show Steps p.tables e below (T0.setTop (mkF m 80 #[s0, s1, s2, .val (.ref o3), s4, .val (.ref o5), .val (.int i6), .val (.int i7), .val (.int i8)] [(.int i7), (.ref o3), (.int (i7 &&& (63 : Int32))), (.ref x)])) _
  refine X0.aaload hx (j := i7) (v := vO) (by rw [e0]; exact Ar_o3.1) (State.isArrayOf_alike hZ.alike Ar_o3.2.1) rfl Ar_o3.2.2 hin80 hat80 (g := (mkF m 80 #[s0, s1, s2, .val (.ref o3), s4, .val (.ref o5), .val (.int i6), .val (.int i7), .val (.int i8)] [(.int i7), (.ref o3), (.int (i7 &&& (63 : Int32))), (.ref x)])) rfl rfl (hb hby d6_80) _ ?_
  show Steps p.tables e below (T0.setTop (mkF m 81 #[s0, s1, s2, .val (.ref o3), s4, .val (.ref o5), .val (.int i6), .val (.int i7), .val (.int i8)] [vO, (.int (i7 &&& (63 : Int32))), (.ref x)])) _
  refine st5 _ ?_
  show Steps p.tables e below (T5.setTop (mkF m 82 #[s0, s1, s2, .val (.ref o3), s4, .val (.ref o5), .val (.int i6), .val (.int i7), .val (.int i8)] [])) _
  refine XS.iinc X5.here hx rfl (hb hby d6_82) rfl (l' := #[s0, s1, s2, .val (.ref o3), s4, .val (.ref o5), .val (.int (i6 + (1 : Int32))), .val (.int i7), .val (.int i8)]) rfl ?_
  show Steps p.tables e below (T5.setTop (mkF m 85 #[s0, s1, s2, .val (.ref o3), s4, .val (.ref o5), .val (.int (i6 + (1 : Int32))), .val (.int i7), .val (.int i8)] [])) _
  refine XS.goto X5.here hx rfl (pc0 := 85) (pc' := 19) rfl (hb hby d6_85) (by decide) (by decide) ?_
  exact kt
set_option maxHeartbeats 40000000 in
theorem own_turn {p : Program} {l : Launch} {e : Env} {R : Room} {s : State} {m : MethodId} {args : Array Value} {below : List Frame} {meth : Method} {c : Code} {Z : State} {a0 : Array Value} (hx : p.tables.exec = Jvm.exec) (hZ : Z.Warmed39 s.vm) (hw : ∀ d ∈ tables_1, d.before a0 Z = true) (hby : c.code = prog_41_method_3_code) (hml : c.maxLocals = 9) (hown : s.vm.findClass "com/example/runner_bean/runnerbean/service/PublishedSingletons" = some m.cls) {h0 : Heap} {n0 n N : Nat} {kc : ClassId} {w : Nat → Addr} {P f : Nat → Value} {a1 be ob ch c2 : Addr} {cb : Cell} (hn0 : n0 ≤ h0.size) (hn : n ≤ 4) (hN : N ≤ 2) (Tc : own_Tb Z h0 ch kc n w) (Oc : OvrA Z kc (.object "java/lang/Object") "[Ljava/lang/Object;") (Cs : ∀ i, i < n → own_Ch Z h0 (w i) P i) (hR : ∀ k, (P k).isRef = true) (Ab : Arr Z h0 be cb .int) (zb : cb.slots.size < 10) (Oa : own_Oa Z h0 ob f) (Rf : own_Rf Z h0 f) (hRf : 1 ≤ R.frames) (hRl : 2 + 14 ≤ R.locals)
    {T : State} {locs : List Loc} {cells slots i b : Nat} {h : Heap} {w' : Nat → Addr} {P' : Nat → Value} {s7 s8 : Slot} (X : Stand p l e R s m args below meth c T locs cells slots) (eT : T.heap = h) (NF : Fr n0 locs) (I : own_Inv Z h0 h c2 kc n w w' P P') (hi : i < N) (hiz : i < cb.slots.size) (hb_ : b < 64 * n) (hat : cb.slots[i]? = some (.int (Int32.ofNat b))) (hs7 : One s7) (hs8 : One s8) (hRc : cells + 1 ≤ R.cells) (hRs : slots + 64 ≤ R.slots) :
    ∃ (T' : State) (h' : Heap) (locs' : List Loc) (cells' slots' : Nat) (w'' : Nat → Addr) (s7' s8' : Slot), Stand p l e R s m args below meth c T' locs' cells' slots' ∧ T'.heap = h' ∧ Fr n0 locs' ∧ cells' ≤ cells + 1 ∧ slots' ≤ slots + 64 ∧ own_Inv Z h0 h' c2 kc n w w'' P (own_set P' b (f b)) ∧ One s7' ∧ One s8' ∧
      ∀ target, Steps p.tables e below (T'.setTop (mkF m 19 #[.val (.ref a1), .val (.ref be), .val (.int (Int32.ofNat N)), .val (.ref ob), .val (.ref ch), .val (.ref c2), .val (.int (Int32.ofNat (i + 1))), s7', s8'] [])) target → Steps p.tables e below (T.setTop (mkF m 19 #[.val (.ref a1), .val (.ref be), .val (.int (Int32.ofNat N)), .val (.ref ob), .val (.ref ch), .val (.ref c2), .val (.int (Int32.ofNat i)), s7, s8] [])) target := by
  have wl : ∀ k, k < n → w k < h0.size := fun k hk => (Cs k hk).lt
  have hc : b / 64 < n := by omega
  have ec : (((Int32.ofNat b).toUInt32 >>> ((6 : Int32) &&& 31).toUInt32).toInt32) = Int32.ofNat (b / 64) := own_sh6 (by omega)
  have ej : (Int32.ofNat b &&& (63 : Int32)) = Int32.ofNat (b % 64) := own_and63 (by omega)
  have K := I.1
  have g2 := I.2.1
  have hin28 : ¬ (Int32.ofNat i < 0 ∨ cb.slots.size ≤ (Int32.ofNat i).toNatClampNeg) := idx_in hiz (by omega)
  have hat28 : cb.slots[(Int32.ofNat i).toNatClampNeg]? = some (.int (Int32.ofNat b)) := by rw [own_clamp (by omega)]; exact hat
  obtain ⟨T1, X1, e1, st1⟩ := own_p19 (.val (.ref a1)) be (Int32.ofNat N) (.val (.ref ob)) (.val (.ref ch)) (.val (.ref c2)) (Int32.ofNat i) s7 s8 cb (Int32.ofNat b) X hx hZ hw hby hml hown eT (own_arrKeep Ab K nin0) hin28 hat28 hs7 hs8 (own_ltI hi (by omega))
  rw [ec] at st1
  obtain ⟨cn, An, Xn, kn, zn, fn⟩ := I.2.2.1
  obtain ⟨cc, Ac, Xc, kcc, zc, fc⟩ := Tc.keep K nin0
  have hinN : ¬ (Int32.ofNat (b / 64) < 0 ∨ cn.slots.size ≤ (Int32.ofNat (b / 64)).toNatClampNeg) := by rw [zn]; exact idx_in hc (by omega)
  have hatN : cn.slots[(Int32.ofNat (b / 64)).toNatClampNeg]? = some (.ref (w' (b / 64))) := by rw [own_clamp (by omega)]; exact fn _ hc
  have hinC : ¬ (Int32.ofNat (b / 64) < 0 ∨ cc.slots.size ≤ (Int32.ofNat (b / 64)).toNatClampNeg) := by rw [zc]; exact idx_in hc (by omega)
  have hatC : cc.slots[(Int32.ofNat (b / 64)).toNatClampNeg]? = some (.ref (w (b / 64))) := by rw [own_clamp (by omega)]; exact fc _ hc
  have HB : ∃ (T2 : State) (h2 : Heap) (L2 : List Loc) (c2' s2' : Nat) (w2 : Nat → Addr), Stand p l e R s m args below meth c T2 L2 c2' s2' ∧ T2.heap = h2 ∧ Fr n0 L2 ∧ c2' ≤ cells + 1 ∧ s2' ≤ slots + 64 ∧ own_Inv Z h0 h2 c2 kc n w w2 P P' ∧ h0.size ≤ w2 (b / 64) ∧ ∀ target, Steps p.tables e below (T2.setTop (mkF m 67 #[.val (.ref a1), .val (.ref be), .val (.int (Int32.ofNat N)), .val (.ref ob), .val (.ref ch), .val (.ref c2), .val (.int (Int32.ofNat i)), .val (.int (Int32.ofNat b)), .val (.int (Int32.ofNat (b / 64)))] [])) target → Steps p.tables e below (T1.setTop (mkF m 38 #[.val (.ref a1), .val (.ref be), .val (.int (Int32.ofNat N)), .val (.ref ob), .val (.ref ch), .val (.ref c2), .val (.int (Int32.ofNat i)), .val (.int (Int32.ofNat b)), .val (.int (Int32.ofNat (b / 64)))] [])) target := by
    by_cases q : w' (b / 64) = w (b / 64)
    · obtain ⟨cw, Aw, Xw, Ow, zw, fw⟩ := (Cs (b / 64) hc).keep K nin0
      have Fi : FitC Z cw := fitC_of Aw fun k hk v hv => by
        rw [fw k (by omega)] at hv
        cases hv
        have := hR (64 * (b / 64) + k)
        generalize P (64 * (b / 64) + k) = z at this ⊢
        cases z <;> first | rfl | (simp [Value.isRef] at this)
      have Oc' : OvrA Z cn.cls (.object "java/lang/Object") "[Ljava/lang/Object;" := by rw [kn]; exact Oc
      obtain ⟨T2, h2, X2, e2, ⟨h1, E1, A1, B1, W1⟩, st2⟩ := own_p38f (.val (.ref a1)) (.val (.ref be)) (.val (.int (Int32.ofNat N))) (.val (.ref ob)) ch c2 (.val (.int (Int32.ofNat i))) (.val (.int (Int32.ofNat b))) (Int32.ofNat (b / 64)) cn cc (w (b / 64)) cw X1 hx hZ hw hby hml hown e1 An hinN (by rw [← q]; exact hatN) Ac hinC hatC hinC hatC hinN Aw Xw Fi (by omega) Oc' hRf hRl hRc hRs
      have W1' : Wr h1 h2 c2 (b / 64) (.ref h.size) := by
        have z := W1
        rw [own_clamp (by omega)] at z
        exact z
      obtain ⟨I2, gc⟩ := I.stepB wl hc q E1 ⟨cloneOf cw, A1, B1, Ow, zw, fw⟩ W1'
      exact ⟨T2, h2, _, _, _, _, X2, e2, Fr.snoc X2 NF (Nat.le_trans hn0 g2), Nat.le_refl _, Nat.le_refl _, I2, gc, st2⟩
    · obtain ⟨T2, X2, e2, st2⟩ := own_p38t (.val (.ref a1)) (.val (.ref be)) (.val (.int (Int32.ofNat N))) (.val (.ref ob)) ch c2 (.val (.int (Int32.ofNat i))) (.val (.int (Int32.ofNat b))) (Int32.ofNat (b / 64)) cn cc (w' (b / 64)) (w (b / 64)) X1 hx hZ hw hby hml hown e1 An hinN hatN Ac hinC hatC q
      have gc : h0.size ≤ w' (b / 64) := by
        rcases I.2.2.2.1 (b / 64) hc with ⟨r, -⟩ | ⟨r, -⟩
        · exact absurd r q
        · exact r
      exact ⟨T2, h, _, _, _, w', X2, e2, NF, Nat.le_succ _, Nat.le_add_right _ _, I, gc, st2⟩
  obtain ⟨T2, h2, L2, c2', s2', w2, X2, e2, N2, hc2, hs2, I2, gc, st2⟩ := HB
  obtain ⟨cn2, An2, Xn2, kn2, zn2, fn2⟩ := I2.2.2.1
  have hin71 : ¬ (Int32.ofNat (b / 64) < 0 ∨ cn2.slots.size ≤ (Int32.ofNat (b / 64)).toNatClampNeg) := by rw [zn2]; exact idx_in hc (by omega)
  have hat71 : cn2.slots[(Int32.ofNat (b / 64)).toNatClampNeg]? = some (.ref (w2 (b / 64))) := by rw [own_clamp (by omega)]; exact fn2 _ hc
  obtain ⟨co, Ao, Oo, zo, fo⟩ := Oa.keep I2.1 nin0
  have hin80 : ¬ (Int32.ofNat b < 0 ∨ co.slots.size ≤ (Int32.ofNat b).toNatClampNeg) := by rw [zo]; exact idx_in (by omega) (by decide)
  have hat80 : co.slots[(Int32.ofNat b).toNatClampNeg]? = some (f b) := by rw [own_clamp (by omega)]; exact fo _ (by omega)
  have Hx : own_Ch Z h2 (w2 (b / 64)) P' (b / 64) := by
    rcases I2.2.2.2.1 (b / 64) hc with ⟨r, -⟩ | ⟨-, -, r⟩
    · rw [r] at gc; exact absurd (wl _ hc) (Nat.not_lt.mpr gc)
    · exact r
  obtain ⟨cx, Ax, Xx, Ox, zx, fx⟩ := Hx
  have hin81 : ¬ ((Int32.ofNat b &&& (63 : Int32)) < 0 ∨ cx.slots.size ≤ ((Int32.ofNat b &&& (63 : Int32))).toNatClampNeg) := by rw [ej, zx]; exact idx_in (by omega) (by decide)
  obtain ⟨T3, h3, X3, e3, W3, st3⟩ := own_p67 (.val (.ref a1)) (.val (.ref be)) (.val (.int (Int32.ofNat N))) ob (.val (.ref ch)) c2 (Int32.ofNat i) (Int32.ofNat b) (Int32.ofNat (b / 64)) cn2 co cx (w2 (b / 64)) (f b) X2 hx hZ hw hby hml hown e2 An2 hin71 hat71 Ao hin80 hat80 Ax hin81 ((Rf.keep I2.1).sto Ax Ox b)
  have W3' : Wr h2 h3 (w2 (b / 64)) (b % 64) (f b) := by
    have z := W3
    rw [ej, own_clamp (by omega)] at z
    exact z
  have I3 := I2.stepC wl hc gc (j := b % 64) (by omega) (by omega : b = 64 * (b / 64) + b % 64) W3'
  rw [own_one] at st3
  exact ⟨T3, h3, _, c2', s2', w2, _, _, X3, e3, Fr.snoc X3 N2 (Nat.le_trans hn0 gc), hc2, hs2, I3, One.val rfl, One.val rfl, fun t k => st1 t (st2 t (st3 t k))⟩
set_option maxHeartbeats 40000000 in
theorem own_loop6 {p : Program} {l : Launch} {e : Env} {R : Room} {s : State} {m : MethodId} {args : Array Value} {below : List Frame} {meth : Method} {c : Code} {Z : State} {a0 : Array Value} (hx : p.tables.exec = Jvm.exec) (hZ : Z.Warmed39 s.vm) (hw : ∀ d ∈ tables_1, d.before a0 Z = true) (hby : c.code = prog_41_method_3_code) (hml : c.maxLocals = 9) (hown : s.vm.findClass "com/example/runner_bean/runnerbean/service/PublishedSingletons" = some m.cls) {h0 : Heap} {n0 n N : Nat} {kc : ClassId} {w : Nat → Addr} {P f : Nat → Value} {a1 be ob ch c2 : Addr} {cb : Cell} (hn0 : n0 ≤ h0.size) (hn : n ≤ 4) (hN : N ≤ 2) (Tc : own_Tb Z h0 ch kc n w) (Oc : OvrA Z kc (.object "java/lang/Object") "[Ljava/lang/Object;") (Cs : ∀ i, i < n → own_Ch Z h0 (w i) P i) (hR : ∀ k, (P k).isRef = true) (Ab : Arr Z h0 be cb .int) (zb : cb.slots.size < 10) (Oa : own_Oa Z h0 ob f) (Rf : own_Rf Z h0 f) (hRf : 1 ≤ R.frames) (hRl : 2 + 14 ≤ R.locals) :
    ∀ (bs : List Nat) (i : Nat) (T : State) (locs : List Loc) (cells slots : Nat) (h : Heap) (w' : Nat → Addr) (P' : Nat → Value) (s7 s8 : Slot), Stand p l e R s m args below meth c T locs cells slots → T.heap = h → Fr n0 locs → own_Inv Z h0 h c2 kc n w w' P P' → i + bs.length = N → N ≤ cb.slots.size → (∀ k, k < bs.length → cb.slots[i + k]? = some (.int (Int32.ofNat (bs.getD k 0)))) → (∀ k, k < bs.length → bs.getD k 0 < 64 * n) → One s7 → One s8 → cells + bs.length ≤ R.cells → slots + 64 * bs.length ≤ R.slots →
    ∃ (T' : State) (h' : Heap) (locs' : List Loc) (cells' slots' : Nat) (w'' : Nat → Addr) (s7' s8' : Slot), Stand p l e R s m args below meth c T' locs' cells' slots' ∧ T'.heap = h' ∧ Fr n0 locs' ∧ cells' ≤ cells + bs.length ∧ slots' ≤ slots + 64 * bs.length ∧ own_Inv Z h0 h' c2 kc n w w'' P (own_sets f P' bs) ∧
      ∀ target, Steps p.tables e below (T'.setTop (mkF m 88 #[.val (.ref a1), .val (.ref be), .val (.int (Int32.ofNat N)), .val (.ref ob), .val (.ref ch), .val (.ref c2), .val (.int (Int32.ofNat N)), s7', s8'] [])) target → Steps p.tables e below (T.setTop (mkF m 19 #[.val (.ref a1), .val (.ref be), .val (.int (Int32.ofNat N)), .val (.ref ob), .val (.ref ch), .val (.ref c2), .val (.int (Int32.ofNat i)), s7, s8] [])) target := by
  intro bs
  induction bs with
  | nil =>
    intro i T locs cells slots h w' P' s7 s8 X eT NF I hl hz hat hlt hs7 hs8 hRc hRs
    have hi : i = N := hl
    subst hi
    obtain ⟨T1, X1, e1, st1⟩ := own_p19t (.val (.ref a1)) (.val (.ref be)) (Int32.ofNat i) (.val (.ref ob)) (.val (.ref ch)) (.val (.ref c2)) (Int32.ofNat i) s7 s8 X hx hZ hw hby hml hown eT (own_geI (by omega))
    exact ⟨T1, h, locs, cells, slots, w', s7, s8, X1, e1, NF, Nat.le_refl _, Nat.le_refl _, I, st1⟩
  | cons b bs ih =>
    intro i T locs cells slots h w' P' s7 s8 X eT NF I hl hz hat hlt hs7 hs8 hRc hRs
    simp only [List.length_cons] at hl hat hlt hRc hRs
    obtain ⟨T1, h1, L1, c1, s1, w1, s71, s81, X1, e1, N1, hc1, hs1, I1, o7, o8, st1⟩ := own_turn (R := R) hx hZ hw hby hml hown hn0 hn hN Tc Oc Cs hR Ab zb Oa Rf hRf hRl X eT NF I (i := i) (b := b) (by omega) (by omega) (hlt 0 (by omega)) (hat 0 (by omega)) hs7 hs8 (by omega) (by omega)
    obtain ⟨T2, h2, L2, c2', s2, w2, s72, s82, X2, e2, N2, hc2, hs2, I2, st2⟩ := ih (i + 1) T1 L1 c1 s1 h1 w1 _ s71 s81 X1 e1 N1 I1 (by omega) hz (fun k hk => by
      have z := hat (k + 1) (by omega)
      rw [show i + (k + 1) = i + 1 + k by omega] at z
      exact z) (fun k hk => hlt (k + 1) (by omega)) o7 o8 (by omega) (by omega)
    refine ⟨T2, h2, L2, c2', s2, w2, s72, s82, X2, e2, N2, ?_, ?_, I2, fun t k => st1 t (st2 t k)⟩
    · simp only [List.length_cons]; omega
    · simp only [List.length_cons]; omega
theorem d6_0 : decode prog_41_method_3_code 0 = .ok (.aload_n 0, 1) := by decide +kernel
theorem d6_1 : decode prog_41_method_3_code 1 = .ok (.getfield 20, 3) := by decide +kernel
theorem d6_4 : decode prog_41_method_3_code 4 = .ok (.astore 4, 2) := by decide +kernel
theorem d6_6 : decode prog_41_method_3_code 6 = .ok (.aload 4, 2) := by decide +kernel
theorem d6_8 : decode prog_41_method_3_code 8 = .ok (.invokevirtual 24, 3) := by decide +kernel
theorem d6_11 : decode prog_41_method_3_code 11 = .ok (.checkcast 25, 3) := by decide +kernel
theorem d6_14 : decode prog_41_method_3_code 14 = .ok (.astore 5, 2) := by decide +kernel
theorem d6_16 : decode prog_41_method_3_code 16 = .ok (.iconst 0, 1) := by decide +kernel
theorem d6_17 : decode prog_41_method_3_code 17 = .ok (.istore 6, 2) := by decide +kernel
theorem d6_88 : decode prog_41_method_3_code 88 = .ok (.aload_n 0, 1) := by decide +kernel
theorem d6_89 : decode prog_41_method_3_code 89 = .ok (.aload 5, 2) := by decide +kernel
theorem d6_91 : decode prog_41_method_3_code 91 = .ok (.putfield 20, 3) := by decide +kernel
theorem d6_94 : decode prog_41_method_3_code 94 = .ok (.return_, 1) := by decide +kernel
theorem pn_6 : plainName "com/example/runner_bean/runnerbean/service/PublishedSingletons" = true := by first | (simp [plainName, overriddenIn]; done) | decide +kernel
theorem ef_6 (m : MethodId) (x0 : Addr) (x1 : Addr) (x2 : Int32) (x3 : Addr) : entryFrame m #[(.ref x0), (.ref x1), (.int x2), (.ref x3)] 9 = mkF m 0 #[.val (.ref x0), .val (.ref x1), .val (.int x2), .val (.ref x3), .unset, .unset, .unset, .unset, .unset] [] := by first | (simp [entryFrame, mkF, argsToLocals, Value.category]; done) | rfl
theorem own_sets_ref {Z : State} {h : Heap} {f P : Nat → Value} (hR : ∀ k, (P k).isRef = true) (Rf : own_Rf Z h f) (bs : List Nat) : ∀ k, (own_sets f P bs k).isRef = true := by
  induction bs generalizing P with
  | nil => exact hR
  | cons b bs ih =>
    refine ih fun k => ?_
    by_cases q : k = b
    · rw [show own_set P b (f b) k = f b from if_pos q]; exact Rf.ref b
    · rw [show own_set P b (f b) k = P k from if_neg q]; exact hR k
def Q6 (Z : State) (a1 : Addr) (kc : ClassId) (n : Nat) (P f : Nat → Value) (bs : List Nat) (h0 : Heap) (n0 : Nat) (v : Option Value) (h : Heap) (L : List Loc) : Prop := v = none ∧ Fr n0 L ∧ Keep h0 h [a1] ∧ own_Ps Z h n0 a1 kc n (own_sets f P bs)
set_option maxRecDepth 65536 in
set_option maxHeartbeats 40000000 in
theorem rm6 (l : Launch) (Z : State) (a0 : Array Value) (hw : ∀ d ∈ tables_1, d.before a0 Z = true) (ws : List Jvm.Cond) (a1 : Addr) (a2 : Addr) (p3 : Int32) (a4 : Addr) (kc : ClassId) (n : Nat) (P f : Nat → Value) (bs : List Nat) (h0 : Heap) (n0 : Nat) (Z0 : n0 ≤ h0.size) (hn : n ≤ 4) (hN : bs.length ≤ 2) (hp : p3 = Int32.ofNat bs.length) (hP : own_Ps Z h0 n0 a1 kc n P) (Oc : OvrA Z kc (.object "java/lang/Object") "[Ljava/lang/Object;") (hB : own_Bn Z h0 a2 bs) (hlt : ∀ k, k < bs.length → bs.getD k 0 < 64 * n) (Oa : own_Oa Z h0 a4 f) (Rf : own_Rf Z h0 f) :
    MetFree l (⟨"com/example/runner_bean/runnerbean/service/PublishedSingletons", "publish", "([II[Ljava/lang/Object;)V"⟩ : MethodName) (head1 (Jvm.Cond.code (⟨"com/example/runner_bean/runnerbean/service/PublishedSingletons", "publish", "([II[Ljava/lang/Object;)V"⟩ : MethodName) prog_41_method_3_code 9 none :: ws) ({ frames := 1, cells := 3, slots := 132, locals := 16 } : Room)) (fun a U => a = #[(.ref a1), (.ref a2), (.int p3), (.ref a4)] ∧ Z.Warmed39 U.vm ∧ U.heap = h0) (fun _ _ _ _ _ => True) (fun _ U o U' => ∃ v L, o = .returned v ∧ Q6 Z a1 kc n P f bs h0 n0 v U'.heap L ∧ FrameEnd U o U' L ({ frames := 1, cells := 3, slots := 132, locals := 16 } : Room).cells ({ frames := 1, cells := 3, slots := 132, locals := 16 } : Room).slots) := by
  refine MetFree.of_bodySF (plainFor_of_name pn_6) hisR ?_
  intro p e s m args below meth c s₁ Bd hml0 hP hK
  obtain ⟨rfl, hZ, hh⟩ := hP
  have hx := Bd.exec
  have hby := Bd.bytes
  have hml : c.maxLocals = 9 := hml0
  have hown : s.vm.findClass "com/example/runner_bean/runnerbean/service/PublishedSingletons" = some m.cls := findClass_of_methodNamed Bd.named
  have hnm := (name_of_methodNamed Bd.named Bd.method).1
  have X0 : Stand p l e ({ frames := 1, cells := 3, slots := 132, locals := 16 } : Room) s m #[(.ref a1), (.ref a2), (.int p3), (.ref a4)] below meth c s₁ [] 0 0 := Stand.of_body Bd
  have e0 : s₁.heap = h0 := by rw [← hh, Bd.state]; rfl
  have N0 := Fr.nil n0
  have pre0 : ∀ t, Steps p.tables e below (s₁.setTop (mkF m 0 #[.val (.ref a1), .val (.ref a2), .val (.int p3), .val (.ref a4), .unset, .unset, .unset, .unset, .unset] [])) t → Steps p.tables e below (s₁.setTop (entryFrame m #[(.ref a1), (.ref a2), (.int p3), (.ref a4)] 9)) t := fun t k => castTop (ef_6 m a1 a2 p3 a4) k
  obtain ⟨ch, w, Ea, ga, Fch, nca, Tb, Cs, hR⟩ := hP
  obtain ⟨cb, Ab, zb1, zb2, fb⟩ := hB
  have Cs' : ∀ i, i < n → own_Ch Z h0 (w i) P i := fun i hi => (Cs i hi).2
  obtain ⟨cc, Ac, Fc, kcc, zc, fc⟩ := Tb.fit
  have Xc : Exa Z h0 ch "[[Ljava/lang/Object;" := by obtain ⟨_, _, q, -⟩ := Tb; exact q
  have F_chunks_a1 := Fch
  have hcap : cc.slots.size ≤ 4 := by omega
  obtain ⟨T2, X2, e2, st2⟩ := getF X0 hx hZ hown (host := "") (Or.inl (hw _ (List.mem_of_getElem? (i := 30) rfl))) Via.refl e0 F_chunks_a1 (g := (mkF m 1 #[.val (.ref a1), .val (.ref a2), .val (.int p3), .val (.ref a4), .unset, .unset, .unset, .unset, .unset] [(.ref a1)])) rfl rfl (hb hby d6_1)
  have P6 : ∀ t, Steps p.tables e below (T2.setTop (mkF m 8 #[.val (.ref a1), .val (.ref a2), .val (.int p3), .val (.ref a4), .val (.ref ch), .unset, .unset, .unset, .unset] [(.ref ch)])) t → Steps p.tables e below (s₁.setTop (entryFrame m #[(.ref a1), (.ref a2), (.int p3), (.ref a4)] 9)) t := fun t k => pre0 t (by
    show Steps p.tables e below (s₁.setTop (mkF m 0 #[.val (.ref a1), .val (.ref a2), .val (.int p3), .val (.ref a4), .unset, .unset, .unset, .unset, .unset] [])) _
    refine XS.aloadN X0.here hx rfl (hb hby d6_0) rfl rfl ?_
    show Steps p.tables e below (s₁.setTop (mkF m 1 #[.val (.ref a1), .val (.ref a2), .val (.int p3), .val (.ref a4), .unset, .unset, .unset, .unset, .unset] [(.ref a1)])) _
    refine st2 _ ?_
    show Steps p.tables e below (T2.setTop (mkF m 4 #[.val (.ref a1), .val (.ref a2), .val (.int p3), .val (.ref a4), .unset, .unset, .unset, .unset, .unset] [(.ref ch)])) _
    refine XS.astore X2.here hx rfl (hb hby d6_4) rfl rfl (l' := #[.val (.ref a1), .val (.ref a2), .val (.int p3), .val (.ref a4), .val (.ref ch), .unset, .unset, .unset, .unset]) rfl ?_
    show Steps p.tables e below (T2.setTop (mkF m 6 #[.val (.ref a1), .val (.ref a2), .val (.int p3), .val (.ref a4), .val (.ref ch), .unset, .unset, .unset, .unset] [])) _
    refine XS.aload X2.here hx rfl (hb hby d6_6) rfl rfl ?_
    exact k)
  obtain ⟨T3, h3, X3, e3, E3, A3, B3, st3⟩ := cloneA X2 hx hZ hown (hw _ (List.mem_of_getElem? (i := 42) rfl)) (hw _ (List.mem_of_getElem? (i := 43) rfl)) (hw _ (List.mem_of_getElem? (i := 47) rfl)) (hw _ (List.mem_of_getElem? (i := 45) rfl)) (hw _ (List.mem_of_getElem? (i := 46) rfl)) (hw _ (List.mem_of_getElem? (i := 48) rfl)) e2 Ac Xc Fc (g := (mkF m 8 #[.val (.ref a1), .val (.ref a2), .val (.int p3), .val (.ref a4), .val (.ref ch), .unset, .unset, .unset, .unset] [(.ref ch)])) rfl (by rw [hml]; rfl) rfl (hb hby d6_8) (by decide) (W := 0) (cap := 4) (by show 2 * 0 + _ ≤ _; exact Nat.le_of_eq rfl) (by decide) hcap (by decide) (by decide)
  obtain ⟨b3, g3⟩ : ∃ z, z = h0.size := ⟨_, rfl⟩
  rw [← g3] at A3 B3 st3
  have g_b3 : n0 ≤ b3 := Nat.le_trans Z0 (Nat.le_of_eq g3.symm)
  have sz_b3 : h0.size ≤ b3 := (Nat.le_trans (Keep.refl h0 []).1 (Nat.le_of_eq g3.symm))
  have K3 : Keep h0 h3 [] := (Keep.refl h0 []).ext E3
  obtain ⟨T4, X4, e4, st4⟩ := castY X3 hx hZ hown (hw _ (List.mem_of_getElem? (i := 49) rfl)) e3 (Ins.self B3) (g := (mkF m 11 #[.val (.ref a1), .val (.ref a2), .val (.int p3), .val (.ref a4), .val (.ref ch), .unset, .unset, .unset, .unset] [(.ref b3)])) rfl rfl (hb hby d6_11)
  have P7 : ∀ t, Steps p.tables e below (T4.setTop (mkF m 19 #[.val (.ref a1), .val (.ref a2), .val (.int p3), .val (.ref a4), .val (.ref ch), .val (.ref b3), .val (.int (0 : Int32)), .unset, .unset] [])) t → Steps p.tables e below (s₁.setTop (entryFrame m #[(.ref a1), (.ref a2), (.int p3), (.ref a4)] 9)) t := fun t k => P6 t (by
    show Steps p.tables e below (T2.setTop (mkF m 8 #[.val (.ref a1), .val (.ref a2), .val (.int p3), .val (.ref a4), .val (.ref ch), .unset, .unset, .unset, .unset] [(.ref ch)])) _
    refine st3 _ ?_
    show Steps p.tables e below (T3.setTop (mkF m 11 #[.val (.ref a1), .val (.ref a2), .val (.int p3), .val (.ref a4), .val (.ref ch), .unset, .unset, .unset, .unset] [(.ref b3)])) _
    refine st4 _ ?_
    show Steps p.tables e below (T4.setTop (mkF m 14 #[.val (.ref a1), .val (.ref a2), .val (.int p3), .val (.ref a4), .val (.ref ch), .unset, .unset, .unset, .unset] [(.ref b3)])) _
    refine XS.astore X4.here hx rfl (hb hby d6_14) rfl rfl (l' := #[.val (.ref a1), .val (.ref a2), .val (.int p3), .val (.ref a4), .val (.ref ch), .val (.ref b3), .unset, .unset, .unset]) rfl ?_
    show Steps p.tables e below (T4.setTop (mkF m 16 #[.val (.ref a1), .val (.ref a2), .val (.int p3), .val (.ref a4), .val (.ref ch), .val (.ref b3), .unset, .unset, .unset] [])) _
    refine XS.iconst X4.here hx rfl (hb hby d6_16) ?_
    show Steps p.tables e below (T4.setTop (mkF m 17 #[.val (.ref a1), .val (.ref a2), .val (.int p3), .val (.ref a4), .val (.ref ch), .val (.ref b3), .unset, .unset, .unset] [(.int (0 : Int32))])) _
    refine XS.istore X4.here hx rfl (hb hby d6_17) rfl (l' := #[.val (.ref a1), .val (.ref a2), .val (.int p3), .val (.ref a4), .val (.ref ch), .val (.ref b3), .val (.int (0 : Int32)), .unset, .unset]) rfl ?_
    exact k)
  have I0 : own_Inv Z h0 h3 b3 kc n w w P P := by
    refine ⟨(Keep.refl h0 []).ext E3, sz_b3, ⟨cloneOf cc, A3, B3, kcc, zc, fc⟩, fun i hi => Or.inl ⟨rfl, fun _ _ => rfl⟩, fun i j hi hj ij gi => ?_⟩
    exact absurd (Cs' i hi).lt (Nat.not_lt.mpr gi)
  have P29 : ∀ t, Steps p.tables e below (T4.setTop (mkF m 19 #[.val (.ref a1), .val (.ref a2), .val (.int (Int32.ofNat bs.length)), .val (.ref a4), .val (.ref ch), .val (.ref b3), .val (.int (0 : Int32)), .unset, .unset] [])) t → Steps p.tables e below (s₁.setTop (entryFrame m #[(.ref a1), (.ref a2), (.int p3), (.ref a4)] 9)) t := by
    rw [← hp]
    exact P7
  obtain ⟨T30, h30, L30, c30, s30, w30, s7, s8, X30, e30, N30, hc30, hs30, I30, st30⟩ := own_loop6 (a1 := a1) hx hZ hw hby hml hown Z0 hn hN Tb Oc Cs' hR Ab zb2 Oa Rf (by decide) (by decide) bs 0 T4 _ _ _ h3 w P .unset .unset X4 e4 N0 I0 (Nat.zero_add _) zb1 (fun k hk => by rw [Nat.zero_add]; exact fb k hk) hlt One.u One.u (by show 0 + 1 + _ ≤ 3; omega) (by show 0 + 4 + _ ≤ 132; omega)
  have P30 := fun t k => P29 t (st30 t k)
  have K30 := I30.1
  have F_chunks_a1 := Fch.keep K30 nin0
  have E_a1 := Ea.keep K30
  have g_a1 := ga
  obtain ⟨T41, h41, X41, e41, W41, st41⟩ := putF X30 hx hZ hown (host := "") (Or.inl (hw _ (List.mem_of_getElem? (i := 30) rfl))) Via.refl e30 F_chunks_a1 E_a1 (Or.inl (hw _ (List.mem_of_getElem? (i := 31) rfl))) (hw _ (List.mem_of_getElem? (i := 13) rfl)) (ty := (.array (.array (.object "java/lang/Object")))) (by decide) rfl rfl (g := (mkF m 91 #[.val (.ref a1), .val (.ref a2), .val (.int (Int32.ofNat bs.length)), .val (.ref a4), .val (.ref ch), .val (.ref b3), .val (.int (Int32.ofNat bs.length)), s7, s8] [(.ref b3), (.ref a1)])) rfl rfl (hb hby d6_91)
  have Fw41 := F_chunks_a1.same W41
  have N41 := Fr.snoc X41 N30 g_a1
  have P8 : ∀ t, Steps p.tables e below (T41.setTop (mkF m 94 #[.val (.ref a1), .val (.ref a2), .val (.int (Int32.ofNat bs.length)), .val (.ref a4), .val (.ref ch), .val (.ref b3), .val (.int (Int32.ofNat bs.length)), s7, s8] [])) t → Steps p.tables e below (s₁.setTop (entryFrame m #[(.ref a1), (.ref a2), (.int p3), (.ref a4)] 9)) t := fun t k => P30 t (by
    show Steps p.tables e below (T30.setTop (mkF m 88 #[.val (.ref a1), .val (.ref a2), .val (.int (Int32.ofNat bs.length)), .val (.ref a4), .val (.ref ch), .val (.ref b3), .val (.int (Int32.ofNat bs.length)), s7, s8] [])) _
    refine XS.aloadN X30.here hx rfl (hb hby d6_88) rfl rfl ?_
    show Steps p.tables e below (T30.setTop (mkF m 89 #[.val (.ref a1), .val (.ref a2), .val (.int (Int32.ofNat bs.length)), .val (.ref a4), .val (.ref ch), .val (.ref b3), .val (.int (Int32.ofNat bs.length)), s7, s8] [(.ref a1)])) _
    refine XS.aload X30.here hx rfl (hb hby d6_89) rfl rfl ?_
    show Steps p.tables e below (T30.setTop (mkF m 91 #[.val (.ref a1), .val (.ref a2), .val (.int (Int32.ofNat bs.length)), .val (.ref a4), .val (.ref ch), .val (.ref b3), .val (.int (Int32.ofNat bs.length)), s7, s8] [(.ref b3), (.ref a1)])) _
    refine st41 _ ?_
    exact k)
  obtain ⟨fs, hr, hrun, hended, hW, hsame⟩ := X41.leave (v := none) (fun _ => rfl)
  refine ⟨_, _, P8 _ (X41.returnOut hx Bd.returns (hb hby d6_94) hr), hrun, hended, _, _, rfl, ?_, ⟨_, rfl⟩, hW, hsame.mono (Nat.le_trans hc30 (by show 0 + 1 + _ ≤ 3; omega)) (Nat.le_trans hs30 (by show 0 + 4 + _ ≤ 132; omega))⟩
  show Q6 Z a1 kc n P f bs h0 n0 _ T41.heap _
  rw [e41]
  have lta : a1 < h0.size := Ea.lt
  have nba : b3 ≠ a1 := Ne.symm (Nat.ne_of_lt (Nat.lt_of_lt_of_le lta I30.2.1))
  refine ⟨rfl, N41, (own_keepMono K30).wr W41 (Or.inl (List.mem_singleton.mpr rfl)), b3, w30, E_a1.wr W41, ga, Fw41, nba, I30.2.2.1.other W41 nba, fun i hi => ?_, own_sets_ref hR Rf bs⟩
  rcases I30.2.2.2.1 i hi with ⟨r1, r2⟩ | ⟨r1, r2, r3⟩
  · rw [r1]
    exact ⟨(Cs i hi).1, (((Cs' i hi).keep K30 nin0).congr r2).other W41 (Cs i hi).1⟩
  · have q : w30 i ≠ a1 := Ne.symm (Nat.ne_of_lt (Nat.lt_of_lt_of_le lta r1))
    exact ⟨q, r3.other W41 q⟩
theorem own_staKeep {Z : State} {h h' : Heap} {C n d : String} {v : Value} (F : Sta Z h C n d v) (K : Keep h h' []) : Sta Z h' C n d v := by
  obtain ⟨cf, i, k, f, st, cell, h1, h2, h3, h4, h5, h6, h7⟩ := F
  exact ⟨cf, i, k, f, st, cell, h1, h2, h3, h4, K.2.1 st cell h5 nin0, h6, h7⟩
def own_l1 (t : Bool) (a b : Nat) : List Nat := match t with
  | true => [a, b]
  | false => [a]
def own_l2 (t : Bool) (a : Nat) : List Nat := match t with
  | true => [a]
  | false => []
def own_pub (t : Bool) (a b c : Nat) : Bool := decide (a = b) || (t && decide (a = c))
def own_pub2 (q t : Bool) (a c : Nat) : Bool := q || (t && decide (a = c))
theorem own_P1 (f : Nat → Value) (t : Bool) (a b x : Nat) : own_sets f (fun _ => .null) (own_l1 t a b) x = own_w (own_pub t x a b) (f x) := by
  by_cases q : x = a
  · subst q
    cases t <;> simp [own_sets, own_set, own_pub, own_w, own_l1]
    intro z; rw [z]
  · cases t
    · simp [own_sets, own_set, own_pub, own_w, own_l1, q]
    · by_cases r : x = b
      · subst r
        simp [own_sets, own_set, own_pub, own_w, own_l1, q]
      · simp [own_sets, own_set, own_pub, own_w, own_l1, q, r]
theorem own_P2 (f P : Nat → Value) (q t : Bool) (c x : Nat) (h : P x = own_w q (f x)) : own_sets f P (own_l2 t c) x = own_w (own_pub2 q t x c) (f x) := by
  cases t
  · simp [own_sets, own_pub2, own_l2, h]
  · by_cases r : x = c
    · subst r
      simp [own_sets, own_set, own_pub2, own_l2, own_w]
    · simp [own_sets, own_set, own_pub2, own_l2, h, r]
theorem own_P3 (f P : Nat → Value) (q t : Bool) (c : Nat) (h : P c = own_w q (f c)) : own_sets f P (own_l2 t c) c = own_w (t || q) (f c) := by
  cases t
  · simp [own_sets, own_l2, h]
  · simp [own_sets, own_set, own_l2, own_w]
theorem own_four (A B : Prop) [Decidable A] [Decidable B] (t : Bool) : A ∨ (¬ A ∧ t = false) ∨ (¬ A ∧ t = true ∧ ¬ B) ∨ (¬ A ∧ t = true ∧ B) := by
  by_cases a : A
  · exact Or.inl a
  · cases t
    · exact Or.inr (Or.inl ⟨a, rfl⟩)
    · by_cases b : B
      · exact Or.inr (Or.inr (Or.inr ⟨a, rfl, b⟩))
      · exact Or.inr (Or.inr (Or.inl ⟨a, rfl, b⟩))
theorem own_cntI {z : Nat} (h1 : 1 ≤ z) (h2 : z ≤ 256) : (((((Int32.ofNat z) + (64 : Int32)) - (1 : Int32)).toUInt32 >>> ((6 : Int32) &&& 31).toUInt32).toInt32) = Int32.ofNat ((z + 63) / 64) := by
  have t := Int32.toInt_ofNat_of_lt (n := z) (by omega)
  have a := c_iadd (Int32.ofNat z) (64 : Int32)
  have ra := rng32 ((Int32.ofNat z) + (64 : Int32))
  have b := c_isub ((Int32.ofNat z) + (64 : Int32)) (1 : Int32)
  have rb := rng32 (((Int32.ofNat z) + (64 : Int32)) - (1 : Int32))
  have k64 : (64 : Int32).toInt = 64 := by decide
  have k1 : (1 : Int32).toInt = 1 := by decide
  have e := c_iushr (((Int32.ofNat z) + (64 : Int32)) - (1 : Int32)) 6 6 (by decide) (by decide)
  have p : ((2 ^ 6 : Nat) : Int) = 64 := by decide
  rw [p] at e
  apply Int32.toInt_inj.mp
  rw [Int32.toInt_ofNat_of_lt (by omega)]
  omega
theorem own_szI (p : Int32) : ∃ z : Nat, 1 ≤ z ∧ z ≤ 256 ∧ ((1 : Int32) + (p &&& (255 : Int32))) = Int32.ofNat z := by
  have e := c_mask p 255 8 (by decide) (by decide)
  have p8 : ((2 ^ 8 : Nat) : Int) = 256 := by decide
  rw [p8] at e
  have a := c_iadd (1 : Int32) (p &&& (255 : Int32))
  have r := rng32 ((1 : Int32) + (p &&& (255 : Int32)))
  have k1 : (1 : Int32).toInt = 1 := by decide
  refine ⟨((1 : Int32) + (p &&& (255 : Int32))).toInt.toNat, by omega, by omega, ?_⟩
  apply Int32.toInt_inj.mp
  rw [Int32.toInt_ofNat_of_lt (by omega)]
  omega
theorem own_remI (x y : Int32) {z : Nat} (h1 : 1 ≤ z) (h2 : z ≤ 256) (e : y = Int32.ofNat z) : ∃ r : Nat, r < z ∧ ((x &&& (2147483647 : Int32)) % y) = Int32.ofNat r := by
  have t := Int32.toInt_ofNat_of_lt (n := z) (by omega)
  rw [← e] at t
  have h := c_and x (2147483647 : Int32) (by decide)
  have q := ((c_iremV (x &&& (2147483647 : Int32)) y).1 h.1 (by omega))
  refine ⟨((x &&& (2147483647 : Int32)) % y).toInt.toNat, by omega, ?_⟩
  apply Int32.toInt_inj.mp
  rw [Int32.toInt_ofNat_of_lt (by omega)]
  omega
theorem pn_0 : plainName "com/example/runner_bean/runnerbean/service/PublishedSingletonsGetPinLaw" = true := by first | (simp [plainName, overriddenIn]; done) | decide +kernel
theorem pd_0_0 : parseMethodDescriptor "(I)Ljava/lang/Integer;" = some ⟨[.int], some (.object "java/lang/Integer")⟩ := by decide +kernel
theorem pd_0_1 : parseMethodDescriptor "(I)V" = some ⟨[.int], none⟩ := by decide +kernel
theorem pd_0_4 : parseMethodDescriptor "(I)Ljava/lang/Object;" = some ⟨[.int], some (.object "java/lang/Object")⟩ := by decide +kernel
theorem pd_0_5 : parseMethodDescriptor "([II[Ljava/lang/Object;)V" = some ⟨[(.array .int), .int, (.array (.object "java/lang/Object"))], none⟩ := by decide +kernel
theorem ef_0 (m : MethodId) (x0 : Int32) (x1 : Int32) (x2 : Int32) (x3 : Int32) (x4 : Int32) (x5 : Int32) : entryFrame m #[(.int x0), (.int x1), (.int x2), (.int x3), (.int x4), (.int x5)] maxLocals = mkF m 0 #[.val (.int x0), .val (.int x1), .val (.int x2), .val (.int x3), .val (.int x4), .val (.int x5), .unset, .unset, .unset, .unset, .unset, .unset, .unset, .unset, .unset, .unset, .unset, .unset, .unset, .unset, .unset, .unset, .unset, .unset] [] := by first | (simp [entryFrame, mkF, argsToLocals, Value.category, maxLocals]; done) | rfl
theorem own_BnExt {Z : State} {h h' : Heap} {o : Addr} {bs : List Nat} (H : own_Bn Z h o bs) (E : Ext h h') : own_Bn Z h' o bs := by
  obtain ⟨cw, A, r⟩ := H
  exact ⟨cw, A.ext E, r⟩
theorem own_five (s : Bool) (A B : Prop) [Decidable A] [Decidable B] (t : Bool) : s = true ∨ (s = false ∧ A) ∨ (s = false ∧ ¬ A ∧ t = false) ∨ (s = false ∧ ¬ A ∧ t = true ∧ ¬ B) ∨ (s = false ∧ ¬ A ∧ t = true ∧ B) := by
  cases s
  · rcases own_four A B t with a | ⟨a, q⟩ | ⟨a, q, r⟩ | ⟨a, q, r⟩
    · exact Or.inr (Or.inl ⟨rfl, a⟩)
    · exact Or.inr (Or.inr (Or.inl ⟨rfl, a, q⟩))
    · exact Or.inr (Or.inr (Or.inr (Or.inl ⟨rfl, a, q, r⟩)))
    · exact Or.inr (Or.inr (Or.inr (Or.inr ⟨rfl, a, q, r⟩)))
  · exact Or.inl rfl
def Q0 (Z : State) (h0 : Heap) (n0 : Nat) (v : Option Value) (h : Heap) (L : List Loc) : Prop := v = some (.int (1 : Int32)) ∧ Fr n0 L
set_option maxRecDepth 65536 in
set_option maxHeartbeats 40000000 in
theorem rm0 (l : Launch) (Z : State) (a0 : Array Value) (hw : ∀ d ∈ tables_1, d.before a0 Z = true) (ws : List Jvm.Cond) (p1 : Int32) (p2 : Int32) (p3 : Int32) (p4 : Int32) (p5 : Int32) (p6 : Int32) (h0 : Heap) (n0 : Nat) (Z0 : n0 ≤ h0.size) (sz n1 n2 n3 np : Nat) (tw th : Bool) (hz1 : 1 ≤ sz) (hz2 : sz ≤ 256) (h1 : n1 < sz) (h2 : n2 < sz) (h3 : n3 < sz) (hp : np < sz) (esz : ((1 : Int32) + (p1 &&& (255 : Int32))) = Int32.ofNat sz) (e1 : ((p2 &&& (2147483647 : Int32)) % ((1 : Int32) + (p1 &&& (255 : Int32)))) = Int32.ofNat n1) (e2 : ((p3 &&& (2147483647 : Int32)) % ((1 : Int32) + (p1 &&& (255 : Int32)))) = Int32.ofNat n2) (e3 : ((p4 &&& (2147483647 : Int32)) % ((1 : Int32) + (p1 &&& (255 : Int32)))) = Int32.ofNat n3) (ep : ((p5 &&& (2147483647 : Int32)) % ((1 : Int32) + (p1 &&& (255 : Int32)))) = Int32.ofNat np) (tw0 : (p6 &&& (1 : Int32)) = (0 : Int32) → tw = false) (tw1 : ¬ ((p6 &&& (1 : Int32)) = (0 : Int32)) → tw = true) (th0 : (p6 &&& (2 : Int32)) = (0 : Int32) → th = false) (th1 : ¬ ((p6 &&& (2 : Int32)) = (0 : Int32)) → th = true) (u ca x1 x2 x3 : Addr) (cca : Cell) (SU : Sta Z h0 "com/example/runner_bean/runnerbean/service/PublishedSingletons" "UNPUBLISHED" "[Ljava/lang/Object;" (.ref u)) (HU : ∀ i, own_Ch Z h0 u (fun _ => .null) i) (SH : Sta Z h0 "java/lang/Integer$IntegerCache" "high" "I" (.int (127 : Int32))) (SC : Sta Z h0 "java/lang/Integer$IntegerCache" "cache" "[Ljava/lang/Integer;" (.ref ca)) (AC : Arr Z h0 ca cca (.object "java/lang/Integer")) (zC : cca.slots.size = 256) (f1 : cca.slots[129]? = some (.ref x1)) (f2 : cca.slots[130]? = some (.ref x2)) (f3 : cca.slots[131]? = some (.ref x3)) (X1_ : Exa Z h0 x1 "java/lang/Integer") (X2_ : Exa Z h0 x2 "java/lang/Integer") (X3_ : Exa Z h0 x3 "java/lang/Integer") :
    MetFree l x (head1 (Jvm.Cond.code x code maxLocals ret :: ws) room_1) (fun a U => a = #[(.int p1), (.int p2), (.int p3), (.int p4), (.int p5), (.int p6)] ∧ Z.Warmed39 U.vm ∧ U.heap = h0) (fun _ _ _ _ _ => True) (fun _ U o U' => ∃ v L, o = .returned v ∧ Q0 Z h0 n0 v U'.heap L ∧ FrameEnd U o U' L room_1.cells room_1.slots) := by
  refine MetFree.of_bodySF (plainFor_of_name pn_0) hisR ?_
  intro p e s m args below meth c s₁ Bd hml0 hP hK
  obtain ⟨rfl, hZ, hh⟩ := hP
  have hx := Bd.exec
  have hby := Bd.bytes
  have hml : c.maxLocals = 24 := hml0
  have hown : s.vm.findClass "com/example/runner_bean/runnerbean/service/PublishedSingletonsGetPinLaw" = some m.cls := findClass_of_methodNamed Bd.named
  have hnm := (name_of_methodNamed Bd.named Bd.method).1
  have X0 : Stand p l e room_1 s m #[(.int p1), (.int p2), (.int p3), (.int p4), (.int p5), (.int p6)] below meth c s₁ [] 0 0 := Stand.of_body Bd
  have e0 : s₁.heap = h0 := by rw [← hh, Bd.state]; rfl
  have N0 := Fr.nil n0
  have pre0 : ∀ t, Steps p.tables e below (s₁.setTop (mkF m 0 #[.val (.int p1), .val (.int p2), .val (.int p3), .val (.int p4), .val (.int p5), .val (.int p6), .unset, .unset, .unset, .unset, .unset, .unset, .unset, .unset, .unset, .unset, .unset, .unset, .unset, .unset, .unset, .unset, .unset, .unset] [])) t → Steps p.tables e below (s₁.setTop (entryFrame m #[(.int p1), (.int p2), (.int p3), (.int p4), (.int p5), (.int p6)] maxLocals)) t := fun t k => castTop (ef_0 m p1 p2 p3 p4 p5 p6) k
  have KH0 : Keep h0 h0 [] := Keep.refl _ _
  have hnz15 : ¬ (((1 : Int32) + (p1 &&& (255 : Int32))) = (0 : Int32)) := by rw [esz]; exact fun q => absurd (own_injI (i := sz) (j := 0) (by omega) (by omega) q) (by omega)
  have hnz24 := hnz15
  have hnz33 := hnz15
  have hnz43 := hnz15
  have P9 : ∀ t, Steps p.tables e below (s₁.setTop (mkF m 46 #[.val (.int p1), .val (.int p2), .val (.int p3), .val (.int p4), .val (.int p5), .val (.int p6), .val (.int ((1 : Int32) + (p1 &&& (255 : Int32)))), .val (.int ((p2 &&& (2147483647 : Int32)) % ((1 : Int32) + (p1 &&& (255 : Int32))))), .val (.int ((p3 &&& (2147483647 : Int32)) % ((1 : Int32) + (p1 &&& (255 : Int32))))), .val (.int ((p4 &&& (2147483647 : Int32)) % ((1 : Int32) + (p1 &&& (255 : Int32))))), .val (.int ((p5 &&& (2147483647 : Int32)) % ((1 : Int32) + (p1 &&& (255 : Int32))))), .unset, .unset, .unset, .unset, .unset, .unset, .unset, .unset, .unset, .unset, .unset, .unset, .unset] [])) t → Steps p.tables e below (s₁.setTop (entryFrame m #[(.int p1), (.int p2), (.int p3), (.int p4), (.int p5), (.int p6)] maxLocals)) t := fun t k => pre0 t (by
    show Steps p.tables e below (s₁.setTop (mkF m 0 #[.val (.int p1), .val (.int p2), .val (.int p3), .val (.int p4), .val (.int p5), .val (.int p6), .unset, .unset, .unset, .unset, .unset, .unset, .unset, .unset, .unset, .unset, .unset, .unset, .unset, .unset, .unset, .unset, .unset, .unset] [])) _
    refine XS.iconst X0.here hx rfl (hb hby at_0) ?_
    show Steps p.tables e below (s₁.setTop (mkF m 1 #[.val (.int p1), .val (.int p2), .val (.int p3), .val (.int p4), .val (.int p5), .val (.int p6), .unset, .unset, .unset, .unset, .unset, .unset, .unset, .unset, .unset, .unset, .unset, .unset, .unset, .unset, .unset, .unset, .unset, .unset] [(.int (1 : Int32))])) _
    refine XS.iloadN X0.here hx rfl (hb hby at_1) rfl ?_
    show Steps p.tables e below (s₁.setTop (mkF m 2 #[.val (.int p1), .val (.int p2), .val (.int p3), .val (.int p4), .val (.int p5), .val (.int p6), .unset, .unset, .unset, .unset, .unset, .unset, .unset, .unset, .unset, .unset, .unset, .unset, .unset, .unset, .unset, .unset, .unset, .unset] [(.int p1), (.int (1 : Int32))])) _
    refine XS.sipush X0.here hx rfl (hb hby at_2) ?_
    show Steps p.tables e below (s₁.setTop (mkF m 5 #[.val (.int p1), .val (.int p2), .val (.int p3), .val (.int p4), .val (.int p5), .val (.int p6), .unset, .unset, .unset, .unset, .unset, .unset, .unset, .unset, .unset, .unset, .unset, .unset, .unset, .unset, .unset, .unset, .unset, .unset] [(.int (255 : Int32)), (.int p1), (.int (1 : Int32))])) _
    refine XS.iand X0.here hx rfl (hb hby at_5) rfl ?_
    show Steps p.tables e below (s₁.setTop (mkF m 6 #[.val (.int p1), .val (.int p2), .val (.int p3), .val (.int p4), .val (.int p5), .val (.int p6), .unset, .unset, .unset, .unset, .unset, .unset, .unset, .unset, .unset, .unset, .unset, .unset, .unset, .unset, .unset, .unset, .unset, .unset] [(.int (p1 &&& (255 : Int32))), (.int (1 : Int32))])) _
    refine XS.iadd X0.here hx rfl (hb hby at_6) rfl ?_
    show Steps p.tables e below (s₁.setTop (mkF m 7 #[.val (.int p1), .val (.int p2), .val (.int p3), .val (.int p4), .val (.int p5), .val (.int p6), .unset, .unset, .unset, .unset, .unset, .unset, .unset, .unset, .unset, .unset, .unset, .unset, .unset, .unset, .unset, .unset, .unset, .unset] [(.int ((1 : Int32) + (p1 &&& (255 : Int32))))])) _
    refine XS.istore X0.here hx rfl (hb hby at_7) rfl (l' := #[.val (.int p1), .val (.int p2), .val (.int p3), .val (.int p4), .val (.int p5), .val (.int p6), .val (.int ((1 : Int32) + (p1 &&& (255 : Int32)))), .unset, .unset, .unset, .unset, .unset, .unset, .unset, .unset, .unset, .unset, .unset, .unset, .unset, .unset, .unset, .unset, .unset]) rfl ?_
    show Steps p.tables e below (s₁.setTop (mkF m 9 #[.val (.int p1), .val (.int p2), .val (.int p3), .val (.int p4), .val (.int p5), .val (.int p6), .val (.int ((1 : Int32) + (p1 &&& (255 : Int32)))), .unset, .unset, .unset, .unset, .unset, .unset, .unset, .unset, .unset, .unset, .unset, .unset, .unset, .unset, .unset, .unset, .unset] [])) _
    refine XS.iloadN X0.here hx rfl (hb hby at_9) rfl ?_
    show Steps p.tables e below (s₁.setTop (mkF m 10 #[.val (.int p1), .val (.int p2), .val (.int p3), .val (.int p4), .val (.int p5), .val (.int p6), .val (.int ((1 : Int32) + (p1 &&& (255 : Int32)))), .unset, .unset, .unset, .unset, .unset, .unset, .unset, .unset, .unset, .unset, .unset, .unset, .unset, .unset, .unset, .unset, .unset] [(.int p2)])) _
    refine X0.ldcInt hx hown (mvT hZ (hw _ (List.mem_of_getElem? (i := 0) rfl))) (g := (mkF m 10 #[.val (.int p1), .val (.int p2), .val (.int p3), .val (.int p4), .val (.int p5), .val (.int p6), .val (.int ((1 : Int32) + (p1 &&& (255 : Int32)))), .unset, .unset, .unset, .unset, .unset, .unset, .unset, .unset, .unset, .unset, .unset, .unset, .unset, .unset, .unset, .unset, .unset] [(.int p2)])) rfl (hb hby at_10) _ ?_
    show Steps p.tables e below (s₁.setTop (mkF m 12 #[.val (.int p1), .val (.int p2), .val (.int p3), .val (.int p4), .val (.int p5), .val (.int p6), .val (.int ((1 : Int32) + (p1 &&& (255 : Int32)))), .unset, .unset, .unset, .unset, .unset, .unset, .unset, .unset, .unset, .unset, .unset, .unset, .unset, .unset, .unset, .unset, .unset] [(.int (2147483647 : Int32)), (.int p2)])) _
    refine XS.iand X0.here hx rfl (hb hby at_12) rfl ?_
    show Steps p.tables e below (s₁.setTop (mkF m 13 #[.val (.int p1), .val (.int p2), .val (.int p3), .val (.int p4), .val (.int p5), .val (.int p6), .val (.int ((1 : Int32) + (p1 &&& (255 : Int32)))), .unset, .unset, .unset, .unset, .unset, .unset, .unset, .unset, .unset, .unset, .unset, .unset, .unset, .unset, .unset, .unset, .unset] [(.int (p2 &&& (2147483647 : Int32)))])) _
    refine XS.iload X0.here hx rfl (hb hby at_13) rfl ?_
    show Steps p.tables e below (s₁.setTop (mkF m 15 #[.val (.int p1), .val (.int p2), .val (.int p3), .val (.int p4), .val (.int p5), .val (.int p6), .val (.int ((1 : Int32) + (p1 &&& (255 : Int32)))), .unset, .unset, .unset, .unset, .unset, .unset, .unset, .unset, .unset, .unset, .unset, .unset, .unset, .unset, .unset, .unset, .unset] [(.int ((1 : Int32) + (p1 &&& (255 : Int32)))), (.int (p2 &&& (2147483647 : Int32)))])) _
    refine Jvm.RoadKit.iremM X0 hx rfl (hb hby at_15) rfl hnz15 ?_
    show Steps p.tables e below (s₁.setTop (mkF m 16 #[.val (.int p1), .val (.int p2), .val (.int p3), .val (.int p4), .val (.int p5), .val (.int p6), .val (.int ((1 : Int32) + (p1 &&& (255 : Int32)))), .unset, .unset, .unset, .unset, .unset, .unset, .unset, .unset, .unset, .unset, .unset, .unset, .unset, .unset, .unset, .unset, .unset] [(.int ((p2 &&& (2147483647 : Int32)) % ((1 : Int32) + (p1 &&& (255 : Int32)))))])) _
    refine XS.istore X0.here hx rfl (hb hby at_16) rfl (l' := #[.val (.int p1), .val (.int p2), .val (.int p3), .val (.int p4), .val (.int p5), .val (.int p6), .val (.int ((1 : Int32) + (p1 &&& (255 : Int32)))), .val (.int ((p2 &&& (2147483647 : Int32)) % ((1 : Int32) + (p1 &&& (255 : Int32))))), .unset, .unset, .unset, .unset, .unset, .unset, .unset, .unset, .unset, .unset, .unset, .unset, .unset, .unset, .unset, .unset]) rfl ?_
    show Steps p.tables e below (s₁.setTop (mkF m 18 #[.val (.int p1), .val (.int p2), .val (.int p3), .val (.int p4), .val (.int p5), .val (.int p6), .val (.int ((1 : Int32) + (p1 &&& (255 : Int32)))), .val (.int ((p2 &&& (2147483647 : Int32)) % ((1 : Int32) + (p1 &&& (255 : Int32))))), .unset, .unset, .unset, .unset, .unset, .unset, .unset, .unset, .unset, .unset, .unset, .unset, .unset, .unset, .unset, .unset] [])) _
    refine XS.iloadN X0.here hx rfl (hb hby at_18) rfl ?_
    show Steps p.tables e below (s₁.setTop (mkF m 19 #[.val (.int p1), .val (.int p2), .val (.int p3), .val (.int p4), .val (.int p5), .val (.int p6), .val (.int ((1 : Int32) + (p1 &&& (255 : Int32)))), .val (.int ((p2 &&& (2147483647 : Int32)) % ((1 : Int32) + (p1 &&& (255 : Int32))))), .unset, .unset, .unset, .unset, .unset, .unset, .unset, .unset, .unset, .unset, .unset, .unset, .unset, .unset, .unset, .unset] [(.int p3)])) _
    refine X0.ldcInt hx hown (mvT hZ (hw _ (List.mem_of_getElem? (i := 0) rfl))) (g := (mkF m 19 #[.val (.int p1), .val (.int p2), .val (.int p3), .val (.int p4), .val (.int p5), .val (.int p6), .val (.int ((1 : Int32) + (p1 &&& (255 : Int32)))), .val (.int ((p2 &&& (2147483647 : Int32)) % ((1 : Int32) + (p1 &&& (255 : Int32))))), .unset, .unset, .unset, .unset, .unset, .unset, .unset, .unset, .unset, .unset, .unset, .unset, .unset, .unset, .unset, .unset] [(.int p3)])) rfl (hb hby at_19) _ ?_
    show Steps p.tables e below (s₁.setTop (mkF m 21 #[.val (.int p1), .val (.int p2), .val (.int p3), .val (.int p4), .val (.int p5), .val (.int p6), .val (.int ((1 : Int32) + (p1 &&& (255 : Int32)))), .val (.int ((p2 &&& (2147483647 : Int32)) % ((1 : Int32) + (p1 &&& (255 : Int32))))), .unset, .unset, .unset, .unset, .unset, .unset, .unset, .unset, .unset, .unset, .unset, .unset, .unset, .unset, .unset, .unset] [(.int (2147483647 : Int32)), (.int p3)])) _
    refine XS.iand X0.here hx rfl (hb hby at_21) rfl ?_
    show Steps p.tables e below (s₁.setTop (mkF m 22 #[.val (.int p1), .val (.int p2), .val (.int p3), .val (.int p4), .val (.int p5), .val (.int p6), .val (.int ((1 : Int32) + (p1 &&& (255 : Int32)))), .val (.int ((p2 &&& (2147483647 : Int32)) % ((1 : Int32) + (p1 &&& (255 : Int32))))), .unset, .unset, .unset, .unset, .unset, .unset, .unset, .unset, .unset, .unset, .unset, .unset, .unset, .unset, .unset, .unset] [(.int (p3 &&& (2147483647 : Int32)))])) _
    refine XS.iload X0.here hx rfl (hb hby at_22) rfl ?_
    show Steps p.tables e below (s₁.setTop (mkF m 24 #[.val (.int p1), .val (.int p2), .val (.int p3), .val (.int p4), .val (.int p5), .val (.int p6), .val (.int ((1 : Int32) + (p1 &&& (255 : Int32)))), .val (.int ((p2 &&& (2147483647 : Int32)) % ((1 : Int32) + (p1 &&& (255 : Int32))))), .unset, .unset, .unset, .unset, .unset, .unset, .unset, .unset, .unset, .unset, .unset, .unset, .unset, .unset, .unset, .unset] [(.int ((1 : Int32) + (p1 &&& (255 : Int32)))), (.int (p3 &&& (2147483647 : Int32)))])) _
    refine Jvm.RoadKit.iremM X0 hx rfl (hb hby at_24) rfl hnz24 ?_
    show Steps p.tables e below (s₁.setTop (mkF m 25 #[.val (.int p1), .val (.int p2), .val (.int p3), .val (.int p4), .val (.int p5), .val (.int p6), .val (.int ((1 : Int32) + (p1 &&& (255 : Int32)))), .val (.int ((p2 &&& (2147483647 : Int32)) % ((1 : Int32) + (p1 &&& (255 : Int32))))), .unset, .unset, .unset, .unset, .unset, .unset, .unset, .unset, .unset, .unset, .unset, .unset, .unset, .unset, .unset, .unset] [(.int ((p3 &&& (2147483647 : Int32)) % ((1 : Int32) + (p1 &&& (255 : Int32)))))])) _
    refine XS.istore X0.here hx rfl (hb hby at_25) rfl (l' := #[.val (.int p1), .val (.int p2), .val (.int p3), .val (.int p4), .val (.int p5), .val (.int p6), .val (.int ((1 : Int32) + (p1 &&& (255 : Int32)))), .val (.int ((p2 &&& (2147483647 : Int32)) % ((1 : Int32) + (p1 &&& (255 : Int32))))), .val (.int ((p3 &&& (2147483647 : Int32)) % ((1 : Int32) + (p1 &&& (255 : Int32))))), .unset, .unset, .unset, .unset, .unset, .unset, .unset, .unset, .unset, .unset, .unset, .unset, .unset, .unset, .unset]) rfl ?_
    show Steps p.tables e below (s₁.setTop (mkF m 27 #[.val (.int p1), .val (.int p2), .val (.int p3), .val (.int p4), .val (.int p5), .val (.int p6), .val (.int ((1 : Int32) + (p1 &&& (255 : Int32)))), .val (.int ((p2 &&& (2147483647 : Int32)) % ((1 : Int32) + (p1 &&& (255 : Int32))))), .val (.int ((p3 &&& (2147483647 : Int32)) % ((1 : Int32) + (p1 &&& (255 : Int32))))), .unset, .unset, .unset, .unset, .unset, .unset, .unset, .unset, .unset, .unset, .unset, .unset, .unset, .unset, .unset] [])) _
    refine XS.iloadN X0.here hx rfl (hb hby at_27) rfl ?_
    show Steps p.tables e below (s₁.setTop (mkF m 28 #[.val (.int p1), .val (.int p2), .val (.int p3), .val (.int p4), .val (.int p5), .val (.int p6), .val (.int ((1 : Int32) + (p1 &&& (255 : Int32)))), .val (.int ((p2 &&& (2147483647 : Int32)) % ((1 : Int32) + (p1 &&& (255 : Int32))))), .val (.int ((p3 &&& (2147483647 : Int32)) % ((1 : Int32) + (p1 &&& (255 : Int32))))), .unset, .unset, .unset, .unset, .unset, .unset, .unset, .unset, .unset, .unset, .unset, .unset, .unset, .unset, .unset] [(.int p4)])) _
    refine X0.ldcInt hx hown (mvT hZ (hw _ (List.mem_of_getElem? (i := 0) rfl))) (g := (mkF m 28 #[.val (.int p1), .val (.int p2), .val (.int p3), .val (.int p4), .val (.int p5), .val (.int p6), .val (.int ((1 : Int32) + (p1 &&& (255 : Int32)))), .val (.int ((p2 &&& (2147483647 : Int32)) % ((1 : Int32) + (p1 &&& (255 : Int32))))), .val (.int ((p3 &&& (2147483647 : Int32)) % ((1 : Int32) + (p1 &&& (255 : Int32))))), .unset, .unset, .unset, .unset, .unset, .unset, .unset, .unset, .unset, .unset, .unset, .unset, .unset, .unset, .unset] [(.int p4)])) rfl (hb hby at_28) _ ?_
    show Steps p.tables e below (s₁.setTop (mkF m 30 #[.val (.int p1), .val (.int p2), .val (.int p3), .val (.int p4), .val (.int p5), .val (.int p6), .val (.int ((1 : Int32) + (p1 &&& (255 : Int32)))), .val (.int ((p2 &&& (2147483647 : Int32)) % ((1 : Int32) + (p1 &&& (255 : Int32))))), .val (.int ((p3 &&& (2147483647 : Int32)) % ((1 : Int32) + (p1 &&& (255 : Int32))))), .unset, .unset, .unset, .unset, .unset, .unset, .unset, .unset, .unset, .unset, .unset, .unset, .unset, .unset, .unset] [(.int (2147483647 : Int32)), (.int p4)])) _
    refine XS.iand X0.here hx rfl (hb hby at_30) rfl ?_
    show Steps p.tables e below (s₁.setTop (mkF m 31 #[.val (.int p1), .val (.int p2), .val (.int p3), .val (.int p4), .val (.int p5), .val (.int p6), .val (.int ((1 : Int32) + (p1 &&& (255 : Int32)))), .val (.int ((p2 &&& (2147483647 : Int32)) % ((1 : Int32) + (p1 &&& (255 : Int32))))), .val (.int ((p3 &&& (2147483647 : Int32)) % ((1 : Int32) + (p1 &&& (255 : Int32))))), .unset, .unset, .unset, .unset, .unset, .unset, .unset, .unset, .unset, .unset, .unset, .unset, .unset, .unset, .unset] [(.int (p4 &&& (2147483647 : Int32)))])) _
    refine XS.iload X0.here hx rfl (hb hby at_31) rfl ?_
    show Steps p.tables e below (s₁.setTop (mkF m 33 #[.val (.int p1), .val (.int p2), .val (.int p3), .val (.int p4), .val (.int p5), .val (.int p6), .val (.int ((1 : Int32) + (p1 &&& (255 : Int32)))), .val (.int ((p2 &&& (2147483647 : Int32)) % ((1 : Int32) + (p1 &&& (255 : Int32))))), .val (.int ((p3 &&& (2147483647 : Int32)) % ((1 : Int32) + (p1 &&& (255 : Int32))))), .unset, .unset, .unset, .unset, .unset, .unset, .unset, .unset, .unset, .unset, .unset, .unset, .unset, .unset, .unset] [(.int ((1 : Int32) + (p1 &&& (255 : Int32)))), (.int (p4 &&& (2147483647 : Int32)))])) _
    refine Jvm.RoadKit.iremM X0 hx rfl (hb hby at_33) rfl hnz33 ?_
    show Steps p.tables e below (s₁.setTop (mkF m 34 #[.val (.int p1), .val (.int p2), .val (.int p3), .val (.int p4), .val (.int p5), .val (.int p6), .val (.int ((1 : Int32) + (p1 &&& (255 : Int32)))), .val (.int ((p2 &&& (2147483647 : Int32)) % ((1 : Int32) + (p1 &&& (255 : Int32))))), .val (.int ((p3 &&& (2147483647 : Int32)) % ((1 : Int32) + (p1 &&& (255 : Int32))))), .unset, .unset, .unset, .unset, .unset, .unset, .unset, .unset, .unset, .unset, .unset, .unset, .unset, .unset, .unset] [(.int ((p4 &&& (2147483647 : Int32)) % ((1 : Int32) + (p1 &&& (255 : Int32)))))])) _
    refine XS.istore X0.here hx rfl (hb hby at_34) rfl (l' := #[.val (.int p1), .val (.int p2), .val (.int p3), .val (.int p4), .val (.int p5), .val (.int p6), .val (.int ((1 : Int32) + (p1 &&& (255 : Int32)))), .val (.int ((p2 &&& (2147483647 : Int32)) % ((1 : Int32) + (p1 &&& (255 : Int32))))), .val (.int ((p3 &&& (2147483647 : Int32)) % ((1 : Int32) + (p1 &&& (255 : Int32))))), .val (.int ((p4 &&& (2147483647 : Int32)) % ((1 : Int32) + (p1 &&& (255 : Int32))))), .unset, .unset, .unset, .unset, .unset, .unset, .unset, .unset, .unset, .unset, .unset, .unset, .unset, .unset]) rfl ?_
    show Steps p.tables e below (s₁.setTop (mkF m 36 #[.val (.int p1), .val (.int p2), .val (.int p3), .val (.int p4), .val (.int p5), .val (.int p6), .val (.int ((1 : Int32) + (p1 &&& (255 : Int32)))), .val (.int ((p2 &&& (2147483647 : Int32)) % ((1 : Int32) + (p1 &&& (255 : Int32))))), .val (.int ((p3 &&& (2147483647 : Int32)) % ((1 : Int32) + (p1 &&& (255 : Int32))))), .val (.int ((p4 &&& (2147483647 : Int32)) % ((1 : Int32) + (p1 &&& (255 : Int32))))), .unset, .unset, .unset, .unset, .unset, .unset, .unset, .unset, .unset, .unset, .unset, .unset, .unset, .unset] [])) _
    refine XS.iload X0.here hx rfl (hb hby at_36) rfl ?_
    show Steps p.tables e below (s₁.setTop (mkF m 38 #[.val (.int p1), .val (.int p2), .val (.int p3), .val (.int p4), .val (.int p5), .val (.int p6), .val (.int ((1 : Int32) + (p1 &&& (255 : Int32)))), .val (.int ((p2 &&& (2147483647 : Int32)) % ((1 : Int32) + (p1 &&& (255 : Int32))))), .val (.int ((p3 &&& (2147483647 : Int32)) % ((1 : Int32) + (p1 &&& (255 : Int32))))), .val (.int ((p4 &&& (2147483647 : Int32)) % ((1 : Int32) + (p1 &&& (255 : Int32))))), .unset, .unset, .unset, .unset, .unset, .unset, .unset, .unset, .unset, .unset, .unset, .unset, .unset, .unset] [(.int p5)])) _
    refine X0.ldcInt hx hown (mvT hZ (hw _ (List.mem_of_getElem? (i := 0) rfl))) (g := (mkF m 38 #[.val (.int p1), .val (.int p2), .val (.int p3), .val (.int p4), .val (.int p5), .val (.int p6), .val (.int ((1 : Int32) + (p1 &&& (255 : Int32)))), .val (.int ((p2 &&& (2147483647 : Int32)) % ((1 : Int32) + (p1 &&& (255 : Int32))))), .val (.int ((p3 &&& (2147483647 : Int32)) % ((1 : Int32) + (p1 &&& (255 : Int32))))), .val (.int ((p4 &&& (2147483647 : Int32)) % ((1 : Int32) + (p1 &&& (255 : Int32))))), .unset, .unset, .unset, .unset, .unset, .unset, .unset, .unset, .unset, .unset, .unset, .unset, .unset, .unset] [(.int p5)])) rfl (hb hby at_38) _ ?_
    show Steps p.tables e below (s₁.setTop (mkF m 40 #[.val (.int p1), .val (.int p2), .val (.int p3), .val (.int p4), .val (.int p5), .val (.int p6), .val (.int ((1 : Int32) + (p1 &&& (255 : Int32)))), .val (.int ((p2 &&& (2147483647 : Int32)) % ((1 : Int32) + (p1 &&& (255 : Int32))))), .val (.int ((p3 &&& (2147483647 : Int32)) % ((1 : Int32) + (p1 &&& (255 : Int32))))), .val (.int ((p4 &&& (2147483647 : Int32)) % ((1 : Int32) + (p1 &&& (255 : Int32))))), .unset, .unset, .unset, .unset, .unset, .unset, .unset, .unset, .unset, .unset, .unset, .unset, .unset, .unset] [(.int (2147483647 : Int32)), (.int p5)])) _
    refine XS.iand X0.here hx rfl (hb hby at_40) rfl ?_
    show Steps p.tables e below (s₁.setTop (mkF m 41 #[.val (.int p1), .val (.int p2), .val (.int p3), .val (.int p4), .val (.int p5), .val (.int p6), .val (.int ((1 : Int32) + (p1 &&& (255 : Int32)))), .val (.int ((p2 &&& (2147483647 : Int32)) % ((1 : Int32) + (p1 &&& (255 : Int32))))), .val (.int ((p3 &&& (2147483647 : Int32)) % ((1 : Int32) + (p1 &&& (255 : Int32))))), .val (.int ((p4 &&& (2147483647 : Int32)) % ((1 : Int32) + (p1 &&& (255 : Int32))))), .unset, .unset, .unset, .unset, .unset, .unset, .unset, .unset, .unset, .unset, .unset, .unset, .unset, .unset] [(.int (p5 &&& (2147483647 : Int32)))])) _
    refine XS.iload X0.here hx rfl (hb hby at_41) rfl ?_
    show Steps p.tables e below (s₁.setTop (mkF m 43 #[.val (.int p1), .val (.int p2), .val (.int p3), .val (.int p4), .val (.int p5), .val (.int p6), .val (.int ((1 : Int32) + (p1 &&& (255 : Int32)))), .val (.int ((p2 &&& (2147483647 : Int32)) % ((1 : Int32) + (p1 &&& (255 : Int32))))), .val (.int ((p3 &&& (2147483647 : Int32)) % ((1 : Int32) + (p1 &&& (255 : Int32))))), .val (.int ((p4 &&& (2147483647 : Int32)) % ((1 : Int32) + (p1 &&& (255 : Int32))))), .unset, .unset, .unset, .unset, .unset, .unset, .unset, .unset, .unset, .unset, .unset, .unset, .unset, .unset] [(.int ((1 : Int32) + (p1 &&& (255 : Int32)))), (.int (p5 &&& (2147483647 : Int32)))])) _
    refine Jvm.RoadKit.iremM X0 hx rfl (hb hby at_43) rfl hnz43 ?_
    show Steps p.tables e below (s₁.setTop (mkF m 44 #[.val (.int p1), .val (.int p2), .val (.int p3), .val (.int p4), .val (.int p5), .val (.int p6), .val (.int ((1 : Int32) + (p1 &&& (255 : Int32)))), .val (.int ((p2 &&& (2147483647 : Int32)) % ((1 : Int32) + (p1 &&& (255 : Int32))))), .val (.int ((p3 &&& (2147483647 : Int32)) % ((1 : Int32) + (p1 &&& (255 : Int32))))), .val (.int ((p4 &&& (2147483647 : Int32)) % ((1 : Int32) + (p1 &&& (255 : Int32))))), .unset, .unset, .unset, .unset, .unset, .unset, .unset, .unset, .unset, .unset, .unset, .unset, .unset, .unset] [(.int ((p5 &&& (2147483647 : Int32)) % ((1 : Int32) + (p1 &&& (255 : Int32)))))])) _
    refine XS.istore X0.here hx rfl (hb hby at_44) rfl (l' := #[.val (.int p1), .val (.int p2), .val (.int p3), .val (.int p4), .val (.int p5), .val (.int p6), .val (.int ((1 : Int32) + (p1 &&& (255 : Int32)))), .val (.int ((p2 &&& (2147483647 : Int32)) % ((1 : Int32) + (p1 &&& (255 : Int32))))), .val (.int ((p3 &&& (2147483647 : Int32)) % ((1 : Int32) + (p1 &&& (255 : Int32))))), .val (.int ((p4 &&& (2147483647 : Int32)) % ((1 : Int32) + (p1 &&& (255 : Int32))))), .val (.int ((p5 &&& (2147483647 : Int32)) % ((1 : Int32) + (p1 &&& (255 : Int32))))), .unset, .unset, .unset, .unset, .unset, .unset, .unset, .unset, .unset, .unset, .unset, .unset, .unset]) rfl ?_
    exact k)
  rw [e1, e2, e3, ep, esz] at P9
  have P10 : ∀ t, Steps p.tables e below (s₁.setTop (mkF m 60 #[.val (.int p1), .val (.int p2), .val (.int p3), .val (.int p4), .val (.int p5), .val (.int p6), .val (.int (Int32.ofNat sz)), .val (.int (Int32.ofNat n1)), .val (.int (Int32.ofNat n2)), .val (.int (Int32.ofNat n3)), .val (.int (Int32.ofNat np)), .val (.int (own_b tw)), .unset, .unset, .unset, .unset, .unset, .unset, .unset, .unset, .unset, .unset, .unset, .unset] [])) t → Steps p.tables e below (s₁.setTop (entryFrame m #[(.int p1), (.int p2), (.int p3), (.int p4), (.int p5), (.int p6)] maxLocals)) t := by
    by_cases hc50 : (p6 &&& (1 : Int32)) = (0 : Int32)
    · rw [tw0 hc50]
      have P11 : ∀ t, Steps p.tables e below (s₁.setTop (mkF m 60 #[.val (.int p1), .val (.int p2), .val (.int p3), .val (.int p4), .val (.int p5), .val (.int p6), .val (.int (Int32.ofNat sz)), .val (.int (Int32.ofNat n1)), .val (.int (Int32.ofNat n2)), .val (.int (Int32.ofNat n3)), .val (.int (Int32.ofNat np)), .val (.int (0 : Int32)), .unset, .unset, .unset, .unset, .unset, .unset, .unset, .unset, .unset, .unset, .unset, .unset] [])) t → Steps p.tables e below (s₁.setTop (entryFrame m #[(.int p1), (.int p2), (.int p3), (.int p4), (.int p5), (.int p6)] maxLocals)) t := fun t k => P9 t (by
        show Steps p.tables e below (s₁.setTop (mkF m 46 #[.val (.int p1), .val (.int p2), .val (.int p3), .val (.int p4), .val (.int p5), .val (.int p6), .val (.int (Int32.ofNat sz)), .val (.int (Int32.ofNat n1)), .val (.int (Int32.ofNat n2)), .val (.int (Int32.ofNat n3)), .val (.int (Int32.ofNat np)), .unset, .unset, .unset, .unset, .unset, .unset, .unset, .unset, .unset, .unset, .unset, .unset, .unset] [])) _
        refine XS.iload X0.here hx rfl (hb hby at_46) rfl ?_
        show Steps p.tables e below (s₁.setTop (mkF m 48 #[.val (.int p1), .val (.int p2), .val (.int p3), .val (.int p4), .val (.int p5), .val (.int p6), .val (.int (Int32.ofNat sz)), .val (.int (Int32.ofNat n1)), .val (.int (Int32.ofNat n2)), .val (.int (Int32.ofNat n3)), .val (.int (Int32.ofNat np)), .unset, .unset, .unset, .unset, .unset, .unset, .unset, .unset, .unset, .unset, .unset, .unset, .unset] [(.int p6)])) _
        refine XS.iconst X0.here hx rfl (hb hby at_48) ?_
        show Steps p.tables e below (s₁.setTop (mkF m 49 #[.val (.int p1), .val (.int p2), .val (.int p3), .val (.int p4), .val (.int p5), .val (.int p6), .val (.int (Int32.ofNat sz)), .val (.int (Int32.ofNat n1)), .val (.int (Int32.ofNat n2)), .val (.int (Int32.ofNat n3)), .val (.int (Int32.ofNat np)), .unset, .unset, .unset, .unset, .unset, .unset, .unset, .unset, .unset, .unset, .unset, .unset, .unset] [(.int (1 : Int32)), (.int p6)])) _
        refine XS.iand X0.here hx rfl (hb hby at_49) rfl ?_
        show Steps p.tables e below (s₁.setTop (mkF m 50 #[.val (.int p1), .val (.int p2), .val (.int p3), .val (.int p4), .val (.int p5), .val (.int p6), .val (.int (Int32.ofNat sz)), .val (.int (Int32.ofNat n1)), .val (.int (Int32.ofNat n2)), .val (.int (Int32.ofNat n3)), .val (.int (Int32.ofNat np)), .unset, .unset, .unset, .unset, .unset, .unset, .unset, .unset, .unset, .unset, .unset, .unset, .unset] [(.int (p6 &&& (1 : Int32)))])) _
        refine XS.ifYes X0.here hx rfl (pc0 := 50) (pc' := 57) rfl (hb hby at_50) rfl ((if0 _ _).trans (teq hc50).1) (by decide) (by decide) ?_
        show Steps p.tables e below (s₁.setTop (mkF m 57 #[.val (.int p1), .val (.int p2), .val (.int p3), .val (.int p4), .val (.int p5), .val (.int p6), .val (.int (Int32.ofNat sz)), .val (.int (Int32.ofNat n1)), .val (.int (Int32.ofNat n2)), .val (.int (Int32.ofNat n3)), .val (.int (Int32.ofNat np)), .unset, .unset, .unset, .unset, .unset, .unset, .unset, .unset, .unset, .unset, .unset, .unset, .unset] [])) _
        refine XS.iconst X0.here hx rfl (hb hby at_57) ?_
        show Steps p.tables e below (s₁.setTop (mkF m 58 #[.val (.int p1), .val (.int p2), .val (.int p3), .val (.int p4), .val (.int p5), .val (.int p6), .val (.int (Int32.ofNat sz)), .val (.int (Int32.ofNat n1)), .val (.int (Int32.ofNat n2)), .val (.int (Int32.ofNat n3)), .val (.int (Int32.ofNat np)), .unset, .unset, .unset, .unset, .unset, .unset, .unset, .unset, .unset, .unset, .unset, .unset, .unset] [(.int (0 : Int32))])) _
        refine XS.istore X0.here hx rfl (hb hby at_58) rfl (l' := #[.val (.int p1), .val (.int p2), .val (.int p3), .val (.int p4), .val (.int p5), .val (.int p6), .val (.int (Int32.ofNat sz)), .val (.int (Int32.ofNat n1)), .val (.int (Int32.ofNat n2)), .val (.int (Int32.ofNat n3)), .val (.int (Int32.ofNat np)), .val (.int (0 : Int32)), .unset, .unset, .unset, .unset, .unset, .unset, .unset, .unset, .unset, .unset, .unset, .unset]) rfl ?_
        exact k)
      exact P11
    · rw [tw1 hc50]
      have P12 : ∀ t, Steps p.tables e below (s₁.setTop (mkF m 60 #[.val (.int p1), .val (.int p2), .val (.int p3), .val (.int p4), .val (.int p5), .val (.int p6), .val (.int (Int32.ofNat sz)), .val (.int (Int32.ofNat n1)), .val (.int (Int32.ofNat n2)), .val (.int (Int32.ofNat n3)), .val (.int (Int32.ofNat np)), .val (.int (1 : Int32)), .unset, .unset, .unset, .unset, .unset, .unset, .unset, .unset, .unset, .unset, .unset, .unset] [])) t → Steps p.tables e below (s₁.setTop (entryFrame m #[(.int p1), (.int p2), (.int p3), (.int p4), (.int p5), (.int p6)] maxLocals)) t := fun t k => P9 t (by
        show Steps p.tables e below (s₁.setTop (mkF m 46 #[.val (.int p1), .val (.int p2), .val (.int p3), .val (.int p4), .val (.int p5), .val (.int p6), .val (.int (Int32.ofNat sz)), .val (.int (Int32.ofNat n1)), .val (.int (Int32.ofNat n2)), .val (.int (Int32.ofNat n3)), .val (.int (Int32.ofNat np)), .unset, .unset, .unset, .unset, .unset, .unset, .unset, .unset, .unset, .unset, .unset, .unset, .unset] [])) _
        refine XS.iload X0.here hx rfl (hb hby at_46) rfl ?_
        show Steps p.tables e below (s₁.setTop (mkF m 48 #[.val (.int p1), .val (.int p2), .val (.int p3), .val (.int p4), .val (.int p5), .val (.int p6), .val (.int (Int32.ofNat sz)), .val (.int (Int32.ofNat n1)), .val (.int (Int32.ofNat n2)), .val (.int (Int32.ofNat n3)), .val (.int (Int32.ofNat np)), .unset, .unset, .unset, .unset, .unset, .unset, .unset, .unset, .unset, .unset, .unset, .unset, .unset] [(.int p6)])) _
        refine XS.iconst X0.here hx rfl (hb hby at_48) ?_
        show Steps p.tables e below (s₁.setTop (mkF m 49 #[.val (.int p1), .val (.int p2), .val (.int p3), .val (.int p4), .val (.int p5), .val (.int p6), .val (.int (Int32.ofNat sz)), .val (.int (Int32.ofNat n1)), .val (.int (Int32.ofNat n2)), .val (.int (Int32.ofNat n3)), .val (.int (Int32.ofNat np)), .unset, .unset, .unset, .unset, .unset, .unset, .unset, .unset, .unset, .unset, .unset, .unset, .unset] [(.int (1 : Int32)), (.int p6)])) _
        refine XS.iand X0.here hx rfl (hb hby at_49) rfl ?_
        show Steps p.tables e below (s₁.setTop (mkF m 50 #[.val (.int p1), .val (.int p2), .val (.int p3), .val (.int p4), .val (.int p5), .val (.int p6), .val (.int (Int32.ofNat sz)), .val (.int (Int32.ofNat n1)), .val (.int (Int32.ofNat n2)), .val (.int (Int32.ofNat n3)), .val (.int (Int32.ofNat np)), .unset, .unset, .unset, .unset, .unset, .unset, .unset, .unset, .unset, .unset, .unset, .unset, .unset] [(.int (p6 &&& (1 : Int32)))])) _
        refine XS.ifNo X0.here hx rfl (hb hby at_50) rfl ((if0 _ _).trans (feq hc50).1) ?_
        show Steps p.tables e below (s₁.setTop (mkF m 53 #[.val (.int p1), .val (.int p2), .val (.int p3), .val (.int p4), .val (.int p5), .val (.int p6), .val (.int (Int32.ofNat sz)), .val (.int (Int32.ofNat n1)), .val (.int (Int32.ofNat n2)), .val (.int (Int32.ofNat n3)), .val (.int (Int32.ofNat np)), .unset, .unset, .unset, .unset, .unset, .unset, .unset, .unset, .unset, .unset, .unset, .unset, .unset] [])) _
        refine XS.iconst X0.here hx rfl (hb hby at_53) ?_
        show Steps p.tables e below (s₁.setTop (mkF m 54 #[.val (.int p1), .val (.int p2), .val (.int p3), .val (.int p4), .val (.int p5), .val (.int p6), .val (.int (Int32.ofNat sz)), .val (.int (Int32.ofNat n1)), .val (.int (Int32.ofNat n2)), .val (.int (Int32.ofNat n3)), .val (.int (Int32.ofNat np)), .unset, .unset, .unset, .unset, .unset, .unset, .unset, .unset, .unset, .unset, .unset, .unset, .unset] [(.int (1 : Int32))])) _
        refine XS.goto X0.here hx rfl (pc0 := 54) (pc' := 58) rfl (hb hby at_54) (by decide) (by decide) ?_
        show Steps p.tables e below (s₁.setTop (mkF m 58 #[.val (.int p1), .val (.int p2), .val (.int p3), .val (.int p4), .val (.int p5), .val (.int p6), .val (.int (Int32.ofNat sz)), .val (.int (Int32.ofNat n1)), .val (.int (Int32.ofNat n2)), .val (.int (Int32.ofNat n3)), .val (.int (Int32.ofNat np)), .unset, .unset, .unset, .unset, .unset, .unset, .unset, .unset, .unset, .unset, .unset, .unset, .unset] [(.int (1 : Int32))])) _
        refine XS.istore X0.here hx rfl (hb hby at_58) rfl (l' := #[.val (.int p1), .val (.int p2), .val (.int p3), .val (.int p4), .val (.int p5), .val (.int p6), .val (.int (Int32.ofNat sz)), .val (.int (Int32.ofNat n1)), .val (.int (Int32.ofNat n2)), .val (.int (Int32.ofNat n3)), .val (.int (Int32.ofNat np)), .val (.int (1 : Int32)), .unset, .unset, .unset, .unset, .unset, .unset, .unset, .unset, .unset, .unset, .unset, .unset]) rfl ?_
        exact k)
      exact P12
  have P13 : ∀ t, Steps p.tables e below (s₁.setTop (mkF m 74 #[.val (.int p1), .val (.int p2), .val (.int p3), .val (.int p4), .val (.int p5), .val (.int p6), .val (.int (Int32.ofNat sz)), .val (.int (Int32.ofNat n1)), .val (.int (Int32.ofNat n2)), .val (.int (Int32.ofNat n3)), .val (.int (Int32.ofNat np)), .val (.int (own_b tw)), .val (.int (own_b th)), .unset, .unset, .unset, .unset, .unset, .unset, .unset, .unset, .unset, .unset, .unset] [])) t → Steps p.tables e below (s₁.setTop (entryFrame m #[(.int p1), (.int p2), (.int p3), (.int p4), (.int p5), (.int p6)] maxLocals)) t := by
    by_cases hc64 : (p6 &&& (2 : Int32)) = (0 : Int32)
    · rw [th0 hc64]
      have P14 : ∀ t, Steps p.tables e below (s₁.setTop (mkF m 74 #[.val (.int p1), .val (.int p2), .val (.int p3), .val (.int p4), .val (.int p5), .val (.int p6), .val (.int (Int32.ofNat sz)), .val (.int (Int32.ofNat n1)), .val (.int (Int32.ofNat n2)), .val (.int (Int32.ofNat n3)), .val (.int (Int32.ofNat np)), .val (.int (own_b tw)), .val (.int (0 : Int32)), .unset, .unset, .unset, .unset, .unset, .unset, .unset, .unset, .unset, .unset, .unset] [])) t → Steps p.tables e below (s₁.setTop (entryFrame m #[(.int p1), (.int p2), (.int p3), (.int p4), (.int p5), (.int p6)] maxLocals)) t := fun t k => P10 t (by
        show Steps p.tables e below (s₁.setTop (mkF m 60 #[.val (.int p1), .val (.int p2), .val (.int p3), .val (.int p4), .val (.int p5), .val (.int p6), .val (.int (Int32.ofNat sz)), .val (.int (Int32.ofNat n1)), .val (.int (Int32.ofNat n2)), .val (.int (Int32.ofNat n3)), .val (.int (Int32.ofNat np)), .val (.int (own_b tw)), .unset, .unset, .unset, .unset, .unset, .unset, .unset, .unset, .unset, .unset, .unset, .unset] [])) _
        refine XS.iload X0.here hx rfl (hb hby at_60) rfl ?_
        show Steps p.tables e below (s₁.setTop (mkF m 62 #[.val (.int p1), .val (.int p2), .val (.int p3), .val (.int p4), .val (.int p5), .val (.int p6), .val (.int (Int32.ofNat sz)), .val (.int (Int32.ofNat n1)), .val (.int (Int32.ofNat n2)), .val (.int (Int32.ofNat n3)), .val (.int (Int32.ofNat np)), .val (.int (own_b tw)), .unset, .unset, .unset, .unset, .unset, .unset, .unset, .unset, .unset, .unset, .unset, .unset] [(.int p6)])) _
        refine XS.iconst X0.here hx rfl (hb hby at_62) ?_
        show Steps p.tables e below (s₁.setTop (mkF m 63 #[.val (.int p1), .val (.int p2), .val (.int p3), .val (.int p4), .val (.int p5), .val (.int p6), .val (.int (Int32.ofNat sz)), .val (.int (Int32.ofNat n1)), .val (.int (Int32.ofNat n2)), .val (.int (Int32.ofNat n3)), .val (.int (Int32.ofNat np)), .val (.int (own_b tw)), .unset, .unset, .unset, .unset, .unset, .unset, .unset, .unset, .unset, .unset, .unset, .unset] [(.int (2 : Int32)), (.int p6)])) _
        refine XS.iand X0.here hx rfl (hb hby at_63) rfl ?_
        show Steps p.tables e below (s₁.setTop (mkF m 64 #[.val (.int p1), .val (.int p2), .val (.int p3), .val (.int p4), .val (.int p5), .val (.int p6), .val (.int (Int32.ofNat sz)), .val (.int (Int32.ofNat n1)), .val (.int (Int32.ofNat n2)), .val (.int (Int32.ofNat n3)), .val (.int (Int32.ofNat np)), .val (.int (own_b tw)), .unset, .unset, .unset, .unset, .unset, .unset, .unset, .unset, .unset, .unset, .unset, .unset] [(.int (p6 &&& (2 : Int32)))])) _
        refine XS.ifYes X0.here hx rfl (pc0 := 64) (pc' := 71) rfl (hb hby at_64) rfl ((if0 _ _).trans (teq hc64).1) (by decide) (by decide) ?_
        show Steps p.tables e below (s₁.setTop (mkF m 71 #[.val (.int p1), .val (.int p2), .val (.int p3), .val (.int p4), .val (.int p5), .val (.int p6), .val (.int (Int32.ofNat sz)), .val (.int (Int32.ofNat n1)), .val (.int (Int32.ofNat n2)), .val (.int (Int32.ofNat n3)), .val (.int (Int32.ofNat np)), .val (.int (own_b tw)), .unset, .unset, .unset, .unset, .unset, .unset, .unset, .unset, .unset, .unset, .unset, .unset] [])) _
        refine XS.iconst X0.here hx rfl (hb hby at_71) ?_
        show Steps p.tables e below (s₁.setTop (mkF m 72 #[.val (.int p1), .val (.int p2), .val (.int p3), .val (.int p4), .val (.int p5), .val (.int p6), .val (.int (Int32.ofNat sz)), .val (.int (Int32.ofNat n1)), .val (.int (Int32.ofNat n2)), .val (.int (Int32.ofNat n3)), .val (.int (Int32.ofNat np)), .val (.int (own_b tw)), .unset, .unset, .unset, .unset, .unset, .unset, .unset, .unset, .unset, .unset, .unset, .unset] [(.int (0 : Int32))])) _
        refine XS.istore X0.here hx rfl (hb hby at_72) rfl (l' := #[.val (.int p1), .val (.int p2), .val (.int p3), .val (.int p4), .val (.int p5), .val (.int p6), .val (.int (Int32.ofNat sz)), .val (.int (Int32.ofNat n1)), .val (.int (Int32.ofNat n2)), .val (.int (Int32.ofNat n3)), .val (.int (Int32.ofNat np)), .val (.int (own_b tw)), .val (.int (0 : Int32)), .unset, .unset, .unset, .unset, .unset, .unset, .unset, .unset, .unset, .unset, .unset]) rfl ?_
        exact k)
      exact P14
    · rw [th1 hc64]
      have P15 : ∀ t, Steps p.tables e below (s₁.setTop (mkF m 74 #[.val (.int p1), .val (.int p2), .val (.int p3), .val (.int p4), .val (.int p5), .val (.int p6), .val (.int (Int32.ofNat sz)), .val (.int (Int32.ofNat n1)), .val (.int (Int32.ofNat n2)), .val (.int (Int32.ofNat n3)), .val (.int (Int32.ofNat np)), .val (.int (own_b tw)), .val (.int (1 : Int32)), .unset, .unset, .unset, .unset, .unset, .unset, .unset, .unset, .unset, .unset, .unset] [])) t → Steps p.tables e below (s₁.setTop (entryFrame m #[(.int p1), (.int p2), (.int p3), (.int p4), (.int p5), (.int p6)] maxLocals)) t := fun t k => P10 t (by
        show Steps p.tables e below (s₁.setTop (mkF m 60 #[.val (.int p1), .val (.int p2), .val (.int p3), .val (.int p4), .val (.int p5), .val (.int p6), .val (.int (Int32.ofNat sz)), .val (.int (Int32.ofNat n1)), .val (.int (Int32.ofNat n2)), .val (.int (Int32.ofNat n3)), .val (.int (Int32.ofNat np)), .val (.int (own_b tw)), .unset, .unset, .unset, .unset, .unset, .unset, .unset, .unset, .unset, .unset, .unset, .unset] [])) _
        refine XS.iload X0.here hx rfl (hb hby at_60) rfl ?_
        show Steps p.tables e below (s₁.setTop (mkF m 62 #[.val (.int p1), .val (.int p2), .val (.int p3), .val (.int p4), .val (.int p5), .val (.int p6), .val (.int (Int32.ofNat sz)), .val (.int (Int32.ofNat n1)), .val (.int (Int32.ofNat n2)), .val (.int (Int32.ofNat n3)), .val (.int (Int32.ofNat np)), .val (.int (own_b tw)), .unset, .unset, .unset, .unset, .unset, .unset, .unset, .unset, .unset, .unset, .unset, .unset] [(.int p6)])) _
        refine XS.iconst X0.here hx rfl (hb hby at_62) ?_
        show Steps p.tables e below (s₁.setTop (mkF m 63 #[.val (.int p1), .val (.int p2), .val (.int p3), .val (.int p4), .val (.int p5), .val (.int p6), .val (.int (Int32.ofNat sz)), .val (.int (Int32.ofNat n1)), .val (.int (Int32.ofNat n2)), .val (.int (Int32.ofNat n3)), .val (.int (Int32.ofNat np)), .val (.int (own_b tw)), .unset, .unset, .unset, .unset, .unset, .unset, .unset, .unset, .unset, .unset, .unset, .unset] [(.int (2 : Int32)), (.int p6)])) _
        refine XS.iand X0.here hx rfl (hb hby at_63) rfl ?_
        show Steps p.tables e below (s₁.setTop (mkF m 64 #[.val (.int p1), .val (.int p2), .val (.int p3), .val (.int p4), .val (.int p5), .val (.int p6), .val (.int (Int32.ofNat sz)), .val (.int (Int32.ofNat n1)), .val (.int (Int32.ofNat n2)), .val (.int (Int32.ofNat n3)), .val (.int (Int32.ofNat np)), .val (.int (own_b tw)), .unset, .unset, .unset, .unset, .unset, .unset, .unset, .unset, .unset, .unset, .unset, .unset] [(.int (p6 &&& (2 : Int32)))])) _
        refine XS.ifNo X0.here hx rfl (hb hby at_64) rfl ((if0 _ _).trans (feq hc64).1) ?_
        show Steps p.tables e below (s₁.setTop (mkF m 67 #[.val (.int p1), .val (.int p2), .val (.int p3), .val (.int p4), .val (.int p5), .val (.int p6), .val (.int (Int32.ofNat sz)), .val (.int (Int32.ofNat n1)), .val (.int (Int32.ofNat n2)), .val (.int (Int32.ofNat n3)), .val (.int (Int32.ofNat np)), .val (.int (own_b tw)), .unset, .unset, .unset, .unset, .unset, .unset, .unset, .unset, .unset, .unset, .unset, .unset] [])) _
        refine XS.iconst X0.here hx rfl (hb hby at_67) ?_
        show Steps p.tables e below (s₁.setTop (mkF m 68 #[.val (.int p1), .val (.int p2), .val (.int p3), .val (.int p4), .val (.int p5), .val (.int p6), .val (.int (Int32.ofNat sz)), .val (.int (Int32.ofNat n1)), .val (.int (Int32.ofNat n2)), .val (.int (Int32.ofNat n3)), .val (.int (Int32.ofNat np)), .val (.int (own_b tw)), .unset, .unset, .unset, .unset, .unset, .unset, .unset, .unset, .unset, .unset, .unset, .unset] [(.int (1 : Int32))])) _
        refine XS.goto X0.here hx rfl (pc0 := 68) (pc' := 72) rfl (hb hby at_68) (by decide) (by decide) ?_
        show Steps p.tables e below (s₁.setTop (mkF m 72 #[.val (.int p1), .val (.int p2), .val (.int p3), .val (.int p4), .val (.int p5), .val (.int p6), .val (.int (Int32.ofNat sz)), .val (.int (Int32.ofNat n1)), .val (.int (Int32.ofNat n2)), .val (.int (Int32.ofNat n3)), .val (.int (Int32.ofNat np)), .val (.int (own_b tw)), .unset, .unset, .unset, .unset, .unset, .unset, .unset, .unset, .unset, .unset, .unset, .unset] [(.int (1 : Int32))])) _
        refine XS.istore X0.here hx rfl (hb hby at_72) rfl (l' := #[.val (.int p1), .val (.int p2), .val (.int p3), .val (.int p4), .val (.int p5), .val (.int p6), .val (.int (Int32.ofNat sz)), .val (.int (Int32.ofNat n1)), .val (.int (Int32.ofNat n2)), .val (.int (Int32.ofNat n3)), .val (.int (Int32.ofNat np)), .val (.int (own_b tw)), .val (.int (1 : Int32)), .unset, .unset, .unset, .unset, .unset, .unset, .unset, .unset, .unset, .unset, .unset]) rfl ?_
        exact k)
      exact P15
  obtain ⟨T101, h101, k101, X101, e101, E101, A101, O101, st101⟩ := newR X0 hx hZ hown (hw _ (List.mem_of_getElem? (i := 1) rfl)) (hw _ (List.mem_of_getElem? (i := 2) rfl)) e0 (g := (mkF m 77 #[.val (.int p1), .val (.int p2), .val (.int p3), .val (.int p4), .val (.int p5), .val (.int p6), .val (.int (Int32.ofNat sz)), .val (.int (Int32.ofNat n1)), .val (.int (Int32.ofNat n2)), .val (.int (Int32.ofNat n3)), .val (.int (Int32.ofNat np)), .val (.int (own_b tw)), .val (.int (own_b th)), .unset, .unset, .unset, .unset, .unset, .unset, .unset, .unset, .unset, .unset, .unset] [(.int (256 : Int32))])) rfl (hb hby at_77) rfl (by decide) (cap := 256) (by decide) (by decide) (by decide) (by decide)
  obtain ⟨b101, g101⟩ : ∃ z, z = h0.size := ⟨_, rfl⟩
  rw [← g101] at A101 st101
  have V_b101 := Arv.new A101 (by decide)
  have g_b101 : n0 ≤ b101 := Nat.le_trans (Nat.le_trans Z0 KH0.1) (Nat.le_of_eq g101.symm)
  have sz_b101 : h0.size ≤ b101 := (Nat.le_trans KH0.1 (Nat.le_of_eq g101.symm))
  have K101 : Keep h0 h101 [] := KH0.ext E101
  have P16 : ∀ t, Steps p.tables e below (T101.setTop (mkF m 80 #[.val (.int p1), .val (.int p2), .val (.int p3), .val (.int p4), .val (.int p5), .val (.int p6), .val (.int (Int32.ofNat sz)), .val (.int (Int32.ofNat n1)), .val (.int (Int32.ofNat n2)), .val (.int (Int32.ofNat n3)), .val (.int (Int32.ofNat np)), .val (.int (own_b tw)), .val (.int (own_b th)), .unset, .unset, .unset, .unset, .unset, .unset, .unset, .unset, .unset, .unset, .unset] [(.ref b101)])) t → Steps p.tables e below (s₁.setTop (entryFrame m #[(.int p1), (.int p2), (.int p3), (.int p4), (.int p5), (.int p6)] maxLocals)) t := fun t k => P13 t (by
    show Steps p.tables e below (s₁.setTop (mkF m 74 #[.val (.int p1), .val (.int p2), .val (.int p3), .val (.int p4), .val (.int p5), .val (.int p6), .val (.int (Int32.ofNat sz)), .val (.int (Int32.ofNat n1)), .val (.int (Int32.ofNat n2)), .val (.int (Int32.ofNat n3)), .val (.int (Int32.ofNat np)), .val (.int (own_b tw)), .val (.int (own_b th)), .unset, .unset, .unset, .unset, .unset, .unset, .unset, .unset, .unset, .unset, .unset] [])) _
    refine XS.sipush X0.here hx rfl (hb hby at_74) ?_
    show Steps p.tables e below (s₁.setTop (mkF m 77 #[.val (.int p1), .val (.int p2), .val (.int p3), .val (.int p4), .val (.int p5), .val (.int p6), .val (.int (Int32.ofNat sz)), .val (.int (Int32.ofNat n1)), .val (.int (Int32.ofNat n2)), .val (.int (Int32.ofNat n3)), .val (.int (Int32.ofNat np)), .val (.int (own_b tw)), .val (.int (own_b th)), .unset, .unset, .unset, .unset, .unset, .unset, .unset, .unset, .unset, .unset, .unset] [(.int (256 : Int32))])) _
    refine st101 _ ?_
    exact k)
  have Oa0 : own_Oa Z h101 b101 (fun _ => .null) := ⟨_, A101, O101, sz_new _ _ _, fun k hk => by
    have q := get_new (cA := k101) (ty := (.object "java/lang/Object")) (n := (256 : Int32)) (k := Int32.ofNat k) (idx_in hk (by decide))
    rw [own_clamp (by omega)] at q
    exact q⟩
  have i1 : Ins Z h0 x1 "java/lang/Object" true := Ins.of_exa X1_ (hw _ (List.mem_of_getElem? (i := 10) rfl))
  have i2 : Ins Z h0 x2 "java/lang/Object" true := Ins.of_exa X2_ (hw _ (List.mem_of_getElem? (i := 10) rfl))
  have i3 : Ins Z h0 x3 "java/lang/Object" true := Ins.of_exa X3_ (hw _ (List.mem_of_getElem? (i := 10) rfl))
  have hin21 : ¬ (((1 : Int32) + (128 : Int32)) < 0 ∨ cca.slots.size ≤ (((1 : Int32) + (128 : Int32))).toNatClampNeg) := by rw [zC]; decide
  have hat21 : cca.slots[(((1 : Int32) + (128 : Int32))).toNatClampNeg]? = some (.ref x1) := by rw [show (((1 : Int32) + (128 : Int32))).toNatClampNeg = 129 by decide]; exact f1
  obtain ⟨_, _, ⟨T102, L102, k102, n102⟩, -, X102, ⟨Lc102, hQ102, l102, y102, z102⟩, st102⟩ := Jvm.LawKit.callS X101 hx (y := (⟨"java/lang/Integer", "valueOf", "(I)Ljava/lang/Integer;"⟩ : MethodName)) hown (mvT hZ (hw _ (List.mem_of_getElem? (i := 3) rfl))) (mvT hZ (hw _ (List.mem_of_getElem? (i := 4) rfl))) (mvT hZ (hw _ (List.mem_of_getElem? (i := 5) rfl))) (mvT hZ (hw _ (List.mem_of_getElem? (i := 6) rfl))) (by decide) (backOf (W := 2) (rm1 l Z a0 hw [] (1 : Int32) (127 : Int32) ca x1 cca h101 n0 (Nat.le_trans Z0 K101.1) (own_staKeep SH K101) (own_staKeep SC K101) (own_arrKeep AC K101 nin0) hin21 hat21 (by decide) (by decide)) hZ (hw _ (List.mem_of_getElem? (i := 6) rfl)) (hw _ (List.mem_of_getElem? (i := 5) rfl)) (by decide) (by decide)) (g := (mkF m 87 #[.val (.int p1), .val (.int p2), .val (.int p3), .val (.int p4), .val (.int p5), .val (.int p6), .val (.int (Int32.ofNat sz)), .val (.int (Int32.ofNat n1)), .val (.int (Int32.ofNat n2)), .val (.int (Int32.ofNat n3)), .val (.int (Int32.ofNat np)), .val (.int (own_b tw)), .val (.int (own_b th)), .val (.ref b101), .unset, .unset, .unset, .unset, .unset, .unset, .unset, .unset, .unset, .unset] [(.int (1 : Int32)), (.int (Int32.ofNat n1)), (.ref b101)])) rfl (by rw [hml]; rfl) (argsL := [(.int (1 : Int32))]) (rest := [(.int (Int32.ofNat n1)), (.ref b101)]) (lenOf pd_0_0 rfl) rfl (by show 2 * 0 + _ ≤ _; exact Nat.le_of_eq rfl) (hb hby at_87) (fun _ _ => ⟨rfl, e101, (by exact Nat.le_of_ble_eq_true rfl), (by exact Nat.le_of_ble_eq_true rfl)⟩)
  dsimp only [Pt.U, Pt.locs, Pt.cells, Pt.slots] at X102 l102 y102 z102 st102 hQ102
  subst l102 y102 z102
  obtain ⟨rfl, N102q, eQ102⟩ := hQ102
  have N102 := Fr.app N0 N102q
  have P17 : ∀ t, Steps p.tables e below (T102.setTop (mkF m 90 #[.val (.int p1), .val (.int p2), .val (.int p3), .val (.int p4), .val (.int p5), .val (.int p6), .val (.int (Int32.ofNat sz)), .val (.int (Int32.ofNat n1)), .val (.int (Int32.ofNat n2)), .val (.int (Int32.ofNat n3)), .val (.int (Int32.ofNat np)), .val (.int (own_b tw)), .val (.int (own_b th)), .val (.ref b101), .unset, .unset, .unset, .unset, .unset, .unset, .unset, .unset, .unset, .unset] [(.ref x1), (.int (Int32.ofNat n1)), (.ref b101)])) t → Steps p.tables e below (s₁.setTop (entryFrame m #[(.int p1), (.int p2), (.int p3), (.int p4), (.int p5), (.int p6)] maxLocals)) t := fun t k => P16 t (by
    show Steps p.tables e below (T101.setTop (mkF m 80 #[.val (.int p1), .val (.int p2), .val (.int p3), .val (.int p4), .val (.int p5), .val (.int p6), .val (.int (Int32.ofNat sz)), .val (.int (Int32.ofNat n1)), .val (.int (Int32.ofNat n2)), .val (.int (Int32.ofNat n3)), .val (.int (Int32.ofNat np)), .val (.int (own_b tw)), .val (.int (own_b th)), .unset, .unset, .unset, .unset, .unset, .unset, .unset, .unset, .unset, .unset, .unset] [(.ref b101)])) _
    refine XS.astore X101.here hx rfl (hb hby at_80) rfl rfl (l' := #[.val (.int p1), .val (.int p2), .val (.int p3), .val (.int p4), .val (.int p5), .val (.int p6), .val (.int (Int32.ofNat sz)), .val (.int (Int32.ofNat n1)), .val (.int (Int32.ofNat n2)), .val (.int (Int32.ofNat n3)), .val (.int (Int32.ofNat np)), .val (.int (own_b tw)), .val (.int (own_b th)), .val (.ref b101), .unset, .unset, .unset, .unset, .unset, .unset, .unset, .unset, .unset, .unset]) rfl ?_
    show Steps p.tables e below (T101.setTop (mkF m 82 #[.val (.int p1), .val (.int p2), .val (.int p3), .val (.int p4), .val (.int p5), .val (.int p6), .val (.int (Int32.ofNat sz)), .val (.int (Int32.ofNat n1)), .val (.int (Int32.ofNat n2)), .val (.int (Int32.ofNat n3)), .val (.int (Int32.ofNat np)), .val (.int (own_b tw)), .val (.int (own_b th)), .val (.ref b101), .unset, .unset, .unset, .unset, .unset, .unset, .unset, .unset, .unset, .unset] [])) _
    refine XS.aload X101.here hx rfl (hb hby at_82) rfl rfl ?_
    show Steps p.tables e below (T101.setTop (mkF m 84 #[.val (.int p1), .val (.int p2), .val (.int p3), .val (.int p4), .val (.int p5), .val (.int p6), .val (.int (Int32.ofNat sz)), .val (.int (Int32.ofNat n1)), .val (.int (Int32.ofNat n2)), .val (.int (Int32.ofNat n3)), .val (.int (Int32.ofNat np)), .val (.int (own_b tw)), .val (.int (own_b th)), .val (.ref b101), .unset, .unset, .unset, .unset, .unset, .unset, .unset, .unset, .unset, .unset] [(.ref b101)])) _
    refine XS.iload X101.here hx rfl (hb hby at_84) rfl ?_
    show Steps p.tables e below (T101.setTop (mkF m 86 #[.val (.int p1), .val (.int p2), .val (.int p3), .val (.int p4), .val (.int p5), .val (.int p6), .val (.int (Int32.ofNat sz)), .val (.int (Int32.ofNat n1)), .val (.int (Int32.ofNat n2)), .val (.int (Int32.ofNat n3)), .val (.int (Int32.ofNat np)), .val (.int (own_b tw)), .val (.int (own_b th)), .val (.ref b101), .unset, .unset, .unset, .unset, .unset, .unset, .unset, .unset, .unset, .unset] [(.int (Int32.ofNat n1)), (.ref b101)])) _
    refine XS.iconst X101.here hx rfl (hb hby at_86) ?_
    show Steps p.tables e below (T101.setTop (mkF m 87 #[.val (.int p1), .val (.int p2), .val (.int p3), .val (.int p4), .val (.int p5), .val (.int p6), .val (.int (Int32.ofNat sz)), .val (.int (Int32.ofNat n1)), .val (.int (Int32.ofNat n2)), .val (.int (Int32.ofNat n3)), .val (.int (Int32.ofNat np)), .val (.int (own_b tw)), .val (.int (own_b th)), .val (.ref b101), .unset, .unset, .unset, .unset, .unset, .unset, .unset, .unset, .unset, .unset] [(.int (1 : Int32)), (.int (Int32.ofNat n1)), (.ref b101)])) _
    refine st102 _ ?_
    exact k)
  obtain ⟨co1, Ao1, Oo1, zo1, fo1⟩ := id Oa0
  have Ar_b101 := Ao1
  have hin90 : ¬ ((Int32.ofNat n1) < 0 ∨ co1.slots.size ≤ ((Int32.ofNat n1)).toNatClampNeg) := by rw [zo1]; exact idx_in (by omega) (by decide)
  have Sto90 : Sto Z h101 b101 (.ref x1) := Sto.of Ao1 Oo1 (own_insKeep i1 K101)
  obtain ⟨T103, h103, X103, e103, W103, st103⟩ := stR X102 hx hZ eQ102 Ar_b101 (j := (Int32.ofNat n1)) hin90 rfl Sto90 (g := (mkF m 90 #[.val (.int p1), .val (.int p2), .val (.int p3), .val (.int p4), .val (.int p5), .val (.int p6), .val (.int (Int32.ofNat sz)), .val (.int (Int32.ofNat n1)), .val (.int (Int32.ofNat n2)), .val (.int (Int32.ofNat n3)), .val (.int (Int32.ofNat np)), .val (.int (own_b tw)), .val (.int (own_b th)), .val (.ref b101), .unset, .unset, .unset, .unset, .unset, .unset, .unset, .unset, .unset, .unset] [(.ref x1), (.int (Int32.ofNat n1)), (.ref b101)])) rfl rfl (hb hby at_90)
  have N103 := Fr.snoc X103 N102 g_b101
  have K103 : Keep h0 h103 [] := K101.wr W103 (Or.inr sz_b101)
  have P18 : ∀ t, Steps p.tables e below (T103.setTop (mkF m 91 #[.val (.int p1), .val (.int p2), .val (.int p3), .val (.int p4), .val (.int p5), .val (.int p6), .val (.int (Int32.ofNat sz)), .val (.int (Int32.ofNat n1)), .val (.int (Int32.ofNat n2)), .val (.int (Int32.ofNat n3)), .val (.int (Int32.ofNat np)), .val (.int (own_b tw)), .val (.int (own_b th)), .val (.ref b101), .unset, .unset, .unset, .unset, .unset, .unset, .unset, .unset, .unset, .unset] [])) t → Steps p.tables e below (s₁.setTop (entryFrame m #[(.int p1), (.int p2), (.int p3), (.int p4), (.int p5), (.int p6)] maxLocals)) t := fun t k => P17 t (by
    show Steps p.tables e below (T102.setTop (mkF m 90 #[.val (.int p1), .val (.int p2), .val (.int p3), .val (.int p4), .val (.int p5), .val (.int p6), .val (.int (Int32.ofNat sz)), .val (.int (Int32.ofNat n1)), .val (.int (Int32.ofNat n2)), .val (.int (Int32.ofNat n3)), .val (.int (Int32.ofNat np)), .val (.int (own_b tw)), .val (.int (own_b th)), .val (.ref b101), .unset, .unset, .unset, .unset, .unset, .unset, .unset, .unset, .unset, .unset] [(.ref x1), (.int (Int32.ofNat n1)), (.ref b101)])) _
    refine st103 _ ?_
    exact k)
  have Oa1 := Oa0.set (j := n1) (v := .ref x1) (by
    have q := W103
    rw [own_clamp (by omega)] at q
    exact q) (by omega)
  have hin21 : ¬ (((2 : Int32) + (128 : Int32)) < 0 ∨ cca.slots.size ≤ (((2 : Int32) + (128 : Int32))).toNatClampNeg) := by rw [zC]; decide
  have hat21 : cca.slots[(((2 : Int32) + (128 : Int32))).toNatClampNeg]? = some (.ref x2) := by rw [show (((2 : Int32) + (128 : Int32))).toNatClampNeg = 130 by decide]; exact f2
  obtain ⟨_, _, ⟨T104, L104, k104, n104⟩, -, X104, ⟨Lc104, hQ104, l104, y104, z104⟩, st104⟩ := Jvm.LawKit.callS X103 hx (y := (⟨"java/lang/Integer", "valueOf", "(I)Ljava/lang/Integer;"⟩ : MethodName)) hown (mvT hZ (hw _ (List.mem_of_getElem? (i := 3) rfl))) (mvT hZ (hw _ (List.mem_of_getElem? (i := 4) rfl))) (mvT hZ (hw _ (List.mem_of_getElem? (i := 5) rfl))) (mvT hZ (hw _ (List.mem_of_getElem? (i := 6) rfl))) (by decide) (backOf (W := 2) (rm1 l Z a0 hw [] (2 : Int32) (127 : Int32) ca x2 cca h103 n0 (Nat.le_trans Z0 K103.1) (own_staKeep SH K103) (own_staKeep SC K103) (own_arrKeep AC K103 nin0) hin21 hat21 (by decide) (by decide)) hZ (hw _ (List.mem_of_getElem? (i := 6) rfl)) (hw _ (List.mem_of_getElem? (i := 5) rfl)) (by decide) (by decide)) (g := (mkF m 96 #[.val (.int p1), .val (.int p2), .val (.int p3), .val (.int p4), .val (.int p5), .val (.int p6), .val (.int (Int32.ofNat sz)), .val (.int (Int32.ofNat n1)), .val (.int (Int32.ofNat n2)), .val (.int (Int32.ofNat n3)), .val (.int (Int32.ofNat np)), .val (.int (own_b tw)), .val (.int (own_b th)), .val (.ref b101), .unset, .unset, .unset, .unset, .unset, .unset, .unset, .unset, .unset, .unset] [(.int (2 : Int32)), (.int (Int32.ofNat n2)), (.ref b101)])) rfl (by rw [hml]; rfl) (argsL := [(.int (2 : Int32))]) (rest := [(.int (Int32.ofNat n2)), (.ref b101)]) (lenOf pd_0_0 rfl) rfl (by show 2 * 0 + _ ≤ _; exact Nat.le_of_eq rfl) (hb hby at_96) (fun _ _ => ⟨rfl, e103, (by exact Nat.le_of_ble_eq_true rfl), (by exact Nat.le_of_ble_eq_true rfl)⟩)
  dsimp only [Pt.U, Pt.locs, Pt.cells, Pt.slots] at X104 l104 y104 z104 st104 hQ104
  subst l104 y104 z104
  obtain ⟨rfl, N104q, eQ104⟩ := hQ104
  have N104 := Fr.app N103 N104q
  have P19 : ∀ t, Steps p.tables e below (T104.setTop (mkF m 99 #[.val (.int p1), .val (.int p2), .val (.int p3), .val (.int p4), .val (.int p5), .val (.int p6), .val (.int (Int32.ofNat sz)), .val (.int (Int32.ofNat n1)), .val (.int (Int32.ofNat n2)), .val (.int (Int32.ofNat n3)), .val (.int (Int32.ofNat np)), .val (.int (own_b tw)), .val (.int (own_b th)), .val (.ref b101), .unset, .unset, .unset, .unset, .unset, .unset, .unset, .unset, .unset, .unset] [(.ref x2), (.int (Int32.ofNat n2)), (.ref b101)])) t → Steps p.tables e below (s₁.setTop (entryFrame m #[(.int p1), (.int p2), (.int p3), (.int p4), (.int p5), (.int p6)] maxLocals)) t := fun t k => P18 t (by
    show Steps p.tables e below (T103.setTop (mkF m 91 #[.val (.int p1), .val (.int p2), .val (.int p3), .val (.int p4), .val (.int p5), .val (.int p6), .val (.int (Int32.ofNat sz)), .val (.int (Int32.ofNat n1)), .val (.int (Int32.ofNat n2)), .val (.int (Int32.ofNat n3)), .val (.int (Int32.ofNat np)), .val (.int (own_b tw)), .val (.int (own_b th)), .val (.ref b101), .unset, .unset, .unset, .unset, .unset, .unset, .unset, .unset, .unset, .unset] [])) _
    refine XS.aload X103.here hx rfl (hb hby at_91) rfl rfl ?_
    show Steps p.tables e below (T103.setTop (mkF m 93 #[.val (.int p1), .val (.int p2), .val (.int p3), .val (.int p4), .val (.int p5), .val (.int p6), .val (.int (Int32.ofNat sz)), .val (.int (Int32.ofNat n1)), .val (.int (Int32.ofNat n2)), .val (.int (Int32.ofNat n3)), .val (.int (Int32.ofNat np)), .val (.int (own_b tw)), .val (.int (own_b th)), .val (.ref b101), .unset, .unset, .unset, .unset, .unset, .unset, .unset, .unset, .unset, .unset] [(.ref b101)])) _
    refine XS.iload X103.here hx rfl (hb hby at_93) rfl ?_
    show Steps p.tables e below (T103.setTop (mkF m 95 #[.val (.int p1), .val (.int p2), .val (.int p3), .val (.int p4), .val (.int p5), .val (.int p6), .val (.int (Int32.ofNat sz)), .val (.int (Int32.ofNat n1)), .val (.int (Int32.ofNat n2)), .val (.int (Int32.ofNat n3)), .val (.int (Int32.ofNat np)), .val (.int (own_b tw)), .val (.int (own_b th)), .val (.ref b101), .unset, .unset, .unset, .unset, .unset, .unset, .unset, .unset, .unset, .unset] [(.int (Int32.ofNat n2)), (.ref b101)])) _
    refine XS.iconst X103.here hx rfl (hb hby at_95) ?_
    show Steps p.tables e below (T103.setTop (mkF m 96 #[.val (.int p1), .val (.int p2), .val (.int p3), .val (.int p4), .val (.int p5), .val (.int p6), .val (.int (Int32.ofNat sz)), .val (.int (Int32.ofNat n1)), .val (.int (Int32.ofNat n2)), .val (.int (Int32.ofNat n3)), .val (.int (Int32.ofNat np)), .val (.int (own_b tw)), .val (.int (own_b th)), .val (.ref b101), .unset, .unset, .unset, .unset, .unset, .unset, .unset, .unset, .unset, .unset] [(.int (2 : Int32)), (.int (Int32.ofNat n2)), (.ref b101)])) _
    refine st104 _ ?_
    exact k)
  obtain ⟨co2, Ao2, Oo2, zo2, fo2⟩ := id Oa1
  have Ar_b101 := Ao2
  have hin99 : ¬ ((Int32.ofNat n2) < 0 ∨ co2.slots.size ≤ ((Int32.ofNat n2)).toNatClampNeg) := by rw [zo2]; exact idx_in (by omega) (by decide)
  have Sto99 : Sto Z h103 b101 (.ref x2) := Sto.of Ao2 Oo2 (own_insKeep i2 K103)
  obtain ⟨T105, h105, X105, e105, W105, st105⟩ := stR X104 hx hZ eQ104 Ar_b101 (j := (Int32.ofNat n2)) hin99 rfl Sto99 (g := (mkF m 99 #[.val (.int p1), .val (.int p2), .val (.int p3), .val (.int p4), .val (.int p5), .val (.int p6), .val (.int (Int32.ofNat sz)), .val (.int (Int32.ofNat n1)), .val (.int (Int32.ofNat n2)), .val (.int (Int32.ofNat n3)), .val (.int (Int32.ofNat np)), .val (.int (own_b tw)), .val (.int (own_b th)), .val (.ref b101), .unset, .unset, .unset, .unset, .unset, .unset, .unset, .unset, .unset, .unset] [(.ref x2), (.int (Int32.ofNat n2)), (.ref b101)])) rfl rfl (hb hby at_99)
  have N105 := Fr.snoc X105 N104 g_b101
  have K105 : Keep h0 h105 [] := K103.wr W105 (Or.inr sz_b101)
  have P20 : ∀ t, Steps p.tables e below (T105.setTop (mkF m 100 #[.val (.int p1), .val (.int p2), .val (.int p3), .val (.int p4), .val (.int p5), .val (.int p6), .val (.int (Int32.ofNat sz)), .val (.int (Int32.ofNat n1)), .val (.int (Int32.ofNat n2)), .val (.int (Int32.ofNat n3)), .val (.int (Int32.ofNat np)), .val (.int (own_b tw)), .val (.int (own_b th)), .val (.ref b101), .unset, .unset, .unset, .unset, .unset, .unset, .unset, .unset, .unset, .unset] [])) t → Steps p.tables e below (s₁.setTop (entryFrame m #[(.int p1), (.int p2), (.int p3), (.int p4), (.int p5), (.int p6)] maxLocals)) t := fun t k => P19 t (by
    show Steps p.tables e below (T104.setTop (mkF m 99 #[.val (.int p1), .val (.int p2), .val (.int p3), .val (.int p4), .val (.int p5), .val (.int p6), .val (.int (Int32.ofNat sz)), .val (.int (Int32.ofNat n1)), .val (.int (Int32.ofNat n2)), .val (.int (Int32.ofNat n3)), .val (.int (Int32.ofNat np)), .val (.int (own_b tw)), .val (.int (own_b th)), .val (.ref b101), .unset, .unset, .unset, .unset, .unset, .unset, .unset, .unset, .unset, .unset] [(.ref x2), (.int (Int32.ofNat n2)), (.ref b101)])) _
    refine st105 _ ?_
    exact k)
  have Oa2 := Oa1.set (j := n2) (v := .ref x2) (by
    have q := W105
    rw [own_clamp (by omega)] at q
    exact q) (by omega)
  have hin21 : ¬ (((3 : Int32) + (128 : Int32)) < 0 ∨ cca.slots.size ≤ (((3 : Int32) + (128 : Int32))).toNatClampNeg) := by rw [zC]; decide
  have hat21 : cca.slots[(((3 : Int32) + (128 : Int32))).toNatClampNeg]? = some (.ref x3) := by rw [show (((3 : Int32) + (128 : Int32))).toNatClampNeg = 131 by decide]; exact f3
  obtain ⟨_, _, ⟨T106, L106, k106, n106⟩, -, X106, ⟨Lc106, hQ106, l106, y106, z106⟩, st106⟩ := Jvm.LawKit.callS X105 hx (y := (⟨"java/lang/Integer", "valueOf", "(I)Ljava/lang/Integer;"⟩ : MethodName)) hown (mvT hZ (hw _ (List.mem_of_getElem? (i := 3) rfl))) (mvT hZ (hw _ (List.mem_of_getElem? (i := 4) rfl))) (mvT hZ (hw _ (List.mem_of_getElem? (i := 5) rfl))) (mvT hZ (hw _ (List.mem_of_getElem? (i := 6) rfl))) (by decide) (backOf (W := 2) (rm1 l Z a0 hw [] (3 : Int32) (127 : Int32) ca x3 cca h105 n0 (Nat.le_trans Z0 K105.1) (own_staKeep SH K105) (own_staKeep SC K105) (own_arrKeep AC K105 nin0) hin21 hat21 (by decide) (by decide)) hZ (hw _ (List.mem_of_getElem? (i := 6) rfl)) (hw _ (List.mem_of_getElem? (i := 5) rfl)) (by decide) (by decide)) (g := (mkF m 105 #[.val (.int p1), .val (.int p2), .val (.int p3), .val (.int p4), .val (.int p5), .val (.int p6), .val (.int (Int32.ofNat sz)), .val (.int (Int32.ofNat n1)), .val (.int (Int32.ofNat n2)), .val (.int (Int32.ofNat n3)), .val (.int (Int32.ofNat np)), .val (.int (own_b tw)), .val (.int (own_b th)), .val (.ref b101), .unset, .unset, .unset, .unset, .unset, .unset, .unset, .unset, .unset, .unset] [(.int (3 : Int32)), (.int (Int32.ofNat n3)), (.ref b101)])) rfl (by rw [hml]; rfl) (argsL := [(.int (3 : Int32))]) (rest := [(.int (Int32.ofNat n3)), (.ref b101)]) (lenOf pd_0_0 rfl) rfl (by show 2 * 0 + _ ≤ _; exact Nat.le_of_eq rfl) (hb hby at_105) (fun _ _ => ⟨rfl, e105, (by exact Nat.le_of_ble_eq_true rfl), (by exact Nat.le_of_ble_eq_true rfl)⟩)
  dsimp only [Pt.U, Pt.locs, Pt.cells, Pt.slots] at X106 l106 y106 z106 st106 hQ106
  subst l106 y106 z106
  obtain ⟨rfl, N106q, eQ106⟩ := hQ106
  have N106 := Fr.app N105 N106q
  have P21 : ∀ t, Steps p.tables e below (T106.setTop (mkF m 108 #[.val (.int p1), .val (.int p2), .val (.int p3), .val (.int p4), .val (.int p5), .val (.int p6), .val (.int (Int32.ofNat sz)), .val (.int (Int32.ofNat n1)), .val (.int (Int32.ofNat n2)), .val (.int (Int32.ofNat n3)), .val (.int (Int32.ofNat np)), .val (.int (own_b tw)), .val (.int (own_b th)), .val (.ref b101), .unset, .unset, .unset, .unset, .unset, .unset, .unset, .unset, .unset, .unset] [(.ref x3), (.int (Int32.ofNat n3)), (.ref b101)])) t → Steps p.tables e below (s₁.setTop (entryFrame m #[(.int p1), (.int p2), (.int p3), (.int p4), (.int p5), (.int p6)] maxLocals)) t := fun t k => P20 t (by
    show Steps p.tables e below (T105.setTop (mkF m 100 #[.val (.int p1), .val (.int p2), .val (.int p3), .val (.int p4), .val (.int p5), .val (.int p6), .val (.int (Int32.ofNat sz)), .val (.int (Int32.ofNat n1)), .val (.int (Int32.ofNat n2)), .val (.int (Int32.ofNat n3)), .val (.int (Int32.ofNat np)), .val (.int (own_b tw)), .val (.int (own_b th)), .val (.ref b101), .unset, .unset, .unset, .unset, .unset, .unset, .unset, .unset, .unset, .unset] [])) _
    refine XS.aload X105.here hx rfl (hb hby at_100) rfl rfl ?_
    show Steps p.tables e below (T105.setTop (mkF m 102 #[.val (.int p1), .val (.int p2), .val (.int p3), .val (.int p4), .val (.int p5), .val (.int p6), .val (.int (Int32.ofNat sz)), .val (.int (Int32.ofNat n1)), .val (.int (Int32.ofNat n2)), .val (.int (Int32.ofNat n3)), .val (.int (Int32.ofNat np)), .val (.int (own_b tw)), .val (.int (own_b th)), .val (.ref b101), .unset, .unset, .unset, .unset, .unset, .unset, .unset, .unset, .unset, .unset] [(.ref b101)])) _
    refine XS.iload X105.here hx rfl (hb hby at_102) rfl ?_
    show Steps p.tables e below (T105.setTop (mkF m 104 #[.val (.int p1), .val (.int p2), .val (.int p3), .val (.int p4), .val (.int p5), .val (.int p6), .val (.int (Int32.ofNat sz)), .val (.int (Int32.ofNat n1)), .val (.int (Int32.ofNat n2)), .val (.int (Int32.ofNat n3)), .val (.int (Int32.ofNat np)), .val (.int (own_b tw)), .val (.int (own_b th)), .val (.ref b101), .unset, .unset, .unset, .unset, .unset, .unset, .unset, .unset, .unset, .unset] [(.int (Int32.ofNat n3)), (.ref b101)])) _
    refine XS.iconst X105.here hx rfl (hb hby at_104) ?_
    show Steps p.tables e below (T105.setTop (mkF m 105 #[.val (.int p1), .val (.int p2), .val (.int p3), .val (.int p4), .val (.int p5), .val (.int p6), .val (.int (Int32.ofNat sz)), .val (.int (Int32.ofNat n1)), .val (.int (Int32.ofNat n2)), .val (.int (Int32.ofNat n3)), .val (.int (Int32.ofNat np)), .val (.int (own_b tw)), .val (.int (own_b th)), .val (.ref b101), .unset, .unset, .unset, .unset, .unset, .unset, .unset, .unset, .unset, .unset] [(.int (3 : Int32)), (.int (Int32.ofNat n3)), (.ref b101)])) _
    refine st106 _ ?_
    exact k)
  obtain ⟨co3, Ao3, Oo3, zo3, fo3⟩ := id Oa2
  have Ar_b101 := Ao3
  have hin108 : ¬ ((Int32.ofNat n3) < 0 ∨ co3.slots.size ≤ ((Int32.ofNat n3)).toNatClampNeg) := by rw [zo3]; exact idx_in (by omega) (by decide)
  have Sto108 : Sto Z h105 b101 (.ref x3) := Sto.of Ao3 Oo3 (own_insKeep i3 K105)
  obtain ⟨T107, h107, X107, e107, W107, st107⟩ := stR X106 hx hZ eQ106 Ar_b101 (j := (Int32.ofNat n3)) hin108 rfl Sto108 (g := (mkF m 108 #[.val (.int p1), .val (.int p2), .val (.int p3), .val (.int p4), .val (.int p5), .val (.int p6), .val (.int (Int32.ofNat sz)), .val (.int (Int32.ofNat n1)), .val (.int (Int32.ofNat n2)), .val (.int (Int32.ofNat n3)), .val (.int (Int32.ofNat np)), .val (.int (own_b tw)), .val (.int (own_b th)), .val (.ref b101), .unset, .unset, .unset, .unset, .unset, .unset, .unset, .unset, .unset, .unset] [(.ref x3), (.int (Int32.ofNat n3)), (.ref b101)])) rfl rfl (hb hby at_108)
  have N107 := Fr.snoc X107 N106 g_b101
  have K107 : Keep h0 h107 [] := K105.wr W107 (Or.inr sz_b101)
  have P22 : ∀ t, Steps p.tables e below (T107.setTop (mkF m 109 #[.val (.int p1), .val (.int p2), .val (.int p3), .val (.int p4), .val (.int p5), .val (.int p6), .val (.int (Int32.ofNat sz)), .val (.int (Int32.ofNat n1)), .val (.int (Int32.ofNat n2)), .val (.int (Int32.ofNat n3)), .val (.int (Int32.ofNat np)), .val (.int (own_b tw)), .val (.int (own_b th)), .val (.ref b101), .unset, .unset, .unset, .unset, .unset, .unset, .unset, .unset, .unset, .unset] [])) t → Steps p.tables e below (s₁.setTop (entryFrame m #[(.int p1), (.int p2), (.int p3), (.int p4), (.int p5), (.int p6)] maxLocals)) t := fun t k => P21 t (by
    show Steps p.tables e below (T106.setTop (mkF m 108 #[.val (.int p1), .val (.int p2), .val (.int p3), .val (.int p4), .val (.int p5), .val (.int p6), .val (.int (Int32.ofNat sz)), .val (.int (Int32.ofNat n1)), .val (.int (Int32.ofNat n2)), .val (.int (Int32.ofNat n3)), .val (.int (Int32.ofNat np)), .val (.int (own_b tw)), .val (.int (own_b th)), .val (.ref b101), .unset, .unset, .unset, .unset, .unset, .unset, .unset, .unset, .unset, .unset] [(.ref x3), (.int (Int32.ofNat n3)), (.ref b101)])) _
    refine st107 _ ?_
    exact k)
  have Oa3 := Oa2.set (j := n3) (v := .ref x3) (by
    have q := W107
    rw [own_clamp (by omega)] at q
    exact q) (by omega)
  obtain ⟨f, hf⟩ : ∃ f, f = (own_set (own_set (own_set (fun _ => Value.null) n1 (.ref x1)) n2 (.ref x2)) n3 (.ref x3)) := ⟨_, rfl⟩
  rw [← hf] at Oa3
  have Rf0 : own_Rf Z h0 f := by
    rw [hf]
    intro k
    by_cases q3 : k = n3
    · exact Or.inr ⟨x3, if_pos q3, i3⟩
    by_cases q2 : k = n2
    · exact Or.inr ⟨x2, (if_neg q3).trans (if_pos q2), i2⟩
    by_cases q1 : k = n1
    · exact Or.inr ⟨x1, (if_neg q3).trans ((if_neg q2).trans (if_pos q1)), i1⟩
    · exact Or.inl ((if_neg q3).trans ((if_neg q2).trans (if_neg q1)))
  have hfr := Rf0.ref
  obtain ⟨T108, h108, k108, X108, e108, E108, A108, st108⟩ := newP X107 hx hZ (hw _ (List.mem_of_getElem? (i := 11) rfl)) e107 (g := (mkF m 110 #[.val (.int p1), .val (.int p2), .val (.int p3), .val (.int p4), .val (.int p5), .val (.int p6), .val (.int (Int32.ofNat sz)), .val (.int (Int32.ofNat n1)), .val (.int (Int32.ofNat n2)), .val (.int (Int32.ofNat n3)), .val (.int (Int32.ofNat np)), .val (.int (own_b tw)), .val (.int (own_b th)), .val (.ref b101), .unset, .unset, .unset, .unset, .unset, .unset, .unset, .unset, .unset, .unset] [(.int (2 : Int32))])) rfl (hb hby at_110) rfl (by decide) (cap := 2) (by decide) (by decide) (by decide) (by decide)
  obtain ⟨b108, g108⟩ : ∃ z, z = h107.size := ⟨_, rfl⟩
  rw [← g108] at A108 st108
  have V_b108 : Arv Z h108 b108 k108 .int (2 : Int32) [(.int (0 : Int32)), (.int (0 : Int32))] (.int (0 : Int32)) := (Arv.new A108 (by decide)).pad (pad_rep [] (.int (0 : Int32)) 2)
  have g_b108 : n0 ≤ b108 := Nat.le_trans (Nat.le_trans Z0 K107.1) (Nat.le_of_eq g108.symm)
  have sz_b108 : h0.size ≤ b108 := (Nat.le_trans K107.1 (Nat.le_of_eq g108.symm))
  have K108 : Keep h0 h108 [] := K107.ext E108
  obtain ⟨cl_b108_116, Ar_b108, q_b108, S_b108, N_b108, H_b108, G_b108⟩ := V_b108
  have hin116 : ¬ ((0 : Int32) < 0 ∨ cl_b108_116.slots.size ≤ ((0 : Int32)).toNatClampNeg) := inb_of S_b108 ⟨by decide, by decide⟩
  obtain ⟨T109, h109, X109, e109, W109, st109⟩ := stI X108 hx hZ e108 Ar_b108 (j := (0 : Int32)) hin116 (g := (mkF m 116 #[.val (.int p1), .val (.int p2), .val (.int p3), .val (.int p4), .val (.int p5), .val (.int p6), .val (.int (Int32.ofNat sz)), .val (.int (Int32.ofNat n1)), .val (.int (Int32.ofNat n2)), .val (.int (Int32.ofNat n3)), .val (.int (Int32.ofNat np)), .val (.int (own_b tw)), .val (.int (own_b th)), .val (.ref b101), .unset, .unset, .unset, .unset, .unset, .unset, .unset, .unset, .unset, .unset] [(.int (Int32.ofNat n1)), (.int (0 : Int32)), (.ref b108), (.ref b108)])) rfl rfl (hb hby at_116)
  have V_b108_109 := Arv.set Ar_b108 q_b108 S_b108 N_b108 H_b108 G_b108 rfl W109 0 rfl (Nat.le_of_ble_eq_true rfl)
  have K109 : Keep h0 h109 [] := K108.wr W109 (Or.inr sz_b108)
  have N109 := Fr.snoc X109 N107 g_b108
  obtain ⟨cl_b108_121, Ar_b108, q_b108, S_b108, N_b108, H_b108, G_b108⟩ := V_b108_109
  have hin121 : ¬ ((1 : Int32) < 0 ∨ cl_b108_121.slots.size ≤ ((1 : Int32)).toNatClampNeg) := inb_of S_b108 ⟨by decide, by decide⟩
  obtain ⟨T110, h110, X110, e110, W110, st110⟩ := stI X109 hx hZ e109 Ar_b108 (j := (1 : Int32)) hin121 (g := (mkF m 121 #[.val (.int p1), .val (.int p2), .val (.int p3), .val (.int p4), .val (.int p5), .val (.int p6), .val (.int (Int32.ofNat sz)), .val (.int (Int32.ofNat n1)), .val (.int (Int32.ofNat n2)), .val (.int (Int32.ofNat n3)), .val (.int (Int32.ofNat np)), .val (.int (own_b tw)), .val (.int (own_b th)), .val (.ref b101), .unset, .unset, .unset, .unset, .unset, .unset, .unset, .unset, .unset, .unset] [(.int (Int32.ofNat n2)), (.int (1 : Int32)), (.ref b108), (.ref b108)])) rfl rfl (hb hby at_121)
  have V_b108_110 := Arv.set Ar_b108 q_b108 S_b108 N_b108 H_b108 G_b108 rfl W110 1 rfl (Nat.le_of_ble_eq_true rfl)
  have K110 : Keep h0 h110 [] := K109.wr W110 (Or.inr sz_b108)
  have N110 := Fr.snoc X110 N109 g_b108
  have P23 : ∀ t, Steps p.tables e below (T110.setTop (mkF m 124 #[.val (.int p1), .val (.int p2), .val (.int p3), .val (.int p4), .val (.int p5), .val (.int p6), .val (.int (Int32.ofNat sz)), .val (.int (Int32.ofNat n1)), .val (.int (Int32.ofNat n2)), .val (.int (Int32.ofNat n3)), .val (.int (Int32.ofNat np)), .val (.int (own_b tw)), .val (.int (own_b th)), .val (.ref b101), .val (.ref b108), .unset, .unset, .unset, .unset, .unset, .unset, .unset, .unset, .unset] [])) t → Steps p.tables e below (s₁.setTop (entryFrame m #[(.int p1), (.int p2), (.int p3), (.int p4), (.int p5), (.int p6)] maxLocals)) t := fun t k => P22 t (by
    show Steps p.tables e below (T107.setTop (mkF m 109 #[.val (.int p1), .val (.int p2), .val (.int p3), .val (.int p4), .val (.int p5), .val (.int p6), .val (.int (Int32.ofNat sz)), .val (.int (Int32.ofNat n1)), .val (.int (Int32.ofNat n2)), .val (.int (Int32.ofNat n3)), .val (.int (Int32.ofNat np)), .val (.int (own_b tw)), .val (.int (own_b th)), .val (.ref b101), .unset, .unset, .unset, .unset, .unset, .unset, .unset, .unset, .unset, .unset] [])) _
    refine XS.iconst X107.here hx rfl (hb hby at_109) ?_
    show Steps p.tables e below (T107.setTop (mkF m 110 #[.val (.int p1), .val (.int p2), .val (.int p3), .val (.int p4), .val (.int p5), .val (.int p6), .val (.int (Int32.ofNat sz)), .val (.int (Int32.ofNat n1)), .val (.int (Int32.ofNat n2)), .val (.int (Int32.ofNat n3)), .val (.int (Int32.ofNat np)), .val (.int (own_b tw)), .val (.int (own_b th)), .val (.ref b101), .unset, .unset, .unset, .unset, .unset, .unset, .unset, .unset, .unset, .unset] [(.int (2 : Int32))])) _
    refine st108 _ ?_
    show Steps p.tables e below (T108.setTop (mkF m 112 #[.val (.int p1), .val (.int p2), .val (.int p3), .val (.int p4), .val (.int p5), .val (.int p6), .val (.int (Int32.ofNat sz)), .val (.int (Int32.ofNat n1)), .val (.int (Int32.ofNat n2)), .val (.int (Int32.ofNat n3)), .val (.int (Int32.ofNat np)), .val (.int (own_b tw)), .val (.int (own_b th)), .val (.ref b101), .unset, .unset, .unset, .unset, .unset, .unset, .unset, .unset, .unset, .unset] [(.ref b108)])) _
    refine XS.dup X108.here hx rfl (hb hby at_112) rfl rfl ?_
    show Steps p.tables e below (T108.setTop (mkF m 113 #[.val (.int p1), .val (.int p2), .val (.int p3), .val (.int p4), .val (.int p5), .val (.int p6), .val (.int (Int32.ofNat sz)), .val (.int (Int32.ofNat n1)), .val (.int (Int32.ofNat n2)), .val (.int (Int32.ofNat n3)), .val (.int (Int32.ofNat np)), .val (.int (own_b tw)), .val (.int (own_b th)), .val (.ref b101), .unset, .unset, .unset, .unset, .unset, .unset, .unset, .unset, .unset, .unset] [(.ref b108), (.ref b108)])) _
    refine XS.iconst X108.here hx rfl (hb hby at_113) ?_
    show Steps p.tables e below (T108.setTop (mkF m 114 #[.val (.int p1), .val (.int p2), .val (.int p3), .val (.int p4), .val (.int p5), .val (.int p6), .val (.int (Int32.ofNat sz)), .val (.int (Int32.ofNat n1)), .val (.int (Int32.ofNat n2)), .val (.int (Int32.ofNat n3)), .val (.int (Int32.ofNat np)), .val (.int (own_b tw)), .val (.int (own_b th)), .val (.ref b101), .unset, .unset, .unset, .unset, .unset, .unset, .unset, .unset, .unset, .unset] [(.int (0 : Int32)), (.ref b108), (.ref b108)])) _
    refine XS.iload X108.here hx rfl (hb hby at_114) rfl ?_
    show Steps p.tables e below (T108.setTop (mkF m 116 #[.val (.int p1), .val (.int p2), .val (.int p3), .val (.int p4), .val (.int p5), .val (.int p6), .val (.int (Int32.ofNat sz)), .val (.int (Int32.ofNat n1)), .val (.int (Int32.ofNat n2)), .val (.int (Int32.ofNat n3)), .val (.int (Int32.ofNat np)), .val (.int (own_b tw)), .val (.int (own_b th)), .val (.ref b101), .unset, .unset, .unset, .unset, .unset, .unset, .unset, .unset, .unset, .unset] [(.int (Int32.ofNat n1)), (.int (0 : Int32)), (.ref b108), (.ref b108)])) _
    refine st109 _ ?_
    show Steps p.tables e below (T109.setTop (mkF m 117 #[.val (.int p1), .val (.int p2), .val (.int p3), .val (.int p4), .val (.int p5), .val (.int p6), .val (.int (Int32.ofNat sz)), .val (.int (Int32.ofNat n1)), .val (.int (Int32.ofNat n2)), .val (.int (Int32.ofNat n3)), .val (.int (Int32.ofNat np)), .val (.int (own_b tw)), .val (.int (own_b th)), .val (.ref b101), .unset, .unset, .unset, .unset, .unset, .unset, .unset, .unset, .unset, .unset] [(.ref b108)])) _
    refine XS.dup X109.here hx rfl (hb hby at_117) rfl rfl ?_
    show Steps p.tables e below (T109.setTop (mkF m 118 #[.val (.int p1), .val (.int p2), .val (.int p3), .val (.int p4), .val (.int p5), .val (.int p6), .val (.int (Int32.ofNat sz)), .val (.int (Int32.ofNat n1)), .val (.int (Int32.ofNat n2)), .val (.int (Int32.ofNat n3)), .val (.int (Int32.ofNat np)), .val (.int (own_b tw)), .val (.int (own_b th)), .val (.ref b101), .unset, .unset, .unset, .unset, .unset, .unset, .unset, .unset, .unset, .unset] [(.ref b108), (.ref b108)])) _
    refine XS.iconst X109.here hx rfl (hb hby at_118) ?_
    show Steps p.tables e below (T109.setTop (mkF m 119 #[.val (.int p1), .val (.int p2), .val (.int p3), .val (.int p4), .val (.int p5), .val (.int p6), .val (.int (Int32.ofNat sz)), .val (.int (Int32.ofNat n1)), .val (.int (Int32.ofNat n2)), .val (.int (Int32.ofNat n3)), .val (.int (Int32.ofNat np)), .val (.int (own_b tw)), .val (.int (own_b th)), .val (.ref b101), .unset, .unset, .unset, .unset, .unset, .unset, .unset, .unset, .unset, .unset] [(.int (1 : Int32)), (.ref b108), (.ref b108)])) _
    refine XS.iload X109.here hx rfl (hb hby at_119) rfl ?_
    show Steps p.tables e below (T109.setTop (mkF m 121 #[.val (.int p1), .val (.int p2), .val (.int p3), .val (.int p4), .val (.int p5), .val (.int p6), .val (.int (Int32.ofNat sz)), .val (.int (Int32.ofNat n1)), .val (.int (Int32.ofNat n2)), .val (.int (Int32.ofNat n3)), .val (.int (Int32.ofNat np)), .val (.int (own_b tw)), .val (.int (own_b th)), .val (.ref b101), .unset, .unset, .unset, .unset, .unset, .unset, .unset, .unset, .unset, .unset] [(.int (Int32.ofNat n2)), (.int (1 : Int32)), (.ref b108), (.ref b108)])) _
    refine st110 _ ?_
    show Steps p.tables e below (T110.setTop (mkF m 122 #[.val (.int p1), .val (.int p2), .val (.int p3), .val (.int p4), .val (.int p5), .val (.int p6), .val (.int (Int32.ofNat sz)), .val (.int (Int32.ofNat n1)), .val (.int (Int32.ofNat n2)), .val (.int (Int32.ofNat n3)), .val (.int (Int32.ofNat np)), .val (.int (own_b tw)), .val (.int (own_b th)), .val (.ref b101), .unset, .unset, .unset, .unset, .unset, .unset, .unset, .unset, .unset, .unset] [(.ref b108)])) _
    refine XS.astore X110.here hx rfl (hb hby at_122) rfl rfl (l' := #[.val (.int p1), .val (.int p2), .val (.int p3), .val (.int p4), .val (.int p5), .val (.int p6), .val (.int (Int32.ofNat sz)), .val (.int (Int32.ofNat n1)), .val (.int (Int32.ofNat n2)), .val (.int (Int32.ofNat n3)), .val (.int (Int32.ofNat np)), .val (.int (own_b tw)), .val (.int (own_b th)), .val (.ref b101), .val (.ref b108), .unset, .unset, .unset, .unset, .unset, .unset, .unset, .unset, .unset]) rfl ?_
    exact k)
  obtain ⟨T111, h111, k111, X111, e111, E111, A111, st111⟩ := newP X110 hx hZ (hw _ (List.mem_of_getElem? (i := 11) rfl)) e110 (g := (mkF m 125 #[.val (.int p1), .val (.int p2), .val (.int p3), .val (.int p4), .val (.int p5), .val (.int p6), .val (.int (Int32.ofNat sz)), .val (.int (Int32.ofNat n1)), .val (.int (Int32.ofNat n2)), .val (.int (Int32.ofNat n3)), .val (.int (Int32.ofNat np)), .val (.int (own_b tw)), .val (.int (own_b th)), .val (.ref b101), .val (.ref b108), .unset, .unset, .unset, .unset, .unset, .unset, .unset, .unset, .unset] [(.int (1 : Int32))])) rfl (hb hby at_125) rfl (by decide) (cap := 1) (by decide) (by decide) (by decide) (by decide)
  obtain ⟨b111, g111⟩ : ∃ z, z = h110.size := ⟨_, rfl⟩
  rw [← g111] at A111 st111
  have V_b111 : Arv Z h111 b111 k111 .int (1 : Int32) [(.int (0 : Int32))] (.int (0 : Int32)) := (Arv.new A111 (by decide)).pad (pad_rep [] (.int (0 : Int32)) 1)
  have g_b111 : n0 ≤ b111 := Nat.le_trans (Nat.le_trans Z0 K110.1) (Nat.le_of_eq g111.symm)
  have sz_b111 : h0.size ≤ b111 := (Nat.le_trans K110.1 (Nat.le_of_eq g111.symm))
  have K111 : Keep h0 h111 [] := K110.ext E111
  obtain ⟨cl_b111_131, Ar_b111, q_b111, S_b111, N_b111, H_b111, G_b111⟩ := V_b111
  have hin131 : ¬ ((0 : Int32) < 0 ∨ cl_b111_131.slots.size ≤ ((0 : Int32)).toNatClampNeg) := inb_of S_b111 ⟨by decide, by decide⟩
  obtain ⟨T112, h112, X112, e112, W112, st112⟩ := stI X111 hx hZ e111 Ar_b111 (j := (0 : Int32)) hin131 (g := (mkF m 131 #[.val (.int p1), .val (.int p2), .val (.int p3), .val (.int p4), .val (.int p5), .val (.int p6), .val (.int (Int32.ofNat sz)), .val (.int (Int32.ofNat n1)), .val (.int (Int32.ofNat n2)), .val (.int (Int32.ofNat n3)), .val (.int (Int32.ofNat np)), .val (.int (own_b tw)), .val (.int (own_b th)), .val (.ref b101), .val (.ref b108), .unset, .unset, .unset, .unset, .unset, .unset, .unset, .unset, .unset] [(.int (Int32.ofNat n3)), (.int (0 : Int32)), (.ref b111), (.ref b111)])) rfl rfl (hb hby at_131)
  have V_b111_112 := Arv.set Ar_b111 q_b111 S_b111 N_b111 H_b111 G_b111 rfl W112 0 rfl (Nat.le_of_ble_eq_true rfl)
  have K112 : Keep h0 h112 [] := K111.wr W112 (Or.inr sz_b111)
  have N112 := Fr.snoc X112 N110 g_b111
  have P24 : ∀ t, Steps p.tables e below (T112.setTop (mkF m 134 #[.val (.int p1), .val (.int p2), .val (.int p3), .val (.int p4), .val (.int p5), .val (.int p6), .val (.int (Int32.ofNat sz)), .val (.int (Int32.ofNat n1)), .val (.int (Int32.ofNat n2)), .val (.int (Int32.ofNat n3)), .val (.int (Int32.ofNat np)), .val (.int (own_b tw)), .val (.int (own_b th)), .val (.ref b101), .val (.ref b108), .val (.ref b111), .unset, .unset, .unset, .unset, .unset, .unset, .unset, .unset] [])) t → Steps p.tables e below (s₁.setTop (entryFrame m #[(.int p1), (.int p2), (.int p3), (.int p4), (.int p5), (.int p6)] maxLocals)) t := fun t k => P23 t (by
    show Steps p.tables e below (T110.setTop (mkF m 124 #[.val (.int p1), .val (.int p2), .val (.int p3), .val (.int p4), .val (.int p5), .val (.int p6), .val (.int (Int32.ofNat sz)), .val (.int (Int32.ofNat n1)), .val (.int (Int32.ofNat n2)), .val (.int (Int32.ofNat n3)), .val (.int (Int32.ofNat np)), .val (.int (own_b tw)), .val (.int (own_b th)), .val (.ref b101), .val (.ref b108), .unset, .unset, .unset, .unset, .unset, .unset, .unset, .unset, .unset] [])) _
    refine XS.iconst X110.here hx rfl (hb hby at_124) ?_
    show Steps p.tables e below (T110.setTop (mkF m 125 #[.val (.int p1), .val (.int p2), .val (.int p3), .val (.int p4), .val (.int p5), .val (.int p6), .val (.int (Int32.ofNat sz)), .val (.int (Int32.ofNat n1)), .val (.int (Int32.ofNat n2)), .val (.int (Int32.ofNat n3)), .val (.int (Int32.ofNat np)), .val (.int (own_b tw)), .val (.int (own_b th)), .val (.ref b101), .val (.ref b108), .unset, .unset, .unset, .unset, .unset, .unset, .unset, .unset, .unset] [(.int (1 : Int32))])) _
    refine st111 _ ?_
    show Steps p.tables e below (T111.setTop (mkF m 127 #[.val (.int p1), .val (.int p2), .val (.int p3), .val (.int p4), .val (.int p5), .val (.int p6), .val (.int (Int32.ofNat sz)), .val (.int (Int32.ofNat n1)), .val (.int (Int32.ofNat n2)), .val (.int (Int32.ofNat n3)), .val (.int (Int32.ofNat np)), .val (.int (own_b tw)), .val (.int (own_b th)), .val (.ref b101), .val (.ref b108), .unset, .unset, .unset, .unset, .unset, .unset, .unset, .unset, .unset] [(.ref b111)])) _
    refine XS.dup X111.here hx rfl (hb hby at_127) rfl rfl ?_
    show Steps p.tables e below (T111.setTop (mkF m 128 #[.val (.int p1), .val (.int p2), .val (.int p3), .val (.int p4), .val (.int p5), .val (.int p6), .val (.int (Int32.ofNat sz)), .val (.int (Int32.ofNat n1)), .val (.int (Int32.ofNat n2)), .val (.int (Int32.ofNat n3)), .val (.int (Int32.ofNat np)), .val (.int (own_b tw)), .val (.int (own_b th)), .val (.ref b101), .val (.ref b108), .unset, .unset, .unset, .unset, .unset, .unset, .unset, .unset, .unset] [(.ref b111), (.ref b111)])) _
    refine XS.iconst X111.here hx rfl (hb hby at_128) ?_
    show Steps p.tables e below (T111.setTop (mkF m 129 #[.val (.int p1), .val (.int p2), .val (.int p3), .val (.int p4), .val (.int p5), .val (.int p6), .val (.int (Int32.ofNat sz)), .val (.int (Int32.ofNat n1)), .val (.int (Int32.ofNat n2)), .val (.int (Int32.ofNat n3)), .val (.int (Int32.ofNat np)), .val (.int (own_b tw)), .val (.int (own_b th)), .val (.ref b101), .val (.ref b108), .unset, .unset, .unset, .unset, .unset, .unset, .unset, .unset, .unset] [(.int (0 : Int32)), (.ref b111), (.ref b111)])) _
    refine XS.iload X111.here hx rfl (hb hby at_129) rfl ?_
    show Steps p.tables e below (T111.setTop (mkF m 131 #[.val (.int p1), .val (.int p2), .val (.int p3), .val (.int p4), .val (.int p5), .val (.int p6), .val (.int (Int32.ofNat sz)), .val (.int (Int32.ofNat n1)), .val (.int (Int32.ofNat n2)), .val (.int (Int32.ofNat n3)), .val (.int (Int32.ofNat np)), .val (.int (own_b tw)), .val (.int (own_b th)), .val (.ref b101), .val (.ref b108), .unset, .unset, .unset, .unset, .unset, .unset, .unset, .unset, .unset] [(.int (Int32.ofNat n3)), (.int (0 : Int32)), (.ref b111), (.ref b111)])) _
    refine st112 _ ?_
    show Steps p.tables e below (T112.setTop (mkF m 132 #[.val (.int p1), .val (.int p2), .val (.int p3), .val (.int p4), .val (.int p5), .val (.int p6), .val (.int (Int32.ofNat sz)), .val (.int (Int32.ofNat n1)), .val (.int (Int32.ofNat n2)), .val (.int (Int32.ofNat n3)), .val (.int (Int32.ofNat np)), .val (.int (own_b tw)), .val (.int (own_b th)), .val (.ref b101), .val (.ref b108), .unset, .unset, .unset, .unset, .unset, .unset, .unset, .unset, .unset] [(.ref b111)])) _
    refine XS.astore X112.here hx rfl (hb hby at_132) rfl rfl (l' := #[.val (.int p1), .val (.int p2), .val (.int p3), .val (.int p4), .val (.int p5), .val (.int p6), .val (.int (Int32.ofNat sz)), .val (.int (Int32.ofNat n1)), .val (.int (Int32.ofNat n2)), .val (.int (Int32.ofNat n3)), .val (.int (Int32.ofNat np)), .val (.int (own_b tw)), .val (.int (own_b th)), .val (.ref b101), .val (.ref b108), .val (.ref b111), .unset, .unset, .unset, .unset, .unset, .unset, .unset, .unset]) rfl ?_
    exact k)
  have szo_b108 : h107.size ≤ b108 := Nat.le_of_eq g108.symm
  have szo_b111 : h107.size ≤ b111 := Nat.le_trans (Nat.le_trans (Nat.le_trans E108.1 (Keep.of_wr W109).1) (Keep.of_wr W110).1) (Nat.le_of_eq g111.symm)
  have Oa4 := (((((Oa3.ext E108).other W109 (Nat.ne_of_lt (Nat.lt_of_lt_of_le Oa3.lt szo_b108))).other W110 (Nat.ne_of_lt (Nat.lt_of_lt_of_le Oa3.lt szo_b108))).ext E111).other W112 (Nat.ne_of_lt (Nat.lt_of_lt_of_le Oa3.lt szo_b111)))
  have VF := ((V_b108_110.ext E111).other W112 (Nat.ne_of_lt (Nat.lt_of_lt_of_le V_b108_110.lt (Nat.le_of_eq g111.symm))))
  have VS := V_b111_112
  have BF : own_Bn Z h112 b108 (own_l1 tw n1 n2) := by
    obtain ⟨c1, A1_, -, z1, -, H1_, -⟩ := VF
    have z1' : c1.slots.size = 2 := z1
    cases tw
    · refine ⟨c1, A1_, by rw [z1']; exact Nat.le_of_ble_eq_true rfl, by omega, fun k hk => ?_⟩
      have hk' : k = 0 := by have : k < 1 := hk; omega
      subst hk'
      exact H1_ 0 (by omega)
    · refine ⟨c1, A1_, by rw [z1']; exact Nat.le_of_ble_eq_true rfl, by omega, fun k hk => ?_⟩
      have hk' : k = 0 ∨ k = 1 := by have : k < 2 := hk; omega
      rcases hk' with rfl | rfl
      · exact H1_ 0 (by omega)
      · exact H1_ 1 (by omega)
  have BS : own_Bn Z h112 b111 (own_l2 th n3) := by
    obtain ⟨c1, A1_, -, z1, -, H1_, -⟩ := VS
    have z1' : c1.slots.size = 1 := z1
    cases th
    · exact ⟨c1, A1_, by rw [z1']; exact Nat.le_of_ble_eq_true rfl, by omega, fun k hk => absurd hk (Nat.not_lt_zero k)⟩
    · refine ⟨c1, A1_, by rw [z1']; exact Nat.le_of_ble_eq_true rfl, by omega, fun k hk => ?_⟩
      have hk' : k = 0 := by have : k < 1 := hk; omega
      subst hk'
      exact H1_ 0 (by omega)
  obtain ⟨n, hnn⟩ : ∃ z, z = (sz + 63) / 64 := ⟨_, rfl⟩
  have hn4 : n ≤ 4 := by omega
  have ltn : ∀ {q : Nat}, q < sz → q < 64 * n := by intro q hq; omega
  have hcnt := own_cntI hz1 hz2
  rw [← hnn] at hcnt
  obtain ⟨T113, h113, X113, e113, E113, A113, D113, -, st113⟩ := newO X112 hx hZ hown (hw _ (List.mem_of_getElem? (i := 12) rfl)) (hw _ (List.mem_of_getElem? (i := 13) rfl)) (hw _ (List.mem_of_getElem? (i := 14) rfl)) e112 (g := (mkF m 134 #[.val (.int p1), .val (.int p2), .val (.int p3), .val (.int p4), .val (.int p5), .val (.int p6), .val (.int (Int32.ofNat sz)), .val (.int (Int32.ofNat n1)), .val (.int (Int32.ofNat n2)), .val (.int (Int32.ofNat n3)), .val (.int (Int32.ofNat np)), .val (.int (own_b tw)), .val (.int (own_b th)), .val (.ref b101), .val (.ref b108), .val (.ref b111), .unset, .unset, .unset, .unset, .unset, .unset, .unset, .unset] [])) rfl (hb hby at_134) (by decide) (by decide)
  obtain ⟨b113, g113⟩ : ∃ z, z = h112.size := ⟨_, rfl⟩
  rw [← g113] at A113 D113 st113
  have F_chunks_b113 : Fld Z h113 b113 "com/example/runner_bean/runnerbean/service/PublishedSingletons" "chunks" "[[Ljava/lang/Object;" .null := D113 (Or.inl (hw _ (List.mem_of_getElem? (i := 31) rfl))) (ty := (.array (.array (.object "java/lang/Object")))) (by decide)
  have E_b113 := A113
  have g_b113 : n0 ≤ b113 := Nat.le_trans (Nat.le_trans Z0 K112.1) (Nat.le_of_eq g113.symm)
  have sz_b113 : h0.size ≤ b113 := (Nat.le_trans K112.1 (Nat.le_of_eq g113.symm))
  have K113 : Keep h0 h113 [] := K112.ext E113
  have P25 : ∀ t, Steps p.tables e below (T113.setTop (mkF m 140 #[.val (.int p1), .val (.int p2), .val (.int p3), .val (.int p4), .val (.int p5), .val (.int p6), .val (.int (Int32.ofNat sz)), .val (.int (Int32.ofNat n1)), .val (.int (Int32.ofNat n2)), .val (.int (Int32.ofNat n3)), .val (.int (Int32.ofNat np)), .val (.int (own_b tw)), .val (.int (own_b th)), .val (.ref b101), .val (.ref b108), .val (.ref b111), .unset, .unset, .unset, .unset, .unset, .unset, .unset, .unset] [(.int (Int32.ofNat sz)), (.ref b113), (.ref b113)])) t → Steps p.tables e below (s₁.setTop (entryFrame m #[(.int p1), (.int p2), (.int p3), (.int p4), (.int p5), (.int p6)] maxLocals)) t := fun t k => P24 t (by
    show Steps p.tables e below (T112.setTop (mkF m 134 #[.val (.int p1), .val (.int p2), .val (.int p3), .val (.int p4), .val (.int p5), .val (.int p6), .val (.int (Int32.ofNat sz)), .val (.int (Int32.ofNat n1)), .val (.int (Int32.ofNat n2)), .val (.int (Int32.ofNat n3)), .val (.int (Int32.ofNat np)), .val (.int (own_b tw)), .val (.int (own_b th)), .val (.ref b101), .val (.ref b108), .val (.ref b111), .unset, .unset, .unset, .unset, .unset, .unset, .unset, .unset] [])) _
    refine st113 _ ?_
    show Steps p.tables e below (T113.setTop (mkF m 137 #[.val (.int p1), .val (.int p2), .val (.int p3), .val (.int p4), .val (.int p5), .val (.int p6), .val (.int (Int32.ofNat sz)), .val (.int (Int32.ofNat n1)), .val (.int (Int32.ofNat n2)), .val (.int (Int32.ofNat n3)), .val (.int (Int32.ofNat np)), .val (.int (own_b tw)), .val (.int (own_b th)), .val (.ref b101), .val (.ref b108), .val (.ref b111), .unset, .unset, .unset, .unset, .unset, .unset, .unset, .unset] [(.ref b113)])) _
    refine XS.dup X113.here hx rfl (hb hby at_137) rfl rfl ?_
    show Steps p.tables e below (T113.setTop (mkF m 138 #[.val (.int p1), .val (.int p2), .val (.int p3), .val (.int p4), .val (.int p5), .val (.int p6), .val (.int (Int32.ofNat sz)), .val (.int (Int32.ofNat n1)), .val (.int (Int32.ofNat n2)), .val (.int (Int32.ofNat n3)), .val (.int (Int32.ofNat np)), .val (.int (own_b tw)), .val (.int (own_b th)), .val (.ref b101), .val (.ref b108), .val (.ref b111), .unset, .unset, .unset, .unset, .unset, .unset, .unset, .unset] [(.ref b113), (.ref b113)])) _
    refine XS.iload X113.here hx rfl (hb hby at_138) rfl ?_
    exact k)
  have uP : u ≠ b113 := Nat.ne_of_lt (Nat.lt_of_lt_of_le (HU 0).lt sz_b113)
  have oP : b101 ≠ b113 := Nat.ne_of_lt (Nat.lt_of_lt_of_le Oa4.lt (Nat.le_of_eq g113.symm))
  have fP : b108 ≠ b113 := Nat.ne_of_lt (Nat.lt_of_lt_of_le VF.lt (Nat.le_of_eq g113.symm))
  have sP : b111 ≠ b113 := Nat.ne_of_lt (Nat.lt_of_lt_of_le VS.lt (Nat.le_of_eq g113.symm))
  have HUn : ∀ i, own_Ch Z h113 u (fun _ => .null) i := fun i => (HU i).keep K113 nin0
  obtain ⟨_, _, ⟨T114, L114, k114, n114⟩, -, X114, ⟨Lc114, hQ114, l114, y114, z114⟩, st114⟩ := X113.specialBack hx (y := (⟨"com/example/runner_bean/runnerbean/service/PublishedSingletons", "<init>", "(I)V"⟩ : MethodName)) rfl hown (mvT hZ (hw _ (List.mem_of_getElem? (i := 15) rfl))) (mvT hZ (hw _ (List.mem_of_getElem? (i := 16) rfl))) (mvT hZ (hw _ (List.mem_of_getElem? (i := 17) rfl))) (by decide) (backOf (W := 1) (rm2 l Z a0 hw [] b113 (Int32.ofNat sz) u n h113 n0 (Nat.le_trans Z0 K113.1) hn4 hcnt E_b113 F_chunks_b113 g_b113 (own_staKeep SU K113) uP HUn) hZ (hw _ (List.mem_of_getElem? (i := 17) rfl)) (hw _ (List.mem_of_getElem? (i := 14) rfl)) (by decide) (by decide)) (g := (mkF m 140 #[.val (.int p1), .val (.int p2), .val (.int p3), .val (.int p4), .val (.int p5), .val (.int p6), .val (.int (Int32.ofNat sz)), .val (.int (Int32.ofNat n1)), .val (.int (Int32.ofNat n2)), .val (.int (Int32.ofNat n3)), .val (.int (Int32.ofNat np)), .val (.int (own_b tw)), .val (.int (own_b th)), .val (.ref b101), .val (.ref b108), .val (.ref b111), .unset, .unset, .unset, .unset, .unset, .unset, .unset, .unset] [(.int (Int32.ofNat sz)), (.ref b113), (.ref b113)])) rfl (by rw [hml]; rfl) (Steps.refl _) (a := b113) (argsL := [(.int (Int32.ofNat sz))]) (rest := [(.ref b113)]) (lenOf pd_0_1 rfl) rfl (by show 2 * 0 + _ ≤ _; exact Nat.le_of_eq rfl) (hb hby at_140) (fun _ _ => ⟨rfl, e113, (by exact Nat.le_of_ble_eq_true rfl), (by exact Nat.le_of_ble_eq_true rfl)⟩)
  dsimp only [Pt.U, Pt.locs, Pt.cells, Pt.slots] at X114 l114 y114 z114 st114 hQ114
  subst l114 y114 z114
  obtain ⟨rfl, N114q, KP1, kc, Oc, hPs0⟩ := hQ114
  have N114 := Fr.app N112 N114q
  have P26 : ∀ t, Steps p.tables e below (T114.setTop (mkF m 145 #[.val (.int p1), .val (.int p2), .val (.int p3), .val (.int p4), .val (.int p5), .val (.int p6), .val (.int (Int32.ofNat sz)), .val (.int (Int32.ofNat n1)), .val (.int (Int32.ofNat n2)), .val (.int (Int32.ofNat n3)), .val (.int (Int32.ofNat np)), .val (.int (own_b tw)), .val (.int (own_b th)), .val (.ref b101), .val (.ref b108), .val (.ref b111), .val (.ref b113), .unset, .unset, .unset, .unset, .unset, .unset, .unset] [])) t → Steps p.tables e below (s₁.setTop (entryFrame m #[(.int p1), (.int p2), (.int p3), (.int p4), (.int p5), (.int p6)] maxLocals)) t := fun t k => P25 t (by
    show Steps p.tables e below (T113.setTop (mkF m 140 #[.val (.int p1), .val (.int p2), .val (.int p3), .val (.int p4), .val (.int p5), .val (.int p6), .val (.int (Int32.ofNat sz)), .val (.int (Int32.ofNat n1)), .val (.int (Int32.ofNat n2)), .val (.int (Int32.ofNat n3)), .val (.int (Int32.ofNat np)), .val (.int (own_b tw)), .val (.int (own_b th)), .val (.ref b101), .val (.ref b108), .val (.ref b111), .unset, .unset, .unset, .unset, .unset, .unset, .unset, .unset] [(.int (Int32.ofNat sz)), (.ref b113), (.ref b113)])) _
    refine st114.trans ?_
    show Steps p.tables e below (T114.setTop (mkF m 143 #[.val (.int p1), .val (.int p2), .val (.int p3), .val (.int p4), .val (.int p5), .val (.int p6), .val (.int (Int32.ofNat sz)), .val (.int (Int32.ofNat n1)), .val (.int (Int32.ofNat n2)), .val (.int (Int32.ofNat n3)), .val (.int (Int32.ofNat np)), .val (.int (own_b tw)), .val (.int (own_b th)), .val (.ref b101), .val (.ref b108), .val (.ref b111), .unset, .unset, .unset, .unset, .unset, .unset, .unset, .unset] [(.ref b113)])) _
    refine XS.astore X114.here hx rfl (hb hby at_143) rfl rfl (l' := #[.val (.int p1), .val (.int p2), .val (.int p3), .val (.int p4), .val (.int p5), .val (.int p6), .val (.int (Int32.ofNat sz)), .val (.int (Int32.ofNat n1)), .val (.int (Int32.ofNat n2)), .val (.int (Int32.ofNat n3)), .val (.int (Int32.ofNat np)), .val (.int (own_b tw)), .val (.int (own_b th)), .val (.ref b101), .val (.ref b108), .val (.ref b111), .val (.ref b113), .unset, .unset, .unset, .unset, .unset, .unset, .unset]) rfl ?_
    exact k)
  have KI : Keep h0 T114.heap [] := K113.trans KP1 (fun x hx => by cases List.mem_singleton.mp hx; exact Or.inr sz_b113)
  have Oa5 := (Oa4.ext E113).keep KP1 (ninS oP nin0)
  have BF5 : own_Bn Z T114.heap b108 (own_l1 tw n1 n2) := (own_BnExt BF E113).keep KP1 (ninS fP nin0)
  have BS5 : own_Bn Z T114.heap b111 (own_l2 th n3) := (own_BnExt BS E113).keep KP1 (ninS sP nin0)
  have E_b113 := hPs0.exa
  obtain ⟨cq115, kq115, q115a, q115b, q115c⟩ := isOf hZ rfl hPs0.exa
  obtain ⟨_, _, ⟨T115, L115, k115, n115⟩, -, X115, ⟨Lc115, hQ115, l115, y115, z115⟩, st115⟩ := X114.virtualBack hx (y := (⟨"com/example/runner_bean/runnerbean/service/PublishedSingletons", "get", "(I)Ljava/lang/Object;"⟩ : MethodName)) (z := (⟨"com/example/runner_bean/runnerbean/service/PublishedSingletons", "get", "(I)Ljava/lang/Object;"⟩ : MethodName)) hown (mvT hZ (hw _ (List.mem_of_getElem? (i := 32) rfl))) (mvT hZ (hw _ (List.mem_of_getElem? (i := 33) rfl))) (notFace_of_selects (args := #[]) (mvT hZ (hw _ (List.mem_of_getElem? (i := 35) rfl)))) (mvT hZ (hw _ (List.mem_of_getElem? (i := 35) rfl))) (mvT hZ (hw _ (List.mem_of_getElem? (i := 34) rfl))) (by decide) (backOf (W := 0) (rm5 l Z a0 hw [] b113 (Int32.ofNat np) kc n (fun _ => .null) np T114.heap n0 hPs0.sz hn4 (ltn hp) rfl hPs0) hZ (hw _ (List.mem_of_getElem? (i := 36) rfl)) (hw _ (List.mem_of_getElem? (i := 14) rfl)) (by decide) (by decide)) q115a q115c (g := (mkF m 149 #[.val (.int p1), .val (.int p2), .val (.int p3), .val (.int p4), .val (.int p5), .val (.int p6), .val (.int (Int32.ofNat sz)), .val (.int (Int32.ofNat n1)), .val (.int (Int32.ofNat n2)), .val (.int (Int32.ofNat n3)), .val (.int (Int32.ofNat np)), .val (.int (own_b tw)), .val (.int (own_b th)), .val (.ref b101), .val (.ref b108), .val (.ref b111), .val (.ref b113), .unset, .unset, .unset, .unset, .unset, .unset, .unset] [(.int (Int32.ofNat np)), (.ref b113)])) rfl (by rw [hml]; rfl) (Steps.refl _) (argsL := [(.int (Int32.ofNat np))]) (rest := []) (lenOf pd_0_4 rfl) rfl (by show 2 * 0 + _ ≤ _; exact Nat.le_of_eq rfl) (hb hby at_149) (fun _ _ => ⟨rfl, rfl, (by exact Nat.le_of_ble_eq_true rfl), (by exact Nat.le_of_ble_eq_true rfl)⟩)
  dsimp only [Pt.U, Pt.locs, Pt.cells, Pt.slots] at X115 l115 y115 z115 st115 hQ115
  subst l115 y115 z115
  obtain ⟨rfl, N115q, eQ115⟩ := hQ115
  have N115 := Fr.app N114 N115q
  have P27 : ∀ t, Steps p.tables e below (T115.setTop (mkF m 162 #[.val (.int p1), .val (.int p2), .val (.int p3), .val (.int p4), .val (.int p5), .val (.int p6), .val (.int (Int32.ofNat sz)), .val (.int (Int32.ofNat n1)), .val (.int (Int32.ofNat n2)), .val (.int (Int32.ofNat n3)), .val (.int (Int32.ofNat np)), .val (.int (own_b tw)), .val (.int (own_b th)), .val (.ref b101), .val (.ref b108), .val (.ref b111), .val (.ref b113), .val (.int (1 : Int32)), .unset, .unset, .unset, .unset, .unset, .unset] [])) t → Steps p.tables e below (s₁.setTop (entryFrame m #[(.int p1), (.int p2), (.int p3), (.int p4), (.int p5), (.int p6)] maxLocals)) t := fun t k => P26 t (by
    show Steps p.tables e below (T114.setTop (mkF m 145 #[.val (.int p1), .val (.int p2), .val (.int p3), .val (.int p4), .val (.int p5), .val (.int p6), .val (.int (Int32.ofNat sz)), .val (.int (Int32.ofNat n1)), .val (.int (Int32.ofNat n2)), .val (.int (Int32.ofNat n3)), .val (.int (Int32.ofNat np)), .val (.int (own_b tw)), .val (.int (own_b th)), .val (.ref b101), .val (.ref b108), .val (.ref b111), .val (.ref b113), .unset, .unset, .unset, .unset, .unset, .unset, .unset] [])) _
    refine XS.aload X114.here hx rfl (hb hby at_145) rfl rfl ?_
    show Steps p.tables e below (T114.setTop (mkF m 147 #[.val (.int p1), .val (.int p2), .val (.int p3), .val (.int p4), .val (.int p5), .val (.int p6), .val (.int (Int32.ofNat sz)), .val (.int (Int32.ofNat n1)), .val (.int (Int32.ofNat n2)), .val (.int (Int32.ofNat n3)), .val (.int (Int32.ofNat np)), .val (.int (own_b tw)), .val (.int (own_b th)), .val (.ref b101), .val (.ref b108), .val (.ref b111), .val (.ref b113), .unset, .unset, .unset, .unset, .unset, .unset, .unset] [(.ref b113)])) _
    refine XS.iload X114.here hx rfl (hb hby at_147) rfl ?_
    show Steps p.tables e below (T114.setTop (mkF m 149 #[.val (.int p1), .val (.int p2), .val (.int p3), .val (.int p4), .val (.int p5), .val (.int p6), .val (.int (Int32.ofNat sz)), .val (.int (Int32.ofNat n1)), .val (.int (Int32.ofNat n2)), .val (.int (Int32.ofNat n3)), .val (.int (Int32.ofNat np)), .val (.int (own_b tw)), .val (.int (own_b th)), .val (.ref b101), .val (.ref b108), .val (.ref b111), .val (.ref b113), .unset, .unset, .unset, .unset, .unset, .unset, .unset] [(.int (Int32.ofNat np)), (.ref b113)])) _
    refine st115.trans ?_
    show Steps p.tables e below (T115.setTop (mkF m 152 #[.val (.int p1), .val (.int p2), .val (.int p3), .val (.int p4), .val (.int p5), .val (.int p6), .val (.int (Int32.ofNat sz)), .val (.int (Int32.ofNat n1)), .val (.int (Int32.ofNat n2)), .val (.int (Int32.ofNat n3)), .val (.int (Int32.ofNat np)), .val (.int (own_b tw)), .val (.int (own_b th)), .val (.ref b101), .val (.ref b108), .val (.ref b111), .val (.ref b113), .unset, .unset, .unset, .unset, .unset, .unset, .unset] [.null])) _
    refine XS.ifnonnullNo X115.here hx rfl (hb hby at_152) rfl ?_
    show Steps p.tables e below (T115.setTop (mkF m 155 #[.val (.int p1), .val (.int p2), .val (.int p3), .val (.int p4), .val (.int p5), .val (.int p6), .val (.int (Int32.ofNat sz)), .val (.int (Int32.ofNat n1)), .val (.int (Int32.ofNat n2)), .val (.int (Int32.ofNat n3)), .val (.int (Int32.ofNat np)), .val (.int (own_b tw)), .val (.int (own_b th)), .val (.ref b101), .val (.ref b108), .val (.ref b111), .val (.ref b113), .unset, .unset, .unset, .unset, .unset, .unset, .unset] [])) _
    refine XS.iconst X115.here hx rfl (hb hby at_155) ?_
    show Steps p.tables e below (T115.setTop (mkF m 156 #[.val (.int p1), .val (.int p2), .val (.int p3), .val (.int p4), .val (.int p5), .val (.int p6), .val (.int (Int32.ofNat sz)), .val (.int (Int32.ofNat n1)), .val (.int (Int32.ofNat n2)), .val (.int (Int32.ofNat n3)), .val (.int (Int32.ofNat np)), .val (.int (own_b tw)), .val (.int (own_b th)), .val (.ref b101), .val (.ref b108), .val (.ref b111), .val (.ref b113), .unset, .unset, .unset, .unset, .unset, .unset, .unset] [(.int (1 : Int32))])) _
    refine XS.goto X115.here hx rfl (pc0 := 156) (pc' := 160) rfl (hb hby at_156) (by decide) (by decide) ?_
    show Steps p.tables e below (T115.setTop (mkF m 160 #[.val (.int p1), .val (.int p2), .val (.int p3), .val (.int p4), .val (.int p5), .val (.int p6), .val (.int (Int32.ofNat sz)), .val (.int (Int32.ofNat n1)), .val (.int (Int32.ofNat n2)), .val (.int (Int32.ofNat n3)), .val (.int (Int32.ofNat np)), .val (.int (own_b tw)), .val (.int (own_b th)), .val (.ref b101), .val (.ref b108), .val (.ref b111), .val (.ref b113), .unset, .unset, .unset, .unset, .unset, .unset, .unset] [(.int (1 : Int32))])) _
    refine XS.istore X115.here hx rfl (hb hby at_160) rfl (l' := #[.val (.int p1), .val (.int p2), .val (.int p3), .val (.int p4), .val (.int p5), .val (.int p6), .val (.int (Int32.ofNat sz)), .val (.int (Int32.ofNat n1)), .val (.int (Int32.ofNat n2)), .val (.int (Int32.ofNat n3)), .val (.int (Int32.ofNat np)), .val (.int (own_b tw)), .val (.int (own_b th)), .val (.ref b101), .val (.ref b108), .val (.ref b111), .val (.ref b113), .val (.int (1 : Int32)), .unset, .unset, .unset, .unset, .unset, .unset]) rfl ?_
    exact k)
  have P28 : ∀ t, Steps p.tables e below (T115.setTop (mkF m 176 #[.val (.int p1), .val (.int p2), .val (.int p3), .val (.int p4), .val (.int p5), .val (.int p6), .val (.int (Int32.ofNat sz)), .val (.int (Int32.ofNat n1)), .val (.int (Int32.ofNat n2)), .val (.int (Int32.ofNat n3)), .val (.int (Int32.ofNat np)), .val (.int (own_b tw)), .val (.int (own_b th)), .val (.ref b101), .val (.ref b108), .val (.ref b111), .val (.ref b113), .val (.int (1 : Int32)), .unset, .unset, .unset, .unset, .unset, .unset] [(.int (Int32.ofNat (own_l1 tw n1 n2).length)), (.ref b108), (.ref b113)])) t → Steps p.tables e below (s₁.setTop (entryFrame m #[(.int p1), (.int p2), (.int p3), (.int p4), (.int p5), (.int p6)] maxLocals)) t := by
    rcases Bool.eq_false_or_eq_true tw with htw | htw
    · rw [show (Int32.ofNat (own_l1 tw n1 n2).length) = (2 : Int32) by rw [htw]; rfl]
      have hc168 : ¬ (own_b tw = (0 : Int32)) := by rw [htw]; decide
      have P29 : ∀ t, Steps p.tables e below (T115.setTop (mkF m 176 #[.val (.int p1), .val (.int p2), .val (.int p3), .val (.int p4), .val (.int p5), .val (.int p6), .val (.int (Int32.ofNat sz)), .val (.int (Int32.ofNat n1)), .val (.int (Int32.ofNat n2)), .val (.int (Int32.ofNat n3)), .val (.int (Int32.ofNat np)), .val (.int (own_b tw)), .val (.int (own_b th)), .val (.ref b101), .val (.ref b108), .val (.ref b111), .val (.ref b113), .val (.int (1 : Int32)), .unset, .unset, .unset, .unset, .unset, .unset] [(.int (2 : Int32)), (.ref b108), (.ref b113)])) t → Steps p.tables e below (s₁.setTop (entryFrame m #[(.int p1), (.int p2), (.int p3), (.int p4), (.int p5), (.int p6)] maxLocals)) t := fun t k => P27 t (by
        show Steps p.tables e below (T115.setTop (mkF m 162 #[.val (.int p1), .val (.int p2), .val (.int p3), .val (.int p4), .val (.int p5), .val (.int p6), .val (.int (Int32.ofNat sz)), .val (.int (Int32.ofNat n1)), .val (.int (Int32.ofNat n2)), .val (.int (Int32.ofNat n3)), .val (.int (Int32.ofNat np)), .val (.int (own_b tw)), .val (.int (own_b th)), .val (.ref b101), .val (.ref b108), .val (.ref b111), .val (.ref b113), .val (.int (1 : Int32)), .unset, .unset, .unset, .unset, .unset, .unset] [])) _
        refine XS.aload X115.here hx rfl (hb hby at_162) rfl rfl ?_
        show Steps p.tables e below (T115.setTop (mkF m 164 #[.val (.int p1), .val (.int p2), .val (.int p3), .val (.int p4), .val (.int p5), .val (.int p6), .val (.int (Int32.ofNat sz)), .val (.int (Int32.ofNat n1)), .val (.int (Int32.ofNat n2)), .val (.int (Int32.ofNat n3)), .val (.int (Int32.ofNat np)), .val (.int (own_b tw)), .val (.int (own_b th)), .val (.ref b101), .val (.ref b108), .val (.ref b111), .val (.ref b113), .val (.int (1 : Int32)), .unset, .unset, .unset, .unset, .unset, .unset] [(.ref b113)])) _
        refine XS.aload X115.here hx rfl (hb hby at_164) rfl rfl ?_
        show Steps p.tables e below (T115.setTop (mkF m 166 #[.val (.int p1), .val (.int p2), .val (.int p3), .val (.int p4), .val (.int p5), .val (.int p6), .val (.int (Int32.ofNat sz)), .val (.int (Int32.ofNat n1)), .val (.int (Int32.ofNat n2)), .val (.int (Int32.ofNat n3)), .val (.int (Int32.ofNat np)), .val (.int (own_b tw)), .val (.int (own_b th)), .val (.ref b101), .val (.ref b108), .val (.ref b111), .val (.ref b113), .val (.int (1 : Int32)), .unset, .unset, .unset, .unset, .unset, .unset] [(.ref b108), (.ref b113)])) _
        refine XS.iload X115.here hx rfl (hb hby at_166) rfl ?_
        show Steps p.tables e below (T115.setTop (mkF m 168 #[.val (.int p1), .val (.int p2), .val (.int p3), .val (.int p4), .val (.int p5), .val (.int p6), .val (.int (Int32.ofNat sz)), .val (.int (Int32.ofNat n1)), .val (.int (Int32.ofNat n2)), .val (.int (Int32.ofNat n3)), .val (.int (Int32.ofNat np)), .val (.int (own_b tw)), .val (.int (own_b th)), .val (.ref b101), .val (.ref b108), .val (.ref b111), .val (.ref b113), .val (.int (1 : Int32)), .unset, .unset, .unset, .unset, .unset, .unset] [(.int (own_b tw)), (.ref b108), (.ref b113)])) _
        refine XS.ifNo X115.here hx rfl (hb hby at_168) rfl ((if0 _ _).trans (feq hc168).1) ?_
        show Steps p.tables e below (T115.setTop (mkF m 171 #[.val (.int p1), .val (.int p2), .val (.int p3), .val (.int p4), .val (.int p5), .val (.int p6), .val (.int (Int32.ofNat sz)), .val (.int (Int32.ofNat n1)), .val (.int (Int32.ofNat n2)), .val (.int (Int32.ofNat n3)), .val (.int (Int32.ofNat np)), .val (.int (own_b tw)), .val (.int (own_b th)), .val (.ref b101), .val (.ref b108), .val (.ref b111), .val (.ref b113), .val (.int (1 : Int32)), .unset, .unset, .unset, .unset, .unset, .unset] [(.ref b108), (.ref b113)])) _
        refine XS.iconst X115.here hx rfl (hb hby at_171) ?_
        show Steps p.tables e below (T115.setTop (mkF m 172 #[.val (.int p1), .val (.int p2), .val (.int p3), .val (.int p4), .val (.int p5), .val (.int p6), .val (.int (Int32.ofNat sz)), .val (.int (Int32.ofNat n1)), .val (.int (Int32.ofNat n2)), .val (.int (Int32.ofNat n3)), .val (.int (Int32.ofNat np)), .val (.int (own_b tw)), .val (.int (own_b th)), .val (.ref b101), .val (.ref b108), .val (.ref b111), .val (.ref b113), .val (.int (1 : Int32)), .unset, .unset, .unset, .unset, .unset, .unset] [(.int (2 : Int32)), (.ref b108), (.ref b113)])) _
        refine XS.goto X115.here hx rfl (pc0 := 172) (pc' := 176) rfl (hb hby at_172) (by decide) (by decide) ?_
        exact k)
      exact P29
    · rw [show (Int32.ofNat (own_l1 tw n1 n2).length) = (1 : Int32) by rw [htw]; rfl]
      have hc168 : own_b tw = (0 : Int32) := by rw [htw]; rfl
      have P30 : ∀ t, Steps p.tables e below (T115.setTop (mkF m 176 #[.val (.int p1), .val (.int p2), .val (.int p3), .val (.int p4), .val (.int p5), .val (.int p6), .val (.int (Int32.ofNat sz)), .val (.int (Int32.ofNat n1)), .val (.int (Int32.ofNat n2)), .val (.int (Int32.ofNat n3)), .val (.int (Int32.ofNat np)), .val (.int (own_b tw)), .val (.int (own_b th)), .val (.ref b101), .val (.ref b108), .val (.ref b111), .val (.ref b113), .val (.int (1 : Int32)), .unset, .unset, .unset, .unset, .unset, .unset] [(.int (1 : Int32)), (.ref b108), (.ref b113)])) t → Steps p.tables e below (s₁.setTop (entryFrame m #[(.int p1), (.int p2), (.int p3), (.int p4), (.int p5), (.int p6)] maxLocals)) t := fun t k => P27 t (by
        show Steps p.tables e below (T115.setTop (mkF m 162 #[.val (.int p1), .val (.int p2), .val (.int p3), .val (.int p4), .val (.int p5), .val (.int p6), .val (.int (Int32.ofNat sz)), .val (.int (Int32.ofNat n1)), .val (.int (Int32.ofNat n2)), .val (.int (Int32.ofNat n3)), .val (.int (Int32.ofNat np)), .val (.int (own_b tw)), .val (.int (own_b th)), .val (.ref b101), .val (.ref b108), .val (.ref b111), .val (.ref b113), .val (.int (1 : Int32)), .unset, .unset, .unset, .unset, .unset, .unset] [])) _
        refine XS.aload X115.here hx rfl (hb hby at_162) rfl rfl ?_
        show Steps p.tables e below (T115.setTop (mkF m 164 #[.val (.int p1), .val (.int p2), .val (.int p3), .val (.int p4), .val (.int p5), .val (.int p6), .val (.int (Int32.ofNat sz)), .val (.int (Int32.ofNat n1)), .val (.int (Int32.ofNat n2)), .val (.int (Int32.ofNat n3)), .val (.int (Int32.ofNat np)), .val (.int (own_b tw)), .val (.int (own_b th)), .val (.ref b101), .val (.ref b108), .val (.ref b111), .val (.ref b113), .val (.int (1 : Int32)), .unset, .unset, .unset, .unset, .unset, .unset] [(.ref b113)])) _
        refine XS.aload X115.here hx rfl (hb hby at_164) rfl rfl ?_
        show Steps p.tables e below (T115.setTop (mkF m 166 #[.val (.int p1), .val (.int p2), .val (.int p3), .val (.int p4), .val (.int p5), .val (.int p6), .val (.int (Int32.ofNat sz)), .val (.int (Int32.ofNat n1)), .val (.int (Int32.ofNat n2)), .val (.int (Int32.ofNat n3)), .val (.int (Int32.ofNat np)), .val (.int (own_b tw)), .val (.int (own_b th)), .val (.ref b101), .val (.ref b108), .val (.ref b111), .val (.ref b113), .val (.int (1 : Int32)), .unset, .unset, .unset, .unset, .unset, .unset] [(.ref b108), (.ref b113)])) _
        refine XS.iload X115.here hx rfl (hb hby at_166) rfl ?_
        show Steps p.tables e below (T115.setTop (mkF m 168 #[.val (.int p1), .val (.int p2), .val (.int p3), .val (.int p4), .val (.int p5), .val (.int p6), .val (.int (Int32.ofNat sz)), .val (.int (Int32.ofNat n1)), .val (.int (Int32.ofNat n2)), .val (.int (Int32.ofNat n3)), .val (.int (Int32.ofNat np)), .val (.int (own_b tw)), .val (.int (own_b th)), .val (.ref b101), .val (.ref b108), .val (.ref b111), .val (.ref b113), .val (.int (1 : Int32)), .unset, .unset, .unset, .unset, .unset, .unset] [(.int (own_b tw)), (.ref b108), (.ref b113)])) _
        refine XS.ifYes X115.here hx rfl (pc0 := 168) (pc' := 175) rfl (hb hby at_168) rfl ((if0 _ _).trans (teq hc168).1) (by decide) (by decide) ?_
        show Steps p.tables e below (T115.setTop (mkF m 175 #[.val (.int p1), .val (.int p2), .val (.int p3), .val (.int p4), .val (.int p5), .val (.int p6), .val (.int (Int32.ofNat sz)), .val (.int (Int32.ofNat n1)), .val (.int (Int32.ofNat n2)), .val (.int (Int32.ofNat n3)), .val (.int (Int32.ofNat np)), .val (.int (own_b tw)), .val (.int (own_b th)), .val (.ref b101), .val (.ref b108), .val (.ref b111), .val (.ref b113), .val (.int (1 : Int32)), .unset, .unset, .unset, .unset, .unset, .unset] [(.ref b108), (.ref b113)])) _
        refine XS.iconst X115.here hx rfl (hb hby at_175) ?_
        exact k)
      exact P30
  have hPs0' := hPs0
  have len1 : (own_l1 tw n1 n2).length ≤ 2 := by cases tw <;> exact Nat.le_of_ble_eq_true rfl
  have lt1 : ∀ k, k < (own_l1 tw n1 n2).length → (own_l1 tw n1 n2).getD k 0 < 64 * n := by
    cases tw
    · intro k hk
      have hk' : k = 0 := by have : k < 1 := hk; omega
      subst hk'
      exact ltn h1
    · intro k hk
      have hk' : k = 0 ∨ k = 1 := by have : k < 2 := hk; omega
      rcases hk' with rfl | rfl
      · exact ltn h1
      · exact ltn h2
  obtain ⟨cq116, kq116, q116a, q116b, q116c⟩ := isOf hZ eQ115 hPs0.exa
  obtain ⟨_, _, ⟨T116, L116, k116, n116⟩, -, X116, ⟨Lc116, hQ116, l116, y116, z116⟩, st116⟩ := X115.virtualBack hx (y := (⟨"com/example/runner_bean/runnerbean/service/PublishedSingletons", "publish", "([II[Ljava/lang/Object;)V"⟩ : MethodName)) (z := (⟨"com/example/runner_bean/runnerbean/service/PublishedSingletons", "publish", "([II[Ljava/lang/Object;)V"⟩ : MethodName)) hown (mvT hZ (hw _ (List.mem_of_getElem? (i := 37) rfl))) (mvT hZ (hw _ (List.mem_of_getElem? (i := 38) rfl))) (notFace_of_selects (args := #[]) (mvT hZ (hw _ (List.mem_of_getElem? (i := 40) rfl)))) (mvT hZ (hw _ (List.mem_of_getElem? (i := 40) rfl))) (mvT hZ (hw _ (List.mem_of_getElem? (i := 39) rfl))) (by decide) (backOf (W := 0) (rm6 l Z a0 hw [] b113 b108 (Int32.ofNat (own_l1 tw n1 n2).length) b101 kc n (fun _ => .null) f (own_l1 tw n1 n2) T114.heap n0 hPs0.sz hn4 len1 rfl hPs0 Oc BF5 lt1 Oa5 (Rf0.keep KI)) hZ (hw _ (List.mem_of_getElem? (i := 41) rfl)) (hw _ (List.mem_of_getElem? (i := 14) rfl)) (by decide) (by decide)) q116a q116c (g := (mkF m 178 #[.val (.int p1), .val (.int p2), .val (.int p3), .val (.int p4), .val (.int p5), .val (.int p6), .val (.int (Int32.ofNat sz)), .val (.int (Int32.ofNat n1)), .val (.int (Int32.ofNat n2)), .val (.int (Int32.ofNat n3)), .val (.int (Int32.ofNat np)), .val (.int (own_b tw)), .val (.int (own_b th)), .val (.ref b101), .val (.ref b108), .val (.ref b111), .val (.ref b113), .val (.int (1 : Int32)), .unset, .unset, .unset, .unset, .unset, .unset] [(.ref b101), (.int (Int32.ofNat (own_l1 tw n1 n2).length)), (.ref b108), (.ref b113)])) rfl (by rw [hml]; rfl) (Steps.refl _) (argsL := [(.ref b108), (.int (Int32.ofNat (own_l1 tw n1 n2).length)), (.ref b101)]) (rest := []) (lenOf pd_0_5 rfl) rfl (by show 2 * 0 + _ ≤ _; exact Nat.le_of_eq rfl) (hb hby at_178) (fun _ _ => ⟨rfl, eQ115, (by exact Nat.le_of_ble_eq_true rfl), (by exact Nat.le_of_ble_eq_true rfl)⟩)
  dsimp only [Pt.U, Pt.locs, Pt.cells, Pt.slots] at X116 l116 y116 z116 st116 hQ116
  subst l116 y116 z116
  obtain ⟨rfl, N116q, KP2, hPs1⟩ := hQ116
  have N116 := Fr.app N115 N116q
  have P31 : ∀ t, Steps p.tables e below (T116.setTop (mkF m 181 #[.val (.int p1), .val (.int p2), .val (.int p3), .val (.int p4), .val (.int p5), .val (.int p6), .val (.int (Int32.ofNat sz)), .val (.int (Int32.ofNat n1)), .val (.int (Int32.ofNat n2)), .val (.int (Int32.ofNat n3)), .val (.int (Int32.ofNat np)), .val (.int (own_b tw)), .val (.int (own_b th)), .val (.ref b101), .val (.ref b108), .val (.ref b111), .val (.ref b113), .val (.int (1 : Int32)), .unset, .unset, .unset, .unset, .unset, .unset] [])) t → Steps p.tables e below (s₁.setTop (entryFrame m #[(.int p1), (.int p2), (.int p3), (.int p4), (.int p5), (.int p6)] maxLocals)) t := fun t k => P28 t (by
    show Steps p.tables e below (T115.setTop (mkF m 176 #[.val (.int p1), .val (.int p2), .val (.int p3), .val (.int p4), .val (.int p5), .val (.int p6), .val (.int (Int32.ofNat sz)), .val (.int (Int32.ofNat n1)), .val (.int (Int32.ofNat n2)), .val (.int (Int32.ofNat n3)), .val (.int (Int32.ofNat np)), .val (.int (own_b tw)), .val (.int (own_b th)), .val (.ref b101), .val (.ref b108), .val (.ref b111), .val (.ref b113), .val (.int (1 : Int32)), .unset, .unset, .unset, .unset, .unset, .unset] [(.int (Int32.ofNat (own_l1 tw n1 n2).length)), (.ref b108), (.ref b113)])) _
    refine XS.aload X115.here hx rfl (hb hby at_176) rfl rfl ?_
    show Steps p.tables e below (T115.setTop (mkF m 178 #[.val (.int p1), .val (.int p2), .val (.int p3), .val (.int p4), .val (.int p5), .val (.int p6), .val (.int (Int32.ofNat sz)), .val (.int (Int32.ofNat n1)), .val (.int (Int32.ofNat n2)), .val (.int (Int32.ofNat n3)), .val (.int (Int32.ofNat np)), .val (.int (own_b tw)), .val (.int (own_b th)), .val (.ref b101), .val (.ref b108), .val (.ref b111), .val (.ref b113), .val (.int (1 : Int32)), .unset, .unset, .unset, .unset, .unset, .unset] [(.ref b101), (.int (Int32.ofNat (own_l1 tw n1 n2).length)), (.ref b108), (.ref b113)])) _
    refine st116.trans ?_
    exact k)
  have KJ : Keep h0 T116.heap [] := KI.trans KP2 (fun x hx => by cases List.mem_singleton.mp hx; exact Or.inr sz_b113)
  have Oa6 := Oa5.keep KP2 (ninS oP nin0)
  have BS6 := BS5.keep KP2 (ninS sP nin0)
  obtain ⟨Pf1, hPf1⟩ : ∃ P, P = own_sets f (fun _ => .null) (own_l1 tw n1 n2) := ⟨_, rfl⟩
  rw [← hPf1] at hPs1
  have v1 : ∀ x, Pf1 x = own_w (own_pub tw x n1 n2) (f x) := fun x => by rw [hPf1]; exact own_P1 f tw n1 n2 x
  obtain ⟨co6, Ao6, Oo6, zo6, fo6⟩ := id Oa6
  obtain ⟨q1, hq1⟩ : ∃ q, q = own_pub tw np n1 n2 := ⟨_, rfl⟩
  have P32 : ∀ t, Steps p.tables e below (T116.setTop (mkF m 207 #[.val (.int p1), .val (.int p2), .val (.int p3), .val (.int p4), .val (.int p5), .val (.int p6), .val (.int (Int32.ofNat sz)), .val (.int (Int32.ofNat n1)), .val (.int (Int32.ofNat n2)), .val (.int (Int32.ofNat n3)), .val (.int (Int32.ofNat np)), .val (.int (own_b tw)), .val (.int (own_b th)), .val (.ref b101), .val (.ref b108), .val (.ref b111), .val (.ref b113), .val (.int (1 : Int32)), .val (.int (own_b q1)), .unset, .unset, .unset, .unset, .unset] [])) t → Steps p.tables e below (s₁.setTop (entryFrame m #[(.int p1), (.int p2), (.int p3), (.int p4), (.int p5), (.int p6)] maxLocals)) t := by
    rcases own_four (np = n1) (np = n2) tw with a | ⟨a, t⟩ | ⟨a, t, b⟩ | ⟨a, t, b⟩
    · have z : q1 = true := by rw [hq1]; simp [own_pub, a]
      rw [z]
      have hc185 : (Int32.ofNat np) = (Int32.ofNat n1) := by rw [a]
      have P33 : ∀ t, Steps p.tables e below (T116.setTop (mkF m 207 #[.val (.int p1), .val (.int p2), .val (.int p3), .val (.int p4), .val (.int p5), .val (.int p6), .val (.int (Int32.ofNat sz)), .val (.int (Int32.ofNat n1)), .val (.int (Int32.ofNat n2)), .val (.int (Int32.ofNat n3)), .val (.int (Int32.ofNat np)), .val (.int (own_b tw)), .val (.int (own_b th)), .val (.ref b101), .val (.ref b108), .val (.ref b111), .val (.ref b113), .val (.int (1 : Int32)), .val (.int (1 : Int32)), .unset, .unset, .unset, .unset, .unset] [])) t → Steps p.tables e below (s₁.setTop (entryFrame m #[(.int p1), (.int p2), (.int p3), (.int p4), (.int p5), (.int p6)] maxLocals)) t := fun t k => P31 t (by
        show Steps p.tables e below (T116.setTop (mkF m 181 #[.val (.int p1), .val (.int p2), .val (.int p3), .val (.int p4), .val (.int p5), .val (.int p6), .val (.int (Int32.ofNat sz)), .val (.int (Int32.ofNat n1)), .val (.int (Int32.ofNat n2)), .val (.int (Int32.ofNat n3)), .val (.int (Int32.ofNat np)), .val (.int (own_b tw)), .val (.int (own_b th)), .val (.ref b101), .val (.ref b108), .val (.ref b111), .val (.ref b113), .val (.int (1 : Int32)), .unset, .unset, .unset, .unset, .unset, .unset] [])) _
        refine XS.iload X116.here hx rfl (hb hby at_181) rfl ?_
        show Steps p.tables e below (T116.setTop (mkF m 183 #[.val (.int p1), .val (.int p2), .val (.int p3), .val (.int p4), .val (.int p5), .val (.int p6), .val (.int (Int32.ofNat sz)), .val (.int (Int32.ofNat n1)), .val (.int (Int32.ofNat n2)), .val (.int (Int32.ofNat n3)), .val (.int (Int32.ofNat np)), .val (.int (own_b tw)), .val (.int (own_b th)), .val (.ref b101), .val (.ref b108), .val (.ref b111), .val (.ref b113), .val (.int (1 : Int32)), .unset, .unset, .unset, .unset, .unset, .unset] [(.int (Int32.ofNat np))])) _
        refine XS.iload X116.here hx rfl (hb hby at_183) rfl ?_
        show Steps p.tables e below (T116.setTop (mkF m 185 #[.val (.int p1), .val (.int p2), .val (.int p3), .val (.int p4), .val (.int p5), .val (.int p6), .val (.int (Int32.ofNat sz)), .val (.int (Int32.ofNat n1)), .val (.int (Int32.ofNat n2)), .val (.int (Int32.ofNat n3)), .val (.int (Int32.ofNat np)), .val (.int (own_b tw)), .val (.int (own_b th)), .val (.ref b101), .val (.ref b108), .val (.ref b111), .val (.ref b113), .val (.int (1 : Int32)), .unset, .unset, .unset, .unset, .unset, .unset] [(.int (Int32.ofNat n1)), (.int (Int32.ofNat np))])) _
        refine XS.icmpYes X116.here hx rfl (pc0 := 185) (pc' := 200) rfl (hb hby at_185) rfl (teq hc185).1 (by decide) (by decide) ?_
        show Steps p.tables e below (T116.setTop (mkF m 200 #[.val (.int p1), .val (.int p2), .val (.int p3), .val (.int p4), .val (.int p5), .val (.int p6), .val (.int (Int32.ofNat sz)), .val (.int (Int32.ofNat n1)), .val (.int (Int32.ofNat n2)), .val (.int (Int32.ofNat n3)), .val (.int (Int32.ofNat np)), .val (.int (own_b tw)), .val (.int (own_b th)), .val (.ref b101), .val (.ref b108), .val (.ref b111), .val (.ref b113), .val (.int (1 : Int32)), .unset, .unset, .unset, .unset, .unset, .unset] [])) _
        refine XS.iconst X116.here hx rfl (hb hby at_200) ?_
        show Steps p.tables e below (T116.setTop (mkF m 201 #[.val (.int p1), .val (.int p2), .val (.int p3), .val (.int p4), .val (.int p5), .val (.int p6), .val (.int (Int32.ofNat sz)), .val (.int (Int32.ofNat n1)), .val (.int (Int32.ofNat n2)), .val (.int (Int32.ofNat n3)), .val (.int (Int32.ofNat np)), .val (.int (own_b tw)), .val (.int (own_b th)), .val (.ref b101), .val (.ref b108), .val (.ref b111), .val (.ref b113), .val (.int (1 : Int32)), .unset, .unset, .unset, .unset, .unset, .unset] [(.int (1 : Int32))])) _
        refine XS.goto X116.here hx rfl (pc0 := 201) (pc' := 205) rfl (hb hby at_201) (by decide) (by decide) ?_
        show Steps p.tables e below (T116.setTop (mkF m 205 #[.val (.int p1), .val (.int p2), .val (.int p3), .val (.int p4), .val (.int p5), .val (.int p6), .val (.int (Int32.ofNat sz)), .val (.int (Int32.ofNat n1)), .val (.int (Int32.ofNat n2)), .val (.int (Int32.ofNat n3)), .val (.int (Int32.ofNat np)), .val (.int (own_b tw)), .val (.int (own_b th)), .val (.ref b101), .val (.ref b108), .val (.ref b111), .val (.ref b113), .val (.int (1 : Int32)), .unset, .unset, .unset, .unset, .unset, .unset] [(.int (1 : Int32))])) _
        refine XS.istore X116.here hx rfl (hb hby at_205) rfl (l' := #[.val (.int p1), .val (.int p2), .val (.int p3), .val (.int p4), .val (.int p5), .val (.int p6), .val (.int (Int32.ofNat sz)), .val (.int (Int32.ofNat n1)), .val (.int (Int32.ofNat n2)), .val (.int (Int32.ofNat n3)), .val (.int (Int32.ofNat np)), .val (.int (own_b tw)), .val (.int (own_b th)), .val (.ref b101), .val (.ref b108), .val (.ref b111), .val (.ref b113), .val (.int (1 : Int32)), .val (.int (1 : Int32)), .unset, .unset, .unset, .unset, .unset]) rfl ?_
        exact k)
      exact P33
    · have z : q1 = false := by rw [hq1]; simp [own_pub, a, t]
      rw [z]
      have hc185 : ¬ ((Int32.ofNat np) = (Int32.ofNat n1)) := fun q => a (own_injI (by omega) (by omega) q)
      have hc190 : own_b tw = (0 : Int32) := by rw [t]; rfl
      have P34 : ∀ t, Steps p.tables e below (T116.setTop (mkF m 207 #[.val (.int p1), .val (.int p2), .val (.int p3), .val (.int p4), .val (.int p5), .val (.int p6), .val (.int (Int32.ofNat sz)), .val (.int (Int32.ofNat n1)), .val (.int (Int32.ofNat n2)), .val (.int (Int32.ofNat n3)), .val (.int (Int32.ofNat np)), .val (.int (own_b tw)), .val (.int (own_b th)), .val (.ref b101), .val (.ref b108), .val (.ref b111), .val (.ref b113), .val (.int (1 : Int32)), .val (.int (0 : Int32)), .unset, .unset, .unset, .unset, .unset] [])) t → Steps p.tables e below (s₁.setTop (entryFrame m #[(.int p1), (.int p2), (.int p3), (.int p4), (.int p5), (.int p6)] maxLocals)) t := fun t k => P31 t (by
        show Steps p.tables e below (T116.setTop (mkF m 181 #[.val (.int p1), .val (.int p2), .val (.int p3), .val (.int p4), .val (.int p5), .val (.int p6), .val (.int (Int32.ofNat sz)), .val (.int (Int32.ofNat n1)), .val (.int (Int32.ofNat n2)), .val (.int (Int32.ofNat n3)), .val (.int (Int32.ofNat np)), .val (.int (own_b tw)), .val (.int (own_b th)), .val (.ref b101), .val (.ref b108), .val (.ref b111), .val (.ref b113), .val (.int (1 : Int32)), .unset, .unset, .unset, .unset, .unset, .unset] [])) _
        refine XS.iload X116.here hx rfl (hb hby at_181) rfl ?_
        show Steps p.tables e below (T116.setTop (mkF m 183 #[.val (.int p1), .val (.int p2), .val (.int p3), .val (.int p4), .val (.int p5), .val (.int p6), .val (.int (Int32.ofNat sz)), .val (.int (Int32.ofNat n1)), .val (.int (Int32.ofNat n2)), .val (.int (Int32.ofNat n3)), .val (.int (Int32.ofNat np)), .val (.int (own_b tw)), .val (.int (own_b th)), .val (.ref b101), .val (.ref b108), .val (.ref b111), .val (.ref b113), .val (.int (1 : Int32)), .unset, .unset, .unset, .unset, .unset, .unset] [(.int (Int32.ofNat np))])) _
        refine XS.iload X116.here hx rfl (hb hby at_183) rfl ?_
        show Steps p.tables e below (T116.setTop (mkF m 185 #[.val (.int p1), .val (.int p2), .val (.int p3), .val (.int p4), .val (.int p5), .val (.int p6), .val (.int (Int32.ofNat sz)), .val (.int (Int32.ofNat n1)), .val (.int (Int32.ofNat n2)), .val (.int (Int32.ofNat n3)), .val (.int (Int32.ofNat np)), .val (.int (own_b tw)), .val (.int (own_b th)), .val (.ref b101), .val (.ref b108), .val (.ref b111), .val (.ref b113), .val (.int (1 : Int32)), .unset, .unset, .unset, .unset, .unset, .unset] [(.int (Int32.ofNat n1)), (.int (Int32.ofNat np))])) _
        refine XS.icmpNo X116.here hx rfl (hb hby at_185) rfl (feq hc185).1 ?_
        show Steps p.tables e below (T116.setTop (mkF m 188 #[.val (.int p1), .val (.int p2), .val (.int p3), .val (.int p4), .val (.int p5), .val (.int p6), .val (.int (Int32.ofNat sz)), .val (.int (Int32.ofNat n1)), .val (.int (Int32.ofNat n2)), .val (.int (Int32.ofNat n3)), .val (.int (Int32.ofNat np)), .val (.int (own_b tw)), .val (.int (own_b th)), .val (.ref b101), .val (.ref b108), .val (.ref b111), .val (.ref b113), .val (.int (1 : Int32)), .unset, .unset, .unset, .unset, .unset, .unset] [])) _
        refine XS.iload X116.here hx rfl (hb hby at_188) rfl ?_
        show Steps p.tables e below (T116.setTop (mkF m 190 #[.val (.int p1), .val (.int p2), .val (.int p3), .val (.int p4), .val (.int p5), .val (.int p6), .val (.int (Int32.ofNat sz)), .val (.int (Int32.ofNat n1)), .val (.int (Int32.ofNat n2)), .val (.int (Int32.ofNat n3)), .val (.int (Int32.ofNat np)), .val (.int (own_b tw)), .val (.int (own_b th)), .val (.ref b101), .val (.ref b108), .val (.ref b111), .val (.ref b113), .val (.int (1 : Int32)), .unset, .unset, .unset, .unset, .unset, .unset] [(.int (own_b tw))])) _
        refine XS.ifYes X116.here hx rfl (pc0 := 190) (pc' := 204) rfl (hb hby at_190) rfl ((if0 _ _).trans (teq hc190).1) (by decide) (by decide) ?_
        show Steps p.tables e below (T116.setTop (mkF m 204 #[.val (.int p1), .val (.int p2), .val (.int p3), .val (.int p4), .val (.int p5), .val (.int p6), .val (.int (Int32.ofNat sz)), .val (.int (Int32.ofNat n1)), .val (.int (Int32.ofNat n2)), .val (.int (Int32.ofNat n3)), .val (.int (Int32.ofNat np)), .val (.int (own_b tw)), .val (.int (own_b th)), .val (.ref b101), .val (.ref b108), .val (.ref b111), .val (.ref b113), .val (.int (1 : Int32)), .unset, .unset, .unset, .unset, .unset, .unset] [])) _
        refine XS.iconst X116.here hx rfl (hb hby at_204) ?_
        show Steps p.tables e below (T116.setTop (mkF m 205 #[.val (.int p1), .val (.int p2), .val (.int p3), .val (.int p4), .val (.int p5), .val (.int p6), .val (.int (Int32.ofNat sz)), .val (.int (Int32.ofNat n1)), .val (.int (Int32.ofNat n2)), .val (.int (Int32.ofNat n3)), .val (.int (Int32.ofNat np)), .val (.int (own_b tw)), .val (.int (own_b th)), .val (.ref b101), .val (.ref b108), .val (.ref b111), .val (.ref b113), .val (.int (1 : Int32)), .unset, .unset, .unset, .unset, .unset, .unset] [(.int (0 : Int32))])) _
        refine XS.istore X116.here hx rfl (hb hby at_205) rfl (l' := #[.val (.int p1), .val (.int p2), .val (.int p3), .val (.int p4), .val (.int p5), .val (.int p6), .val (.int (Int32.ofNat sz)), .val (.int (Int32.ofNat n1)), .val (.int (Int32.ofNat n2)), .val (.int (Int32.ofNat n3)), .val (.int (Int32.ofNat np)), .val (.int (own_b tw)), .val (.int (own_b th)), .val (.ref b101), .val (.ref b108), .val (.ref b111), .val (.ref b113), .val (.int (1 : Int32)), .val (.int (0 : Int32)), .unset, .unset, .unset, .unset, .unset]) rfl ?_
        exact k)
      exact P34
    · have z : q1 = false := by rw [hq1]; simp [own_pub, a, t, b]
      rw [z]
      have hc185 : ¬ ((Int32.ofNat np) = (Int32.ofNat n1)) := fun q => a (own_injI (by omega) (by omega) q)
      have hc190 : ¬ (own_b tw = (0 : Int32)) := by rw [t]; decide
      have hc197 : ¬ ((Int32.ofNat np) = (Int32.ofNat n2)) := fun q => b (own_injI (by omega) (by omega) q)
      have P35 : ∀ t, Steps p.tables e below (T116.setTop (mkF m 207 #[.val (.int p1), .val (.int p2), .val (.int p3), .val (.int p4), .val (.int p5), .val (.int p6), .val (.int (Int32.ofNat sz)), .val (.int (Int32.ofNat n1)), .val (.int (Int32.ofNat n2)), .val (.int (Int32.ofNat n3)), .val (.int (Int32.ofNat np)), .val (.int (own_b tw)), .val (.int (own_b th)), .val (.ref b101), .val (.ref b108), .val (.ref b111), .val (.ref b113), .val (.int (1 : Int32)), .val (.int (0 : Int32)), .unset, .unset, .unset, .unset, .unset] [])) t → Steps p.tables e below (s₁.setTop (entryFrame m #[(.int p1), (.int p2), (.int p3), (.int p4), (.int p5), (.int p6)] maxLocals)) t := fun t k => P31 t (by
        show Steps p.tables e below (T116.setTop (mkF m 181 #[.val (.int p1), .val (.int p2), .val (.int p3), .val (.int p4), .val (.int p5), .val (.int p6), .val (.int (Int32.ofNat sz)), .val (.int (Int32.ofNat n1)), .val (.int (Int32.ofNat n2)), .val (.int (Int32.ofNat n3)), .val (.int (Int32.ofNat np)), .val (.int (own_b tw)), .val (.int (own_b th)), .val (.ref b101), .val (.ref b108), .val (.ref b111), .val (.ref b113), .val (.int (1 : Int32)), .unset, .unset, .unset, .unset, .unset, .unset] [])) _
        refine XS.iload X116.here hx rfl (hb hby at_181) rfl ?_
        show Steps p.tables e below (T116.setTop (mkF m 183 #[.val (.int p1), .val (.int p2), .val (.int p3), .val (.int p4), .val (.int p5), .val (.int p6), .val (.int (Int32.ofNat sz)), .val (.int (Int32.ofNat n1)), .val (.int (Int32.ofNat n2)), .val (.int (Int32.ofNat n3)), .val (.int (Int32.ofNat np)), .val (.int (own_b tw)), .val (.int (own_b th)), .val (.ref b101), .val (.ref b108), .val (.ref b111), .val (.ref b113), .val (.int (1 : Int32)), .unset, .unset, .unset, .unset, .unset, .unset] [(.int (Int32.ofNat np))])) _
        refine XS.iload X116.here hx rfl (hb hby at_183) rfl ?_
        show Steps p.tables e below (T116.setTop (mkF m 185 #[.val (.int p1), .val (.int p2), .val (.int p3), .val (.int p4), .val (.int p5), .val (.int p6), .val (.int (Int32.ofNat sz)), .val (.int (Int32.ofNat n1)), .val (.int (Int32.ofNat n2)), .val (.int (Int32.ofNat n3)), .val (.int (Int32.ofNat np)), .val (.int (own_b tw)), .val (.int (own_b th)), .val (.ref b101), .val (.ref b108), .val (.ref b111), .val (.ref b113), .val (.int (1 : Int32)), .unset, .unset, .unset, .unset, .unset, .unset] [(.int (Int32.ofNat n1)), (.int (Int32.ofNat np))])) _
        refine XS.icmpNo X116.here hx rfl (hb hby at_185) rfl (feq hc185).1 ?_
        show Steps p.tables e below (T116.setTop (mkF m 188 #[.val (.int p1), .val (.int p2), .val (.int p3), .val (.int p4), .val (.int p5), .val (.int p6), .val (.int (Int32.ofNat sz)), .val (.int (Int32.ofNat n1)), .val (.int (Int32.ofNat n2)), .val (.int (Int32.ofNat n3)), .val (.int (Int32.ofNat np)), .val (.int (own_b tw)), .val (.int (own_b th)), .val (.ref b101), .val (.ref b108), .val (.ref b111), .val (.ref b113), .val (.int (1 : Int32)), .unset, .unset, .unset, .unset, .unset, .unset] [])) _
        refine XS.iload X116.here hx rfl (hb hby at_188) rfl ?_
        show Steps p.tables e below (T116.setTop (mkF m 190 #[.val (.int p1), .val (.int p2), .val (.int p3), .val (.int p4), .val (.int p5), .val (.int p6), .val (.int (Int32.ofNat sz)), .val (.int (Int32.ofNat n1)), .val (.int (Int32.ofNat n2)), .val (.int (Int32.ofNat n3)), .val (.int (Int32.ofNat np)), .val (.int (own_b tw)), .val (.int (own_b th)), .val (.ref b101), .val (.ref b108), .val (.ref b111), .val (.ref b113), .val (.int (1 : Int32)), .unset, .unset, .unset, .unset, .unset, .unset] [(.int (own_b tw))])) _
        refine XS.ifNo X116.here hx rfl (hb hby at_190) rfl ((if0 _ _).trans (feq hc190).1) ?_
        show Steps p.tables e below (T116.setTop (mkF m 193 #[.val (.int p1), .val (.int p2), .val (.int p3), .val (.int p4), .val (.int p5), .val (.int p6), .val (.int (Int32.ofNat sz)), .val (.int (Int32.ofNat n1)), .val (.int (Int32.ofNat n2)), .val (.int (Int32.ofNat n3)), .val (.int (Int32.ofNat np)), .val (.int (own_b tw)), .val (.int (own_b th)), .val (.ref b101), .val (.ref b108), .val (.ref b111), .val (.ref b113), .val (.int (1 : Int32)), .unset, .unset, .unset, .unset, .unset, .unset] [])) _
        refine XS.iload X116.here hx rfl (hb hby at_193) rfl ?_
        show Steps p.tables e below (T116.setTop (mkF m 195 #[.val (.int p1), .val (.int p2), .val (.int p3), .val (.int p4), .val (.int p5), .val (.int p6), .val (.int (Int32.ofNat sz)), .val (.int (Int32.ofNat n1)), .val (.int (Int32.ofNat n2)), .val (.int (Int32.ofNat n3)), .val (.int (Int32.ofNat np)), .val (.int (own_b tw)), .val (.int (own_b th)), .val (.ref b101), .val (.ref b108), .val (.ref b111), .val (.ref b113), .val (.int (1 : Int32)), .unset, .unset, .unset, .unset, .unset, .unset] [(.int (Int32.ofNat np))])) _
        refine XS.iload X116.here hx rfl (hb hby at_195) rfl ?_
        show Steps p.tables e below (T116.setTop (mkF m 197 #[.val (.int p1), .val (.int p2), .val (.int p3), .val (.int p4), .val (.int p5), .val (.int p6), .val (.int (Int32.ofNat sz)), .val (.int (Int32.ofNat n1)), .val (.int (Int32.ofNat n2)), .val (.int (Int32.ofNat n3)), .val (.int (Int32.ofNat np)), .val (.int (own_b tw)), .val (.int (own_b th)), .val (.ref b101), .val (.ref b108), .val (.ref b111), .val (.ref b113), .val (.int (1 : Int32)), .unset, .unset, .unset, .unset, .unset, .unset] [(.int (Int32.ofNat n2)), (.int (Int32.ofNat np))])) _
        refine XS.icmpYes X116.here hx rfl (pc0 := 197) (pc' := 204) rfl (hb hby at_197) rfl (feq hc197).2 (by decide) (by decide) ?_
        show Steps p.tables e below (T116.setTop (mkF m 204 #[.val (.int p1), .val (.int p2), .val (.int p3), .val (.int p4), .val (.int p5), .val (.int p6), .val (.int (Int32.ofNat sz)), .val (.int (Int32.ofNat n1)), .val (.int (Int32.ofNat n2)), .val (.int (Int32.ofNat n3)), .val (.int (Int32.ofNat np)), .val (.int (own_b tw)), .val (.int (own_b th)), .val (.ref b101), .val (.ref b108), .val (.ref b111), .val (.ref b113), .val (.int (1 : Int32)), .unset, .unset, .unset, .unset, .unset, .unset] [])) _
        refine XS.iconst X116.here hx rfl (hb hby at_204) ?_
        show Steps p.tables e below (T116.setTop (mkF m 205 #[.val (.int p1), .val (.int p2), .val (.int p3), .val (.int p4), .val (.int p5), .val (.int p6), .val (.int (Int32.ofNat sz)), .val (.int (Int32.ofNat n1)), .val (.int (Int32.ofNat n2)), .val (.int (Int32.ofNat n3)), .val (.int (Int32.ofNat np)), .val (.int (own_b tw)), .val (.int (own_b th)), .val (.ref b101), .val (.ref b108), .val (.ref b111), .val (.ref b113), .val (.int (1 : Int32)), .unset, .unset, .unset, .unset, .unset, .unset] [(.int (0 : Int32))])) _
        refine XS.istore X116.here hx rfl (hb hby at_205) rfl (l' := #[.val (.int p1), .val (.int p2), .val (.int p3), .val (.int p4), .val (.int p5), .val (.int p6), .val (.int (Int32.ofNat sz)), .val (.int (Int32.ofNat n1)), .val (.int (Int32.ofNat n2)), .val (.int (Int32.ofNat n3)), .val (.int (Int32.ofNat np)), .val (.int (own_b tw)), .val (.int (own_b th)), .val (.ref b101), .val (.ref b108), .val (.ref b111), .val (.ref b113), .val (.int (1 : Int32)), .val (.int (0 : Int32)), .unset, .unset, .unset, .unset, .unset]) rfl ?_
        exact k)
      exact P35
    · have z : q1 = true := by rw [hq1]; simp [own_pub, t, b]
      rw [z]
      have hc185 : ¬ ((Int32.ofNat np) = (Int32.ofNat n1)) := fun q => a (own_injI (by omega) (by omega) q)
      have hc190 : ¬ (own_b tw = (0 : Int32)) := by rw [t]; decide
      have hc197 : (Int32.ofNat np) = (Int32.ofNat n2) := by rw [b]
      have P36 : ∀ t, Steps p.tables e below (T116.setTop (mkF m 207 #[.val (.int p1), .val (.int p2), .val (.int p3), .val (.int p4), .val (.int p5), .val (.int p6), .val (.int (Int32.ofNat sz)), .val (.int (Int32.ofNat n1)), .val (.int (Int32.ofNat n2)), .val (.int (Int32.ofNat n3)), .val (.int (Int32.ofNat np)), .val (.int (own_b tw)), .val (.int (own_b th)), .val (.ref b101), .val (.ref b108), .val (.ref b111), .val (.ref b113), .val (.int (1 : Int32)), .val (.int (1 : Int32)), .unset, .unset, .unset, .unset, .unset] [])) t → Steps p.tables e below (s₁.setTop (entryFrame m #[(.int p1), (.int p2), (.int p3), (.int p4), (.int p5), (.int p6)] maxLocals)) t := fun t k => P31 t (by
        show Steps p.tables e below (T116.setTop (mkF m 181 #[.val (.int p1), .val (.int p2), .val (.int p3), .val (.int p4), .val (.int p5), .val (.int p6), .val (.int (Int32.ofNat sz)), .val (.int (Int32.ofNat n1)), .val (.int (Int32.ofNat n2)), .val (.int (Int32.ofNat n3)), .val (.int (Int32.ofNat np)), .val (.int (own_b tw)), .val (.int (own_b th)), .val (.ref b101), .val (.ref b108), .val (.ref b111), .val (.ref b113), .val (.int (1 : Int32)), .unset, .unset, .unset, .unset, .unset, .unset] [])) _
        refine XS.iload X116.here hx rfl (hb hby at_181) rfl ?_
        show Steps p.tables e below (T116.setTop (mkF m 183 #[.val (.int p1), .val (.int p2), .val (.int p3), .val (.int p4), .val (.int p5), .val (.int p6), .val (.int (Int32.ofNat sz)), .val (.int (Int32.ofNat n1)), .val (.int (Int32.ofNat n2)), .val (.int (Int32.ofNat n3)), .val (.int (Int32.ofNat np)), .val (.int (own_b tw)), .val (.int (own_b th)), .val (.ref b101), .val (.ref b108), .val (.ref b111), .val (.ref b113), .val (.int (1 : Int32)), .unset, .unset, .unset, .unset, .unset, .unset] [(.int (Int32.ofNat np))])) _
        refine XS.iload X116.here hx rfl (hb hby at_183) rfl ?_
        show Steps p.tables e below (T116.setTop (mkF m 185 #[.val (.int p1), .val (.int p2), .val (.int p3), .val (.int p4), .val (.int p5), .val (.int p6), .val (.int (Int32.ofNat sz)), .val (.int (Int32.ofNat n1)), .val (.int (Int32.ofNat n2)), .val (.int (Int32.ofNat n3)), .val (.int (Int32.ofNat np)), .val (.int (own_b tw)), .val (.int (own_b th)), .val (.ref b101), .val (.ref b108), .val (.ref b111), .val (.ref b113), .val (.int (1 : Int32)), .unset, .unset, .unset, .unset, .unset, .unset] [(.int (Int32.ofNat n1)), (.int (Int32.ofNat np))])) _
        refine XS.icmpNo X116.here hx rfl (hb hby at_185) rfl (feq hc185).1 ?_
        show Steps p.tables e below (T116.setTop (mkF m 188 #[.val (.int p1), .val (.int p2), .val (.int p3), .val (.int p4), .val (.int p5), .val (.int p6), .val (.int (Int32.ofNat sz)), .val (.int (Int32.ofNat n1)), .val (.int (Int32.ofNat n2)), .val (.int (Int32.ofNat n3)), .val (.int (Int32.ofNat np)), .val (.int (own_b tw)), .val (.int (own_b th)), .val (.ref b101), .val (.ref b108), .val (.ref b111), .val (.ref b113), .val (.int (1 : Int32)), .unset, .unset, .unset, .unset, .unset, .unset] [])) _
        refine XS.iload X116.here hx rfl (hb hby at_188) rfl ?_
        show Steps p.tables e below (T116.setTop (mkF m 190 #[.val (.int p1), .val (.int p2), .val (.int p3), .val (.int p4), .val (.int p5), .val (.int p6), .val (.int (Int32.ofNat sz)), .val (.int (Int32.ofNat n1)), .val (.int (Int32.ofNat n2)), .val (.int (Int32.ofNat n3)), .val (.int (Int32.ofNat np)), .val (.int (own_b tw)), .val (.int (own_b th)), .val (.ref b101), .val (.ref b108), .val (.ref b111), .val (.ref b113), .val (.int (1 : Int32)), .unset, .unset, .unset, .unset, .unset, .unset] [(.int (own_b tw))])) _
        refine XS.ifNo X116.here hx rfl (hb hby at_190) rfl ((if0 _ _).trans (feq hc190).1) ?_
        show Steps p.tables e below (T116.setTop (mkF m 193 #[.val (.int p1), .val (.int p2), .val (.int p3), .val (.int p4), .val (.int p5), .val (.int p6), .val (.int (Int32.ofNat sz)), .val (.int (Int32.ofNat n1)), .val (.int (Int32.ofNat n2)), .val (.int (Int32.ofNat n3)), .val (.int (Int32.ofNat np)), .val (.int (own_b tw)), .val (.int (own_b th)), .val (.ref b101), .val (.ref b108), .val (.ref b111), .val (.ref b113), .val (.int (1 : Int32)), .unset, .unset, .unset, .unset, .unset, .unset] [])) _
        refine XS.iload X116.here hx rfl (hb hby at_193) rfl ?_
        show Steps p.tables e below (T116.setTop (mkF m 195 #[.val (.int p1), .val (.int p2), .val (.int p3), .val (.int p4), .val (.int p5), .val (.int p6), .val (.int (Int32.ofNat sz)), .val (.int (Int32.ofNat n1)), .val (.int (Int32.ofNat n2)), .val (.int (Int32.ofNat n3)), .val (.int (Int32.ofNat np)), .val (.int (own_b tw)), .val (.int (own_b th)), .val (.ref b101), .val (.ref b108), .val (.ref b111), .val (.ref b113), .val (.int (1 : Int32)), .unset, .unset, .unset, .unset, .unset, .unset] [(.int (Int32.ofNat np))])) _
        refine XS.iload X116.here hx rfl (hb hby at_195) rfl ?_
        show Steps p.tables e below (T116.setTop (mkF m 197 #[.val (.int p1), .val (.int p2), .val (.int p3), .val (.int p4), .val (.int p5), .val (.int p6), .val (.int (Int32.ofNat sz)), .val (.int (Int32.ofNat n1)), .val (.int (Int32.ofNat n2)), .val (.int (Int32.ofNat n3)), .val (.int (Int32.ofNat np)), .val (.int (own_b tw)), .val (.int (own_b th)), .val (.ref b101), .val (.ref b108), .val (.ref b111), .val (.ref b113), .val (.int (1 : Int32)), .unset, .unset, .unset, .unset, .unset, .unset] [(.int (Int32.ofNat n2)), (.int (Int32.ofNat np))])) _
        refine XS.icmpNo X116.here hx rfl (hb hby at_197) rfl (teq hc197).2 ?_
        show Steps p.tables e below (T116.setTop (mkF m 200 #[.val (.int p1), .val (.int p2), .val (.int p3), .val (.int p4), .val (.int p5), .val (.int p6), .val (.int (Int32.ofNat sz)), .val (.int (Int32.ofNat n1)), .val (.int (Int32.ofNat n2)), .val (.int (Int32.ofNat n3)), .val (.int (Int32.ofNat np)), .val (.int (own_b tw)), .val (.int (own_b th)), .val (.ref b101), .val (.ref b108), .val (.ref b111), .val (.ref b113), .val (.int (1 : Int32)), .unset, .unset, .unset, .unset, .unset, .unset] [])) _
        refine XS.iconst X116.here hx rfl (hb hby at_200) ?_
        show Steps p.tables e below (T116.setTop (mkF m 201 #[.val (.int p1), .val (.int p2), .val (.int p3), .val (.int p4), .val (.int p5), .val (.int p6), .val (.int (Int32.ofNat sz)), .val (.int (Int32.ofNat n1)), .val (.int (Int32.ofNat n2)), .val (.int (Int32.ofNat n3)), .val (.int (Int32.ofNat np)), .val (.int (own_b tw)), .val (.int (own_b th)), .val (.ref b101), .val (.ref b108), .val (.ref b111), .val (.ref b113), .val (.int (1 : Int32)), .unset, .unset, .unset, .unset, .unset, .unset] [(.int (1 : Int32))])) _
        refine XS.goto X116.here hx rfl (pc0 := 201) (pc' := 205) rfl (hb hby at_201) (by decide) (by decide) ?_
        show Steps p.tables e below (T116.setTop (mkF m 205 #[.val (.int p1), .val (.int p2), .val (.int p3), .val (.int p4), .val (.int p5), .val (.int p6), .val (.int (Int32.ofNat sz)), .val (.int (Int32.ofNat n1)), .val (.int (Int32.ofNat n2)), .val (.int (Int32.ofNat n3)), .val (.int (Int32.ofNat np)), .val (.int (own_b tw)), .val (.int (own_b th)), .val (.ref b101), .val (.ref b108), .val (.ref b111), .val (.ref b113), .val (.int (1 : Int32)), .unset, .unset, .unset, .unset, .unset, .unset] [(.int (1 : Int32))])) _
        refine XS.istore X116.here hx rfl (hb hby at_205) rfl (l' := #[.val (.int p1), .val (.int p2), .val (.int p3), .val (.int p4), .val (.int p5), .val (.int p6), .val (.int (Int32.ofNat sz)), .val (.int (Int32.ofNat n1)), .val (.int (Int32.ofNat n2)), .val (.int (Int32.ofNat n3)), .val (.int (Int32.ofNat np)), .val (.int (own_b tw)), .val (.int (own_b th)), .val (.ref b101), .val (.ref b108), .val (.ref b111), .val (.ref b113), .val (.int (1 : Int32)), .val (.int (1 : Int32)), .unset, .unset, .unset, .unset, .unset]) rfl ?_
        exact k)
      exact P36
  have Ar_b101 := Ao6
  have hin216 : ¬ ((Int32.ofNat np) < 0 ∨ co6.slots.size ≤ ((Int32.ofNat np)).toNatClampNeg) := by rw [zo6]; exact idx_in (by omega) (by decide)
  have hat216 : co6.slots[((Int32.ofNat np)).toNatClampNeg]? = some (f np) := by rw [own_clamp (by omega)]; exact fo6 _ (by omega)
  have P37 : ∀ t, Steps p.tables e below (T116.setTop (mkF m 223 #[.val (.int p1), .val (.int p2), .val (.int p3), .val (.int p4), .val (.int p5), .val (.int p6), .val (.int (Int32.ofNat sz)), .val (.int (Int32.ofNat n1)), .val (.int (Int32.ofNat n2)), .val (.int (Int32.ofNat n3)), .val (.int (Int32.ofNat np)), .val (.int (own_b tw)), .val (.int (own_b th)), .val (.ref b101), .val (.ref b108), .val (.ref b111), .val (.ref b113), .val (.int (1 : Int32)), .val (.int (own_b q1)), .val (own_w q1 (f np)), .unset, .unset, .unset, .unset] [])) t → Steps p.tables e below (s₁.setTop (entryFrame m #[(.int p1), (.int p2), (.int p3), (.int p4), (.int p5), (.int p6)] maxLocals)) t := by
    rcases Bool.eq_false_or_eq_true q1 with z | z
    · rw [show own_w q1 (f np) = f np by rw [z]; rfl]
      have hc209 : ¬ (own_b q1 = (0 : Int32)) := by rw [z]; decide
      have P38 : ∀ t, Steps p.tables e below (T116.setTop (mkF m 223 #[.val (.int p1), .val (.int p2), .val (.int p3), .val (.int p4), .val (.int p5), .val (.int p6), .val (.int (Int32.ofNat sz)), .val (.int (Int32.ofNat n1)), .val (.int (Int32.ofNat n2)), .val (.int (Int32.ofNat n3)), .val (.int (Int32.ofNat np)), .val (.int (own_b tw)), .val (.int (own_b th)), .val (.ref b101), .val (.ref b108), .val (.ref b111), .val (.ref b113), .val (.int (1 : Int32)), .val (.int (own_b q1)), .val (f np), .unset, .unset, .unset, .unset] [])) t → Steps p.tables e below (s₁.setTop (entryFrame m #[(.int p1), (.int p2), (.int p3), (.int p4), (.int p5), (.int p6)] maxLocals)) t := fun t k => P32 t (by
        show Steps p.tables e below (T116.setTop (mkF m 207 #[.val (.int p1), .val (.int p2), .val (.int p3), .val (.int p4), .val (.int p5), .val (.int p6), .val (.int (Int32.ofNat sz)), .val (.int (Int32.ofNat n1)), .val (.int (Int32.ofNat n2)), .val (.int (Int32.ofNat n3)), .val (.int (Int32.ofNat np)), .val (.int (own_b tw)), .val (.int (own_b th)), .val (.ref b101), .val (.ref b108), .val (.ref b111), .val (.ref b113), .val (.int (1 : Int32)), .val (.int (own_b q1)), .unset, .unset, .unset, .unset, .unset] [])) _
        refine XS.iload X116.here hx rfl (hb hby at_207) rfl ?_
        show Steps p.tables e below (T116.setTop (mkF m 209 #[.val (.int p1), .val (.int p2), .val (.int p3), .val (.int p4), .val (.int p5), .val (.int p6), .val (.int (Int32.ofNat sz)), .val (.int (Int32.ofNat n1)), .val (.int (Int32.ofNat n2)), .val (.int (Int32.ofNat n3)), .val (.int (Int32.ofNat np)), .val (.int (own_b tw)), .val (.int (own_b th)), .val (.ref b101), .val (.ref b108), .val (.ref b111), .val (.ref b113), .val (.int (1 : Int32)), .val (.int (own_b q1)), .unset, .unset, .unset, .unset, .unset] [(.int (own_b q1))])) _
        refine XS.ifNo X116.here hx rfl (hb hby at_209) rfl ((if0 _ _).trans (feq hc209).1) ?_
        show Steps p.tables e below (T116.setTop (mkF m 212 #[.val (.int p1), .val (.int p2), .val (.int p3), .val (.int p4), .val (.int p5), .val (.int p6), .val (.int (Int32.ofNat sz)), .val (.int (Int32.ofNat n1)), .val (.int (Int32.ofNat n2)), .val (.int (Int32.ofNat n3)), .val (.int (Int32.ofNat np)), .val (.int (own_b tw)), .val (.int (own_b th)), .val (.ref b101), .val (.ref b108), .val (.ref b111), .val (.ref b113), .val (.int (1 : Int32)), .val (.int (own_b q1)), .unset, .unset, .unset, .unset, .unset] [])) _
        refine XS.aload X116.here hx rfl (hb hby at_212) rfl rfl ?_
        show Steps p.tables e below (T116.setTop (mkF m 214 #[.val (.int p1), .val (.int p2), .val (.int p3), .val (.int p4), .val (.int p5), .val (.int p6), .val (.int (Int32.ofNat sz)), .val (.int (Int32.ofNat n1)), .val (.int (Int32.ofNat n2)), .val (.int (Int32.ofNat n3)), .val (.int (Int32.ofNat np)), .val (.int (own_b tw)), .val (.int (own_b th)), .val (.ref b101), .val (.ref b108), .val (.ref b111), .val (.ref b113), .val (.int (1 : Int32)), .val (.int (own_b q1)), .unset, .unset, .unset, .unset, .unset] [(.ref b101)])) _
        refine XS.iload X116.here hx rfl (hb hby at_214) rfl ?_
        show Steps p.tables e below (T116.setTop (mkF m 216 #[.val (.int p1), .val (.int p2), .val (.int p3), .val (.int p4), .val (.int p5), .val (.int p6), .val (.int (Int32.ofNat sz)), .val (.int (Int32.ofNat n1)), .val (.int (Int32.ofNat n2)), .val (.int (Int32.ofNat n3)), .val (.int (Int32.ofNat np)), .val (.int (own_b tw)), .val (.int (own_b th)), .val (.ref b101), .val (.ref b108), .val (.ref b111), .val (.ref b113), .val (.int (1 : Int32)), .val (.int (own_b q1)), .unset, .unset, .unset, .unset, .unset] [(.int (Int32.ofNat np)), (.ref b101)])) _
        refine X116.aaload hx (j := (Int32.ofNat np)) (v := (f np)) (by exact Ar_b101.1) (State.isArrayOf_alike hZ.alike Ar_b101.2.1) rfl Ar_b101.2.2 hin216 hat216 (g := (mkF m 216 #[.val (.int p1), .val (.int p2), .val (.int p3), .val (.int p4), .val (.int p5), .val (.int p6), .val (.int (Int32.ofNat sz)), .val (.int (Int32.ofNat n1)), .val (.int (Int32.ofNat n2)), .val (.int (Int32.ofNat n3)), .val (.int (Int32.ofNat np)), .val (.int (own_b tw)), .val (.int (own_b th)), .val (.ref b101), .val (.ref b108), .val (.ref b111), .val (.ref b113), .val (.int (1 : Int32)), .val (.int (own_b q1)), .unset, .unset, .unset, .unset, .unset] [(.int (Int32.ofNat np)), (.ref b101)])) rfl rfl (hb hby at_216) _ ?_
        show Steps p.tables e below (T116.setTop (mkF m 217 #[.val (.int p1), .val (.int p2), .val (.int p3), .val (.int p4), .val (.int p5), .val (.int p6), .val (.int (Int32.ofNat sz)), .val (.int (Int32.ofNat n1)), .val (.int (Int32.ofNat n2)), .val (.int (Int32.ofNat n3)), .val (.int (Int32.ofNat np)), .val (.int (own_b tw)), .val (.int (own_b th)), .val (.ref b101), .val (.ref b108), .val (.ref b111), .val (.ref b113), .val (.int (1 : Int32)), .val (.int (own_b q1)), .unset, .unset, .unset, .unset, .unset] [(f np)])) _
        refine XS.goto X116.here hx rfl (pc0 := 217) (pc' := 221) rfl (hb hby at_217) (by decide) (by decide) ?_
        show Steps p.tables e below (T116.setTop (mkF m 221 #[.val (.int p1), .val (.int p2), .val (.int p3), .val (.int p4), .val (.int p5), .val (.int p6), .val (.int (Int32.ofNat sz)), .val (.int (Int32.ofNat n1)), .val (.int (Int32.ofNat n2)), .val (.int (Int32.ofNat n3)), .val (.int (Int32.ofNat np)), .val (.int (own_b tw)), .val (.int (own_b th)), .val (.ref b101), .val (.ref b108), .val (.ref b111), .val (.ref b113), .val (.int (1 : Int32)), .val (.int (own_b q1)), .unset, .unset, .unset, .unset, .unset] [(f np)])) _
        refine XS.astore X116.here hx rfl (hb hby at_221) rfl (hfr np) (l' := #[.val (.int p1), .val (.int p2), .val (.int p3), .val (.int p4), .val (.int p5), .val (.int p6), .val (.int (Int32.ofNat sz)), .val (.int (Int32.ofNat n1)), .val (.int (Int32.ofNat n2)), .val (.int (Int32.ofNat n3)), .val (.int (Int32.ofNat np)), .val (.int (own_b tw)), .val (.int (own_b th)), .val (.ref b101), .val (.ref b108), .val (.ref b111), .val (.ref b113), .val (.int (1 : Int32)), .val (.int (own_b q1)), .val (f np), .unset, .unset, .unset, .unset]) (by have hq := hfr np; generalize f np = z at hq ⊢; cases z <;> first | rfl | (simp [Value.isRef] at hq)) ?_
        exact k)
      exact P38
    · rw [show own_w q1 (f np) = .null by rw [z]; rfl]
      have hc209 : own_b q1 = (0 : Int32) := by rw [z]; rfl
      have P39 : ∀ t, Steps p.tables e below (T116.setTop (mkF m 223 #[.val (.int p1), .val (.int p2), .val (.int p3), .val (.int p4), .val (.int p5), .val (.int p6), .val (.int (Int32.ofNat sz)), .val (.int (Int32.ofNat n1)), .val (.int (Int32.ofNat n2)), .val (.int (Int32.ofNat n3)), .val (.int (Int32.ofNat np)), .val (.int (own_b tw)), .val (.int (own_b th)), .val (.ref b101), .val (.ref b108), .val (.ref b111), .val (.ref b113), .val (.int (1 : Int32)), .val (.int (own_b q1)), .val .null, .unset, .unset, .unset, .unset] [])) t → Steps p.tables e below (s₁.setTop (entryFrame m #[(.int p1), (.int p2), (.int p3), (.int p4), (.int p5), (.int p6)] maxLocals)) t := fun t k => P32 t (by
        show Steps p.tables e below (T116.setTop (mkF m 207 #[.val (.int p1), .val (.int p2), .val (.int p3), .val (.int p4), .val (.int p5), .val (.int p6), .val (.int (Int32.ofNat sz)), .val (.int (Int32.ofNat n1)), .val (.int (Int32.ofNat n2)), .val (.int (Int32.ofNat n3)), .val (.int (Int32.ofNat np)), .val (.int (own_b tw)), .val (.int (own_b th)), .val (.ref b101), .val (.ref b108), .val (.ref b111), .val (.ref b113), .val (.int (1 : Int32)), .val (.int (own_b q1)), .unset, .unset, .unset, .unset, .unset] [])) _
        refine XS.iload X116.here hx rfl (hb hby at_207) rfl ?_
        show Steps p.tables e below (T116.setTop (mkF m 209 #[.val (.int p1), .val (.int p2), .val (.int p3), .val (.int p4), .val (.int p5), .val (.int p6), .val (.int (Int32.ofNat sz)), .val (.int (Int32.ofNat n1)), .val (.int (Int32.ofNat n2)), .val (.int (Int32.ofNat n3)), .val (.int (Int32.ofNat np)), .val (.int (own_b tw)), .val (.int (own_b th)), .val (.ref b101), .val (.ref b108), .val (.ref b111), .val (.ref b113), .val (.int (1 : Int32)), .val (.int (own_b q1)), .unset, .unset, .unset, .unset, .unset] [(.int (own_b q1))])) _
        refine XS.ifYes X116.here hx rfl (pc0 := 209) (pc' := 220) rfl (hb hby at_209) rfl ((if0 _ _).trans (teq hc209).1) (by decide) (by decide) ?_
        show Steps p.tables e below (T116.setTop (mkF m 220 #[.val (.int p1), .val (.int p2), .val (.int p3), .val (.int p4), .val (.int p5), .val (.int p6), .val (.int (Int32.ofNat sz)), .val (.int (Int32.ofNat n1)), .val (.int (Int32.ofNat n2)), .val (.int (Int32.ofNat n3)), .val (.int (Int32.ofNat np)), .val (.int (own_b tw)), .val (.int (own_b th)), .val (.ref b101), .val (.ref b108), .val (.ref b111), .val (.ref b113), .val (.int (1 : Int32)), .val (.int (own_b q1)), .unset, .unset, .unset, .unset, .unset] [])) _
        refine XS.aconstNull X116.here hx rfl (hb hby at_220) ?_
        show Steps p.tables e below (T116.setTop (mkF m 221 #[.val (.int p1), .val (.int p2), .val (.int p3), .val (.int p4), .val (.int p5), .val (.int p6), .val (.int (Int32.ofNat sz)), .val (.int (Int32.ofNat n1)), .val (.int (Int32.ofNat n2)), .val (.int (Int32.ofNat n3)), .val (.int (Int32.ofNat np)), .val (.int (own_b tw)), .val (.int (own_b th)), .val (.ref b101), .val (.ref b108), .val (.ref b111), .val (.ref b113), .val (.int (1 : Int32)), .val (.int (own_b q1)), .unset, .unset, .unset, .unset, .unset] [.null])) _
        refine XS.astore X116.here hx rfl (hb hby at_221) rfl rfl (l' := #[.val (.int p1), .val (.int p2), .val (.int p3), .val (.int p4), .val (.int p5), .val (.int p6), .val (.int (Int32.ofNat sz)), .val (.int (Int32.ofNat n1)), .val (.int (Int32.ofNat n2)), .val (.int (Int32.ofNat n3)), .val (.int (Int32.ofNat np)), .val (.int (own_b tw)), .val (.int (own_b th)), .val (.ref b101), .val (.ref b108), .val (.ref b111), .val (.ref b113), .val (.int (1 : Int32)), .val (.int (own_b q1)), .val .null, .unset, .unset, .unset, .unset]) rfl ?_
        exact k)
      exact P39
  have hc225 : ¬ ((1 : Int32) = (0 : Int32)) := by decide
  have vq1 : Pf1 np = own_w q1 (f np) := by rw [v1, ← hq1]
  obtain ⟨cq117, kq117, q117a, q117b, q117c⟩ := isOf hZ rfl hPs1.exa
  obtain ⟨_, _, ⟨T117, L117, k117, n117⟩, -, X117, ⟨Lc117, hQ117, l117, y117, z117⟩, st117⟩ := X116.virtualBack hx (y := (⟨"com/example/runner_bean/runnerbean/service/PublishedSingletons", "get", "(I)Ljava/lang/Object;"⟩ : MethodName)) (z := (⟨"com/example/runner_bean/runnerbean/service/PublishedSingletons", "get", "(I)Ljava/lang/Object;"⟩ : MethodName)) hown (mvT hZ (hw _ (List.mem_of_getElem? (i := 32) rfl))) (mvT hZ (hw _ (List.mem_of_getElem? (i := 33) rfl))) (notFace_of_selects (args := #[]) (mvT hZ (hw _ (List.mem_of_getElem? (i := 35) rfl)))) (mvT hZ (hw _ (List.mem_of_getElem? (i := 35) rfl))) (mvT hZ (hw _ (List.mem_of_getElem? (i := 34) rfl))) (by decide) (backOf (W := 0) (rm5 l Z a0 hw [] b113 (Int32.ofNat np) kc n Pf1 np T116.heap n0 hPs1.sz hn4 (ltn hp) rfl hPs1) hZ (hw _ (List.mem_of_getElem? (i := 36) rfl)) (hw _ (List.mem_of_getElem? (i := 14) rfl)) (by decide) (by decide)) q117a q117c (g := (mkF m 232 #[.val (.int p1), .val (.int p2), .val (.int p3), .val (.int p4), .val (.int p5), .val (.int p6), .val (.int (Int32.ofNat sz)), .val (.int (Int32.ofNat n1)), .val (.int (Int32.ofNat n2)), .val (.int (Int32.ofNat n3)), .val (.int (Int32.ofNat np)), .val (.int (own_b tw)), .val (.int (own_b th)), .val (.ref b101), .val (.ref b108), .val (.ref b111), .val (.ref b113), .val (.int (1 : Int32)), .val (.int (own_b q1)), .val (own_w q1 (f np)), .unset, .unset, .unset, .unset] [(.int (Int32.ofNat np)), (.ref b113)])) rfl (by rw [hml]; rfl) (Steps.refl _) (argsL := [(.int (Int32.ofNat np))]) (rest := []) (lenOf pd_0_4 rfl) rfl (by show 2 * 0 + _ ≤ _; exact Nat.le_of_eq rfl) (hb hby at_232) (fun _ _ => ⟨rfl, rfl, (by exact Nat.le_of_ble_eq_true rfl), (by exact Nat.le_of_ble_eq_true rfl)⟩)
  dsimp only [Pt.U, Pt.locs, Pt.cells, Pt.slots] at X117 l117 y117 z117 st117 hQ117
  subst l117 y117 z117
  obtain ⟨rfl, N117q, eQ117⟩ := hQ117
  have N117 := Fr.app N116 N117q
  rw [vq1] at st117
  have P40 : ∀ t, Steps p.tables e below (T117.setTop (mkF m 247 #[.val (.int p1), .val (.int p2), .val (.int p3), .val (.int p4), .val (.int p5), .val (.int p6), .val (.int (Int32.ofNat sz)), .val (.int (Int32.ofNat n1)), .val (.int (Int32.ofNat n2)), .val (.int (Int32.ofNat n3)), .val (.int (Int32.ofNat np)), .val (.int (own_b tw)), .val (.int (own_b th)), .val (.ref b101), .val (.ref b108), .val (.ref b111), .val (.ref b113), .val (.int (1 : Int32)), .val (.int (own_b q1)), .val (own_w q1 (f np)), .unset, .unset, .unset, .unset] [])) t → Steps p.tables e below (s₁.setTop (entryFrame m #[(.int p1), (.int p2), (.int p3), (.int p4), (.int p5), (.int p6)] maxLocals)) t := fun t k => P37 t (by
    show Steps p.tables e below (T116.setTop (mkF m 223 #[.val (.int p1), .val (.int p2), .val (.int p3), .val (.int p4), .val (.int p5), .val (.int p6), .val (.int (Int32.ofNat sz)), .val (.int (Int32.ofNat n1)), .val (.int (Int32.ofNat n2)), .val (.int (Int32.ofNat n3)), .val (.int (Int32.ofNat np)), .val (.int (own_b tw)), .val (.int (own_b th)), .val (.ref b101), .val (.ref b108), .val (.ref b111), .val (.ref b113), .val (.int (1 : Int32)), .val (.int (own_b q1)), .val (own_w q1 (f np)), .unset, .unset, .unset, .unset] [])) _
    refine XS.iload X116.here hx rfl (hb hby at_223) rfl ?_
    show Steps p.tables e below (T116.setTop (mkF m 225 #[.val (.int p1), .val (.int p2), .val (.int p3), .val (.int p4), .val (.int p5), .val (.int p6), .val (.int (Int32.ofNat sz)), .val (.int (Int32.ofNat n1)), .val (.int (Int32.ofNat n2)), .val (.int (Int32.ofNat n3)), .val (.int (Int32.ofNat np)), .val (.int (own_b tw)), .val (.int (own_b th)), .val (.ref b101), .val (.ref b108), .val (.ref b111), .val (.ref b113), .val (.int (1 : Int32)), .val (.int (own_b q1)), .val (own_w q1 (f np)), .unset, .unset, .unset, .unset] [(.int (1 : Int32))])) _
    refine XS.ifNo X116.here hx rfl (hb hby at_225) rfl ((if0 _ _).trans (feq hc225).1) ?_
    show Steps p.tables e below (T116.setTop (mkF m 228 #[.val (.int p1), .val (.int p2), .val (.int p3), .val (.int p4), .val (.int p5), .val (.int p6), .val (.int (Int32.ofNat sz)), .val (.int (Int32.ofNat n1)), .val (.int (Int32.ofNat n2)), .val (.int (Int32.ofNat n3)), .val (.int (Int32.ofNat np)), .val (.int (own_b tw)), .val (.int (own_b th)), .val (.ref b101), .val (.ref b108), .val (.ref b111), .val (.ref b113), .val (.int (1 : Int32)), .val (.int (own_b q1)), .val (own_w q1 (f np)), .unset, .unset, .unset, .unset] [])) _
    refine XS.aload X116.here hx rfl (hb hby at_228) rfl rfl ?_
    show Steps p.tables e below (T116.setTop (mkF m 230 #[.val (.int p1), .val (.int p2), .val (.int p3), .val (.int p4), .val (.int p5), .val (.int p6), .val (.int (Int32.ofNat sz)), .val (.int (Int32.ofNat n1)), .val (.int (Int32.ofNat n2)), .val (.int (Int32.ofNat n3)), .val (.int (Int32.ofNat np)), .val (.int (own_b tw)), .val (.int (own_b th)), .val (.ref b101), .val (.ref b108), .val (.ref b111), .val (.ref b113), .val (.int (1 : Int32)), .val (.int (own_b q1)), .val (own_w q1 (f np)), .unset, .unset, .unset, .unset] [(.ref b113)])) _
    refine XS.iload X116.here hx rfl (hb hby at_230) rfl ?_
    show Steps p.tables e below (T116.setTop (mkF m 232 #[.val (.int p1), .val (.int p2), .val (.int p3), .val (.int p4), .val (.int p5), .val (.int p6), .val (.int (Int32.ofNat sz)), .val (.int (Int32.ofNat n1)), .val (.int (Int32.ofNat n2)), .val (.int (Int32.ofNat n3)), .val (.int (Int32.ofNat np)), .val (.int (own_b tw)), .val (.int (own_b th)), .val (.ref b101), .val (.ref b108), .val (.ref b111), .val (.ref b113), .val (.int (1 : Int32)), .val (.int (own_b q1)), .val (own_w q1 (f np)), .unset, .unset, .unset, .unset] [(.int (Int32.ofNat np)), (.ref b113)])) _
    refine st117.trans ?_
    show Steps p.tables e below (T117.setTop (mkF m 235 #[.val (.int p1), .val (.int p2), .val (.int p3), .val (.int p4), .val (.int p5), .val (.int p6), .val (.int (Int32.ofNat sz)), .val (.int (Int32.ofNat n1)), .val (.int (Int32.ofNat n2)), .val (.int (Int32.ofNat n3)), .val (.int (Int32.ofNat np)), .val (.int (own_b tw)), .val (.int (own_b th)), .val (.ref b101), .val (.ref b108), .val (.ref b111), .val (.ref b113), .val (.int (1 : Int32)), .val (.int (own_b q1)), .val (own_w q1 (f np)), .unset, .unset, .unset, .unset] [(own_w q1 (f np))])) _
    refine XS.aload X117.here hx rfl (hb hby at_235) rfl (own_w_ref (hfr _)) ?_
    show Steps p.tables e below (T117.setTop (mkF m 237 #[.val (.int p1), .val (.int p2), .val (.int p3), .val (.int p4), .val (.int p5), .val (.int p6), .val (.int (Int32.ofNat sz)), .val (.int (Int32.ofNat n1)), .val (.int (Int32.ofNat n2)), .val (.int (Int32.ofNat n3)), .val (.int (Int32.ofNat np)), .val (.int (own_b tw)), .val (.int (own_b th)), .val (.ref b101), .val (.ref b108), .val (.ref b111), .val (.ref b113), .val (.int (1 : Int32)), .val (.int (own_b q1)), .val (own_w q1 (f np)), .unset, .unset, .unset, .unset] [(own_w q1 (f np)), (own_w q1 (f np))])) _
    refine Jvm.RoadKit.acmp (g := (mkF m 237 #[.val (.int p1), .val (.int p2), .val (.int p3), .val (.int p4), .val (.int p5), .val (.int p6), .val (.int (Int32.ofNat sz)), .val (.int (Int32.ofNat n1)), .val (.int (Int32.ofNat n2)), .val (.int (Int32.ofNat n3)), .val (.int (Int32.ofNat np)), .val (.int (own_b tw)), .val (.int (own_b th)), .val (.ref b101), .val (.ref b108), .val (.ref b111), .val (.ref b113), .val (.int (1 : Int32)), .val (.int (own_b q1)), .val (own_w q1 (f np)), .unset, .unset, .unset, .unset] [(own_w q1 (f np)), (own_w q1 (f np))])) X117 hx rfl (own_w_ref (hfr _)) (own_w_ref (hfr _)) (pc0 := 237) (pc' := 240) (same := true) rfl (hb hby at_237) rfl (decide_eq_true rfl) (by decide) (by decide) ?_
    show Steps p.tables e below (T117.setTop (mkF m 240 #[.val (.int p1), .val (.int p2), .val (.int p3), .val (.int p4), .val (.int p5), .val (.int p6), .val (.int (Int32.ofNat sz)), .val (.int (Int32.ofNat n1)), .val (.int (Int32.ofNat n2)), .val (.int (Int32.ofNat n3)), .val (.int (Int32.ofNat np)), .val (.int (own_b tw)), .val (.int (own_b th)), .val (.ref b101), .val (.ref b108), .val (.ref b111), .val (.ref b113), .val (.int (1 : Int32)), .val (.int (own_b q1)), .val (own_w q1 (f np)), .unset, .unset, .unset, .unset] [])) _
    refine XS.iconst X117.here hx rfl (hb hby at_240) ?_
    show Steps p.tables e below (T117.setTop (mkF m 241 #[.val (.int p1), .val (.int p2), .val (.int p3), .val (.int p4), .val (.int p5), .val (.int p6), .val (.int (Int32.ofNat sz)), .val (.int (Int32.ofNat n1)), .val (.int (Int32.ofNat n2)), .val (.int (Int32.ofNat n3)), .val (.int (Int32.ofNat np)), .val (.int (own_b tw)), .val (.int (own_b th)), .val (.ref b101), .val (.ref b108), .val (.ref b111), .val (.ref b113), .val (.int (1 : Int32)), .val (.int (own_b q1)), .val (own_w q1 (f np)), .unset, .unset, .unset, .unset] [(.int (1 : Int32))])) _
    refine XS.goto X117.here hx rfl (pc0 := 241) (pc' := 245) rfl (hb hby at_241) (by decide) (by decide) ?_
    show Steps p.tables e below (T117.setTop (mkF m 245 #[.val (.int p1), .val (.int p2), .val (.int p3), .val (.int p4), .val (.int p5), .val (.int p6), .val (.int (Int32.ofNat sz)), .val (.int (Int32.ofNat n1)), .val (.int (Int32.ofNat n2)), .val (.int (Int32.ofNat n3)), .val (.int (Int32.ofNat np)), .val (.int (own_b tw)), .val (.int (own_b th)), .val (.ref b101), .val (.ref b108), .val (.ref b111), .val (.ref b113), .val (.int (1 : Int32)), .val (.int (own_b q1)), .val (own_w q1 (f np)), .unset, .unset, .unset, .unset] [(.int (1 : Int32))])) _
    refine XS.istore X117.here hx rfl (hb hby at_245) rfl (l' := #[.val (.int p1), .val (.int p2), .val (.int p3), .val (.int p4), .val (.int p5), .val (.int p6), .val (.int (Int32.ofNat sz)), .val (.int (Int32.ofNat n1)), .val (.int (Int32.ofNat n2)), .val (.int (Int32.ofNat n3)), .val (.int (Int32.ofNat np)), .val (.int (own_b tw)), .val (.int (own_b th)), .val (.ref b101), .val (.ref b108), .val (.ref b111), .val (.ref b113), .val (.int (1 : Int32)), .val (.int (own_b q1)), .val (own_w q1 (f np)), .unset, .unset, .unset, .unset]) rfl ?_
    exact k)
  have hc249 : ¬ ((1 : Int32) = (0 : Int32)) := by decide
  have vb1 : Pf1 n1 = f n1 := by rw [v1, show own_pub tw n1 n1 n2 = true by simp [own_pub]]; rfl
  have Ar_b101 := Ao6
  have hin263 : ¬ ((Int32.ofNat n1) < 0 ∨ co6.slots.size ≤ ((Int32.ofNat n1)).toNatClampNeg) := by rw [zo6]; exact idx_in (by omega) (by decide)
  have hat263 : co6.slots[((Int32.ofNat n1)).toNatClampNeg]? = some (f n1) := by rw [own_clamp (by omega)]; exact fo6 _ (by omega)
  obtain ⟨cq118, kq118, q118a, q118b, q118c⟩ := isOf hZ eQ117 hPs1.exa
  obtain ⟨_, _, ⟨T118, L118, k118, n118⟩, -, X118, ⟨Lc118, hQ118, l118, y118, z118⟩, st118⟩ := X117.virtualBack hx (y := (⟨"com/example/runner_bean/runnerbean/service/PublishedSingletons", "get", "(I)Ljava/lang/Object;"⟩ : MethodName)) (z := (⟨"com/example/runner_bean/runnerbean/service/PublishedSingletons", "get", "(I)Ljava/lang/Object;"⟩ : MethodName)) hown (mvT hZ (hw _ (List.mem_of_getElem? (i := 32) rfl))) (mvT hZ (hw _ (List.mem_of_getElem? (i := 33) rfl))) (notFace_of_selects (args := #[]) (mvT hZ (hw _ (List.mem_of_getElem? (i := 35) rfl)))) (mvT hZ (hw _ (List.mem_of_getElem? (i := 35) rfl))) (mvT hZ (hw _ (List.mem_of_getElem? (i := 34) rfl))) (by decide) (backOf (W := 0) (rm5 l Z a0 hw [] b113 (Int32.ofNat n1) kc n Pf1 n1 T116.heap n0 hPs1.sz hn4 (ltn h1) rfl hPs1) hZ (hw _ (List.mem_of_getElem? (i := 36) rfl)) (hw _ (List.mem_of_getElem? (i := 14) rfl)) (by decide) (by decide)) q118a q118c (g := (mkF m 256 #[.val (.int p1), .val (.int p2), .val (.int p3), .val (.int p4), .val (.int p5), .val (.int p6), .val (.int (Int32.ofNat sz)), .val (.int (Int32.ofNat n1)), .val (.int (Int32.ofNat n2)), .val (.int (Int32.ofNat n3)), .val (.int (Int32.ofNat np)), .val (.int (own_b tw)), .val (.int (own_b th)), .val (.ref b101), .val (.ref b108), .val (.ref b111), .val (.ref b113), .val (.int (1 : Int32)), .val (.int (own_b q1)), .val (own_w q1 (f np)), .unset, .unset, .unset, .unset] [(.int (Int32.ofNat n1)), (.ref b113)])) rfl (by rw [hml]; rfl) (Steps.refl _) (argsL := [(.int (Int32.ofNat n1))]) (rest := []) (lenOf pd_0_4 rfl) rfl (by show 2 * 0 + _ ≤ _; exact Nat.le_of_eq rfl) (hb hby at_256) (fun _ _ => ⟨rfl, eQ117, (by exact Nat.le_of_ble_eq_true rfl), (by exact Nat.le_of_ble_eq_true rfl)⟩)
  dsimp only [Pt.U, Pt.locs, Pt.cells, Pt.slots] at X118 l118 y118 z118 st118 hQ118
  subst l118 y118 z118
  obtain ⟨rfl, N118q, eQ118⟩ := hQ118
  have N118 := Fr.app N117 N118q
  rw [vb1] at st118
  have P41 : ∀ t, Steps p.tables e below (T118.setTop (mkF m 274 #[.val (.int p1), .val (.int p2), .val (.int p3), .val (.int p4), .val (.int p5), .val (.int p6), .val (.int (Int32.ofNat sz)), .val (.int (Int32.ofNat n1)), .val (.int (Int32.ofNat n2)), .val (.int (Int32.ofNat n3)), .val (.int (Int32.ofNat np)), .val (.int (own_b tw)), .val (.int (own_b th)), .val (.ref b101), .val (.ref b108), .val (.ref b111), .val (.ref b113), .val (.int (1 : Int32)), .val (.int (own_b q1)), .val (own_w q1 (f np)), .unset, .unset, .unset, .unset] [])) t → Steps p.tables e below (s₁.setTop (entryFrame m #[(.int p1), (.int p2), (.int p3), (.int p4), (.int p5), (.int p6)] maxLocals)) t := fun t k => P40 t (by
    show Steps p.tables e below (T117.setTop (mkF m 247 #[.val (.int p1), .val (.int p2), .val (.int p3), .val (.int p4), .val (.int p5), .val (.int p6), .val (.int (Int32.ofNat sz)), .val (.int (Int32.ofNat n1)), .val (.int (Int32.ofNat n2)), .val (.int (Int32.ofNat n3)), .val (.int (Int32.ofNat np)), .val (.int (own_b tw)), .val (.int (own_b th)), .val (.ref b101), .val (.ref b108), .val (.ref b111), .val (.ref b113), .val (.int (1 : Int32)), .val (.int (own_b q1)), .val (own_w q1 (f np)), .unset, .unset, .unset, .unset] [])) _
    refine XS.iload X117.here hx rfl (hb hby at_247) rfl ?_
    show Steps p.tables e below (T117.setTop (mkF m 249 #[.val (.int p1), .val (.int p2), .val (.int p3), .val (.int p4), .val (.int p5), .val (.int p6), .val (.int (Int32.ofNat sz)), .val (.int (Int32.ofNat n1)), .val (.int (Int32.ofNat n2)), .val (.int (Int32.ofNat n3)), .val (.int (Int32.ofNat np)), .val (.int (own_b tw)), .val (.int (own_b th)), .val (.ref b101), .val (.ref b108), .val (.ref b111), .val (.ref b113), .val (.int (1 : Int32)), .val (.int (own_b q1)), .val (own_w q1 (f np)), .unset, .unset, .unset, .unset] [(.int (1 : Int32))])) _
    refine XS.ifNo X117.here hx rfl (hb hby at_249) rfl ((if0 _ _).trans (feq hc249).1) ?_
    show Steps p.tables e below (T117.setTop (mkF m 252 #[.val (.int p1), .val (.int p2), .val (.int p3), .val (.int p4), .val (.int p5), .val (.int p6), .val (.int (Int32.ofNat sz)), .val (.int (Int32.ofNat n1)), .val (.int (Int32.ofNat n2)), .val (.int (Int32.ofNat n3)), .val (.int (Int32.ofNat np)), .val (.int (own_b tw)), .val (.int (own_b th)), .val (.ref b101), .val (.ref b108), .val (.ref b111), .val (.ref b113), .val (.int (1 : Int32)), .val (.int (own_b q1)), .val (own_w q1 (f np)), .unset, .unset, .unset, .unset] [])) _
    refine XS.aload X117.here hx rfl (hb hby at_252) rfl rfl ?_
    show Steps p.tables e below (T117.setTop (mkF m 254 #[.val (.int p1), .val (.int p2), .val (.int p3), .val (.int p4), .val (.int p5), .val (.int p6), .val (.int (Int32.ofNat sz)), .val (.int (Int32.ofNat n1)), .val (.int (Int32.ofNat n2)), .val (.int (Int32.ofNat n3)), .val (.int (Int32.ofNat np)), .val (.int (own_b tw)), .val (.int (own_b th)), .val (.ref b101), .val (.ref b108), .val (.ref b111), .val (.ref b113), .val (.int (1 : Int32)), .val (.int (own_b q1)), .val (own_w q1 (f np)), .unset, .unset, .unset, .unset] [(.ref b113)])) _
    refine XS.iload X117.here hx rfl (hb hby at_254) rfl ?_
    show Steps p.tables e below (T117.setTop (mkF m 256 #[.val (.int p1), .val (.int p2), .val (.int p3), .val (.int p4), .val (.int p5), .val (.int p6), .val (.int (Int32.ofNat sz)), .val (.int (Int32.ofNat n1)), .val (.int (Int32.ofNat n2)), .val (.int (Int32.ofNat n3)), .val (.int (Int32.ofNat np)), .val (.int (own_b tw)), .val (.int (own_b th)), .val (.ref b101), .val (.ref b108), .val (.ref b111), .val (.ref b113), .val (.int (1 : Int32)), .val (.int (own_b q1)), .val (own_w q1 (f np)), .unset, .unset, .unset, .unset] [(.int (Int32.ofNat n1)), (.ref b113)])) _
    refine st118.trans ?_
    show Steps p.tables e below (T118.setTop (mkF m 259 #[.val (.int p1), .val (.int p2), .val (.int p3), .val (.int p4), .val (.int p5), .val (.int p6), .val (.int (Int32.ofNat sz)), .val (.int (Int32.ofNat n1)), .val (.int (Int32.ofNat n2)), .val (.int (Int32.ofNat n3)), .val (.int (Int32.ofNat np)), .val (.int (own_b tw)), .val (.int (own_b th)), .val (.ref b101), .val (.ref b108), .val (.ref b111), .val (.ref b113), .val (.int (1 : Int32)), .val (.int (own_b q1)), .val (own_w q1 (f np)), .unset, .unset, .unset, .unset] [(f n1)])) _
    refine XS.aload X118.here hx rfl (hb hby at_259) rfl rfl ?_
    show Steps p.tables e below (T118.setTop (mkF m 261 #[.val (.int p1), .val (.int p2), .val (.int p3), .val (.int p4), .val (.int p5), .val (.int p6), .val (.int (Int32.ofNat sz)), .val (.int (Int32.ofNat n1)), .val (.int (Int32.ofNat n2)), .val (.int (Int32.ofNat n3)), .val (.int (Int32.ofNat np)), .val (.int (own_b tw)), .val (.int (own_b th)), .val (.ref b101), .val (.ref b108), .val (.ref b111), .val (.ref b113), .val (.int (1 : Int32)), .val (.int (own_b q1)), .val (own_w q1 (f np)), .unset, .unset, .unset, .unset] [(.ref b101), (f n1)])) _
    refine XS.iload X118.here hx rfl (hb hby at_261) rfl ?_
    show Steps p.tables e below (T118.setTop (mkF m 263 #[.val (.int p1), .val (.int p2), .val (.int p3), .val (.int p4), .val (.int p5), .val (.int p6), .val (.int (Int32.ofNat sz)), .val (.int (Int32.ofNat n1)), .val (.int (Int32.ofNat n2)), .val (.int (Int32.ofNat n3)), .val (.int (Int32.ofNat np)), .val (.int (own_b tw)), .val (.int (own_b th)), .val (.ref b101), .val (.ref b108), .val (.ref b111), .val (.ref b113), .val (.int (1 : Int32)), .val (.int (own_b q1)), .val (own_w q1 (f np)), .unset, .unset, .unset, .unset] [(.int (Int32.ofNat n1)), (.ref b101), (f n1)])) _
    refine X118.aaload hx (j := (Int32.ofNat n1)) (v := (f n1)) (by rw [eQ118]; exact Ar_b101.1) (State.isArrayOf_alike hZ.alike Ar_b101.2.1) rfl Ar_b101.2.2 hin263 hat263 (g := (mkF m 263 #[.val (.int p1), .val (.int p2), .val (.int p3), .val (.int p4), .val (.int p5), .val (.int p6), .val (.int (Int32.ofNat sz)), .val (.int (Int32.ofNat n1)), .val (.int (Int32.ofNat n2)), .val (.int (Int32.ofNat n3)), .val (.int (Int32.ofNat np)), .val (.int (own_b tw)), .val (.int (own_b th)), .val (.ref b101), .val (.ref b108), .val (.ref b111), .val (.ref b113), .val (.int (1 : Int32)), .val (.int (own_b q1)), .val (own_w q1 (f np)), .unset, .unset, .unset, .unset] [(.int (Int32.ofNat n1)), (.ref b101), (f n1)])) rfl rfl (hb hby at_263) _ ?_
    show Steps p.tables e below (T118.setTop (mkF m 264 #[.val (.int p1), .val (.int p2), .val (.int p3), .val (.int p4), .val (.int p5), .val (.int p6), .val (.int (Int32.ofNat sz)), .val (.int (Int32.ofNat n1)), .val (.int (Int32.ofNat n2)), .val (.int (Int32.ofNat n3)), .val (.int (Int32.ofNat np)), .val (.int (own_b tw)), .val (.int (own_b th)), .val (.ref b101), .val (.ref b108), .val (.ref b111), .val (.ref b113), .val (.int (1 : Int32)), .val (.int (own_b q1)), .val (own_w q1 (f np)), .unset, .unset, .unset, .unset] [(f n1), (f n1)])) _
    refine Jvm.RoadKit.acmp (g := (mkF m 264 #[.val (.int p1), .val (.int p2), .val (.int p3), .val (.int p4), .val (.int p5), .val (.int p6), .val (.int (Int32.ofNat sz)), .val (.int (Int32.ofNat n1)), .val (.int (Int32.ofNat n2)), .val (.int (Int32.ofNat n3)), .val (.int (Int32.ofNat np)), .val (.int (own_b tw)), .val (.int (own_b th)), .val (.ref b101), .val (.ref b108), .val (.ref b111), .val (.ref b113), .val (.int (1 : Int32)), .val (.int (own_b q1)), .val (own_w q1 (f np)), .unset, .unset, .unset, .unset] [(f n1), (f n1)])) X118 hx rfl (hfr n1) (hfr n1) (pc0 := 264) (pc' := 267) (same := true) rfl (hb hby at_264) rfl (decide_eq_true rfl) (by decide) (by decide) ?_
    show Steps p.tables e below (T118.setTop (mkF m 267 #[.val (.int p1), .val (.int p2), .val (.int p3), .val (.int p4), .val (.int p5), .val (.int p6), .val (.int (Int32.ofNat sz)), .val (.int (Int32.ofNat n1)), .val (.int (Int32.ofNat n2)), .val (.int (Int32.ofNat n3)), .val (.int (Int32.ofNat np)), .val (.int (own_b tw)), .val (.int (own_b th)), .val (.ref b101), .val (.ref b108), .val (.ref b111), .val (.ref b113), .val (.int (1 : Int32)), .val (.int (own_b q1)), .val (own_w q1 (f np)), .unset, .unset, .unset, .unset] [])) _
    refine XS.iconst X118.here hx rfl (hb hby at_267) ?_
    show Steps p.tables e below (T118.setTop (mkF m 268 #[.val (.int p1), .val (.int p2), .val (.int p3), .val (.int p4), .val (.int p5), .val (.int p6), .val (.int (Int32.ofNat sz)), .val (.int (Int32.ofNat n1)), .val (.int (Int32.ofNat n2)), .val (.int (Int32.ofNat n3)), .val (.int (Int32.ofNat np)), .val (.int (own_b tw)), .val (.int (own_b th)), .val (.ref b101), .val (.ref b108), .val (.ref b111), .val (.ref b113), .val (.int (1 : Int32)), .val (.int (own_b q1)), .val (own_w q1 (f np)), .unset, .unset, .unset, .unset] [(.int (1 : Int32))])) _
    refine XS.goto X118.here hx rfl (pc0 := 268) (pc' := 272) rfl (hb hby at_268) (by decide) (by decide) ?_
    show Steps p.tables e below (T118.setTop (mkF m 272 #[.val (.int p1), .val (.int p2), .val (.int p3), .val (.int p4), .val (.int p5), .val (.int p6), .val (.int (Int32.ofNat sz)), .val (.int (Int32.ofNat n1)), .val (.int (Int32.ofNat n2)), .val (.int (Int32.ofNat n3)), .val (.int (Int32.ofNat np)), .val (.int (own_b tw)), .val (.int (own_b th)), .val (.ref b101), .val (.ref b108), .val (.ref b111), .val (.ref b113), .val (.int (1 : Int32)), .val (.int (own_b q1)), .val (own_w q1 (f np)), .unset, .unset, .unset, .unset] [(.int (1 : Int32))])) _
    refine XS.istore X118.here hx rfl (hb hby at_272) rfl (l' := #[.val (.int p1), .val (.int p2), .val (.int p3), .val (.int p4), .val (.int p5), .val (.int p6), .val (.int (Int32.ofNat sz)), .val (.int (Int32.ofNat n1)), .val (.int (Int32.ofNat n2)), .val (.int (Int32.ofNat n3)), .val (.int (Int32.ofNat np)), .val (.int (own_b tw)), .val (.int (own_b th)), .val (.ref b101), .val (.ref b108), .val (.ref b111), .val (.ref b113), .val (.int (1 : Int32)), .val (.int (own_b q1)), .val (own_w q1 (f np)), .unset, .unset, .unset, .unset]) rfl ?_
    exact k)
  have P42 : ∀ t, Steps p.tables e below (T118.setTop (mkF m 288 #[.val (.int p1), .val (.int p2), .val (.int p3), .val (.int p4), .val (.int p5), .val (.int p6), .val (.int (Int32.ofNat sz)), .val (.int (Int32.ofNat n1)), .val (.int (Int32.ofNat n2)), .val (.int (Int32.ofNat n3)), .val (.int (Int32.ofNat np)), .val (.int (own_b tw)), .val (.int (own_b th)), .val (.ref b101), .val (.ref b108), .val (.ref b111), .val (.ref b113), .val (.int (1 : Int32)), .val (.int (own_b q1)), .val (own_w q1 (f np)), .unset, .unset, .unset, .unset] [(.int (Int32.ofNat (own_l2 th n3).length)), (.ref b111), (.ref b113)])) t → Steps p.tables e below (s₁.setTop (entryFrame m #[(.int p1), (.int p2), (.int p3), (.int p4), (.int p5), (.int p6)] maxLocals)) t := by
    rcases Bool.eq_false_or_eq_true th with hth | hth
    · rw [show (Int32.ofNat (own_l2 th n3).length) = (1 : Int32) by rw [hth]; rfl]
      have hc280 : ¬ (own_b th = (0 : Int32)) := by rw [hth]; decide
      have P43 : ∀ t, Steps p.tables e below (T118.setTop (mkF m 288 #[.val (.int p1), .val (.int p2), .val (.int p3), .val (.int p4), .val (.int p5), .val (.int p6), .val (.int (Int32.ofNat sz)), .val (.int (Int32.ofNat n1)), .val (.int (Int32.ofNat n2)), .val (.int (Int32.ofNat n3)), .val (.int (Int32.ofNat np)), .val (.int (own_b tw)), .val (.int (own_b th)), .val (.ref b101), .val (.ref b108), .val (.ref b111), .val (.ref b113), .val (.int (1 : Int32)), .val (.int (own_b q1)), .val (own_w q1 (f np)), .unset, .unset, .unset, .unset] [(.int (1 : Int32)), (.ref b111), (.ref b113)])) t → Steps p.tables e below (s₁.setTop (entryFrame m #[(.int p1), (.int p2), (.int p3), (.int p4), (.int p5), (.int p6)] maxLocals)) t := fun t k => P41 t (by
        show Steps p.tables e below (T118.setTop (mkF m 274 #[.val (.int p1), .val (.int p2), .val (.int p3), .val (.int p4), .val (.int p5), .val (.int p6), .val (.int (Int32.ofNat sz)), .val (.int (Int32.ofNat n1)), .val (.int (Int32.ofNat n2)), .val (.int (Int32.ofNat n3)), .val (.int (Int32.ofNat np)), .val (.int (own_b tw)), .val (.int (own_b th)), .val (.ref b101), .val (.ref b108), .val (.ref b111), .val (.ref b113), .val (.int (1 : Int32)), .val (.int (own_b q1)), .val (own_w q1 (f np)), .unset, .unset, .unset, .unset] [])) _
        refine XS.aload X118.here hx rfl (hb hby at_274) rfl rfl ?_
        show Steps p.tables e below (T118.setTop (mkF m 276 #[.val (.int p1), .val (.int p2), .val (.int p3), .val (.int p4), .val (.int p5), .val (.int p6), .val (.int (Int32.ofNat sz)), .val (.int (Int32.ofNat n1)), .val (.int (Int32.ofNat n2)), .val (.int (Int32.ofNat n3)), .val (.int (Int32.ofNat np)), .val (.int (own_b tw)), .val (.int (own_b th)), .val (.ref b101), .val (.ref b108), .val (.ref b111), .val (.ref b113), .val (.int (1 : Int32)), .val (.int (own_b q1)), .val (own_w q1 (f np)), .unset, .unset, .unset, .unset] [(.ref b113)])) _
        refine XS.aload X118.here hx rfl (hb hby at_276) rfl rfl ?_
        show Steps p.tables e below (T118.setTop (mkF m 278 #[.val (.int p1), .val (.int p2), .val (.int p3), .val (.int p4), .val (.int p5), .val (.int p6), .val (.int (Int32.ofNat sz)), .val (.int (Int32.ofNat n1)), .val (.int (Int32.ofNat n2)), .val (.int (Int32.ofNat n3)), .val (.int (Int32.ofNat np)), .val (.int (own_b tw)), .val (.int (own_b th)), .val (.ref b101), .val (.ref b108), .val (.ref b111), .val (.ref b113), .val (.int (1 : Int32)), .val (.int (own_b q1)), .val (own_w q1 (f np)), .unset, .unset, .unset, .unset] [(.ref b111), (.ref b113)])) _
        refine XS.iload X118.here hx rfl (hb hby at_278) rfl ?_
        show Steps p.tables e below (T118.setTop (mkF m 280 #[.val (.int p1), .val (.int p2), .val (.int p3), .val (.int p4), .val (.int p5), .val (.int p6), .val (.int (Int32.ofNat sz)), .val (.int (Int32.ofNat n1)), .val (.int (Int32.ofNat n2)), .val (.int (Int32.ofNat n3)), .val (.int (Int32.ofNat np)), .val (.int (own_b tw)), .val (.int (own_b th)), .val (.ref b101), .val (.ref b108), .val (.ref b111), .val (.ref b113), .val (.int (1 : Int32)), .val (.int (own_b q1)), .val (own_w q1 (f np)), .unset, .unset, .unset, .unset] [(.int (own_b th)), (.ref b111), (.ref b113)])) _
        refine XS.ifNo X118.here hx rfl (hb hby at_280) rfl ((if0 _ _).trans (feq hc280).1) ?_
        show Steps p.tables e below (T118.setTop (mkF m 283 #[.val (.int p1), .val (.int p2), .val (.int p3), .val (.int p4), .val (.int p5), .val (.int p6), .val (.int (Int32.ofNat sz)), .val (.int (Int32.ofNat n1)), .val (.int (Int32.ofNat n2)), .val (.int (Int32.ofNat n3)), .val (.int (Int32.ofNat np)), .val (.int (own_b tw)), .val (.int (own_b th)), .val (.ref b101), .val (.ref b108), .val (.ref b111), .val (.ref b113), .val (.int (1 : Int32)), .val (.int (own_b q1)), .val (own_w q1 (f np)), .unset, .unset, .unset, .unset] [(.ref b111), (.ref b113)])) _
        refine XS.iconst X118.here hx rfl (hb hby at_283) ?_
        show Steps p.tables e below (T118.setTop (mkF m 284 #[.val (.int p1), .val (.int p2), .val (.int p3), .val (.int p4), .val (.int p5), .val (.int p6), .val (.int (Int32.ofNat sz)), .val (.int (Int32.ofNat n1)), .val (.int (Int32.ofNat n2)), .val (.int (Int32.ofNat n3)), .val (.int (Int32.ofNat np)), .val (.int (own_b tw)), .val (.int (own_b th)), .val (.ref b101), .val (.ref b108), .val (.ref b111), .val (.ref b113), .val (.int (1 : Int32)), .val (.int (own_b q1)), .val (own_w q1 (f np)), .unset, .unset, .unset, .unset] [(.int (1 : Int32)), (.ref b111), (.ref b113)])) _
        refine XS.goto X118.here hx rfl (pc0 := 284) (pc' := 288) rfl (hb hby at_284) (by decide) (by decide) ?_
        exact k)
      exact P43
    · rw [show (Int32.ofNat (own_l2 th n3).length) = (0 : Int32) by rw [hth]; rfl]
      have hc280 : own_b th = (0 : Int32) := by rw [hth]; rfl
      have P44 : ∀ t, Steps p.tables e below (T118.setTop (mkF m 288 #[.val (.int p1), .val (.int p2), .val (.int p3), .val (.int p4), .val (.int p5), .val (.int p6), .val (.int (Int32.ofNat sz)), .val (.int (Int32.ofNat n1)), .val (.int (Int32.ofNat n2)), .val (.int (Int32.ofNat n3)), .val (.int (Int32.ofNat np)), .val (.int (own_b tw)), .val (.int (own_b th)), .val (.ref b101), .val (.ref b108), .val (.ref b111), .val (.ref b113), .val (.int (1 : Int32)), .val (.int (own_b q1)), .val (own_w q1 (f np)), .unset, .unset, .unset, .unset] [(.int (0 : Int32)), (.ref b111), (.ref b113)])) t → Steps p.tables e below (s₁.setTop (entryFrame m #[(.int p1), (.int p2), (.int p3), (.int p4), (.int p5), (.int p6)] maxLocals)) t := fun t k => P41 t (by
        show Steps p.tables e below (T118.setTop (mkF m 274 #[.val (.int p1), .val (.int p2), .val (.int p3), .val (.int p4), .val (.int p5), .val (.int p6), .val (.int (Int32.ofNat sz)), .val (.int (Int32.ofNat n1)), .val (.int (Int32.ofNat n2)), .val (.int (Int32.ofNat n3)), .val (.int (Int32.ofNat np)), .val (.int (own_b tw)), .val (.int (own_b th)), .val (.ref b101), .val (.ref b108), .val (.ref b111), .val (.ref b113), .val (.int (1 : Int32)), .val (.int (own_b q1)), .val (own_w q1 (f np)), .unset, .unset, .unset, .unset] [])) _
        refine XS.aload X118.here hx rfl (hb hby at_274) rfl rfl ?_
        show Steps p.tables e below (T118.setTop (mkF m 276 #[.val (.int p1), .val (.int p2), .val (.int p3), .val (.int p4), .val (.int p5), .val (.int p6), .val (.int (Int32.ofNat sz)), .val (.int (Int32.ofNat n1)), .val (.int (Int32.ofNat n2)), .val (.int (Int32.ofNat n3)), .val (.int (Int32.ofNat np)), .val (.int (own_b tw)), .val (.int (own_b th)), .val (.ref b101), .val (.ref b108), .val (.ref b111), .val (.ref b113), .val (.int (1 : Int32)), .val (.int (own_b q1)), .val (own_w q1 (f np)), .unset, .unset, .unset, .unset] [(.ref b113)])) _
        refine XS.aload X118.here hx rfl (hb hby at_276) rfl rfl ?_
        show Steps p.tables e below (T118.setTop (mkF m 278 #[.val (.int p1), .val (.int p2), .val (.int p3), .val (.int p4), .val (.int p5), .val (.int p6), .val (.int (Int32.ofNat sz)), .val (.int (Int32.ofNat n1)), .val (.int (Int32.ofNat n2)), .val (.int (Int32.ofNat n3)), .val (.int (Int32.ofNat np)), .val (.int (own_b tw)), .val (.int (own_b th)), .val (.ref b101), .val (.ref b108), .val (.ref b111), .val (.ref b113), .val (.int (1 : Int32)), .val (.int (own_b q1)), .val (own_w q1 (f np)), .unset, .unset, .unset, .unset] [(.ref b111), (.ref b113)])) _
        refine XS.iload X118.here hx rfl (hb hby at_278) rfl ?_
        show Steps p.tables e below (T118.setTop (mkF m 280 #[.val (.int p1), .val (.int p2), .val (.int p3), .val (.int p4), .val (.int p5), .val (.int p6), .val (.int (Int32.ofNat sz)), .val (.int (Int32.ofNat n1)), .val (.int (Int32.ofNat n2)), .val (.int (Int32.ofNat n3)), .val (.int (Int32.ofNat np)), .val (.int (own_b tw)), .val (.int (own_b th)), .val (.ref b101), .val (.ref b108), .val (.ref b111), .val (.ref b113), .val (.int (1 : Int32)), .val (.int (own_b q1)), .val (own_w q1 (f np)), .unset, .unset, .unset, .unset] [(.int (own_b th)), (.ref b111), (.ref b113)])) _
        refine XS.ifYes X118.here hx rfl (pc0 := 280) (pc' := 287) rfl (hb hby at_280) rfl ((if0 _ _).trans (teq hc280).1) (by decide) (by decide) ?_
        show Steps p.tables e below (T118.setTop (mkF m 287 #[.val (.int p1), .val (.int p2), .val (.int p3), .val (.int p4), .val (.int p5), .val (.int p6), .val (.int (Int32.ofNat sz)), .val (.int (Int32.ofNat n1)), .val (.int (Int32.ofNat n2)), .val (.int (Int32.ofNat n3)), .val (.int (Int32.ofNat np)), .val (.int (own_b tw)), .val (.int (own_b th)), .val (.ref b101), .val (.ref b108), .val (.ref b111), .val (.ref b113), .val (.int (1 : Int32)), .val (.int (own_b q1)), .val (own_w q1 (f np)), .unset, .unset, .unset, .unset] [(.ref b111), (.ref b113)])) _
        refine XS.iconst X118.here hx rfl (hb hby at_287) ?_
        exact k)
      exact P44
  have len2 : (own_l2 th n3).length ≤ 2 := by cases th <;> exact Nat.le_of_ble_eq_true rfl
  have lt2 : ∀ k, k < (own_l2 th n3).length → (own_l2 th n3).getD k 0 < 64 * n := by
    cases th
    · intro k hk
      exact absurd hk (Nat.not_lt_zero k)
    · intro k hk
      have hk' : k = 0 := by have : k < 1 := hk; omega
      subst hk'
      exact ltn h3
  obtain ⟨cq119, kq119, q119a, q119b, q119c⟩ := isOf hZ eQ118 hPs1.exa
  obtain ⟨_, _, ⟨T119, L119, k119, n119⟩, -, X119, ⟨Lc119, hQ119, l119, y119, z119⟩, st119⟩ := X118.virtualBack hx (y := (⟨"com/example/runner_bean/runnerbean/service/PublishedSingletons", "publish", "([II[Ljava/lang/Object;)V"⟩ : MethodName)) (z := (⟨"com/example/runner_bean/runnerbean/service/PublishedSingletons", "publish", "([II[Ljava/lang/Object;)V"⟩ : MethodName)) hown (mvT hZ (hw _ (List.mem_of_getElem? (i := 37) rfl))) (mvT hZ (hw _ (List.mem_of_getElem? (i := 38) rfl))) (notFace_of_selects (args := #[]) (mvT hZ (hw _ (List.mem_of_getElem? (i := 40) rfl)))) (mvT hZ (hw _ (List.mem_of_getElem? (i := 40) rfl))) (mvT hZ (hw _ (List.mem_of_getElem? (i := 39) rfl))) (by decide) (backOf (W := 0) (rm6 l Z a0 hw [] b113 b111 (Int32.ofNat (own_l2 th n3).length) b101 kc n Pf1 f (own_l2 th n3) T116.heap n0 hPs1.sz hn4 len2 rfl hPs1 Oc BS6 lt2 Oa6 (Rf0.keep KJ)) hZ (hw _ (List.mem_of_getElem? (i := 41) rfl)) (hw _ (List.mem_of_getElem? (i := 14) rfl)) (by decide) (by decide)) q119a q119c (g := (mkF m 290 #[.val (.int p1), .val (.int p2), .val (.int p3), .val (.int p4), .val (.int p5), .val (.int p6), .val (.int (Int32.ofNat sz)), .val (.int (Int32.ofNat n1)), .val (.int (Int32.ofNat n2)), .val (.int (Int32.ofNat n3)), .val (.int (Int32.ofNat np)), .val (.int (own_b tw)), .val (.int (own_b th)), .val (.ref b101), .val (.ref b108), .val (.ref b111), .val (.ref b113), .val (.int (1 : Int32)), .val (.int (own_b q1)), .val (own_w q1 (f np)), .unset, .unset, .unset, .unset] [(.ref b101), (.int (Int32.ofNat (own_l2 th n3).length)), (.ref b111), (.ref b113)])) rfl (by rw [hml]; rfl) (Steps.refl _) (argsL := [(.ref b111), (.int (Int32.ofNat (own_l2 th n3).length)), (.ref b101)]) (rest := []) (lenOf pd_0_5 rfl) rfl (by show 2 * 0 + _ ≤ _; exact Nat.le_of_eq rfl) (hb hby at_290) (fun _ _ => ⟨rfl, eQ118, (by exact Nat.le_of_ble_eq_true rfl), (by exact Nat.le_of_ble_eq_true rfl)⟩)
  dsimp only [Pt.U, Pt.locs, Pt.cells, Pt.slots] at X119 l119 y119 z119 st119 hQ119
  subst l119 y119 z119
  obtain ⟨rfl, N119q, KP3, hPs2⟩ := hQ119
  have N119 := Fr.app N118 N119q
  have P45 : ∀ t, Steps p.tables e below (T119.setTop (mkF m 293 #[.val (.int p1), .val (.int p2), .val (.int p3), .val (.int p4), .val (.int p5), .val (.int p6), .val (.int (Int32.ofNat sz)), .val (.int (Int32.ofNat n1)), .val (.int (Int32.ofNat n2)), .val (.int (Int32.ofNat n3)), .val (.int (Int32.ofNat np)), .val (.int (own_b tw)), .val (.int (own_b th)), .val (.ref b101), .val (.ref b108), .val (.ref b111), .val (.ref b113), .val (.int (1 : Int32)), .val (.int (own_b q1)), .val (own_w q1 (f np)), .unset, .unset, .unset, .unset] [])) t → Steps p.tables e below (s₁.setTop (entryFrame m #[(.int p1), (.int p2), (.int p3), (.int p4), (.int p5), (.int p6)] maxLocals)) t := fun t k => P42 t (by
    show Steps p.tables e below (T118.setTop (mkF m 288 #[.val (.int p1), .val (.int p2), .val (.int p3), .val (.int p4), .val (.int p5), .val (.int p6), .val (.int (Int32.ofNat sz)), .val (.int (Int32.ofNat n1)), .val (.int (Int32.ofNat n2)), .val (.int (Int32.ofNat n3)), .val (.int (Int32.ofNat np)), .val (.int (own_b tw)), .val (.int (own_b th)), .val (.ref b101), .val (.ref b108), .val (.ref b111), .val (.ref b113), .val (.int (1 : Int32)), .val (.int (own_b q1)), .val (own_w q1 (f np)), .unset, .unset, .unset, .unset] [(.int (Int32.ofNat (own_l2 th n3).length)), (.ref b111), (.ref b113)])) _
    refine XS.aload X118.here hx rfl (hb hby at_288) rfl rfl ?_
    show Steps p.tables e below (T118.setTop (mkF m 290 #[.val (.int p1), .val (.int p2), .val (.int p3), .val (.int p4), .val (.int p5), .val (.int p6), .val (.int (Int32.ofNat sz)), .val (.int (Int32.ofNat n1)), .val (.int (Int32.ofNat n2)), .val (.int (Int32.ofNat n3)), .val (.int (Int32.ofNat np)), .val (.int (own_b tw)), .val (.int (own_b th)), .val (.ref b101), .val (.ref b108), .val (.ref b111), .val (.ref b113), .val (.int (1 : Int32)), .val (.int (own_b q1)), .val (own_w q1 (f np)), .unset, .unset, .unset, .unset] [(.ref b101), (.int (Int32.ofNat (own_l2 th n3).length)), (.ref b111), (.ref b113)])) _
    refine st119.trans ?_
    exact k)
  have Oa7 := Oa6.keep KP3 (ninS oP nin0)
  obtain ⟨Pf2, hPf2⟩ : ∃ P, P = own_sets f Pf1 (own_l2 th n3) := ⟨_, rfl⟩
  rw [← hPf2] at hPs2
  obtain ⟨q2, hq2⟩ : ∃ q, q = own_pub2 q1 th np n3 := ⟨_, rfl⟩
  obtain ⟨q3, hq3⟩ : ∃ q, q = (th || own_pub tw n3 n1 n2) := ⟨_, rfl⟩
  have vq2 : Pf2 np = own_w q2 (f np) := by rw [hPf2, hq2]; exact own_P2 f Pf1 q1 th n3 np vq1
  have vq3 : Pf2 n3 = own_w q3 (f n3) := by rw [hPf2, hq3]; exact own_P3 f Pf1 _ th n3 (v1 n3)
  obtain ⟨co7, Ao7, Oo7, zo7, fo7⟩ := id Oa7
  have P46 : ∀ t, Steps p.tables e below (T119.setTop (mkF m 317 #[.val (.int p1), .val (.int p2), .val (.int p3), .val (.int p4), .val (.int p5), .val (.int p6), .val (.int (Int32.ofNat sz)), .val (.int (Int32.ofNat n1)), .val (.int (Int32.ofNat n2)), .val (.int (Int32.ofNat n3)), .val (.int (Int32.ofNat np)), .val (.int (own_b tw)), .val (.int (own_b th)), .val (.ref b101), .val (.ref b108), .val (.ref b111), .val (.ref b113), .val (.int (1 : Int32)), .val (.int (own_b q1)), .val (own_w q1 (f np)), .val (.int (own_b q2)), .unset, .unset, .unset] [])) t → Steps p.tables e below (s₁.setTop (entryFrame m #[(.int p1), (.int p2), (.int p3), (.int p4), (.int p5), (.int p6)] maxLocals)) t := by
    rcases own_four (q1 = true) (np = n3) th with a | ⟨a, t⟩ | ⟨a, t, b⟩ | ⟨a, t, b⟩
    · have z : q2 = true := by rw [hq2]; simp [own_pub2, a]
      rw [z]
      have hc295 : ¬ (own_b q1 = (0 : Int32)) := by rw [a]; decide
      have P47 : ∀ t, Steps p.tables e below (T119.setTop (mkF m 317 #[.val (.int p1), .val (.int p2), .val (.int p3), .val (.int p4), .val (.int p5), .val (.int p6), .val (.int (Int32.ofNat sz)), .val (.int (Int32.ofNat n1)), .val (.int (Int32.ofNat n2)), .val (.int (Int32.ofNat n3)), .val (.int (Int32.ofNat np)), .val (.int (own_b tw)), .val (.int (own_b th)), .val (.ref b101), .val (.ref b108), .val (.ref b111), .val (.ref b113), .val (.int (1 : Int32)), .val (.int (own_b q1)), .val (own_w q1 (f np)), .val (.int (1 : Int32)), .unset, .unset, .unset] [])) t → Steps p.tables e below (s₁.setTop (entryFrame m #[(.int p1), (.int p2), (.int p3), (.int p4), (.int p5), (.int p6)] maxLocals)) t := fun t k => P45 t (by
        show Steps p.tables e below (T119.setTop (mkF m 293 #[.val (.int p1), .val (.int p2), .val (.int p3), .val (.int p4), .val (.int p5), .val (.int p6), .val (.int (Int32.ofNat sz)), .val (.int (Int32.ofNat n1)), .val (.int (Int32.ofNat n2)), .val (.int (Int32.ofNat n3)), .val (.int (Int32.ofNat np)), .val (.int (own_b tw)), .val (.int (own_b th)), .val (.ref b101), .val (.ref b108), .val (.ref b111), .val (.ref b113), .val (.int (1 : Int32)), .val (.int (own_b q1)), .val (own_w q1 (f np)), .unset, .unset, .unset, .unset] [])) _
        refine XS.iload X119.here hx rfl (hb hby at_293) rfl ?_
        show Steps p.tables e below (T119.setTop (mkF m 295 #[.val (.int p1), .val (.int p2), .val (.int p3), .val (.int p4), .val (.int p5), .val (.int p6), .val (.int (Int32.ofNat sz)), .val (.int (Int32.ofNat n1)), .val (.int (Int32.ofNat n2)), .val (.int (Int32.ofNat n3)), .val (.int (Int32.ofNat np)), .val (.int (own_b tw)), .val (.int (own_b th)), .val (.ref b101), .val (.ref b108), .val (.ref b111), .val (.ref b113), .val (.int (1 : Int32)), .val (.int (own_b q1)), .val (own_w q1 (f np)), .unset, .unset, .unset, .unset] [(.int (own_b q1))])) _
        refine XS.ifYes X119.here hx rfl (pc0 := 295) (pc' := 310) rfl (hb hby at_295) rfl ((if0 _ _).trans (feq hc295).2) (by decide) (by decide) ?_
        show Steps p.tables e below (T119.setTop (mkF m 310 #[.val (.int p1), .val (.int p2), .val (.int p3), .val (.int p4), .val (.int p5), .val (.int p6), .val (.int (Int32.ofNat sz)), .val (.int (Int32.ofNat n1)), .val (.int (Int32.ofNat n2)), .val (.int (Int32.ofNat n3)), .val (.int (Int32.ofNat np)), .val (.int (own_b tw)), .val (.int (own_b th)), .val (.ref b101), .val (.ref b108), .val (.ref b111), .val (.ref b113), .val (.int (1 : Int32)), .val (.int (own_b q1)), .val (own_w q1 (f np)), .unset, .unset, .unset, .unset] [])) _
        refine XS.iconst X119.here hx rfl (hb hby at_310) ?_
        show Steps p.tables e below (T119.setTop (mkF m 311 #[.val (.int p1), .val (.int p2), .val (.int p3), .val (.int p4), .val (.int p5), .val (.int p6), .val (.int (Int32.ofNat sz)), .val (.int (Int32.ofNat n1)), .val (.int (Int32.ofNat n2)), .val (.int (Int32.ofNat n3)), .val (.int (Int32.ofNat np)), .val (.int (own_b tw)), .val (.int (own_b th)), .val (.ref b101), .val (.ref b108), .val (.ref b111), .val (.ref b113), .val (.int (1 : Int32)), .val (.int (own_b q1)), .val (own_w q1 (f np)), .unset, .unset, .unset, .unset] [(.int (1 : Int32))])) _
        refine XS.goto X119.here hx rfl (pc0 := 311) (pc' := 315) rfl (hb hby at_311) (by decide) (by decide) ?_
        show Steps p.tables e below (T119.setTop (mkF m 315 #[.val (.int p1), .val (.int p2), .val (.int p3), .val (.int p4), .val (.int p5), .val (.int p6), .val (.int (Int32.ofNat sz)), .val (.int (Int32.ofNat n1)), .val (.int (Int32.ofNat n2)), .val (.int (Int32.ofNat n3)), .val (.int (Int32.ofNat np)), .val (.int (own_b tw)), .val (.int (own_b th)), .val (.ref b101), .val (.ref b108), .val (.ref b111), .val (.ref b113), .val (.int (1 : Int32)), .val (.int (own_b q1)), .val (own_w q1 (f np)), .unset, .unset, .unset, .unset] [(.int (1 : Int32))])) _
        refine XS.istore X119.here hx rfl (hb hby at_315) rfl (l' := #[.val (.int p1), .val (.int p2), .val (.int p3), .val (.int p4), .val (.int p5), .val (.int p6), .val (.int (Int32.ofNat sz)), .val (.int (Int32.ofNat n1)), .val (.int (Int32.ofNat n2)), .val (.int (Int32.ofNat n3)), .val (.int (Int32.ofNat np)), .val (.int (own_b tw)), .val (.int (own_b th)), .val (.ref b101), .val (.ref b108), .val (.ref b111), .val (.ref b113), .val (.int (1 : Int32)), .val (.int (own_b q1)), .val (own_w q1 (f np)), .val (.int (1 : Int32)), .unset, .unset, .unset]) rfl ?_
        exact k)
      exact P47
    · have a' : q1 = false := by simpa using a
      have z : q2 = false := by rw [hq2]; simp [own_pub2, a', t]
      rw [z]
      have hc295 : own_b q1 = (0 : Int32) := by rw [a']; rfl
      have hc300 : own_b th = (0 : Int32) := by rw [t]; rfl
      have P48 : ∀ t, Steps p.tables e below (T119.setTop (mkF m 317 #[.val (.int p1), .val (.int p2), .val (.int p3), .val (.int p4), .val (.int p5), .val (.int p6), .val (.int (Int32.ofNat sz)), .val (.int (Int32.ofNat n1)), .val (.int (Int32.ofNat n2)), .val (.int (Int32.ofNat n3)), .val (.int (Int32.ofNat np)), .val (.int (own_b tw)), .val (.int (own_b th)), .val (.ref b101), .val (.ref b108), .val (.ref b111), .val (.ref b113), .val (.int (1 : Int32)), .val (.int (own_b q1)), .val (own_w q1 (f np)), .val (.int (0 : Int32)), .unset, .unset, .unset] [])) t → Steps p.tables e below (s₁.setTop (entryFrame m #[(.int p1), (.int p2), (.int p3), (.int p4), (.int p5), (.int p6)] maxLocals)) t := fun t k => P45 t (by
        show Steps p.tables e below (T119.setTop (mkF m 293 #[.val (.int p1), .val (.int p2), .val (.int p3), .val (.int p4), .val (.int p5), .val (.int p6), .val (.int (Int32.ofNat sz)), .val (.int (Int32.ofNat n1)), .val (.int (Int32.ofNat n2)), .val (.int (Int32.ofNat n3)), .val (.int (Int32.ofNat np)), .val (.int (own_b tw)), .val (.int (own_b th)), .val (.ref b101), .val (.ref b108), .val (.ref b111), .val (.ref b113), .val (.int (1 : Int32)), .val (.int (own_b q1)), .val (own_w q1 (f np)), .unset, .unset, .unset, .unset] [])) _
        refine XS.iload X119.here hx rfl (hb hby at_293) rfl ?_
        show Steps p.tables e below (T119.setTop (mkF m 295 #[.val (.int p1), .val (.int p2), .val (.int p3), .val (.int p4), .val (.int p5), .val (.int p6), .val (.int (Int32.ofNat sz)), .val (.int (Int32.ofNat n1)), .val (.int (Int32.ofNat n2)), .val (.int (Int32.ofNat n3)), .val (.int (Int32.ofNat np)), .val (.int (own_b tw)), .val (.int (own_b th)), .val (.ref b101), .val (.ref b108), .val (.ref b111), .val (.ref b113), .val (.int (1 : Int32)), .val (.int (own_b q1)), .val (own_w q1 (f np)), .unset, .unset, .unset, .unset] [(.int (own_b q1))])) _
        refine XS.ifNo X119.here hx rfl (hb hby at_295) rfl ((if0 _ _).trans (teq hc295).2) ?_
        show Steps p.tables e below (T119.setTop (mkF m 298 #[.val (.int p1), .val (.int p2), .val (.int p3), .val (.int p4), .val (.int p5), .val (.int p6), .val (.int (Int32.ofNat sz)), .val (.int (Int32.ofNat n1)), .val (.int (Int32.ofNat n2)), .val (.int (Int32.ofNat n3)), .val (.int (Int32.ofNat np)), .val (.int (own_b tw)), .val (.int (own_b th)), .val (.ref b101), .val (.ref b108), .val (.ref b111), .val (.ref b113), .val (.int (1 : Int32)), .val (.int (own_b q1)), .val (own_w q1 (f np)), .unset, .unset, .unset, .unset] [])) _
        refine XS.iload X119.here hx rfl (hb hby at_298) rfl ?_
        show Steps p.tables e below (T119.setTop (mkF m 300 #[.val (.int p1), .val (.int p2), .val (.int p3), .val (.int p4), .val (.int p5), .val (.int p6), .val (.int (Int32.ofNat sz)), .val (.int (Int32.ofNat n1)), .val (.int (Int32.ofNat n2)), .val (.int (Int32.ofNat n3)), .val (.int (Int32.ofNat np)), .val (.int (own_b tw)), .val (.int (own_b th)), .val (.ref b101), .val (.ref b108), .val (.ref b111), .val (.ref b113), .val (.int (1 : Int32)), .val (.int (own_b q1)), .val (own_w q1 (f np)), .unset, .unset, .unset, .unset] [(.int (own_b th))])) _
        refine XS.ifYes X119.here hx rfl (pc0 := 300) (pc' := 314) rfl (hb hby at_300) rfl ((if0 _ _).trans (teq hc300).1) (by decide) (by decide) ?_
        show Steps p.tables e below (T119.setTop (mkF m 314 #[.val (.int p1), .val (.int p2), .val (.int p3), .val (.int p4), .val (.int p5), .val (.int p6), .val (.int (Int32.ofNat sz)), .val (.int (Int32.ofNat n1)), .val (.int (Int32.ofNat n2)), .val (.int (Int32.ofNat n3)), .val (.int (Int32.ofNat np)), .val (.int (own_b tw)), .val (.int (own_b th)), .val (.ref b101), .val (.ref b108), .val (.ref b111), .val (.ref b113), .val (.int (1 : Int32)), .val (.int (own_b q1)), .val (own_w q1 (f np)), .unset, .unset, .unset, .unset] [])) _
        refine XS.iconst X119.here hx rfl (hb hby at_314) ?_
        show Steps p.tables e below (T119.setTop (mkF m 315 #[.val (.int p1), .val (.int p2), .val (.int p3), .val (.int p4), .val (.int p5), .val (.int p6), .val (.int (Int32.ofNat sz)), .val (.int (Int32.ofNat n1)), .val (.int (Int32.ofNat n2)), .val (.int (Int32.ofNat n3)), .val (.int (Int32.ofNat np)), .val (.int (own_b tw)), .val (.int (own_b th)), .val (.ref b101), .val (.ref b108), .val (.ref b111), .val (.ref b113), .val (.int (1 : Int32)), .val (.int (own_b q1)), .val (own_w q1 (f np)), .unset, .unset, .unset, .unset] [(.int (0 : Int32))])) _
        refine XS.istore X119.here hx rfl (hb hby at_315) rfl (l' := #[.val (.int p1), .val (.int p2), .val (.int p3), .val (.int p4), .val (.int p5), .val (.int p6), .val (.int (Int32.ofNat sz)), .val (.int (Int32.ofNat n1)), .val (.int (Int32.ofNat n2)), .val (.int (Int32.ofNat n3)), .val (.int (Int32.ofNat np)), .val (.int (own_b tw)), .val (.int (own_b th)), .val (.ref b101), .val (.ref b108), .val (.ref b111), .val (.ref b113), .val (.int (1 : Int32)), .val (.int (own_b q1)), .val (own_w q1 (f np)), .val (.int (0 : Int32)), .unset, .unset, .unset]) rfl ?_
        exact k)
      exact P48
    · have a' : q1 = false := by simpa using a
      have z : q2 = false := by rw [hq2]; simp [own_pub2, a', t, b]
      rw [z]
      have hc295 : own_b q1 = (0 : Int32) := by rw [a']; rfl
      have hc300 : ¬ (own_b th = (0 : Int32)) := by rw [t]; decide
      have hc307 : ¬ ((Int32.ofNat np) = (Int32.ofNat n3)) := fun q => b (own_injI (by omega) (by omega) q)
      have P49 : ∀ t, Steps p.tables e below (T119.setTop (mkF m 317 #[.val (.int p1), .val (.int p2), .val (.int p3), .val (.int p4), .val (.int p5), .val (.int p6), .val (.int (Int32.ofNat sz)), .val (.int (Int32.ofNat n1)), .val (.int (Int32.ofNat n2)), .val (.int (Int32.ofNat n3)), .val (.int (Int32.ofNat np)), .val (.int (own_b tw)), .val (.int (own_b th)), .val (.ref b101), .val (.ref b108), .val (.ref b111), .val (.ref b113), .val (.int (1 : Int32)), .val (.int (own_b q1)), .val (own_w q1 (f np)), .val (.int (0 : Int32)), .unset, .unset, .unset] [])) t → Steps p.tables e below (s₁.setTop (entryFrame m #[(.int p1), (.int p2), (.int p3), (.int p4), (.int p5), (.int p6)] maxLocals)) t := fun t k => P45 t (by
        show Steps p.tables e below (T119.setTop (mkF m 293 #[.val (.int p1), .val (.int p2), .val (.int p3), .val (.int p4), .val (.int p5), .val (.int p6), .val (.int (Int32.ofNat sz)), .val (.int (Int32.ofNat n1)), .val (.int (Int32.ofNat n2)), .val (.int (Int32.ofNat n3)), .val (.int (Int32.ofNat np)), .val (.int (own_b tw)), .val (.int (own_b th)), .val (.ref b101), .val (.ref b108), .val (.ref b111), .val (.ref b113), .val (.int (1 : Int32)), .val (.int (own_b q1)), .val (own_w q1 (f np)), .unset, .unset, .unset, .unset] [])) _
        refine XS.iload X119.here hx rfl (hb hby at_293) rfl ?_
        show Steps p.tables e below (T119.setTop (mkF m 295 #[.val (.int p1), .val (.int p2), .val (.int p3), .val (.int p4), .val (.int p5), .val (.int p6), .val (.int (Int32.ofNat sz)), .val (.int (Int32.ofNat n1)), .val (.int (Int32.ofNat n2)), .val (.int (Int32.ofNat n3)), .val (.int (Int32.ofNat np)), .val (.int (own_b tw)), .val (.int (own_b th)), .val (.ref b101), .val (.ref b108), .val (.ref b111), .val (.ref b113), .val (.int (1 : Int32)), .val (.int (own_b q1)), .val (own_w q1 (f np)), .unset, .unset, .unset, .unset] [(.int (own_b q1))])) _
        refine XS.ifNo X119.here hx rfl (hb hby at_295) rfl ((if0 _ _).trans (teq hc295).2) ?_
        show Steps p.tables e below (T119.setTop (mkF m 298 #[.val (.int p1), .val (.int p2), .val (.int p3), .val (.int p4), .val (.int p5), .val (.int p6), .val (.int (Int32.ofNat sz)), .val (.int (Int32.ofNat n1)), .val (.int (Int32.ofNat n2)), .val (.int (Int32.ofNat n3)), .val (.int (Int32.ofNat np)), .val (.int (own_b tw)), .val (.int (own_b th)), .val (.ref b101), .val (.ref b108), .val (.ref b111), .val (.ref b113), .val (.int (1 : Int32)), .val (.int (own_b q1)), .val (own_w q1 (f np)), .unset, .unset, .unset, .unset] [])) _
        refine XS.iload X119.here hx rfl (hb hby at_298) rfl ?_
        show Steps p.tables e below (T119.setTop (mkF m 300 #[.val (.int p1), .val (.int p2), .val (.int p3), .val (.int p4), .val (.int p5), .val (.int p6), .val (.int (Int32.ofNat sz)), .val (.int (Int32.ofNat n1)), .val (.int (Int32.ofNat n2)), .val (.int (Int32.ofNat n3)), .val (.int (Int32.ofNat np)), .val (.int (own_b tw)), .val (.int (own_b th)), .val (.ref b101), .val (.ref b108), .val (.ref b111), .val (.ref b113), .val (.int (1 : Int32)), .val (.int (own_b q1)), .val (own_w q1 (f np)), .unset, .unset, .unset, .unset] [(.int (own_b th))])) _
        refine XS.ifNo X119.here hx rfl (hb hby at_300) rfl ((if0 _ _).trans (feq hc300).1) ?_
        show Steps p.tables e below (T119.setTop (mkF m 303 #[.val (.int p1), .val (.int p2), .val (.int p3), .val (.int p4), .val (.int p5), .val (.int p6), .val (.int (Int32.ofNat sz)), .val (.int (Int32.ofNat n1)), .val (.int (Int32.ofNat n2)), .val (.int (Int32.ofNat n3)), .val (.int (Int32.ofNat np)), .val (.int (own_b tw)), .val (.int (own_b th)), .val (.ref b101), .val (.ref b108), .val (.ref b111), .val (.ref b113), .val (.int (1 : Int32)), .val (.int (own_b q1)), .val (own_w q1 (f np)), .unset, .unset, .unset, .unset] [])) _
        refine XS.iload X119.here hx rfl (hb hby at_303) rfl ?_
        show Steps p.tables e below (T119.setTop (mkF m 305 #[.val (.int p1), .val (.int p2), .val (.int p3), .val (.int p4), .val (.int p5), .val (.int p6), .val (.int (Int32.ofNat sz)), .val (.int (Int32.ofNat n1)), .val (.int (Int32.ofNat n2)), .val (.int (Int32.ofNat n3)), .val (.int (Int32.ofNat np)), .val (.int (own_b tw)), .val (.int (own_b th)), .val (.ref b101), .val (.ref b108), .val (.ref b111), .val (.ref b113), .val (.int (1 : Int32)), .val (.int (own_b q1)), .val (own_w q1 (f np)), .unset, .unset, .unset, .unset] [(.int (Int32.ofNat np))])) _
        refine XS.iload X119.here hx rfl (hb hby at_305) rfl ?_
        show Steps p.tables e below (T119.setTop (mkF m 307 #[.val (.int p1), .val (.int p2), .val (.int p3), .val (.int p4), .val (.int p5), .val (.int p6), .val (.int (Int32.ofNat sz)), .val (.int (Int32.ofNat n1)), .val (.int (Int32.ofNat n2)), .val (.int (Int32.ofNat n3)), .val (.int (Int32.ofNat np)), .val (.int (own_b tw)), .val (.int (own_b th)), .val (.ref b101), .val (.ref b108), .val (.ref b111), .val (.ref b113), .val (.int (1 : Int32)), .val (.int (own_b q1)), .val (own_w q1 (f np)), .unset, .unset, .unset, .unset] [(.int (Int32.ofNat n3)), (.int (Int32.ofNat np))])) _
        refine XS.icmpYes X119.here hx rfl (pc0 := 307) (pc' := 314) rfl (hb hby at_307) rfl (feq hc307).2 (by decide) (by decide) ?_
        show Steps p.tables e below (T119.setTop (mkF m 314 #[.val (.int p1), .val (.int p2), .val (.int p3), .val (.int p4), .val (.int p5), .val (.int p6), .val (.int (Int32.ofNat sz)), .val (.int (Int32.ofNat n1)), .val (.int (Int32.ofNat n2)), .val (.int (Int32.ofNat n3)), .val (.int (Int32.ofNat np)), .val (.int (own_b tw)), .val (.int (own_b th)), .val (.ref b101), .val (.ref b108), .val (.ref b111), .val (.ref b113), .val (.int (1 : Int32)), .val (.int (own_b q1)), .val (own_w q1 (f np)), .unset, .unset, .unset, .unset] [])) _
        refine XS.iconst X119.here hx rfl (hb hby at_314) ?_
        show Steps p.tables e below (T119.setTop (mkF m 315 #[.val (.int p1), .val (.int p2), .val (.int p3), .val (.int p4), .val (.int p5), .val (.int p6), .val (.int (Int32.ofNat sz)), .val (.int (Int32.ofNat n1)), .val (.int (Int32.ofNat n2)), .val (.int (Int32.ofNat n3)), .val (.int (Int32.ofNat np)), .val (.int (own_b tw)), .val (.int (own_b th)), .val (.ref b101), .val (.ref b108), .val (.ref b111), .val (.ref b113), .val (.int (1 : Int32)), .val (.int (own_b q1)), .val (own_w q1 (f np)), .unset, .unset, .unset, .unset] [(.int (0 : Int32))])) _
        refine XS.istore X119.here hx rfl (hb hby at_315) rfl (l' := #[.val (.int p1), .val (.int p2), .val (.int p3), .val (.int p4), .val (.int p5), .val (.int p6), .val (.int (Int32.ofNat sz)), .val (.int (Int32.ofNat n1)), .val (.int (Int32.ofNat n2)), .val (.int (Int32.ofNat n3)), .val (.int (Int32.ofNat np)), .val (.int (own_b tw)), .val (.int (own_b th)), .val (.ref b101), .val (.ref b108), .val (.ref b111), .val (.ref b113), .val (.int (1 : Int32)), .val (.int (own_b q1)), .val (own_w q1 (f np)), .val (.int (0 : Int32)), .unset, .unset, .unset]) rfl ?_
        exact k)
      exact P49
    · have a' : q1 = false := by simpa using a
      have z : q2 = true := by rw [hq2]; simp [own_pub2, t, b]
      rw [z]
      have hc295 : own_b q1 = (0 : Int32) := by rw [a']; rfl
      have hc300 : ¬ (own_b th = (0 : Int32)) := by rw [t]; decide
      have hc307 : (Int32.ofNat np) = (Int32.ofNat n3) := by rw [b]
      have P50 : ∀ t, Steps p.tables e below (T119.setTop (mkF m 317 #[.val (.int p1), .val (.int p2), .val (.int p3), .val (.int p4), .val (.int p5), .val (.int p6), .val (.int (Int32.ofNat sz)), .val (.int (Int32.ofNat n1)), .val (.int (Int32.ofNat n2)), .val (.int (Int32.ofNat n3)), .val (.int (Int32.ofNat np)), .val (.int (own_b tw)), .val (.int (own_b th)), .val (.ref b101), .val (.ref b108), .val (.ref b111), .val (.ref b113), .val (.int (1 : Int32)), .val (.int (own_b q1)), .val (own_w q1 (f np)), .val (.int (1 : Int32)), .unset, .unset, .unset] [])) t → Steps p.tables e below (s₁.setTop (entryFrame m #[(.int p1), (.int p2), (.int p3), (.int p4), (.int p5), (.int p6)] maxLocals)) t := fun t k => P45 t (by
        show Steps p.tables e below (T119.setTop (mkF m 293 #[.val (.int p1), .val (.int p2), .val (.int p3), .val (.int p4), .val (.int p5), .val (.int p6), .val (.int (Int32.ofNat sz)), .val (.int (Int32.ofNat n1)), .val (.int (Int32.ofNat n2)), .val (.int (Int32.ofNat n3)), .val (.int (Int32.ofNat np)), .val (.int (own_b tw)), .val (.int (own_b th)), .val (.ref b101), .val (.ref b108), .val (.ref b111), .val (.ref b113), .val (.int (1 : Int32)), .val (.int (own_b q1)), .val (own_w q1 (f np)), .unset, .unset, .unset, .unset] [])) _
        refine XS.iload X119.here hx rfl (hb hby at_293) rfl ?_
        show Steps p.tables e below (T119.setTop (mkF m 295 #[.val (.int p1), .val (.int p2), .val (.int p3), .val (.int p4), .val (.int p5), .val (.int p6), .val (.int (Int32.ofNat sz)), .val (.int (Int32.ofNat n1)), .val (.int (Int32.ofNat n2)), .val (.int (Int32.ofNat n3)), .val (.int (Int32.ofNat np)), .val (.int (own_b tw)), .val (.int (own_b th)), .val (.ref b101), .val (.ref b108), .val (.ref b111), .val (.ref b113), .val (.int (1 : Int32)), .val (.int (own_b q1)), .val (own_w q1 (f np)), .unset, .unset, .unset, .unset] [(.int (own_b q1))])) _
        refine XS.ifNo X119.here hx rfl (hb hby at_295) rfl ((if0 _ _).trans (teq hc295).2) ?_
        show Steps p.tables e below (T119.setTop (mkF m 298 #[.val (.int p1), .val (.int p2), .val (.int p3), .val (.int p4), .val (.int p5), .val (.int p6), .val (.int (Int32.ofNat sz)), .val (.int (Int32.ofNat n1)), .val (.int (Int32.ofNat n2)), .val (.int (Int32.ofNat n3)), .val (.int (Int32.ofNat np)), .val (.int (own_b tw)), .val (.int (own_b th)), .val (.ref b101), .val (.ref b108), .val (.ref b111), .val (.ref b113), .val (.int (1 : Int32)), .val (.int (own_b q1)), .val (own_w q1 (f np)), .unset, .unset, .unset, .unset] [])) _
        refine XS.iload X119.here hx rfl (hb hby at_298) rfl ?_
        show Steps p.tables e below (T119.setTop (mkF m 300 #[.val (.int p1), .val (.int p2), .val (.int p3), .val (.int p4), .val (.int p5), .val (.int p6), .val (.int (Int32.ofNat sz)), .val (.int (Int32.ofNat n1)), .val (.int (Int32.ofNat n2)), .val (.int (Int32.ofNat n3)), .val (.int (Int32.ofNat np)), .val (.int (own_b tw)), .val (.int (own_b th)), .val (.ref b101), .val (.ref b108), .val (.ref b111), .val (.ref b113), .val (.int (1 : Int32)), .val (.int (own_b q1)), .val (own_w q1 (f np)), .unset, .unset, .unset, .unset] [(.int (own_b th))])) _
        refine XS.ifNo X119.here hx rfl (hb hby at_300) rfl ((if0 _ _).trans (feq hc300).1) ?_
        show Steps p.tables e below (T119.setTop (mkF m 303 #[.val (.int p1), .val (.int p2), .val (.int p3), .val (.int p4), .val (.int p5), .val (.int p6), .val (.int (Int32.ofNat sz)), .val (.int (Int32.ofNat n1)), .val (.int (Int32.ofNat n2)), .val (.int (Int32.ofNat n3)), .val (.int (Int32.ofNat np)), .val (.int (own_b tw)), .val (.int (own_b th)), .val (.ref b101), .val (.ref b108), .val (.ref b111), .val (.ref b113), .val (.int (1 : Int32)), .val (.int (own_b q1)), .val (own_w q1 (f np)), .unset, .unset, .unset, .unset] [])) _
        refine XS.iload X119.here hx rfl (hb hby at_303) rfl ?_
        show Steps p.tables e below (T119.setTop (mkF m 305 #[.val (.int p1), .val (.int p2), .val (.int p3), .val (.int p4), .val (.int p5), .val (.int p6), .val (.int (Int32.ofNat sz)), .val (.int (Int32.ofNat n1)), .val (.int (Int32.ofNat n2)), .val (.int (Int32.ofNat n3)), .val (.int (Int32.ofNat np)), .val (.int (own_b tw)), .val (.int (own_b th)), .val (.ref b101), .val (.ref b108), .val (.ref b111), .val (.ref b113), .val (.int (1 : Int32)), .val (.int (own_b q1)), .val (own_w q1 (f np)), .unset, .unset, .unset, .unset] [(.int (Int32.ofNat np))])) _
        refine XS.iload X119.here hx rfl (hb hby at_305) rfl ?_
        show Steps p.tables e below (T119.setTop (mkF m 307 #[.val (.int p1), .val (.int p2), .val (.int p3), .val (.int p4), .val (.int p5), .val (.int p6), .val (.int (Int32.ofNat sz)), .val (.int (Int32.ofNat n1)), .val (.int (Int32.ofNat n2)), .val (.int (Int32.ofNat n3)), .val (.int (Int32.ofNat np)), .val (.int (own_b tw)), .val (.int (own_b th)), .val (.ref b101), .val (.ref b108), .val (.ref b111), .val (.ref b113), .val (.int (1 : Int32)), .val (.int (own_b q1)), .val (own_w q1 (f np)), .unset, .unset, .unset, .unset] [(.int (Int32.ofNat n3)), (.int (Int32.ofNat np))])) _
        refine XS.icmpNo X119.here hx rfl (hb hby at_307) rfl (teq hc307).2 ?_
        show Steps p.tables e below (T119.setTop (mkF m 310 #[.val (.int p1), .val (.int p2), .val (.int p3), .val (.int p4), .val (.int p5), .val (.int p6), .val (.int (Int32.ofNat sz)), .val (.int (Int32.ofNat n1)), .val (.int (Int32.ofNat n2)), .val (.int (Int32.ofNat n3)), .val (.int (Int32.ofNat np)), .val (.int (own_b tw)), .val (.int (own_b th)), .val (.ref b101), .val (.ref b108), .val (.ref b111), .val (.ref b113), .val (.int (1 : Int32)), .val (.int (own_b q1)), .val (own_w q1 (f np)), .unset, .unset, .unset, .unset] [])) _
        refine XS.iconst X119.here hx rfl (hb hby at_310) ?_
        show Steps p.tables e below (T119.setTop (mkF m 311 #[.val (.int p1), .val (.int p2), .val (.int p3), .val (.int p4), .val (.int p5), .val (.int p6), .val (.int (Int32.ofNat sz)), .val (.int (Int32.ofNat n1)), .val (.int (Int32.ofNat n2)), .val (.int (Int32.ofNat n3)), .val (.int (Int32.ofNat np)), .val (.int (own_b tw)), .val (.int (own_b th)), .val (.ref b101), .val (.ref b108), .val (.ref b111), .val (.ref b113), .val (.int (1 : Int32)), .val (.int (own_b q1)), .val (own_w q1 (f np)), .unset, .unset, .unset, .unset] [(.int (1 : Int32))])) _
        refine XS.goto X119.here hx rfl (pc0 := 311) (pc' := 315) rfl (hb hby at_311) (by decide) (by decide) ?_
        show Steps p.tables e below (T119.setTop (mkF m 315 #[.val (.int p1), .val (.int p2), .val (.int p3), .val (.int p4), .val (.int p5), .val (.int p6), .val (.int (Int32.ofNat sz)), .val (.int (Int32.ofNat n1)), .val (.int (Int32.ofNat n2)), .val (.int (Int32.ofNat n3)), .val (.int (Int32.ofNat np)), .val (.int (own_b tw)), .val (.int (own_b th)), .val (.ref b101), .val (.ref b108), .val (.ref b111), .val (.ref b113), .val (.int (1 : Int32)), .val (.int (own_b q1)), .val (own_w q1 (f np)), .unset, .unset, .unset, .unset] [(.int (1 : Int32))])) _
        refine XS.istore X119.here hx rfl (hb hby at_315) rfl (l' := #[.val (.int p1), .val (.int p2), .val (.int p3), .val (.int p4), .val (.int p5), .val (.int p6), .val (.int (Int32.ofNat sz)), .val (.int (Int32.ofNat n1)), .val (.int (Int32.ofNat n2)), .val (.int (Int32.ofNat n3)), .val (.int (Int32.ofNat np)), .val (.int (own_b tw)), .val (.int (own_b th)), .val (.ref b101), .val (.ref b108), .val (.ref b111), .val (.ref b113), .val (.int (1 : Int32)), .val (.int (own_b q1)), .val (own_w q1 (f np)), .val (.int (1 : Int32)), .unset, .unset, .unset]) rfl ?_
        exact k)
      exact P50
  have Ar_b101 := Ao7
  have hin326 : ¬ ((Int32.ofNat np) < 0 ∨ co7.slots.size ≤ ((Int32.ofNat np)).toNatClampNeg) := by rw [zo7]; exact idx_in (by omega) (by decide)
  have hat326 : co7.slots[((Int32.ofNat np)).toNatClampNeg]? = some (f np) := by rw [own_clamp (by omega)]; exact fo7 _ (by omega)
  have P51 : ∀ t, Steps p.tables e below (T119.setTop (mkF m 333 #[.val (.int p1), .val (.int p2), .val (.int p3), .val (.int p4), .val (.int p5), .val (.int p6), .val (.int (Int32.ofNat sz)), .val (.int (Int32.ofNat n1)), .val (.int (Int32.ofNat n2)), .val (.int (Int32.ofNat n3)), .val (.int (Int32.ofNat np)), .val (.int (own_b tw)), .val (.int (own_b th)), .val (.ref b101), .val (.ref b108), .val (.ref b111), .val (.ref b113), .val (.int (1 : Int32)), .val (.int (own_b q1)), .val (own_w q1 (f np)), .val (.int (own_b q2)), .val (own_w q2 (f np)), .unset, .unset] [])) t → Steps p.tables e below (s₁.setTop (entryFrame m #[(.int p1), (.int p2), (.int p3), (.int p4), (.int p5), (.int p6)] maxLocals)) t := by
    rcases Bool.eq_false_or_eq_true q2 with z | z
    · rw [show own_w q2 (f np) = f np by rw [z]; rfl]
      have hc319 : ¬ (own_b q2 = (0 : Int32)) := by rw [z]; decide
      have P52 : ∀ t, Steps p.tables e below (T119.setTop (mkF m 333 #[.val (.int p1), .val (.int p2), .val (.int p3), .val (.int p4), .val (.int p5), .val (.int p6), .val (.int (Int32.ofNat sz)), .val (.int (Int32.ofNat n1)), .val (.int (Int32.ofNat n2)), .val (.int (Int32.ofNat n3)), .val (.int (Int32.ofNat np)), .val (.int (own_b tw)), .val (.int (own_b th)), .val (.ref b101), .val (.ref b108), .val (.ref b111), .val (.ref b113), .val (.int (1 : Int32)), .val (.int (own_b q1)), .val (own_w q1 (f np)), .val (.int (own_b q2)), .val (f np), .unset, .unset] [])) t → Steps p.tables e below (s₁.setTop (entryFrame m #[(.int p1), (.int p2), (.int p3), (.int p4), (.int p5), (.int p6)] maxLocals)) t := fun t k => P46 t (by
        show Steps p.tables e below (T119.setTop (mkF m 317 #[.val (.int p1), .val (.int p2), .val (.int p3), .val (.int p4), .val (.int p5), .val (.int p6), .val (.int (Int32.ofNat sz)), .val (.int (Int32.ofNat n1)), .val (.int (Int32.ofNat n2)), .val (.int (Int32.ofNat n3)), .val (.int (Int32.ofNat np)), .val (.int (own_b tw)), .val (.int (own_b th)), .val (.ref b101), .val (.ref b108), .val (.ref b111), .val (.ref b113), .val (.int (1 : Int32)), .val (.int (own_b q1)), .val (own_w q1 (f np)), .val (.int (own_b q2)), .unset, .unset, .unset] [])) _
        refine XS.iload X119.here hx rfl (hb hby at_317) rfl ?_
        show Steps p.tables e below (T119.setTop (mkF m 319 #[.val (.int p1), .val (.int p2), .val (.int p3), .val (.int p4), .val (.int p5), .val (.int p6), .val (.int (Int32.ofNat sz)), .val (.int (Int32.ofNat n1)), .val (.int (Int32.ofNat n2)), .val (.int (Int32.ofNat n3)), .val (.int (Int32.ofNat np)), .val (.int (own_b tw)), .val (.int (own_b th)), .val (.ref b101), .val (.ref b108), .val (.ref b111), .val (.ref b113), .val (.int (1 : Int32)), .val (.int (own_b q1)), .val (own_w q1 (f np)), .val (.int (own_b q2)), .unset, .unset, .unset] [(.int (own_b q2))])) _
        refine XS.ifNo X119.here hx rfl (hb hby at_319) rfl ((if0 _ _).trans (feq hc319).1) ?_
        show Steps p.tables e below (T119.setTop (mkF m 322 #[.val (.int p1), .val (.int p2), .val (.int p3), .val (.int p4), .val (.int p5), .val (.int p6), .val (.int (Int32.ofNat sz)), .val (.int (Int32.ofNat n1)), .val (.int (Int32.ofNat n2)), .val (.int (Int32.ofNat n3)), .val (.int (Int32.ofNat np)), .val (.int (own_b tw)), .val (.int (own_b th)), .val (.ref b101), .val (.ref b108), .val (.ref b111), .val (.ref b113), .val (.int (1 : Int32)), .val (.int (own_b q1)), .val (own_w q1 (f np)), .val (.int (own_b q2)), .unset, .unset, .unset] [])) _
        refine XS.aload X119.here hx rfl (hb hby at_322) rfl rfl ?_
        show Steps p.tables e below (T119.setTop (mkF m 324 #[.val (.int p1), .val (.int p2), .val (.int p3), .val (.int p4), .val (.int p5), .val (.int p6), .val (.int (Int32.ofNat sz)), .val (.int (Int32.ofNat n1)), .val (.int (Int32.ofNat n2)), .val (.int (Int32.ofNat n3)), .val (.int (Int32.ofNat np)), .val (.int (own_b tw)), .val (.int (own_b th)), .val (.ref b101), .val (.ref b108), .val (.ref b111), .val (.ref b113), .val (.int (1 : Int32)), .val (.int (own_b q1)), .val (own_w q1 (f np)), .val (.int (own_b q2)), .unset, .unset, .unset] [(.ref b101)])) _
        refine XS.iload X119.here hx rfl (hb hby at_324) rfl ?_
        show Steps p.tables e below (T119.setTop (mkF m 326 #[.val (.int p1), .val (.int p2), .val (.int p3), .val (.int p4), .val (.int p5), .val (.int p6), .val (.int (Int32.ofNat sz)), .val (.int (Int32.ofNat n1)), .val (.int (Int32.ofNat n2)), .val (.int (Int32.ofNat n3)), .val (.int (Int32.ofNat np)), .val (.int (own_b tw)), .val (.int (own_b th)), .val (.ref b101), .val (.ref b108), .val (.ref b111), .val (.ref b113), .val (.int (1 : Int32)), .val (.int (own_b q1)), .val (own_w q1 (f np)), .val (.int (own_b q2)), .unset, .unset, .unset] [(.int (Int32.ofNat np)), (.ref b101)])) _
        refine X119.aaload hx (j := (Int32.ofNat np)) (v := (f np)) (by exact Ar_b101.1) (State.isArrayOf_alike hZ.alike Ar_b101.2.1) rfl Ar_b101.2.2 hin326 hat326 (g := (mkF m 326 #[.val (.int p1), .val (.int p2), .val (.int p3), .val (.int p4), .val (.int p5), .val (.int p6), .val (.int (Int32.ofNat sz)), .val (.int (Int32.ofNat n1)), .val (.int (Int32.ofNat n2)), .val (.int (Int32.ofNat n3)), .val (.int (Int32.ofNat np)), .val (.int (own_b tw)), .val (.int (own_b th)), .val (.ref b101), .val (.ref b108), .val (.ref b111), .val (.ref b113), .val (.int (1 : Int32)), .val (.int (own_b q1)), .val (own_w q1 (f np)), .val (.int (own_b q2)), .unset, .unset, .unset] [(.int (Int32.ofNat np)), (.ref b101)])) rfl rfl (hb hby at_326) _ ?_
        show Steps p.tables e below (T119.setTop (mkF m 327 #[.val (.int p1), .val (.int p2), .val (.int p3), .val (.int p4), .val (.int p5), .val (.int p6), .val (.int (Int32.ofNat sz)), .val (.int (Int32.ofNat n1)), .val (.int (Int32.ofNat n2)), .val (.int (Int32.ofNat n3)), .val (.int (Int32.ofNat np)), .val (.int (own_b tw)), .val (.int (own_b th)), .val (.ref b101), .val (.ref b108), .val (.ref b111), .val (.ref b113), .val (.int (1 : Int32)), .val (.int (own_b q1)), .val (own_w q1 (f np)), .val (.int (own_b q2)), .unset, .unset, .unset] [(f np)])) _
        refine XS.goto X119.here hx rfl (pc0 := 327) (pc' := 331) rfl (hb hby at_327) (by decide) (by decide) ?_
        show Steps p.tables e below (T119.setTop (mkF m 331 #[.val (.int p1), .val (.int p2), .val (.int p3), .val (.int p4), .val (.int p5), .val (.int p6), .val (.int (Int32.ofNat sz)), .val (.int (Int32.ofNat n1)), .val (.int (Int32.ofNat n2)), .val (.int (Int32.ofNat n3)), .val (.int (Int32.ofNat np)), .val (.int (own_b tw)), .val (.int (own_b th)), .val (.ref b101), .val (.ref b108), .val (.ref b111), .val (.ref b113), .val (.int (1 : Int32)), .val (.int (own_b q1)), .val (own_w q1 (f np)), .val (.int (own_b q2)), .unset, .unset, .unset] [(f np)])) _
        refine XS.astore X119.here hx rfl (hb hby at_331) rfl (hfr np) (l' := #[.val (.int p1), .val (.int p2), .val (.int p3), .val (.int p4), .val (.int p5), .val (.int p6), .val (.int (Int32.ofNat sz)), .val (.int (Int32.ofNat n1)), .val (.int (Int32.ofNat n2)), .val (.int (Int32.ofNat n3)), .val (.int (Int32.ofNat np)), .val (.int (own_b tw)), .val (.int (own_b th)), .val (.ref b101), .val (.ref b108), .val (.ref b111), .val (.ref b113), .val (.int (1 : Int32)), .val (.int (own_b q1)), .val (own_w q1 (f np)), .val (.int (own_b q2)), .val (f np), .unset, .unset]) (by have hq := hfr np; generalize f np = z at hq ⊢; cases z <;> first | rfl | (simp [Value.isRef] at hq)) ?_
        exact k)
      exact P52
    · rw [show own_w q2 (f np) = .null by rw [z]; rfl]
      have hc319 : own_b q2 = (0 : Int32) := by rw [z]; rfl
      have P53 : ∀ t, Steps p.tables e below (T119.setTop (mkF m 333 #[.val (.int p1), .val (.int p2), .val (.int p3), .val (.int p4), .val (.int p5), .val (.int p6), .val (.int (Int32.ofNat sz)), .val (.int (Int32.ofNat n1)), .val (.int (Int32.ofNat n2)), .val (.int (Int32.ofNat n3)), .val (.int (Int32.ofNat np)), .val (.int (own_b tw)), .val (.int (own_b th)), .val (.ref b101), .val (.ref b108), .val (.ref b111), .val (.ref b113), .val (.int (1 : Int32)), .val (.int (own_b q1)), .val (own_w q1 (f np)), .val (.int (own_b q2)), .val .null, .unset, .unset] [])) t → Steps p.tables e below (s₁.setTop (entryFrame m #[(.int p1), (.int p2), (.int p3), (.int p4), (.int p5), (.int p6)] maxLocals)) t := fun t k => P46 t (by
        show Steps p.tables e below (T119.setTop (mkF m 317 #[.val (.int p1), .val (.int p2), .val (.int p3), .val (.int p4), .val (.int p5), .val (.int p6), .val (.int (Int32.ofNat sz)), .val (.int (Int32.ofNat n1)), .val (.int (Int32.ofNat n2)), .val (.int (Int32.ofNat n3)), .val (.int (Int32.ofNat np)), .val (.int (own_b tw)), .val (.int (own_b th)), .val (.ref b101), .val (.ref b108), .val (.ref b111), .val (.ref b113), .val (.int (1 : Int32)), .val (.int (own_b q1)), .val (own_w q1 (f np)), .val (.int (own_b q2)), .unset, .unset, .unset] [])) _
        refine XS.iload X119.here hx rfl (hb hby at_317) rfl ?_
        show Steps p.tables e below (T119.setTop (mkF m 319 #[.val (.int p1), .val (.int p2), .val (.int p3), .val (.int p4), .val (.int p5), .val (.int p6), .val (.int (Int32.ofNat sz)), .val (.int (Int32.ofNat n1)), .val (.int (Int32.ofNat n2)), .val (.int (Int32.ofNat n3)), .val (.int (Int32.ofNat np)), .val (.int (own_b tw)), .val (.int (own_b th)), .val (.ref b101), .val (.ref b108), .val (.ref b111), .val (.ref b113), .val (.int (1 : Int32)), .val (.int (own_b q1)), .val (own_w q1 (f np)), .val (.int (own_b q2)), .unset, .unset, .unset] [(.int (own_b q2))])) _
        refine XS.ifYes X119.here hx rfl (pc0 := 319) (pc' := 330) rfl (hb hby at_319) rfl ((if0 _ _).trans (teq hc319).1) (by decide) (by decide) ?_
        show Steps p.tables e below (T119.setTop (mkF m 330 #[.val (.int p1), .val (.int p2), .val (.int p3), .val (.int p4), .val (.int p5), .val (.int p6), .val (.int (Int32.ofNat sz)), .val (.int (Int32.ofNat n1)), .val (.int (Int32.ofNat n2)), .val (.int (Int32.ofNat n3)), .val (.int (Int32.ofNat np)), .val (.int (own_b tw)), .val (.int (own_b th)), .val (.ref b101), .val (.ref b108), .val (.ref b111), .val (.ref b113), .val (.int (1 : Int32)), .val (.int (own_b q1)), .val (own_w q1 (f np)), .val (.int (own_b q2)), .unset, .unset, .unset] [])) _
        refine XS.aconstNull X119.here hx rfl (hb hby at_330) ?_
        show Steps p.tables e below (T119.setTop (mkF m 331 #[.val (.int p1), .val (.int p2), .val (.int p3), .val (.int p4), .val (.int p5), .val (.int p6), .val (.int (Int32.ofNat sz)), .val (.int (Int32.ofNat n1)), .val (.int (Int32.ofNat n2)), .val (.int (Int32.ofNat n3)), .val (.int (Int32.ofNat np)), .val (.int (own_b tw)), .val (.int (own_b th)), .val (.ref b101), .val (.ref b108), .val (.ref b111), .val (.ref b113), .val (.int (1 : Int32)), .val (.int (own_b q1)), .val (own_w q1 (f np)), .val (.int (own_b q2)), .unset, .unset, .unset] [.null])) _
        refine XS.astore X119.here hx rfl (hb hby at_331) rfl rfl (l' := #[.val (.int p1), .val (.int p2), .val (.int p3), .val (.int p4), .val (.int p5), .val (.int p6), .val (.int (Int32.ofNat sz)), .val (.int (Int32.ofNat n1)), .val (.int (Int32.ofNat n2)), .val (.int (Int32.ofNat n3)), .val (.int (Int32.ofNat np)), .val (.int (own_b tw)), .val (.int (own_b th)), .val (.ref b101), .val (.ref b108), .val (.ref b111), .val (.ref b113), .val (.int (1 : Int32)), .val (.int (own_b q1)), .val (own_w q1 (f np)), .val (.int (own_b q2)), .val .null, .unset, .unset]) rfl ?_
        exact k)
      exact P53
  have hc335 : ¬ ((1 : Int32) = (0 : Int32)) := by decide
  obtain ⟨cq120, kq120, q120a, q120b, q120c⟩ := isOf hZ rfl hPs2.exa
  obtain ⟨_, _, ⟨T120, L120, k120, n120⟩, -, X120, ⟨Lc120, hQ120, l120, y120, z120⟩, st120⟩ := X119.virtualBack hx (y := (⟨"com/example/runner_bean/runnerbean/service/PublishedSingletons", "get", "(I)Ljava/lang/Object;"⟩ : MethodName)) (z := (⟨"com/example/runner_bean/runnerbean/service/PublishedSingletons", "get", "(I)Ljava/lang/Object;"⟩ : MethodName)) hown (mvT hZ (hw _ (List.mem_of_getElem? (i := 32) rfl))) (mvT hZ (hw _ (List.mem_of_getElem? (i := 33) rfl))) (notFace_of_selects (args := #[]) (mvT hZ (hw _ (List.mem_of_getElem? (i := 35) rfl)))) (mvT hZ (hw _ (List.mem_of_getElem? (i := 35) rfl))) (mvT hZ (hw _ (List.mem_of_getElem? (i := 34) rfl))) (by decide) (backOf (W := 0) (rm5 l Z a0 hw [] b113 (Int32.ofNat np) kc n Pf2 np T119.heap n0 hPs2.sz hn4 (ltn hp) rfl hPs2) hZ (hw _ (List.mem_of_getElem? (i := 36) rfl)) (hw _ (List.mem_of_getElem? (i := 14) rfl)) (by decide) (by decide)) q120a q120c (g := (mkF m 342 #[.val (.int p1), .val (.int p2), .val (.int p3), .val (.int p4), .val (.int p5), .val (.int p6), .val (.int (Int32.ofNat sz)), .val (.int (Int32.ofNat n1)), .val (.int (Int32.ofNat n2)), .val (.int (Int32.ofNat n3)), .val (.int (Int32.ofNat np)), .val (.int (own_b tw)), .val (.int (own_b th)), .val (.ref b101), .val (.ref b108), .val (.ref b111), .val (.ref b113), .val (.int (1 : Int32)), .val (.int (own_b q1)), .val (own_w q1 (f np)), .val (.int (own_b q2)), .val (own_w q2 (f np)), .unset, .unset] [(.int (Int32.ofNat np)), (.ref b113)])) rfl (by rw [hml]; rfl) (Steps.refl _) (argsL := [(.int (Int32.ofNat np))]) (rest := []) (lenOf pd_0_4 rfl) rfl (by show 2 * 0 + _ ≤ _; exact Nat.le_of_eq rfl) (hb hby at_342) (fun _ _ => ⟨rfl, rfl, (by exact Nat.le_of_ble_eq_true rfl), (by exact Nat.le_of_ble_eq_true rfl)⟩)
  dsimp only [Pt.U, Pt.locs, Pt.cells, Pt.slots] at X120 l120 y120 z120 st120 hQ120
  subst l120 y120 z120
  obtain ⟨rfl, N120q, eQ120⟩ := hQ120
  have N120 := Fr.app N119 N120q
  rw [vq2] at st120
  have P54 : ∀ t, Steps p.tables e below (T120.setTop (mkF m 357 #[.val (.int p1), .val (.int p2), .val (.int p3), .val (.int p4), .val (.int p5), .val (.int p6), .val (.int (Int32.ofNat sz)), .val (.int (Int32.ofNat n1)), .val (.int (Int32.ofNat n2)), .val (.int (Int32.ofNat n3)), .val (.int (Int32.ofNat np)), .val (.int (own_b tw)), .val (.int (own_b th)), .val (.ref b101), .val (.ref b108), .val (.ref b111), .val (.ref b113), .val (.int (1 : Int32)), .val (.int (own_b q1)), .val (own_w q1 (f np)), .val (.int (own_b q2)), .val (own_w q2 (f np)), .unset, .unset] [])) t → Steps p.tables e below (s₁.setTop (entryFrame m #[(.int p1), (.int p2), (.int p3), (.int p4), (.int p5), (.int p6)] maxLocals)) t := fun t k => P51 t (by
    show Steps p.tables e below (T119.setTop (mkF m 333 #[.val (.int p1), .val (.int p2), .val (.int p3), .val (.int p4), .val (.int p5), .val (.int p6), .val (.int (Int32.ofNat sz)), .val (.int (Int32.ofNat n1)), .val (.int (Int32.ofNat n2)), .val (.int (Int32.ofNat n3)), .val (.int (Int32.ofNat np)), .val (.int (own_b tw)), .val (.int (own_b th)), .val (.ref b101), .val (.ref b108), .val (.ref b111), .val (.ref b113), .val (.int (1 : Int32)), .val (.int (own_b q1)), .val (own_w q1 (f np)), .val (.int (own_b q2)), .val (own_w q2 (f np)), .unset, .unset] [])) _
    refine XS.iload X119.here hx rfl (hb hby at_333) rfl ?_
    show Steps p.tables e below (T119.setTop (mkF m 335 #[.val (.int p1), .val (.int p2), .val (.int p3), .val (.int p4), .val (.int p5), .val (.int p6), .val (.int (Int32.ofNat sz)), .val (.int (Int32.ofNat n1)), .val (.int (Int32.ofNat n2)), .val (.int (Int32.ofNat n3)), .val (.int (Int32.ofNat np)), .val (.int (own_b tw)), .val (.int (own_b th)), .val (.ref b101), .val (.ref b108), .val (.ref b111), .val (.ref b113), .val (.int (1 : Int32)), .val (.int (own_b q1)), .val (own_w q1 (f np)), .val (.int (own_b q2)), .val (own_w q2 (f np)), .unset, .unset] [(.int (1 : Int32))])) _
    refine XS.ifNo X119.here hx rfl (hb hby at_335) rfl ((if0 _ _).trans (feq hc335).1) ?_
    show Steps p.tables e below (T119.setTop (mkF m 338 #[.val (.int p1), .val (.int p2), .val (.int p3), .val (.int p4), .val (.int p5), .val (.int p6), .val (.int (Int32.ofNat sz)), .val (.int (Int32.ofNat n1)), .val (.int (Int32.ofNat n2)), .val (.int (Int32.ofNat n3)), .val (.int (Int32.ofNat np)), .val (.int (own_b tw)), .val (.int (own_b th)), .val (.ref b101), .val (.ref b108), .val (.ref b111), .val (.ref b113), .val (.int (1 : Int32)), .val (.int (own_b q1)), .val (own_w q1 (f np)), .val (.int (own_b q2)), .val (own_w q2 (f np)), .unset, .unset] [])) _
    refine XS.aload X119.here hx rfl (hb hby at_338) rfl rfl ?_
    show Steps p.tables e below (T119.setTop (mkF m 340 #[.val (.int p1), .val (.int p2), .val (.int p3), .val (.int p4), .val (.int p5), .val (.int p6), .val (.int (Int32.ofNat sz)), .val (.int (Int32.ofNat n1)), .val (.int (Int32.ofNat n2)), .val (.int (Int32.ofNat n3)), .val (.int (Int32.ofNat np)), .val (.int (own_b tw)), .val (.int (own_b th)), .val (.ref b101), .val (.ref b108), .val (.ref b111), .val (.ref b113), .val (.int (1 : Int32)), .val (.int (own_b q1)), .val (own_w q1 (f np)), .val (.int (own_b q2)), .val (own_w q2 (f np)), .unset, .unset] [(.ref b113)])) _
    refine XS.iload X119.here hx rfl (hb hby at_340) rfl ?_
    show Steps p.tables e below (T119.setTop (mkF m 342 #[.val (.int p1), .val (.int p2), .val (.int p3), .val (.int p4), .val (.int p5), .val (.int p6), .val (.int (Int32.ofNat sz)), .val (.int (Int32.ofNat n1)), .val (.int (Int32.ofNat n2)), .val (.int (Int32.ofNat n3)), .val (.int (Int32.ofNat np)), .val (.int (own_b tw)), .val (.int (own_b th)), .val (.ref b101), .val (.ref b108), .val (.ref b111), .val (.ref b113), .val (.int (1 : Int32)), .val (.int (own_b q1)), .val (own_w q1 (f np)), .val (.int (own_b q2)), .val (own_w q2 (f np)), .unset, .unset] [(.int (Int32.ofNat np)), (.ref b113)])) _
    refine st120.trans ?_
    show Steps p.tables e below (T120.setTop (mkF m 345 #[.val (.int p1), .val (.int p2), .val (.int p3), .val (.int p4), .val (.int p5), .val (.int p6), .val (.int (Int32.ofNat sz)), .val (.int (Int32.ofNat n1)), .val (.int (Int32.ofNat n2)), .val (.int (Int32.ofNat n3)), .val (.int (Int32.ofNat np)), .val (.int (own_b tw)), .val (.int (own_b th)), .val (.ref b101), .val (.ref b108), .val (.ref b111), .val (.ref b113), .val (.int (1 : Int32)), .val (.int (own_b q1)), .val (own_w q1 (f np)), .val (.int (own_b q2)), .val (own_w q2 (f np)), .unset, .unset] [(own_w q2 (f np))])) _
    refine XS.aload X120.here hx rfl (hb hby at_345) rfl (own_w_ref (hfr _)) ?_
    show Steps p.tables e below (T120.setTop (mkF m 347 #[.val (.int p1), .val (.int p2), .val (.int p3), .val (.int p4), .val (.int p5), .val (.int p6), .val (.int (Int32.ofNat sz)), .val (.int (Int32.ofNat n1)), .val (.int (Int32.ofNat n2)), .val (.int (Int32.ofNat n3)), .val (.int (Int32.ofNat np)), .val (.int (own_b tw)), .val (.int (own_b th)), .val (.ref b101), .val (.ref b108), .val (.ref b111), .val (.ref b113), .val (.int (1 : Int32)), .val (.int (own_b q1)), .val (own_w q1 (f np)), .val (.int (own_b q2)), .val (own_w q2 (f np)), .unset, .unset] [(own_w q2 (f np)), (own_w q2 (f np))])) _
    refine Jvm.RoadKit.acmp (g := (mkF m 347 #[.val (.int p1), .val (.int p2), .val (.int p3), .val (.int p4), .val (.int p5), .val (.int p6), .val (.int (Int32.ofNat sz)), .val (.int (Int32.ofNat n1)), .val (.int (Int32.ofNat n2)), .val (.int (Int32.ofNat n3)), .val (.int (Int32.ofNat np)), .val (.int (own_b tw)), .val (.int (own_b th)), .val (.ref b101), .val (.ref b108), .val (.ref b111), .val (.ref b113), .val (.int (1 : Int32)), .val (.int (own_b q1)), .val (own_w q1 (f np)), .val (.int (own_b q2)), .val (own_w q2 (f np)), .unset, .unset] [(own_w q2 (f np)), (own_w q2 (f np))])) X120 hx rfl (own_w_ref (hfr _)) (own_w_ref (hfr _)) (pc0 := 347) (pc' := 350) (same := true) rfl (hb hby at_347) rfl (decide_eq_true rfl) (by decide) (by decide) ?_
    show Steps p.tables e below (T120.setTop (mkF m 350 #[.val (.int p1), .val (.int p2), .val (.int p3), .val (.int p4), .val (.int p5), .val (.int p6), .val (.int (Int32.ofNat sz)), .val (.int (Int32.ofNat n1)), .val (.int (Int32.ofNat n2)), .val (.int (Int32.ofNat n3)), .val (.int (Int32.ofNat np)), .val (.int (own_b tw)), .val (.int (own_b th)), .val (.ref b101), .val (.ref b108), .val (.ref b111), .val (.ref b113), .val (.int (1 : Int32)), .val (.int (own_b q1)), .val (own_w q1 (f np)), .val (.int (own_b q2)), .val (own_w q2 (f np)), .unset, .unset] [])) _
    refine XS.iconst X120.here hx rfl (hb hby at_350) ?_
    show Steps p.tables e below (T120.setTop (mkF m 351 #[.val (.int p1), .val (.int p2), .val (.int p3), .val (.int p4), .val (.int p5), .val (.int p6), .val (.int (Int32.ofNat sz)), .val (.int (Int32.ofNat n1)), .val (.int (Int32.ofNat n2)), .val (.int (Int32.ofNat n3)), .val (.int (Int32.ofNat np)), .val (.int (own_b tw)), .val (.int (own_b th)), .val (.ref b101), .val (.ref b108), .val (.ref b111), .val (.ref b113), .val (.int (1 : Int32)), .val (.int (own_b q1)), .val (own_w q1 (f np)), .val (.int (own_b q2)), .val (own_w q2 (f np)), .unset, .unset] [(.int (1 : Int32))])) _
    refine XS.goto X120.here hx rfl (pc0 := 351) (pc' := 355) rfl (hb hby at_351) (by decide) (by decide) ?_
    show Steps p.tables e below (T120.setTop (mkF m 355 #[.val (.int p1), .val (.int p2), .val (.int p3), .val (.int p4), .val (.int p5), .val (.int p6), .val (.int (Int32.ofNat sz)), .val (.int (Int32.ofNat n1)), .val (.int (Int32.ofNat n2)), .val (.int (Int32.ofNat n3)), .val (.int (Int32.ofNat np)), .val (.int (own_b tw)), .val (.int (own_b th)), .val (.ref b101), .val (.ref b108), .val (.ref b111), .val (.ref b113), .val (.int (1 : Int32)), .val (.int (own_b q1)), .val (own_w q1 (f np)), .val (.int (own_b q2)), .val (own_w q2 (f np)), .unset, .unset] [(.int (1 : Int32))])) _
    refine XS.istore X120.here hx rfl (hb hby at_355) rfl (l' := #[.val (.int p1), .val (.int p2), .val (.int p3), .val (.int p4), .val (.int p5), .val (.int p6), .val (.int (Int32.ofNat sz)), .val (.int (Int32.ofNat n1)), .val (.int (Int32.ofNat n2)), .val (.int (Int32.ofNat n3)), .val (.int (Int32.ofNat np)), .val (.int (own_b tw)), .val (.int (own_b th)), .val (.ref b101), .val (.ref b108), .val (.ref b111), .val (.ref b113), .val (.int (1 : Int32)), .val (.int (own_b q1)), .val (own_w q1 (f np)), .val (.int (own_b q2)), .val (own_w q2 (f np)), .unset, .unset]) rfl ?_
    exact k)
  have P55 : ∀ t, Steps p.tables e below (T120.setTop (mkF m 388 #[.val (.int p1), .val (.int p2), .val (.int p3), .val (.int p4), .val (.int p5), .val (.int p6), .val (.int (Int32.ofNat sz)), .val (.int (Int32.ofNat n1)), .val (.int (Int32.ofNat n2)), .val (.int (Int32.ofNat n3)), .val (.int (Int32.ofNat np)), .val (.int (own_b tw)), .val (.int (own_b th)), .val (.ref b101), .val (.ref b108), .val (.ref b111), .val (.ref b113), .val (.int (1 : Int32)), .val (.int (own_b q1)), .val (own_w q1 (f np)), .val (.int (own_b q2)), .val (own_w q2 (f np)), .val (.int (own_b q3)), .unset] [])) t → Steps p.tables e below (s₁.setTop (entryFrame m #[(.int p1), (.int p2), (.int p3), (.int p4), (.int p5), (.int p6)] maxLocals)) t := by
    rcases own_five th (n3 = n1) (n3 = n2) tw with a0' | ⟨a0', a⟩ | ⟨a0', a, t⟩ | ⟨a0', a, t, b⟩ | ⟨a0', a, t, b⟩
    · have z : q3 = true := by rw [hq3]; simp [a0']
      rw [z]
      have hc359 : ¬ (own_b th = (0 : Int32)) := by rw [a0']; decide
      have P56 : ∀ t, Steps p.tables e below (T120.setTop (mkF m 388 #[.val (.int p1), .val (.int p2), .val (.int p3), .val (.int p4), .val (.int p5), .val (.int p6), .val (.int (Int32.ofNat sz)), .val (.int (Int32.ofNat n1)), .val (.int (Int32.ofNat n2)), .val (.int (Int32.ofNat n3)), .val (.int (Int32.ofNat np)), .val (.int (own_b tw)), .val (.int (own_b th)), .val (.ref b101), .val (.ref b108), .val (.ref b111), .val (.ref b113), .val (.int (1 : Int32)), .val (.int (own_b q1)), .val (own_w q1 (f np)), .val (.int (own_b q2)), .val (own_w q2 (f np)), .val (.int (1 : Int32)), .unset] [])) t → Steps p.tables e below (s₁.setTop (entryFrame m #[(.int p1), (.int p2), (.int p3), (.int p4), (.int p5), (.int p6)] maxLocals)) t := fun t k => P54 t (by
        show Steps p.tables e below (T120.setTop (mkF m 357 #[.val (.int p1), .val (.int p2), .val (.int p3), .val (.int p4), .val (.int p5), .val (.int p6), .val (.int (Int32.ofNat sz)), .val (.int (Int32.ofNat n1)), .val (.int (Int32.ofNat n2)), .val (.int (Int32.ofNat n3)), .val (.int (Int32.ofNat np)), .val (.int (own_b tw)), .val (.int (own_b th)), .val (.ref b101), .val (.ref b108), .val (.ref b111), .val (.ref b113), .val (.int (1 : Int32)), .val (.int (own_b q1)), .val (own_w q1 (f np)), .val (.int (own_b q2)), .val (own_w q2 (f np)), .unset, .unset] [])) _
        refine XS.iload X120.here hx rfl (hb hby at_357) rfl ?_
        show Steps p.tables e below (T120.setTop (mkF m 359 #[.val (.int p1), .val (.int p2), .val (.int p3), .val (.int p4), .val (.int p5), .val (.int p6), .val (.int (Int32.ofNat sz)), .val (.int (Int32.ofNat n1)), .val (.int (Int32.ofNat n2)), .val (.int (Int32.ofNat n3)), .val (.int (Int32.ofNat np)), .val (.int (own_b tw)), .val (.int (own_b th)), .val (.ref b101), .val (.ref b108), .val (.ref b111), .val (.ref b113), .val (.int (1 : Int32)), .val (.int (own_b q1)), .val (own_w q1 (f np)), .val (.int (own_b q2)), .val (own_w q2 (f np)), .unset, .unset] [(.int (own_b th))])) _
        refine XS.ifYes X120.here hx rfl (pc0 := 359) (pc' := 381) rfl (hb hby at_359) rfl ((if0 _ _).trans (feq hc359).2) (by decide) (by decide) ?_
        show Steps p.tables e below (T120.setTop (mkF m 381 #[.val (.int p1), .val (.int p2), .val (.int p3), .val (.int p4), .val (.int p5), .val (.int p6), .val (.int (Int32.ofNat sz)), .val (.int (Int32.ofNat n1)), .val (.int (Int32.ofNat n2)), .val (.int (Int32.ofNat n3)), .val (.int (Int32.ofNat np)), .val (.int (own_b tw)), .val (.int (own_b th)), .val (.ref b101), .val (.ref b108), .val (.ref b111), .val (.ref b113), .val (.int (1 : Int32)), .val (.int (own_b q1)), .val (own_w q1 (f np)), .val (.int (own_b q2)), .val (own_w q2 (f np)), .unset, .unset] [])) _
        refine XS.iconst X120.here hx rfl (hb hby at_381) ?_
        show Steps p.tables e below (T120.setTop (mkF m 382 #[.val (.int p1), .val (.int p2), .val (.int p3), .val (.int p4), .val (.int p5), .val (.int p6), .val (.int (Int32.ofNat sz)), .val (.int (Int32.ofNat n1)), .val (.int (Int32.ofNat n2)), .val (.int (Int32.ofNat n3)), .val (.int (Int32.ofNat np)), .val (.int (own_b tw)), .val (.int (own_b th)), .val (.ref b101), .val (.ref b108), .val (.ref b111), .val (.ref b113), .val (.int (1 : Int32)), .val (.int (own_b q1)), .val (own_w q1 (f np)), .val (.int (own_b q2)), .val (own_w q2 (f np)), .unset, .unset] [(.int (1 : Int32))])) _
        refine XS.goto X120.here hx rfl (pc0 := 382) (pc' := 386) rfl (hb hby at_382) (by decide) (by decide) ?_
        show Steps p.tables e below (T120.setTop (mkF m 386 #[.val (.int p1), .val (.int p2), .val (.int p3), .val (.int p4), .val (.int p5), .val (.int p6), .val (.int (Int32.ofNat sz)), .val (.int (Int32.ofNat n1)), .val (.int (Int32.ofNat n2)), .val (.int (Int32.ofNat n3)), .val (.int (Int32.ofNat np)), .val (.int (own_b tw)), .val (.int (own_b th)), .val (.ref b101), .val (.ref b108), .val (.ref b111), .val (.ref b113), .val (.int (1 : Int32)), .val (.int (own_b q1)), .val (own_w q1 (f np)), .val (.int (own_b q2)), .val (own_w q2 (f np)), .unset, .unset] [(.int (1 : Int32))])) _
        refine XS.istore X120.here hx rfl (hb hby at_386) rfl (l' := #[.val (.int p1), .val (.int p2), .val (.int p3), .val (.int p4), .val (.int p5), .val (.int p6), .val (.int (Int32.ofNat sz)), .val (.int (Int32.ofNat n1)), .val (.int (Int32.ofNat n2)), .val (.int (Int32.ofNat n3)), .val (.int (Int32.ofNat np)), .val (.int (own_b tw)), .val (.int (own_b th)), .val (.ref b101), .val (.ref b108), .val (.ref b111), .val (.ref b113), .val (.int (1 : Int32)), .val (.int (own_b q1)), .val (own_w q1 (f np)), .val (.int (own_b q2)), .val (own_w q2 (f np)), .val (.int (1 : Int32)), .unset]) rfl ?_
        exact k)
      exact P56
    · have z : q3 = true := by rw [hq3]; simp [own_pub, a]
      rw [z]
      have hc359 : own_b th = (0 : Int32) := by rw [a0']; rfl
      have hc366 : (Int32.ofNat n3) = (Int32.ofNat n1) := by rw [a]
      have P57 : ∀ t, Steps p.tables e below (T120.setTop (mkF m 388 #[.val (.int p1), .val (.int p2), .val (.int p3), .val (.int p4), .val (.int p5), .val (.int p6), .val (.int (Int32.ofNat sz)), .val (.int (Int32.ofNat n1)), .val (.int (Int32.ofNat n2)), .val (.int (Int32.ofNat n3)), .val (.int (Int32.ofNat np)), .val (.int (own_b tw)), .val (.int (own_b th)), .val (.ref b101), .val (.ref b108), .val (.ref b111), .val (.ref b113), .val (.int (1 : Int32)), .val (.int (own_b q1)), .val (own_w q1 (f np)), .val (.int (own_b q2)), .val (own_w q2 (f np)), .val (.int (1 : Int32)), .unset] [])) t → Steps p.tables e below (s₁.setTop (entryFrame m #[(.int p1), (.int p2), (.int p3), (.int p4), (.int p5), (.int p6)] maxLocals)) t := fun t k => P54 t (by
        show Steps p.tables e below (T120.setTop (mkF m 357 #[.val (.int p1), .val (.int p2), .val (.int p3), .val (.int p4), .val (.int p5), .val (.int p6), .val (.int (Int32.ofNat sz)), .val (.int (Int32.ofNat n1)), .val (.int (Int32.ofNat n2)), .val (.int (Int32.ofNat n3)), .val (.int (Int32.ofNat np)), .val (.int (own_b tw)), .val (.int (own_b th)), .val (.ref b101), .val (.ref b108), .val (.ref b111), .val (.ref b113), .val (.int (1 : Int32)), .val (.int (own_b q1)), .val (own_w q1 (f np)), .val (.int (own_b q2)), .val (own_w q2 (f np)), .unset, .unset] [])) _
        refine XS.iload X120.here hx rfl (hb hby at_357) rfl ?_
        show Steps p.tables e below (T120.setTop (mkF m 359 #[.val (.int p1), .val (.int p2), .val (.int p3), .val (.int p4), .val (.int p5), .val (.int p6), .val (.int (Int32.ofNat sz)), .val (.int (Int32.ofNat n1)), .val (.int (Int32.ofNat n2)), .val (.int (Int32.ofNat n3)), .val (.int (Int32.ofNat np)), .val (.int (own_b tw)), .val (.int (own_b th)), .val (.ref b101), .val (.ref b108), .val (.ref b111), .val (.ref b113), .val (.int (1 : Int32)), .val (.int (own_b q1)), .val (own_w q1 (f np)), .val (.int (own_b q2)), .val (own_w q2 (f np)), .unset, .unset] [(.int (own_b th))])) _
        refine XS.ifNo X120.here hx rfl (hb hby at_359) rfl ((if0 _ _).trans (teq hc359).2) ?_
        show Steps p.tables e below (T120.setTop (mkF m 362 #[.val (.int p1), .val (.int p2), .val (.int p3), .val (.int p4), .val (.int p5), .val (.int p6), .val (.int (Int32.ofNat sz)), .val (.int (Int32.ofNat n1)), .val (.int (Int32.ofNat n2)), .val (.int (Int32.ofNat n3)), .val (.int (Int32.ofNat np)), .val (.int (own_b tw)), .val (.int (own_b th)), .val (.ref b101), .val (.ref b108), .val (.ref b111), .val (.ref b113), .val (.int (1 : Int32)), .val (.int (own_b q1)), .val (own_w q1 (f np)), .val (.int (own_b q2)), .val (own_w q2 (f np)), .unset, .unset] [])) _
        refine XS.iload X120.here hx rfl (hb hby at_362) rfl ?_
        show Steps p.tables e below (T120.setTop (mkF m 364 #[.val (.int p1), .val (.int p2), .val (.int p3), .val (.int p4), .val (.int p5), .val (.int p6), .val (.int (Int32.ofNat sz)), .val (.int (Int32.ofNat n1)), .val (.int (Int32.ofNat n2)), .val (.int (Int32.ofNat n3)), .val (.int (Int32.ofNat np)), .val (.int (own_b tw)), .val (.int (own_b th)), .val (.ref b101), .val (.ref b108), .val (.ref b111), .val (.ref b113), .val (.int (1 : Int32)), .val (.int (own_b q1)), .val (own_w q1 (f np)), .val (.int (own_b q2)), .val (own_w q2 (f np)), .unset, .unset] [(.int (Int32.ofNat n3))])) _
        refine XS.iload X120.here hx rfl (hb hby at_364) rfl ?_
        show Steps p.tables e below (T120.setTop (mkF m 366 #[.val (.int p1), .val (.int p2), .val (.int p3), .val (.int p4), .val (.int p5), .val (.int p6), .val (.int (Int32.ofNat sz)), .val (.int (Int32.ofNat n1)), .val (.int (Int32.ofNat n2)), .val (.int (Int32.ofNat n3)), .val (.int (Int32.ofNat np)), .val (.int (own_b tw)), .val (.int (own_b th)), .val (.ref b101), .val (.ref b108), .val (.ref b111), .val (.ref b113), .val (.int (1 : Int32)), .val (.int (own_b q1)), .val (own_w q1 (f np)), .val (.int (own_b q2)), .val (own_w q2 (f np)), .unset, .unset] [(.int (Int32.ofNat n1)), (.int (Int32.ofNat n3))])) _
        refine XS.icmpYes X120.here hx rfl (pc0 := 366) (pc' := 381) rfl (hb hby at_366) rfl (teq hc366).1 (by decide) (by decide) ?_
        show Steps p.tables e below (T120.setTop (mkF m 381 #[.val (.int p1), .val (.int p2), .val (.int p3), .val (.int p4), .val (.int p5), .val (.int p6), .val (.int (Int32.ofNat sz)), .val (.int (Int32.ofNat n1)), .val (.int (Int32.ofNat n2)), .val (.int (Int32.ofNat n3)), .val (.int (Int32.ofNat np)), .val (.int (own_b tw)), .val (.int (own_b th)), .val (.ref b101), .val (.ref b108), .val (.ref b111), .val (.ref b113), .val (.int (1 : Int32)), .val (.int (own_b q1)), .val (own_w q1 (f np)), .val (.int (own_b q2)), .val (own_w q2 (f np)), .unset, .unset] [])) _
        refine XS.iconst X120.here hx rfl (hb hby at_381) ?_
        show Steps p.tables e below (T120.setTop (mkF m 382 #[.val (.int p1), .val (.int p2), .val (.int p3), .val (.int p4), .val (.int p5), .val (.int p6), .val (.int (Int32.ofNat sz)), .val (.int (Int32.ofNat n1)), .val (.int (Int32.ofNat n2)), .val (.int (Int32.ofNat n3)), .val (.int (Int32.ofNat np)), .val (.int (own_b tw)), .val (.int (own_b th)), .val (.ref b101), .val (.ref b108), .val (.ref b111), .val (.ref b113), .val (.int (1 : Int32)), .val (.int (own_b q1)), .val (own_w q1 (f np)), .val (.int (own_b q2)), .val (own_w q2 (f np)), .unset, .unset] [(.int (1 : Int32))])) _
        refine XS.goto X120.here hx rfl (pc0 := 382) (pc' := 386) rfl (hb hby at_382) (by decide) (by decide) ?_
        show Steps p.tables e below (T120.setTop (mkF m 386 #[.val (.int p1), .val (.int p2), .val (.int p3), .val (.int p4), .val (.int p5), .val (.int p6), .val (.int (Int32.ofNat sz)), .val (.int (Int32.ofNat n1)), .val (.int (Int32.ofNat n2)), .val (.int (Int32.ofNat n3)), .val (.int (Int32.ofNat np)), .val (.int (own_b tw)), .val (.int (own_b th)), .val (.ref b101), .val (.ref b108), .val (.ref b111), .val (.ref b113), .val (.int (1 : Int32)), .val (.int (own_b q1)), .val (own_w q1 (f np)), .val (.int (own_b q2)), .val (own_w q2 (f np)), .unset, .unset] [(.int (1 : Int32))])) _
        refine XS.istore X120.here hx rfl (hb hby at_386) rfl (l' := #[.val (.int p1), .val (.int p2), .val (.int p3), .val (.int p4), .val (.int p5), .val (.int p6), .val (.int (Int32.ofNat sz)), .val (.int (Int32.ofNat n1)), .val (.int (Int32.ofNat n2)), .val (.int (Int32.ofNat n3)), .val (.int (Int32.ofNat np)), .val (.int (own_b tw)), .val (.int (own_b th)), .val (.ref b101), .val (.ref b108), .val (.ref b111), .val (.ref b113), .val (.int (1 : Int32)), .val (.int (own_b q1)), .val (own_w q1 (f np)), .val (.int (own_b q2)), .val (own_w q2 (f np)), .val (.int (1 : Int32)), .unset]) rfl ?_
        exact k)
      exact P57
    · have z : q3 = false := by rw [hq3]; simp [own_pub, a0', a, t]
      rw [z]
      have hc359 : own_b th = (0 : Int32) := by rw [a0']; rfl
      have hc366 : ¬ ((Int32.ofNat n3) = (Int32.ofNat n1)) := fun q => a (own_injI (by omega) (by omega) q)
      have hc371 : own_b tw = (0 : Int32) := by rw [t]; rfl
      have P58 : ∀ t, Steps p.tables e below (T120.setTop (mkF m 388 #[.val (.int p1), .val (.int p2), .val (.int p3), .val (.int p4), .val (.int p5), .val (.int p6), .val (.int (Int32.ofNat sz)), .val (.int (Int32.ofNat n1)), .val (.int (Int32.ofNat n2)), .val (.int (Int32.ofNat n3)), .val (.int (Int32.ofNat np)), .val (.int (own_b tw)), .val (.int (own_b th)), .val (.ref b101), .val (.ref b108), .val (.ref b111), .val (.ref b113), .val (.int (1 : Int32)), .val (.int (own_b q1)), .val (own_w q1 (f np)), .val (.int (own_b q2)), .val (own_w q2 (f np)), .val (.int (0 : Int32)), .unset] [])) t → Steps p.tables e below (s₁.setTop (entryFrame m #[(.int p1), (.int p2), (.int p3), (.int p4), (.int p5), (.int p6)] maxLocals)) t := fun t k => P54 t (by
        show Steps p.tables e below (T120.setTop (mkF m 357 #[.val (.int p1), .val (.int p2), .val (.int p3), .val (.int p4), .val (.int p5), .val (.int p6), .val (.int (Int32.ofNat sz)), .val (.int (Int32.ofNat n1)), .val (.int (Int32.ofNat n2)), .val (.int (Int32.ofNat n3)), .val (.int (Int32.ofNat np)), .val (.int (own_b tw)), .val (.int (own_b th)), .val (.ref b101), .val (.ref b108), .val (.ref b111), .val (.ref b113), .val (.int (1 : Int32)), .val (.int (own_b q1)), .val (own_w q1 (f np)), .val (.int (own_b q2)), .val (own_w q2 (f np)), .unset, .unset] [])) _
        refine XS.iload X120.here hx rfl (hb hby at_357) rfl ?_
        show Steps p.tables e below (T120.setTop (mkF m 359 #[.val (.int p1), .val (.int p2), .val (.int p3), .val (.int p4), .val (.int p5), .val (.int p6), .val (.int (Int32.ofNat sz)), .val (.int (Int32.ofNat n1)), .val (.int (Int32.ofNat n2)), .val (.int (Int32.ofNat n3)), .val (.int (Int32.ofNat np)), .val (.int (own_b tw)), .val (.int (own_b th)), .val (.ref b101), .val (.ref b108), .val (.ref b111), .val (.ref b113), .val (.int (1 : Int32)), .val (.int (own_b q1)), .val (own_w q1 (f np)), .val (.int (own_b q2)), .val (own_w q2 (f np)), .unset, .unset] [(.int (own_b th))])) _
        refine XS.ifNo X120.here hx rfl (hb hby at_359) rfl ((if0 _ _).trans (teq hc359).2) ?_
        show Steps p.tables e below (T120.setTop (mkF m 362 #[.val (.int p1), .val (.int p2), .val (.int p3), .val (.int p4), .val (.int p5), .val (.int p6), .val (.int (Int32.ofNat sz)), .val (.int (Int32.ofNat n1)), .val (.int (Int32.ofNat n2)), .val (.int (Int32.ofNat n3)), .val (.int (Int32.ofNat np)), .val (.int (own_b tw)), .val (.int (own_b th)), .val (.ref b101), .val (.ref b108), .val (.ref b111), .val (.ref b113), .val (.int (1 : Int32)), .val (.int (own_b q1)), .val (own_w q1 (f np)), .val (.int (own_b q2)), .val (own_w q2 (f np)), .unset, .unset] [])) _
        refine XS.iload X120.here hx rfl (hb hby at_362) rfl ?_
        show Steps p.tables e below (T120.setTop (mkF m 364 #[.val (.int p1), .val (.int p2), .val (.int p3), .val (.int p4), .val (.int p5), .val (.int p6), .val (.int (Int32.ofNat sz)), .val (.int (Int32.ofNat n1)), .val (.int (Int32.ofNat n2)), .val (.int (Int32.ofNat n3)), .val (.int (Int32.ofNat np)), .val (.int (own_b tw)), .val (.int (own_b th)), .val (.ref b101), .val (.ref b108), .val (.ref b111), .val (.ref b113), .val (.int (1 : Int32)), .val (.int (own_b q1)), .val (own_w q1 (f np)), .val (.int (own_b q2)), .val (own_w q2 (f np)), .unset, .unset] [(.int (Int32.ofNat n3))])) _
        refine XS.iload X120.here hx rfl (hb hby at_364) rfl ?_
        show Steps p.tables e below (T120.setTop (mkF m 366 #[.val (.int p1), .val (.int p2), .val (.int p3), .val (.int p4), .val (.int p5), .val (.int p6), .val (.int (Int32.ofNat sz)), .val (.int (Int32.ofNat n1)), .val (.int (Int32.ofNat n2)), .val (.int (Int32.ofNat n3)), .val (.int (Int32.ofNat np)), .val (.int (own_b tw)), .val (.int (own_b th)), .val (.ref b101), .val (.ref b108), .val (.ref b111), .val (.ref b113), .val (.int (1 : Int32)), .val (.int (own_b q1)), .val (own_w q1 (f np)), .val (.int (own_b q2)), .val (own_w q2 (f np)), .unset, .unset] [(.int (Int32.ofNat n1)), (.int (Int32.ofNat n3))])) _
        refine XS.icmpNo X120.here hx rfl (hb hby at_366) rfl (feq hc366).1 ?_
        show Steps p.tables e below (T120.setTop (mkF m 369 #[.val (.int p1), .val (.int p2), .val (.int p3), .val (.int p4), .val (.int p5), .val (.int p6), .val (.int (Int32.ofNat sz)), .val (.int (Int32.ofNat n1)), .val (.int (Int32.ofNat n2)), .val (.int (Int32.ofNat n3)), .val (.int (Int32.ofNat np)), .val (.int (own_b tw)), .val (.int (own_b th)), .val (.ref b101), .val (.ref b108), .val (.ref b111), .val (.ref b113), .val (.int (1 : Int32)), .val (.int (own_b q1)), .val (own_w q1 (f np)), .val (.int (own_b q2)), .val (own_w q2 (f np)), .unset, .unset] [])) _
        refine XS.iload X120.here hx rfl (hb hby at_369) rfl ?_
        show Steps p.tables e below (T120.setTop (mkF m 371 #[.val (.int p1), .val (.int p2), .val (.int p3), .val (.int p4), .val (.int p5), .val (.int p6), .val (.int (Int32.ofNat sz)), .val (.int (Int32.ofNat n1)), .val (.int (Int32.ofNat n2)), .val (.int (Int32.ofNat n3)), .val (.int (Int32.ofNat np)), .val (.int (own_b tw)), .val (.int (own_b th)), .val (.ref b101), .val (.ref b108), .val (.ref b111), .val (.ref b113), .val (.int (1 : Int32)), .val (.int (own_b q1)), .val (own_w q1 (f np)), .val (.int (own_b q2)), .val (own_w q2 (f np)), .unset, .unset] [(.int (own_b tw))])) _
        refine XS.ifYes X120.here hx rfl (pc0 := 371) (pc' := 385) rfl (hb hby at_371) rfl ((if0 _ _).trans (teq hc371).1) (by decide) (by decide) ?_
        show Steps p.tables e below (T120.setTop (mkF m 385 #[.val (.int p1), .val (.int p2), .val (.int p3), .val (.int p4), .val (.int p5), .val (.int p6), .val (.int (Int32.ofNat sz)), .val (.int (Int32.ofNat n1)), .val (.int (Int32.ofNat n2)), .val (.int (Int32.ofNat n3)), .val (.int (Int32.ofNat np)), .val (.int (own_b tw)), .val (.int (own_b th)), .val (.ref b101), .val (.ref b108), .val (.ref b111), .val (.ref b113), .val (.int (1 : Int32)), .val (.int (own_b q1)), .val (own_w q1 (f np)), .val (.int (own_b q2)), .val (own_w q2 (f np)), .unset, .unset] [])) _
        refine XS.iconst X120.here hx rfl (hb hby at_385) ?_
        show Steps p.tables e below (T120.setTop (mkF m 386 #[.val (.int p1), .val (.int p2), .val (.int p3), .val (.int p4), .val (.int p5), .val (.int p6), .val (.int (Int32.ofNat sz)), .val (.int (Int32.ofNat n1)), .val (.int (Int32.ofNat n2)), .val (.int (Int32.ofNat n3)), .val (.int (Int32.ofNat np)), .val (.int (own_b tw)), .val (.int (own_b th)), .val (.ref b101), .val (.ref b108), .val (.ref b111), .val (.ref b113), .val (.int (1 : Int32)), .val (.int (own_b q1)), .val (own_w q1 (f np)), .val (.int (own_b q2)), .val (own_w q2 (f np)), .unset, .unset] [(.int (0 : Int32))])) _
        refine XS.istore X120.here hx rfl (hb hby at_386) rfl (l' := #[.val (.int p1), .val (.int p2), .val (.int p3), .val (.int p4), .val (.int p5), .val (.int p6), .val (.int (Int32.ofNat sz)), .val (.int (Int32.ofNat n1)), .val (.int (Int32.ofNat n2)), .val (.int (Int32.ofNat n3)), .val (.int (Int32.ofNat np)), .val (.int (own_b tw)), .val (.int (own_b th)), .val (.ref b101), .val (.ref b108), .val (.ref b111), .val (.ref b113), .val (.int (1 : Int32)), .val (.int (own_b q1)), .val (own_w q1 (f np)), .val (.int (own_b q2)), .val (own_w q2 (f np)), .val (.int (0 : Int32)), .unset]) rfl ?_
        exact k)
      exact P58
    · have z : q3 = false := by rw [hq3]; simp [own_pub, a0', a, t, b]
      rw [z]
      have hc359 : own_b th = (0 : Int32) := by rw [a0']; rfl
      have hc366 : ¬ ((Int32.ofNat n3) = (Int32.ofNat n1)) := fun q => a (own_injI (by omega) (by omega) q)
      have hc371 : ¬ (own_b tw = (0 : Int32)) := by rw [t]; decide
      have hc378 : ¬ ((Int32.ofNat n3) = (Int32.ofNat n2)) := fun q => b (own_injI (by omega) (by omega) q)
      have P59 : ∀ t, Steps p.tables e below (T120.setTop (mkF m 388 #[.val (.int p1), .val (.int p2), .val (.int p3), .val (.int p4), .val (.int p5), .val (.int p6), .val (.int (Int32.ofNat sz)), .val (.int (Int32.ofNat n1)), .val (.int (Int32.ofNat n2)), .val (.int (Int32.ofNat n3)), .val (.int (Int32.ofNat np)), .val (.int (own_b tw)), .val (.int (own_b th)), .val (.ref b101), .val (.ref b108), .val (.ref b111), .val (.ref b113), .val (.int (1 : Int32)), .val (.int (own_b q1)), .val (own_w q1 (f np)), .val (.int (own_b q2)), .val (own_w q2 (f np)), .val (.int (0 : Int32)), .unset] [])) t → Steps p.tables e below (s₁.setTop (entryFrame m #[(.int p1), (.int p2), (.int p3), (.int p4), (.int p5), (.int p6)] maxLocals)) t := fun t k => P54 t (by
        show Steps p.tables e below (T120.setTop (mkF m 357 #[.val (.int p1), .val (.int p2), .val (.int p3), .val (.int p4), .val (.int p5), .val (.int p6), .val (.int (Int32.ofNat sz)), .val (.int (Int32.ofNat n1)), .val (.int (Int32.ofNat n2)), .val (.int (Int32.ofNat n3)), .val (.int (Int32.ofNat np)), .val (.int (own_b tw)), .val (.int (own_b th)), .val (.ref b101), .val (.ref b108), .val (.ref b111), .val (.ref b113), .val (.int (1 : Int32)), .val (.int (own_b q1)), .val (own_w q1 (f np)), .val (.int (own_b q2)), .val (own_w q2 (f np)), .unset, .unset] [])) _
        refine XS.iload X120.here hx rfl (hb hby at_357) rfl ?_
        show Steps p.tables e below (T120.setTop (mkF m 359 #[.val (.int p1), .val (.int p2), .val (.int p3), .val (.int p4), .val (.int p5), .val (.int p6), .val (.int (Int32.ofNat sz)), .val (.int (Int32.ofNat n1)), .val (.int (Int32.ofNat n2)), .val (.int (Int32.ofNat n3)), .val (.int (Int32.ofNat np)), .val (.int (own_b tw)), .val (.int (own_b th)), .val (.ref b101), .val (.ref b108), .val (.ref b111), .val (.ref b113), .val (.int (1 : Int32)), .val (.int (own_b q1)), .val (own_w q1 (f np)), .val (.int (own_b q2)), .val (own_w q2 (f np)), .unset, .unset] [(.int (own_b th))])) _
        refine XS.ifNo X120.here hx rfl (hb hby at_359) rfl ((if0 _ _).trans (teq hc359).2) ?_
        show Steps p.tables e below (T120.setTop (mkF m 362 #[.val (.int p1), .val (.int p2), .val (.int p3), .val (.int p4), .val (.int p5), .val (.int p6), .val (.int (Int32.ofNat sz)), .val (.int (Int32.ofNat n1)), .val (.int (Int32.ofNat n2)), .val (.int (Int32.ofNat n3)), .val (.int (Int32.ofNat np)), .val (.int (own_b tw)), .val (.int (own_b th)), .val (.ref b101), .val (.ref b108), .val (.ref b111), .val (.ref b113), .val (.int (1 : Int32)), .val (.int (own_b q1)), .val (own_w q1 (f np)), .val (.int (own_b q2)), .val (own_w q2 (f np)), .unset, .unset] [])) _
        refine XS.iload X120.here hx rfl (hb hby at_362) rfl ?_
        show Steps p.tables e below (T120.setTop (mkF m 364 #[.val (.int p1), .val (.int p2), .val (.int p3), .val (.int p4), .val (.int p5), .val (.int p6), .val (.int (Int32.ofNat sz)), .val (.int (Int32.ofNat n1)), .val (.int (Int32.ofNat n2)), .val (.int (Int32.ofNat n3)), .val (.int (Int32.ofNat np)), .val (.int (own_b tw)), .val (.int (own_b th)), .val (.ref b101), .val (.ref b108), .val (.ref b111), .val (.ref b113), .val (.int (1 : Int32)), .val (.int (own_b q1)), .val (own_w q1 (f np)), .val (.int (own_b q2)), .val (own_w q2 (f np)), .unset, .unset] [(.int (Int32.ofNat n3))])) _
        refine XS.iload X120.here hx rfl (hb hby at_364) rfl ?_
        show Steps p.tables e below (T120.setTop (mkF m 366 #[.val (.int p1), .val (.int p2), .val (.int p3), .val (.int p4), .val (.int p5), .val (.int p6), .val (.int (Int32.ofNat sz)), .val (.int (Int32.ofNat n1)), .val (.int (Int32.ofNat n2)), .val (.int (Int32.ofNat n3)), .val (.int (Int32.ofNat np)), .val (.int (own_b tw)), .val (.int (own_b th)), .val (.ref b101), .val (.ref b108), .val (.ref b111), .val (.ref b113), .val (.int (1 : Int32)), .val (.int (own_b q1)), .val (own_w q1 (f np)), .val (.int (own_b q2)), .val (own_w q2 (f np)), .unset, .unset] [(.int (Int32.ofNat n1)), (.int (Int32.ofNat n3))])) _
        refine XS.icmpNo X120.here hx rfl (hb hby at_366) rfl (feq hc366).1 ?_
        show Steps p.tables e below (T120.setTop (mkF m 369 #[.val (.int p1), .val (.int p2), .val (.int p3), .val (.int p4), .val (.int p5), .val (.int p6), .val (.int (Int32.ofNat sz)), .val (.int (Int32.ofNat n1)), .val (.int (Int32.ofNat n2)), .val (.int (Int32.ofNat n3)), .val (.int (Int32.ofNat np)), .val (.int (own_b tw)), .val (.int (own_b th)), .val (.ref b101), .val (.ref b108), .val (.ref b111), .val (.ref b113), .val (.int (1 : Int32)), .val (.int (own_b q1)), .val (own_w q1 (f np)), .val (.int (own_b q2)), .val (own_w q2 (f np)), .unset, .unset] [])) _
        refine XS.iload X120.here hx rfl (hb hby at_369) rfl ?_
        show Steps p.tables e below (T120.setTop (mkF m 371 #[.val (.int p1), .val (.int p2), .val (.int p3), .val (.int p4), .val (.int p5), .val (.int p6), .val (.int (Int32.ofNat sz)), .val (.int (Int32.ofNat n1)), .val (.int (Int32.ofNat n2)), .val (.int (Int32.ofNat n3)), .val (.int (Int32.ofNat np)), .val (.int (own_b tw)), .val (.int (own_b th)), .val (.ref b101), .val (.ref b108), .val (.ref b111), .val (.ref b113), .val (.int (1 : Int32)), .val (.int (own_b q1)), .val (own_w q1 (f np)), .val (.int (own_b q2)), .val (own_w q2 (f np)), .unset, .unset] [(.int (own_b tw))])) _
        refine XS.ifNo X120.here hx rfl (hb hby at_371) rfl ((if0 _ _).trans (feq hc371).1) ?_
        show Steps p.tables e below (T120.setTop (mkF m 374 #[.val (.int p1), .val (.int p2), .val (.int p3), .val (.int p4), .val (.int p5), .val (.int p6), .val (.int (Int32.ofNat sz)), .val (.int (Int32.ofNat n1)), .val (.int (Int32.ofNat n2)), .val (.int (Int32.ofNat n3)), .val (.int (Int32.ofNat np)), .val (.int (own_b tw)), .val (.int (own_b th)), .val (.ref b101), .val (.ref b108), .val (.ref b111), .val (.ref b113), .val (.int (1 : Int32)), .val (.int (own_b q1)), .val (own_w q1 (f np)), .val (.int (own_b q2)), .val (own_w q2 (f np)), .unset, .unset] [])) _
        refine XS.iload X120.here hx rfl (hb hby at_374) rfl ?_
        show Steps p.tables e below (T120.setTop (mkF m 376 #[.val (.int p1), .val (.int p2), .val (.int p3), .val (.int p4), .val (.int p5), .val (.int p6), .val (.int (Int32.ofNat sz)), .val (.int (Int32.ofNat n1)), .val (.int (Int32.ofNat n2)), .val (.int (Int32.ofNat n3)), .val (.int (Int32.ofNat np)), .val (.int (own_b tw)), .val (.int (own_b th)), .val (.ref b101), .val (.ref b108), .val (.ref b111), .val (.ref b113), .val (.int (1 : Int32)), .val (.int (own_b q1)), .val (own_w q1 (f np)), .val (.int (own_b q2)), .val (own_w q2 (f np)), .unset, .unset] [(.int (Int32.ofNat n3))])) _
        refine XS.iload X120.here hx rfl (hb hby at_376) rfl ?_
        show Steps p.tables e below (T120.setTop (mkF m 378 #[.val (.int p1), .val (.int p2), .val (.int p3), .val (.int p4), .val (.int p5), .val (.int p6), .val (.int (Int32.ofNat sz)), .val (.int (Int32.ofNat n1)), .val (.int (Int32.ofNat n2)), .val (.int (Int32.ofNat n3)), .val (.int (Int32.ofNat np)), .val (.int (own_b tw)), .val (.int (own_b th)), .val (.ref b101), .val (.ref b108), .val (.ref b111), .val (.ref b113), .val (.int (1 : Int32)), .val (.int (own_b q1)), .val (own_w q1 (f np)), .val (.int (own_b q2)), .val (own_w q2 (f np)), .unset, .unset] [(.int (Int32.ofNat n2)), (.int (Int32.ofNat n3))])) _
        refine XS.icmpYes X120.here hx rfl (pc0 := 378) (pc' := 385) rfl (hb hby at_378) rfl (feq hc378).2 (by decide) (by decide) ?_
        show Steps p.tables e below (T120.setTop (mkF m 385 #[.val (.int p1), .val (.int p2), .val (.int p3), .val (.int p4), .val (.int p5), .val (.int p6), .val (.int (Int32.ofNat sz)), .val (.int (Int32.ofNat n1)), .val (.int (Int32.ofNat n2)), .val (.int (Int32.ofNat n3)), .val (.int (Int32.ofNat np)), .val (.int (own_b tw)), .val (.int (own_b th)), .val (.ref b101), .val (.ref b108), .val (.ref b111), .val (.ref b113), .val (.int (1 : Int32)), .val (.int (own_b q1)), .val (own_w q1 (f np)), .val (.int (own_b q2)), .val (own_w q2 (f np)), .unset, .unset] [])) _
        refine XS.iconst X120.here hx rfl (hb hby at_385) ?_
        show Steps p.tables e below (T120.setTop (mkF m 386 #[.val (.int p1), .val (.int p2), .val (.int p3), .val (.int p4), .val (.int p5), .val (.int p6), .val (.int (Int32.ofNat sz)), .val (.int (Int32.ofNat n1)), .val (.int (Int32.ofNat n2)), .val (.int (Int32.ofNat n3)), .val (.int (Int32.ofNat np)), .val (.int (own_b tw)), .val (.int (own_b th)), .val (.ref b101), .val (.ref b108), .val (.ref b111), .val (.ref b113), .val (.int (1 : Int32)), .val (.int (own_b q1)), .val (own_w q1 (f np)), .val (.int (own_b q2)), .val (own_w q2 (f np)), .unset, .unset] [(.int (0 : Int32))])) _
        refine XS.istore X120.here hx rfl (hb hby at_386) rfl (l' := #[.val (.int p1), .val (.int p2), .val (.int p3), .val (.int p4), .val (.int p5), .val (.int p6), .val (.int (Int32.ofNat sz)), .val (.int (Int32.ofNat n1)), .val (.int (Int32.ofNat n2)), .val (.int (Int32.ofNat n3)), .val (.int (Int32.ofNat np)), .val (.int (own_b tw)), .val (.int (own_b th)), .val (.ref b101), .val (.ref b108), .val (.ref b111), .val (.ref b113), .val (.int (1 : Int32)), .val (.int (own_b q1)), .val (own_w q1 (f np)), .val (.int (own_b q2)), .val (own_w q2 (f np)), .val (.int (0 : Int32)), .unset]) rfl ?_
        exact k)
      exact P59
    · have z : q3 = true := by rw [hq3]; simp [own_pub, t, b]
      rw [z]
      have hc359 : own_b th = (0 : Int32) := by rw [a0']; rfl
      have hc366 : ¬ ((Int32.ofNat n3) = (Int32.ofNat n1)) := fun q => a (own_injI (by omega) (by omega) q)
      have hc371 : ¬ (own_b tw = (0 : Int32)) := by rw [t]; decide
      have hc378 : (Int32.ofNat n3) = (Int32.ofNat n2) := by rw [b]
      have P60 : ∀ t, Steps p.tables e below (T120.setTop (mkF m 388 #[.val (.int p1), .val (.int p2), .val (.int p3), .val (.int p4), .val (.int p5), .val (.int p6), .val (.int (Int32.ofNat sz)), .val (.int (Int32.ofNat n1)), .val (.int (Int32.ofNat n2)), .val (.int (Int32.ofNat n3)), .val (.int (Int32.ofNat np)), .val (.int (own_b tw)), .val (.int (own_b th)), .val (.ref b101), .val (.ref b108), .val (.ref b111), .val (.ref b113), .val (.int (1 : Int32)), .val (.int (own_b q1)), .val (own_w q1 (f np)), .val (.int (own_b q2)), .val (own_w q2 (f np)), .val (.int (1 : Int32)), .unset] [])) t → Steps p.tables e below (s₁.setTop (entryFrame m #[(.int p1), (.int p2), (.int p3), (.int p4), (.int p5), (.int p6)] maxLocals)) t := fun t k => P54 t (by
        show Steps p.tables e below (T120.setTop (mkF m 357 #[.val (.int p1), .val (.int p2), .val (.int p3), .val (.int p4), .val (.int p5), .val (.int p6), .val (.int (Int32.ofNat sz)), .val (.int (Int32.ofNat n1)), .val (.int (Int32.ofNat n2)), .val (.int (Int32.ofNat n3)), .val (.int (Int32.ofNat np)), .val (.int (own_b tw)), .val (.int (own_b th)), .val (.ref b101), .val (.ref b108), .val (.ref b111), .val (.ref b113), .val (.int (1 : Int32)), .val (.int (own_b q1)), .val (own_w q1 (f np)), .val (.int (own_b q2)), .val (own_w q2 (f np)), .unset, .unset] [])) _
        refine XS.iload X120.here hx rfl (hb hby at_357) rfl ?_
        show Steps p.tables e below (T120.setTop (mkF m 359 #[.val (.int p1), .val (.int p2), .val (.int p3), .val (.int p4), .val (.int p5), .val (.int p6), .val (.int (Int32.ofNat sz)), .val (.int (Int32.ofNat n1)), .val (.int (Int32.ofNat n2)), .val (.int (Int32.ofNat n3)), .val (.int (Int32.ofNat np)), .val (.int (own_b tw)), .val (.int (own_b th)), .val (.ref b101), .val (.ref b108), .val (.ref b111), .val (.ref b113), .val (.int (1 : Int32)), .val (.int (own_b q1)), .val (own_w q1 (f np)), .val (.int (own_b q2)), .val (own_w q2 (f np)), .unset, .unset] [(.int (own_b th))])) _
        refine XS.ifNo X120.here hx rfl (hb hby at_359) rfl ((if0 _ _).trans (teq hc359).2) ?_
        show Steps p.tables e below (T120.setTop (mkF m 362 #[.val (.int p1), .val (.int p2), .val (.int p3), .val (.int p4), .val (.int p5), .val (.int p6), .val (.int (Int32.ofNat sz)), .val (.int (Int32.ofNat n1)), .val (.int (Int32.ofNat n2)), .val (.int (Int32.ofNat n3)), .val (.int (Int32.ofNat np)), .val (.int (own_b tw)), .val (.int (own_b th)), .val (.ref b101), .val (.ref b108), .val (.ref b111), .val (.ref b113), .val (.int (1 : Int32)), .val (.int (own_b q1)), .val (own_w q1 (f np)), .val (.int (own_b q2)), .val (own_w q2 (f np)), .unset, .unset] [])) _
        refine XS.iload X120.here hx rfl (hb hby at_362) rfl ?_
        show Steps p.tables e below (T120.setTop (mkF m 364 #[.val (.int p1), .val (.int p2), .val (.int p3), .val (.int p4), .val (.int p5), .val (.int p6), .val (.int (Int32.ofNat sz)), .val (.int (Int32.ofNat n1)), .val (.int (Int32.ofNat n2)), .val (.int (Int32.ofNat n3)), .val (.int (Int32.ofNat np)), .val (.int (own_b tw)), .val (.int (own_b th)), .val (.ref b101), .val (.ref b108), .val (.ref b111), .val (.ref b113), .val (.int (1 : Int32)), .val (.int (own_b q1)), .val (own_w q1 (f np)), .val (.int (own_b q2)), .val (own_w q2 (f np)), .unset, .unset] [(.int (Int32.ofNat n3))])) _
        refine XS.iload X120.here hx rfl (hb hby at_364) rfl ?_
        show Steps p.tables e below (T120.setTop (mkF m 366 #[.val (.int p1), .val (.int p2), .val (.int p3), .val (.int p4), .val (.int p5), .val (.int p6), .val (.int (Int32.ofNat sz)), .val (.int (Int32.ofNat n1)), .val (.int (Int32.ofNat n2)), .val (.int (Int32.ofNat n3)), .val (.int (Int32.ofNat np)), .val (.int (own_b tw)), .val (.int (own_b th)), .val (.ref b101), .val (.ref b108), .val (.ref b111), .val (.ref b113), .val (.int (1 : Int32)), .val (.int (own_b q1)), .val (own_w q1 (f np)), .val (.int (own_b q2)), .val (own_w q2 (f np)), .unset, .unset] [(.int (Int32.ofNat n1)), (.int (Int32.ofNat n3))])) _
        refine XS.icmpNo X120.here hx rfl (hb hby at_366) rfl (feq hc366).1 ?_
        show Steps p.tables e below (T120.setTop (mkF m 369 #[.val (.int p1), .val (.int p2), .val (.int p3), .val (.int p4), .val (.int p5), .val (.int p6), .val (.int (Int32.ofNat sz)), .val (.int (Int32.ofNat n1)), .val (.int (Int32.ofNat n2)), .val (.int (Int32.ofNat n3)), .val (.int (Int32.ofNat np)), .val (.int (own_b tw)), .val (.int (own_b th)), .val (.ref b101), .val (.ref b108), .val (.ref b111), .val (.ref b113), .val (.int (1 : Int32)), .val (.int (own_b q1)), .val (own_w q1 (f np)), .val (.int (own_b q2)), .val (own_w q2 (f np)), .unset, .unset] [])) _
        refine XS.iload X120.here hx rfl (hb hby at_369) rfl ?_
        show Steps p.tables e below (T120.setTop (mkF m 371 #[.val (.int p1), .val (.int p2), .val (.int p3), .val (.int p4), .val (.int p5), .val (.int p6), .val (.int (Int32.ofNat sz)), .val (.int (Int32.ofNat n1)), .val (.int (Int32.ofNat n2)), .val (.int (Int32.ofNat n3)), .val (.int (Int32.ofNat np)), .val (.int (own_b tw)), .val (.int (own_b th)), .val (.ref b101), .val (.ref b108), .val (.ref b111), .val (.ref b113), .val (.int (1 : Int32)), .val (.int (own_b q1)), .val (own_w q1 (f np)), .val (.int (own_b q2)), .val (own_w q2 (f np)), .unset, .unset] [(.int (own_b tw))])) _
        refine XS.ifNo X120.here hx rfl (hb hby at_371) rfl ((if0 _ _).trans (feq hc371).1) ?_
        show Steps p.tables e below (T120.setTop (mkF m 374 #[.val (.int p1), .val (.int p2), .val (.int p3), .val (.int p4), .val (.int p5), .val (.int p6), .val (.int (Int32.ofNat sz)), .val (.int (Int32.ofNat n1)), .val (.int (Int32.ofNat n2)), .val (.int (Int32.ofNat n3)), .val (.int (Int32.ofNat np)), .val (.int (own_b tw)), .val (.int (own_b th)), .val (.ref b101), .val (.ref b108), .val (.ref b111), .val (.ref b113), .val (.int (1 : Int32)), .val (.int (own_b q1)), .val (own_w q1 (f np)), .val (.int (own_b q2)), .val (own_w q2 (f np)), .unset, .unset] [])) _
        refine XS.iload X120.here hx rfl (hb hby at_374) rfl ?_
        show Steps p.tables e below (T120.setTop (mkF m 376 #[.val (.int p1), .val (.int p2), .val (.int p3), .val (.int p4), .val (.int p5), .val (.int p6), .val (.int (Int32.ofNat sz)), .val (.int (Int32.ofNat n1)), .val (.int (Int32.ofNat n2)), .val (.int (Int32.ofNat n3)), .val (.int (Int32.ofNat np)), .val (.int (own_b tw)), .val (.int (own_b th)), .val (.ref b101), .val (.ref b108), .val (.ref b111), .val (.ref b113), .val (.int (1 : Int32)), .val (.int (own_b q1)), .val (own_w q1 (f np)), .val (.int (own_b q2)), .val (own_w q2 (f np)), .unset, .unset] [(.int (Int32.ofNat n3))])) _
        refine XS.iload X120.here hx rfl (hb hby at_376) rfl ?_
        show Steps p.tables e below (T120.setTop (mkF m 378 #[.val (.int p1), .val (.int p2), .val (.int p3), .val (.int p4), .val (.int p5), .val (.int p6), .val (.int (Int32.ofNat sz)), .val (.int (Int32.ofNat n1)), .val (.int (Int32.ofNat n2)), .val (.int (Int32.ofNat n3)), .val (.int (Int32.ofNat np)), .val (.int (own_b tw)), .val (.int (own_b th)), .val (.ref b101), .val (.ref b108), .val (.ref b111), .val (.ref b113), .val (.int (1 : Int32)), .val (.int (own_b q1)), .val (own_w q1 (f np)), .val (.int (own_b q2)), .val (own_w q2 (f np)), .unset, .unset] [(.int (Int32.ofNat n2)), (.int (Int32.ofNat n3))])) _
        refine XS.icmpNo X120.here hx rfl (hb hby at_378) rfl (teq hc378).2 ?_
        show Steps p.tables e below (T120.setTop (mkF m 381 #[.val (.int p1), .val (.int p2), .val (.int p3), .val (.int p4), .val (.int p5), .val (.int p6), .val (.int (Int32.ofNat sz)), .val (.int (Int32.ofNat n1)), .val (.int (Int32.ofNat n2)), .val (.int (Int32.ofNat n3)), .val (.int (Int32.ofNat np)), .val (.int (own_b tw)), .val (.int (own_b th)), .val (.ref b101), .val (.ref b108), .val (.ref b111), .val (.ref b113), .val (.int (1 : Int32)), .val (.int (own_b q1)), .val (own_w q1 (f np)), .val (.int (own_b q2)), .val (own_w q2 (f np)), .unset, .unset] [])) _
        refine XS.iconst X120.here hx rfl (hb hby at_381) ?_
        show Steps p.tables e below (T120.setTop (mkF m 382 #[.val (.int p1), .val (.int p2), .val (.int p3), .val (.int p4), .val (.int p5), .val (.int p6), .val (.int (Int32.ofNat sz)), .val (.int (Int32.ofNat n1)), .val (.int (Int32.ofNat n2)), .val (.int (Int32.ofNat n3)), .val (.int (Int32.ofNat np)), .val (.int (own_b tw)), .val (.int (own_b th)), .val (.ref b101), .val (.ref b108), .val (.ref b111), .val (.ref b113), .val (.int (1 : Int32)), .val (.int (own_b q1)), .val (own_w q1 (f np)), .val (.int (own_b q2)), .val (own_w q2 (f np)), .unset, .unset] [(.int (1 : Int32))])) _
        refine XS.goto X120.here hx rfl (pc0 := 382) (pc' := 386) rfl (hb hby at_382) (by decide) (by decide) ?_
        show Steps p.tables e below (T120.setTop (mkF m 386 #[.val (.int p1), .val (.int p2), .val (.int p3), .val (.int p4), .val (.int p5), .val (.int p6), .val (.int (Int32.ofNat sz)), .val (.int (Int32.ofNat n1)), .val (.int (Int32.ofNat n2)), .val (.int (Int32.ofNat n3)), .val (.int (Int32.ofNat np)), .val (.int (own_b tw)), .val (.int (own_b th)), .val (.ref b101), .val (.ref b108), .val (.ref b111), .val (.ref b113), .val (.int (1 : Int32)), .val (.int (own_b q1)), .val (own_w q1 (f np)), .val (.int (own_b q2)), .val (own_w q2 (f np)), .unset, .unset] [(.int (1 : Int32))])) _
        refine XS.istore X120.here hx rfl (hb hby at_386) rfl (l' := #[.val (.int p1), .val (.int p2), .val (.int p3), .val (.int p4), .val (.int p5), .val (.int p6), .val (.int (Int32.ofNat sz)), .val (.int (Int32.ofNat n1)), .val (.int (Int32.ofNat n2)), .val (.int (Int32.ofNat n3)), .val (.int (Int32.ofNat np)), .val (.int (own_b tw)), .val (.int (own_b th)), .val (.ref b101), .val (.ref b108), .val (.ref b111), .val (.ref b113), .val (.int (1 : Int32)), .val (.int (own_b q1)), .val (own_w q1 (f np)), .val (.int (own_b q2)), .val (own_w q2 (f np)), .val (.int (1 : Int32)), .unset]) rfl ?_
        exact k)
      exact P60
  have Ar_b101 := Ao7
  have hin397 : ¬ ((Int32.ofNat n3) < 0 ∨ co7.slots.size ≤ ((Int32.ofNat n3)).toNatClampNeg) := by rw [zo7]; exact idx_in (by omega) (by decide)
  have hat397 : co7.slots[((Int32.ofNat n3)).toNatClampNeg]? = some (f n3) := by rw [own_clamp (by omega)]; exact fo7 _ (by omega)
  have P61 : ∀ t, Steps p.tables e below (T120.setTop (mkF m 404 #[.val (.int p1), .val (.int p2), .val (.int p3), .val (.int p4), .val (.int p5), .val (.int p6), .val (.int (Int32.ofNat sz)), .val (.int (Int32.ofNat n1)), .val (.int (Int32.ofNat n2)), .val (.int (Int32.ofNat n3)), .val (.int (Int32.ofNat np)), .val (.int (own_b tw)), .val (.int (own_b th)), .val (.ref b101), .val (.ref b108), .val (.ref b111), .val (.ref b113), .val (.int (1 : Int32)), .val (.int (own_b q1)), .val (own_w q1 (f np)), .val (.int (own_b q2)), .val (own_w q2 (f np)), .val (.int (own_b q3)), .val (own_w q3 (f n3))] [])) t → Steps p.tables e below (s₁.setTop (entryFrame m #[(.int p1), (.int p2), (.int p3), (.int p4), (.int p5), (.int p6)] maxLocals)) t := by
    rcases Bool.eq_false_or_eq_true q3 with z | z
    · rw [show own_w q3 (f n3) = f n3 by rw [z]; rfl]
      have hc390 : ¬ (own_b q3 = (0 : Int32)) := by rw [z]; decide
      have P62 : ∀ t, Steps p.tables e below (T120.setTop (mkF m 404 #[.val (.int p1), .val (.int p2), .val (.int p3), .val (.int p4), .val (.int p5), .val (.int p6), .val (.int (Int32.ofNat sz)), .val (.int (Int32.ofNat n1)), .val (.int (Int32.ofNat n2)), .val (.int (Int32.ofNat n3)), .val (.int (Int32.ofNat np)), .val (.int (own_b tw)), .val (.int (own_b th)), .val (.ref b101), .val (.ref b108), .val (.ref b111), .val (.ref b113), .val (.int (1 : Int32)), .val (.int (own_b q1)), .val (own_w q1 (f np)), .val (.int (own_b q2)), .val (own_w q2 (f np)), .val (.int (own_b q3)), .val (f n3)] [])) t → Steps p.tables e below (s₁.setTop (entryFrame m #[(.int p1), (.int p2), (.int p3), (.int p4), (.int p5), (.int p6)] maxLocals)) t := fun t k => P55 t (by
        show Steps p.tables e below (T120.setTop (mkF m 388 #[.val (.int p1), .val (.int p2), .val (.int p3), .val (.int p4), .val (.int p5), .val (.int p6), .val (.int (Int32.ofNat sz)), .val (.int (Int32.ofNat n1)), .val (.int (Int32.ofNat n2)), .val (.int (Int32.ofNat n3)), .val (.int (Int32.ofNat np)), .val (.int (own_b tw)), .val (.int (own_b th)), .val (.ref b101), .val (.ref b108), .val (.ref b111), .val (.ref b113), .val (.int (1 : Int32)), .val (.int (own_b q1)), .val (own_w q1 (f np)), .val (.int (own_b q2)), .val (own_w q2 (f np)), .val (.int (own_b q3)), .unset] [])) _
        refine XS.iload X120.here hx rfl (hb hby at_388) rfl ?_
        show Steps p.tables e below (T120.setTop (mkF m 390 #[.val (.int p1), .val (.int p2), .val (.int p3), .val (.int p4), .val (.int p5), .val (.int p6), .val (.int (Int32.ofNat sz)), .val (.int (Int32.ofNat n1)), .val (.int (Int32.ofNat n2)), .val (.int (Int32.ofNat n3)), .val (.int (Int32.ofNat np)), .val (.int (own_b tw)), .val (.int (own_b th)), .val (.ref b101), .val (.ref b108), .val (.ref b111), .val (.ref b113), .val (.int (1 : Int32)), .val (.int (own_b q1)), .val (own_w q1 (f np)), .val (.int (own_b q2)), .val (own_w q2 (f np)), .val (.int (own_b q3)), .unset] [(.int (own_b q3))])) _
        refine XS.ifNo X120.here hx rfl (hb hby at_390) rfl ((if0 _ _).trans (feq hc390).1) ?_
        show Steps p.tables e below (T120.setTop (mkF m 393 #[.val (.int p1), .val (.int p2), .val (.int p3), .val (.int p4), .val (.int p5), .val (.int p6), .val (.int (Int32.ofNat sz)), .val (.int (Int32.ofNat n1)), .val (.int (Int32.ofNat n2)), .val (.int (Int32.ofNat n3)), .val (.int (Int32.ofNat np)), .val (.int (own_b tw)), .val (.int (own_b th)), .val (.ref b101), .val (.ref b108), .val (.ref b111), .val (.ref b113), .val (.int (1 : Int32)), .val (.int (own_b q1)), .val (own_w q1 (f np)), .val (.int (own_b q2)), .val (own_w q2 (f np)), .val (.int (own_b q3)), .unset] [])) _
        refine XS.aload X120.here hx rfl (hb hby at_393) rfl rfl ?_
        show Steps p.tables e below (T120.setTop (mkF m 395 #[.val (.int p1), .val (.int p2), .val (.int p3), .val (.int p4), .val (.int p5), .val (.int p6), .val (.int (Int32.ofNat sz)), .val (.int (Int32.ofNat n1)), .val (.int (Int32.ofNat n2)), .val (.int (Int32.ofNat n3)), .val (.int (Int32.ofNat np)), .val (.int (own_b tw)), .val (.int (own_b th)), .val (.ref b101), .val (.ref b108), .val (.ref b111), .val (.ref b113), .val (.int (1 : Int32)), .val (.int (own_b q1)), .val (own_w q1 (f np)), .val (.int (own_b q2)), .val (own_w q2 (f np)), .val (.int (own_b q3)), .unset] [(.ref b101)])) _
        refine XS.iload X120.here hx rfl (hb hby at_395) rfl ?_
        show Steps p.tables e below (T120.setTop (mkF m 397 #[.val (.int p1), .val (.int p2), .val (.int p3), .val (.int p4), .val (.int p5), .val (.int p6), .val (.int (Int32.ofNat sz)), .val (.int (Int32.ofNat n1)), .val (.int (Int32.ofNat n2)), .val (.int (Int32.ofNat n3)), .val (.int (Int32.ofNat np)), .val (.int (own_b tw)), .val (.int (own_b th)), .val (.ref b101), .val (.ref b108), .val (.ref b111), .val (.ref b113), .val (.int (1 : Int32)), .val (.int (own_b q1)), .val (own_w q1 (f np)), .val (.int (own_b q2)), .val (own_w q2 (f np)), .val (.int (own_b q3)), .unset] [(.int (Int32.ofNat n3)), (.ref b101)])) _
        refine X120.aaload hx (j := (Int32.ofNat n3)) (v := (f n3)) (by rw [eQ120]; exact Ar_b101.1) (State.isArrayOf_alike hZ.alike Ar_b101.2.1) rfl Ar_b101.2.2 hin397 hat397 (g := (mkF m 397 #[.val (.int p1), .val (.int p2), .val (.int p3), .val (.int p4), .val (.int p5), .val (.int p6), .val (.int (Int32.ofNat sz)), .val (.int (Int32.ofNat n1)), .val (.int (Int32.ofNat n2)), .val (.int (Int32.ofNat n3)), .val (.int (Int32.ofNat np)), .val (.int (own_b tw)), .val (.int (own_b th)), .val (.ref b101), .val (.ref b108), .val (.ref b111), .val (.ref b113), .val (.int (1 : Int32)), .val (.int (own_b q1)), .val (own_w q1 (f np)), .val (.int (own_b q2)), .val (own_w q2 (f np)), .val (.int (own_b q3)), .unset] [(.int (Int32.ofNat n3)), (.ref b101)])) rfl rfl (hb hby at_397) _ ?_
        show Steps p.tables e below (T120.setTop (mkF m 398 #[.val (.int p1), .val (.int p2), .val (.int p3), .val (.int p4), .val (.int p5), .val (.int p6), .val (.int (Int32.ofNat sz)), .val (.int (Int32.ofNat n1)), .val (.int (Int32.ofNat n2)), .val (.int (Int32.ofNat n3)), .val (.int (Int32.ofNat np)), .val (.int (own_b tw)), .val (.int (own_b th)), .val (.ref b101), .val (.ref b108), .val (.ref b111), .val (.ref b113), .val (.int (1 : Int32)), .val (.int (own_b q1)), .val (own_w q1 (f np)), .val (.int (own_b q2)), .val (own_w q2 (f np)), .val (.int (own_b q3)), .unset] [(f n3)])) _
        refine XS.goto X120.here hx rfl (pc0 := 398) (pc' := 402) rfl (hb hby at_398) (by decide) (by decide) ?_
        show Steps p.tables e below (T120.setTop (mkF m 402 #[.val (.int p1), .val (.int p2), .val (.int p3), .val (.int p4), .val (.int p5), .val (.int p6), .val (.int (Int32.ofNat sz)), .val (.int (Int32.ofNat n1)), .val (.int (Int32.ofNat n2)), .val (.int (Int32.ofNat n3)), .val (.int (Int32.ofNat np)), .val (.int (own_b tw)), .val (.int (own_b th)), .val (.ref b101), .val (.ref b108), .val (.ref b111), .val (.ref b113), .val (.int (1 : Int32)), .val (.int (own_b q1)), .val (own_w q1 (f np)), .val (.int (own_b q2)), .val (own_w q2 (f np)), .val (.int (own_b q3)), .unset] [(f n3)])) _
        refine XS.astore X120.here hx rfl (hb hby at_402) rfl (hfr n3) (l' := #[.val (.int p1), .val (.int p2), .val (.int p3), .val (.int p4), .val (.int p5), .val (.int p6), .val (.int (Int32.ofNat sz)), .val (.int (Int32.ofNat n1)), .val (.int (Int32.ofNat n2)), .val (.int (Int32.ofNat n3)), .val (.int (Int32.ofNat np)), .val (.int (own_b tw)), .val (.int (own_b th)), .val (.ref b101), .val (.ref b108), .val (.ref b111), .val (.ref b113), .val (.int (1 : Int32)), .val (.int (own_b q1)), .val (own_w q1 (f np)), .val (.int (own_b q2)), .val (own_w q2 (f np)), .val (.int (own_b q3)), .val (f n3)]) (by have hq := hfr n3; generalize f n3 = z at hq ⊢; cases z <;> first | rfl | (simp [Value.isRef] at hq)) ?_
        exact k)
      exact P62
    · rw [show own_w q3 (f n3) = .null by rw [z]; rfl]
      have hc390 : own_b q3 = (0 : Int32) := by rw [z]; rfl
      have P63 : ∀ t, Steps p.tables e below (T120.setTop (mkF m 404 #[.val (.int p1), .val (.int p2), .val (.int p3), .val (.int p4), .val (.int p5), .val (.int p6), .val (.int (Int32.ofNat sz)), .val (.int (Int32.ofNat n1)), .val (.int (Int32.ofNat n2)), .val (.int (Int32.ofNat n3)), .val (.int (Int32.ofNat np)), .val (.int (own_b tw)), .val (.int (own_b th)), .val (.ref b101), .val (.ref b108), .val (.ref b111), .val (.ref b113), .val (.int (1 : Int32)), .val (.int (own_b q1)), .val (own_w q1 (f np)), .val (.int (own_b q2)), .val (own_w q2 (f np)), .val (.int (own_b q3)), .val .null] [])) t → Steps p.tables e below (s₁.setTop (entryFrame m #[(.int p1), (.int p2), (.int p3), (.int p4), (.int p5), (.int p6)] maxLocals)) t := fun t k => P55 t (by
        show Steps p.tables e below (T120.setTop (mkF m 388 #[.val (.int p1), .val (.int p2), .val (.int p3), .val (.int p4), .val (.int p5), .val (.int p6), .val (.int (Int32.ofNat sz)), .val (.int (Int32.ofNat n1)), .val (.int (Int32.ofNat n2)), .val (.int (Int32.ofNat n3)), .val (.int (Int32.ofNat np)), .val (.int (own_b tw)), .val (.int (own_b th)), .val (.ref b101), .val (.ref b108), .val (.ref b111), .val (.ref b113), .val (.int (1 : Int32)), .val (.int (own_b q1)), .val (own_w q1 (f np)), .val (.int (own_b q2)), .val (own_w q2 (f np)), .val (.int (own_b q3)), .unset] [])) _
        refine XS.iload X120.here hx rfl (hb hby at_388) rfl ?_
        show Steps p.tables e below (T120.setTop (mkF m 390 #[.val (.int p1), .val (.int p2), .val (.int p3), .val (.int p4), .val (.int p5), .val (.int p6), .val (.int (Int32.ofNat sz)), .val (.int (Int32.ofNat n1)), .val (.int (Int32.ofNat n2)), .val (.int (Int32.ofNat n3)), .val (.int (Int32.ofNat np)), .val (.int (own_b tw)), .val (.int (own_b th)), .val (.ref b101), .val (.ref b108), .val (.ref b111), .val (.ref b113), .val (.int (1 : Int32)), .val (.int (own_b q1)), .val (own_w q1 (f np)), .val (.int (own_b q2)), .val (own_w q2 (f np)), .val (.int (own_b q3)), .unset] [(.int (own_b q3))])) _
        refine XS.ifYes X120.here hx rfl (pc0 := 390) (pc' := 401) rfl (hb hby at_390) rfl ((if0 _ _).trans (teq hc390).1) (by decide) (by decide) ?_
        show Steps p.tables e below (T120.setTop (mkF m 401 #[.val (.int p1), .val (.int p2), .val (.int p3), .val (.int p4), .val (.int p5), .val (.int p6), .val (.int (Int32.ofNat sz)), .val (.int (Int32.ofNat n1)), .val (.int (Int32.ofNat n2)), .val (.int (Int32.ofNat n3)), .val (.int (Int32.ofNat np)), .val (.int (own_b tw)), .val (.int (own_b th)), .val (.ref b101), .val (.ref b108), .val (.ref b111), .val (.ref b113), .val (.int (1 : Int32)), .val (.int (own_b q1)), .val (own_w q1 (f np)), .val (.int (own_b q2)), .val (own_w q2 (f np)), .val (.int (own_b q3)), .unset] [])) _
        refine XS.aconstNull X120.here hx rfl (hb hby at_401) ?_
        show Steps p.tables e below (T120.setTop (mkF m 402 #[.val (.int p1), .val (.int p2), .val (.int p3), .val (.int p4), .val (.int p5), .val (.int p6), .val (.int (Int32.ofNat sz)), .val (.int (Int32.ofNat n1)), .val (.int (Int32.ofNat n2)), .val (.int (Int32.ofNat n3)), .val (.int (Int32.ofNat np)), .val (.int (own_b tw)), .val (.int (own_b th)), .val (.ref b101), .val (.ref b108), .val (.ref b111), .val (.ref b113), .val (.int (1 : Int32)), .val (.int (own_b q1)), .val (own_w q1 (f np)), .val (.int (own_b q2)), .val (own_w q2 (f np)), .val (.int (own_b q3)), .unset] [.null])) _
        refine XS.astore X120.here hx rfl (hb hby at_402) rfl rfl (l' := #[.val (.int p1), .val (.int p2), .val (.int p3), .val (.int p4), .val (.int p5), .val (.int p6), .val (.int (Int32.ofNat sz)), .val (.int (Int32.ofNat n1)), .val (.int (Int32.ofNat n2)), .val (.int (Int32.ofNat n3)), .val (.int (Int32.ofNat np)), .val (.int (own_b tw)), .val (.int (own_b th)), .val (.ref b101), .val (.ref b108), .val (.ref b111), .val (.ref b113), .val (.int (1 : Int32)), .val (.int (own_b q1)), .val (own_w q1 (f np)), .val (.int (own_b q2)), .val (own_w q2 (f np)), .val (.int (own_b q3)), .val .null]) rfl ?_
        exact k)
      exact P63
  have hc406 : ¬ ((1 : Int32) = (0 : Int32)) := by decide
  obtain ⟨cq121, kq121, q121a, q121b, q121c⟩ := isOf hZ eQ120 hPs2.exa
  obtain ⟨_, _, ⟨T121, L121, k121, n121⟩, -, X121, ⟨Lc121, hQ121, l121, y121, z121⟩, st121⟩ := X120.virtualBack hx (y := (⟨"com/example/runner_bean/runnerbean/service/PublishedSingletons", "get", "(I)Ljava/lang/Object;"⟩ : MethodName)) (z := (⟨"com/example/runner_bean/runnerbean/service/PublishedSingletons", "get", "(I)Ljava/lang/Object;"⟩ : MethodName)) hown (mvT hZ (hw _ (List.mem_of_getElem? (i := 32) rfl))) (mvT hZ (hw _ (List.mem_of_getElem? (i := 33) rfl))) (notFace_of_selects (args := #[]) (mvT hZ (hw _ (List.mem_of_getElem? (i := 35) rfl)))) (mvT hZ (hw _ (List.mem_of_getElem? (i := 35) rfl))) (mvT hZ (hw _ (List.mem_of_getElem? (i := 34) rfl))) (by decide) (backOf (W := 0) (rm5 l Z a0 hw [] b113 (Int32.ofNat n3) kc n Pf2 n3 T119.heap n0 hPs2.sz hn4 (ltn h3) rfl hPs2) hZ (hw _ (List.mem_of_getElem? (i := 36) rfl)) (hw _ (List.mem_of_getElem? (i := 14) rfl)) (by decide) (by decide)) q121a q121c (g := (mkF m 413 #[.val (.int p1), .val (.int p2), .val (.int p3), .val (.int p4), .val (.int p5), .val (.int p6), .val (.int (Int32.ofNat sz)), .val (.int (Int32.ofNat n1)), .val (.int (Int32.ofNat n2)), .val (.int (Int32.ofNat n3)), .val (.int (Int32.ofNat np)), .val (.int (own_b tw)), .val (.int (own_b th)), .val (.ref b101), .val (.ref b108), .val (.ref b111), .val (.ref b113), .val (.int (1 : Int32)), .val (.int (own_b q1)), .val (own_w q1 (f np)), .val (.int (own_b q2)), .val (own_w q2 (f np)), .val (.int (own_b q3)), .val (own_w q3 (f n3))] [(.int (Int32.ofNat n3)), (.ref b113)])) rfl (by rw [hml]; rfl) (Steps.refl _) (argsL := [(.int (Int32.ofNat n3))]) (rest := []) (lenOf pd_0_4 rfl) rfl (by show 2 * 0 + _ ≤ _; exact Nat.le_of_eq rfl) (hb hby at_413) (fun _ _ => ⟨rfl, eQ120, (by exact Nat.le_of_ble_eq_true rfl), (by exact Nat.le_of_ble_eq_true rfl)⟩)
  dsimp only [Pt.U, Pt.locs, Pt.cells, Pt.slots] at X121 l121 y121 z121 st121 hQ121
  subst l121 y121 z121
  obtain ⟨rfl, N121q, eQ121⟩ := hQ121
  have N121 := Fr.app N120 N121q
  rw [vq3] at st121
  have P64 : ∀ t, Steps p.tables e below (T121.setTop (mkF m 428 #[.val (.int p1), .val (.int p2), .val (.int p3), .val (.int p4), .val (.int p5), .val (.int p6), .val (.int (Int32.ofNat sz)), .val (.int (Int32.ofNat n1)), .val (.int (Int32.ofNat n2)), .val (.int (Int32.ofNat n3)), .val (.int (Int32.ofNat np)), .val (.int (own_b tw)), .val (.int (own_b th)), .val (.ref b101), .val (.ref b108), .val (.ref b111), .val (.ref b113), .val (.int (1 : Int32)), .val (.int (own_b q1)), .val (own_w q1 (f np)), .val (.int (own_b q2)), .val (own_w q2 (f np)), .val (.int (own_b q3)), .val (own_w q3 (f n3))] [])) t → Steps p.tables e below (s₁.setTop (entryFrame m #[(.int p1), (.int p2), (.int p3), (.int p4), (.int p5), (.int p6)] maxLocals)) t := fun t k => P61 t (by
    show Steps p.tables e below (T120.setTop (mkF m 404 #[.val (.int p1), .val (.int p2), .val (.int p3), .val (.int p4), .val (.int p5), .val (.int p6), .val (.int (Int32.ofNat sz)), .val (.int (Int32.ofNat n1)), .val (.int (Int32.ofNat n2)), .val (.int (Int32.ofNat n3)), .val (.int (Int32.ofNat np)), .val (.int (own_b tw)), .val (.int (own_b th)), .val (.ref b101), .val (.ref b108), .val (.ref b111), .val (.ref b113), .val (.int (1 : Int32)), .val (.int (own_b q1)), .val (own_w q1 (f np)), .val (.int (own_b q2)), .val (own_w q2 (f np)), .val (.int (own_b q3)), .val (own_w q3 (f n3))] [])) _
    refine XS.iload X120.here hx rfl (hb hby at_404) rfl ?_
    show Steps p.tables e below (T120.setTop (mkF m 406 #[.val (.int p1), .val (.int p2), .val (.int p3), .val (.int p4), .val (.int p5), .val (.int p6), .val (.int (Int32.ofNat sz)), .val (.int (Int32.ofNat n1)), .val (.int (Int32.ofNat n2)), .val (.int (Int32.ofNat n3)), .val (.int (Int32.ofNat np)), .val (.int (own_b tw)), .val (.int (own_b th)), .val (.ref b101), .val (.ref b108), .val (.ref b111), .val (.ref b113), .val (.int (1 : Int32)), .val (.int (own_b q1)), .val (own_w q1 (f np)), .val (.int (own_b q2)), .val (own_w q2 (f np)), .val (.int (own_b q3)), .val (own_w q3 (f n3))] [(.int (1 : Int32))])) _
    refine XS.ifNo X120.here hx rfl (hb hby at_406) rfl ((if0 _ _).trans (feq hc406).1) ?_
    show Steps p.tables e below (T120.setTop (mkF m 409 #[.val (.int p1), .val (.int p2), .val (.int p3), .val (.int p4), .val (.int p5), .val (.int p6), .val (.int (Int32.ofNat sz)), .val (.int (Int32.ofNat n1)), .val (.int (Int32.ofNat n2)), .val (.int (Int32.ofNat n3)), .val (.int (Int32.ofNat np)), .val (.int (own_b tw)), .val (.int (own_b th)), .val (.ref b101), .val (.ref b108), .val (.ref b111), .val (.ref b113), .val (.int (1 : Int32)), .val (.int (own_b q1)), .val (own_w q1 (f np)), .val (.int (own_b q2)), .val (own_w q2 (f np)), .val (.int (own_b q3)), .val (own_w q3 (f n3))] [])) _
    refine XS.aload X120.here hx rfl (hb hby at_409) rfl rfl ?_
    show Steps p.tables e below (T120.setTop (mkF m 411 #[.val (.int p1), .val (.int p2), .val (.int p3), .val (.int p4), .val (.int p5), .val (.int p6), .val (.int (Int32.ofNat sz)), .val (.int (Int32.ofNat n1)), .val (.int (Int32.ofNat n2)), .val (.int (Int32.ofNat n3)), .val (.int (Int32.ofNat np)), .val (.int (own_b tw)), .val (.int (own_b th)), .val (.ref b101), .val (.ref b108), .val (.ref b111), .val (.ref b113), .val (.int (1 : Int32)), .val (.int (own_b q1)), .val (own_w q1 (f np)), .val (.int (own_b q2)), .val (own_w q2 (f np)), .val (.int (own_b q3)), .val (own_w q3 (f n3))] [(.ref b113)])) _
    refine XS.iload X120.here hx rfl (hb hby at_411) rfl ?_
    show Steps p.tables e below (T120.setTop (mkF m 413 #[.val (.int p1), .val (.int p2), .val (.int p3), .val (.int p4), .val (.int p5), .val (.int p6), .val (.int (Int32.ofNat sz)), .val (.int (Int32.ofNat n1)), .val (.int (Int32.ofNat n2)), .val (.int (Int32.ofNat n3)), .val (.int (Int32.ofNat np)), .val (.int (own_b tw)), .val (.int (own_b th)), .val (.ref b101), .val (.ref b108), .val (.ref b111), .val (.ref b113), .val (.int (1 : Int32)), .val (.int (own_b q1)), .val (own_w q1 (f np)), .val (.int (own_b q2)), .val (own_w q2 (f np)), .val (.int (own_b q3)), .val (own_w q3 (f n3))] [(.int (Int32.ofNat n3)), (.ref b113)])) _
    refine st121.trans ?_
    show Steps p.tables e below (T121.setTop (mkF m 416 #[.val (.int p1), .val (.int p2), .val (.int p3), .val (.int p4), .val (.int p5), .val (.int p6), .val (.int (Int32.ofNat sz)), .val (.int (Int32.ofNat n1)), .val (.int (Int32.ofNat n2)), .val (.int (Int32.ofNat n3)), .val (.int (Int32.ofNat np)), .val (.int (own_b tw)), .val (.int (own_b th)), .val (.ref b101), .val (.ref b108), .val (.ref b111), .val (.ref b113), .val (.int (1 : Int32)), .val (.int (own_b q1)), .val (own_w q1 (f np)), .val (.int (own_b q2)), .val (own_w q2 (f np)), .val (.int (own_b q3)), .val (own_w q3 (f n3))] [(own_w q3 (f n3))])) _
    refine XS.aload X121.here hx rfl (hb hby at_416) rfl (own_w_ref (hfr _)) ?_
    show Steps p.tables e below (T121.setTop (mkF m 418 #[.val (.int p1), .val (.int p2), .val (.int p3), .val (.int p4), .val (.int p5), .val (.int p6), .val (.int (Int32.ofNat sz)), .val (.int (Int32.ofNat n1)), .val (.int (Int32.ofNat n2)), .val (.int (Int32.ofNat n3)), .val (.int (Int32.ofNat np)), .val (.int (own_b tw)), .val (.int (own_b th)), .val (.ref b101), .val (.ref b108), .val (.ref b111), .val (.ref b113), .val (.int (1 : Int32)), .val (.int (own_b q1)), .val (own_w q1 (f np)), .val (.int (own_b q2)), .val (own_w q2 (f np)), .val (.int (own_b q3)), .val (own_w q3 (f n3))] [(own_w q3 (f n3)), (own_w q3 (f n3))])) _
    refine Jvm.RoadKit.acmp (g := (mkF m 418 #[.val (.int p1), .val (.int p2), .val (.int p3), .val (.int p4), .val (.int p5), .val (.int p6), .val (.int (Int32.ofNat sz)), .val (.int (Int32.ofNat n1)), .val (.int (Int32.ofNat n2)), .val (.int (Int32.ofNat n3)), .val (.int (Int32.ofNat np)), .val (.int (own_b tw)), .val (.int (own_b th)), .val (.ref b101), .val (.ref b108), .val (.ref b111), .val (.ref b113), .val (.int (1 : Int32)), .val (.int (own_b q1)), .val (own_w q1 (f np)), .val (.int (own_b q2)), .val (own_w q2 (f np)), .val (.int (own_b q3)), .val (own_w q3 (f n3))] [(own_w q3 (f n3)), (own_w q3 (f n3))])) X121 hx rfl (own_w_ref (hfr _)) (own_w_ref (hfr _)) (pc0 := 418) (pc' := 421) (same := true) rfl (hb hby at_418) rfl (decide_eq_true rfl) (by decide) (by decide) ?_
    show Steps p.tables e below (T121.setTop (mkF m 421 #[.val (.int p1), .val (.int p2), .val (.int p3), .val (.int p4), .val (.int p5), .val (.int p6), .val (.int (Int32.ofNat sz)), .val (.int (Int32.ofNat n1)), .val (.int (Int32.ofNat n2)), .val (.int (Int32.ofNat n3)), .val (.int (Int32.ofNat np)), .val (.int (own_b tw)), .val (.int (own_b th)), .val (.ref b101), .val (.ref b108), .val (.ref b111), .val (.ref b113), .val (.int (1 : Int32)), .val (.int (own_b q1)), .val (own_w q1 (f np)), .val (.int (own_b q2)), .val (own_w q2 (f np)), .val (.int (own_b q3)), .val (own_w q3 (f n3))] [])) _
    refine XS.iconst X121.here hx rfl (hb hby at_421) ?_
    show Steps p.tables e below (T121.setTop (mkF m 422 #[.val (.int p1), .val (.int p2), .val (.int p3), .val (.int p4), .val (.int p5), .val (.int p6), .val (.int (Int32.ofNat sz)), .val (.int (Int32.ofNat n1)), .val (.int (Int32.ofNat n2)), .val (.int (Int32.ofNat n3)), .val (.int (Int32.ofNat np)), .val (.int (own_b tw)), .val (.int (own_b th)), .val (.ref b101), .val (.ref b108), .val (.ref b111), .val (.ref b113), .val (.int (1 : Int32)), .val (.int (own_b q1)), .val (own_w q1 (f np)), .val (.int (own_b q2)), .val (own_w q2 (f np)), .val (.int (own_b q3)), .val (own_w q3 (f n3))] [(.int (1 : Int32))])) _
    refine XS.goto X121.here hx rfl (pc0 := 422) (pc' := 426) rfl (hb hby at_422) (by decide) (by decide) ?_
    show Steps p.tables e below (T121.setTop (mkF m 426 #[.val (.int p1), .val (.int p2), .val (.int p3), .val (.int p4), .val (.int p5), .val (.int p6), .val (.int (Int32.ofNat sz)), .val (.int (Int32.ofNat n1)), .val (.int (Int32.ofNat n2)), .val (.int (Int32.ofNat n3)), .val (.int (Int32.ofNat np)), .val (.int (own_b tw)), .val (.int (own_b th)), .val (.ref b101), .val (.ref b108), .val (.ref b111), .val (.ref b113), .val (.int (1 : Int32)), .val (.int (own_b q1)), .val (own_w q1 (f np)), .val (.int (own_b q2)), .val (own_w q2 (f np)), .val (.int (own_b q3)), .val (own_w q3 (f n3))] [(.int (1 : Int32))])) _
    refine XS.istore X121.here hx rfl (hb hby at_426) rfl (l' := #[.val (.int p1), .val (.int p2), .val (.int p3), .val (.int p4), .val (.int p5), .val (.int p6), .val (.int (Int32.ofNat sz)), .val (.int (Int32.ofNat n1)), .val (.int (Int32.ofNat n2)), .val (.int (Int32.ofNat n3)), .val (.int (Int32.ofNat np)), .val (.int (own_b tw)), .val (.int (own_b th)), .val (.ref b101), .val (.ref b108), .val (.ref b111), .val (.ref b113), .val (.int (1 : Int32)), .val (.int (own_b q1)), .val (own_w q1 (f np)), .val (.int (own_b q2)), .val (own_w q2 (f np)), .val (.int (own_b q3)), .val (own_w q3 (f n3))]) rfl ?_
    exact k)
  have P65 : ∀ t, Steps p.tables e below (T121.setTop (mkF m 430 #[.val (.int p1), .val (.int p2), .val (.int p3), .val (.int p4), .val (.int p5), .val (.int p6), .val (.int (Int32.ofNat sz)), .val (.int (Int32.ofNat n1)), .val (.int (Int32.ofNat n2)), .val (.int (Int32.ofNat n3)), .val (.int (Int32.ofNat np)), .val (.int (own_b tw)), .val (.int (own_b th)), .val (.ref b101), .val (.ref b108), .val (.ref b111), .val (.ref b113), .val (.int (1 : Int32)), .val (.int (own_b q1)), .val (own_w q1 (f np)), .val (.int (own_b q2)), .val (own_w q2 (f np)), .val (.int (own_b q3)), .val (own_w q3 (f n3))] [(.int (1 : Int32))])) t → Steps p.tables e below (s₁.setTop (entryFrame m #[(.int p1), (.int p2), (.int p3), (.int p4), (.int p5), (.int p6)] maxLocals)) t := fun t k => P64 t (by
    show Steps p.tables e below (T121.setTop (mkF m 428 #[.val (.int p1), .val (.int p2), .val (.int p3), .val (.int p4), .val (.int p5), .val (.int p6), .val (.int (Int32.ofNat sz)), .val (.int (Int32.ofNat n1)), .val (.int (Int32.ofNat n2)), .val (.int (Int32.ofNat n3)), .val (.int (Int32.ofNat np)), .val (.int (own_b tw)), .val (.int (own_b th)), .val (.ref b101), .val (.ref b108), .val (.ref b111), .val (.ref b113), .val (.int (1 : Int32)), .val (.int (own_b q1)), .val (own_w q1 (f np)), .val (.int (own_b q2)), .val (own_w q2 (f np)), .val (.int (own_b q3)), .val (own_w q3 (f n3))] [])) _
    refine XS.iload X121.here hx rfl (hb hby at_428) rfl ?_
    exact k)
  obtain ⟨fs, hr, hrun, hended, hW, hsame⟩ := X121.leave (v := some (.int (1 : Int32))) (fun h => by rw [Bd.returns] at h; cases h)
  refine ⟨_, _, P65 _ (retN X121 hx (t := .boolean) Bd.returns (by simp) (hb hby at_430) hr), hrun, hended, _, _, rfl, ?_, ⟨_, rfl⟩, hW, hsame.mono (by decide) (by decide)⟩
  exact ⟨rfl, N121⟩
theorem own_elemN {args : Array Value} {s : State} {t : Term} {a : Addr} {cl : Cell} {k : Int32} (ht : t.eval args s none [] s = some (.ref a)) (hc : s.heap[a]? = some cl) (h : (Cond.eq (.elem t (.int k)) .null).value args s none s [] = some true) : cl.slots[k.toNatClampNeg]? = some .null := (elem_in (null_v h) ht (Term.int_eval k) hc).2
theorem own_ovr {s : State} {args : Array Value} {h : Heap} {a : Addr} {c : Cell} (w : (Jvm.Cond.arrayOver (.object "java/lang/Object")).before args s = true) (E : Exa s h a "[Ljava/lang/Object;") (A : Arr s h a c (.object "java/lang/Object")) : Ovr s c.cls "java/lang/Object" := by
  obtain ⟨comp, cA, k, h1, -, h3, h4, h5⟩ := Cond.arrayOver_spec w
  obtain ⟨c', k', g1, g2, -⟩ := E
  cases A.1.symm.trans g1
  have q : s.vm.findClass "[Ljava/lang/Object;" = some cA := h5
  cases q.symm.trans g2
  exact ⟨k, comp, h3, h4, h1⟩
theorem own_boxes {args : Array Value} {s : State} {ca : Addr} {cca : Cell} (vC : (Term.static "java/lang/Integer$IntegerCache" "cache" "[Ljava/lang/Integer;").eval args s none [] s = some (.ref ca)) (AC : Arr s s.heap ca cca (.object "java/lang/Integer")) (lC : cca.slots.size < 2147483648 ∧ cca.slots.size.toInt32 = (256 : Int32)) (h : (Jvm.Cond.all (Term.static "java/lang/Integer$IntegerCache" "cache" "[Ljava/lang/Integer;") (Jvm.Cond.and (Jvm.Cond.exactly (Term.elem (Term.static "java/lang/Integer$IntegerCache" "cache" "[Ljava/lang/Integer;") (Term.index 0)) "java/lang/Integer") (Jvm.Cond.eq (Term.field (Term.elem (Term.static "java/lang/Integer$IntegerCache" "cache" "[Ljava/lang/Integer;") (Term.index 0)) "java/lang/Integer" "value" "I") (Term.sub (Term.index 0) (Term.int 128))))).value args s none s [] = some true) : ∀ k, k < 256 → ∃ x : Addr, cca.slots[k]? = some (.ref x) ∧ Exa s s.heap x "java/lang/Integer" := by
  have B := Bxs.start (val := fun j => .int (j - 128)) (d := "I") (K := "java/lang/Integer") (z := (256 : Int32)) (fun idx => vC) AC lC.1 lC.2 (by decide) h (fun X j nn q => eqv_i (Term.sub_int (idx_at nn) (Term.int_eval 128)) q)
  intro k hk
  obtain ⟨x, q1, q2, -⟩ := B.2.2.2 (Int32.ofNat k) (by rw [own_size lC]; exact idx_in hk (by decide))
  rw [own_clamp (by omega)] at q1
  exact ⟨x, q1, q2⟩
set_option maxRecDepth 65536 in
set_option maxHeartbeats 40000000 in
theorem comes_1 {Post : Tables → Env → Array Value → State → Outcome → State → Prop} (hpost : ∀ tb e args s v u, (limb_1_1.after args s (.returned v) u = true ∧ limb_1_2.after args s (.returned v) u = true ∧ True) → FrameEnd s (.returned v) u (Jvm.fieldLocs frame_1_writes args s ++ Jvm.arrayLocs frame_1_arrays args s ++ Jvm.staticLocs frame_1_statics s) 32 1024 → Post tb e args s (.returned v) u) :
    ArmFor flags0 classFile x code maxLocals ret World_1 tables_1 room_1 Calls_1 rest_1 Pre_1 Post := by
  intro l hfl _ _ p e ha hc hk s m args below hf hA hF happ hP
  obtain ⟨hcalls, hrest, hpre⟩ := hP
  obtain ⟨-, -, -, hnamed, -, -, -, hat⟩ := (Spec.applies_iff hf).mp happ
  obtain ⟨hg, hn⟩ := and_e (Cond.before_iff.mp (show (Jvm.Cond.and given_1 narrow_1).before args s = true from hpre))
  obtain ⟨g29, g30⟩ := and_e hg
  obtain ⟨g31, g32⟩ := and_e g30
  obtain ⟨g33, g34⟩ := and_e g32
  obtain ⟨g35, g36⟩ := and_e g34
  obtain ⟨g37, g38⟩ := and_e g36
  obtain ⟨g39, g40⟩ := and_e g38
  obtain ⟨w0, w1, w2, w3, w4, w5, rfl⟩ : ∃ w0 w1 w2 w3 w4 w5 : Value, args = #[w0, w1, w2, w3, w4, w5] := by
    have hs : args.size = 6 := by simpa [Cond.value, given_1] using g29
    obtain ⟨L⟩ := args
    match L, hs with
    | [w0, w1, w2, w3, w4, w5], _ => exact ⟨w0, w1, w2, w3, w4, w5, rfl⟩
  have hw := fun d (hd : d ∈ tables_1) => atoms_spec (ws := Jvm.Cond.code x code maxLocals ret :: tables_1) hat d (List.mem_cons_of_mem _ hd)
  have hfit : Fit s := fun {y c} hc i hi => by
    obtain ⟨ha, rfl⟩ := Array.getElem?_eq_some_iff.mp hc
    have q := List.all_eq_true.mp ((Array.all_eq_true_iff_forall_mem.mp hF) _ (Array.getElem_mem ha)) i (List.mem_range.mpr hi)
    simpa [Array.getElem?_eq_getElem hi] using q
  -- the named sets: hsets indexes jdkStatics_1 (Statement.lean): (hsets _ (List.mem_of_getElem? (i := n) rfl)) is its n-th word, before the call
  obtain ⟨hsets, hown0⟩ := atoms_of _ (rest_1_c_eq ▸ (show rest_1_c.before _ s = true from hrest))
  have hr0 := Cond.before_iff.mp hown0
  obtain ⟨i0, ei0⟩ := is_v g31
  obtain rfl : w0 = (.int i0) := Option.some.inj ei0
  obtain ⟨i1, ei1⟩ := is_v g33
  obtain rfl : w1 = (.int i1) := Option.some.inj ei1
  obtain ⟨i2, ei2⟩ := is_v g35
  obtain rfl : w2 = (.int i2) := Option.some.inj ei2
  obtain ⟨i3, ei3⟩ := is_v g37
  obtain rfl : w3 = (.int i3) := Option.some.inj ei3
  obtain ⟨i4, ei4⟩ := is_v g39
  obtain rfl : w4 = (.int i4) := Option.some.inj ei4
  obtain ⟨i5, ei5⟩ := is_v g40
  obtain rfl : w5 = (.int i5) := Option.some.inj ei5
  obtain ⟨xU, hn⟩ := and_e hn
  obtain ⟨yU, hn⟩ := and_e hn
  obtain ⟨nU, hn⟩ := and_e hn
  obtain ⟨j0, hn⟩ := and_e hn
  obtain ⟨j1, hn⟩ := and_e hn
  obtain ⟨j2, hn⟩ := and_e hn
  obtain ⟨j3, hn⟩ := and_e hn
  obtain ⟨j4, hn⟩ := and_e hn
  obtain ⟨j5, hn⟩ := and_e hn
  obtain ⟨j6, hn⟩ := and_e hn
  obtain ⟨j7, hn⟩ := and_e hn
  obtain ⟨j8, hn⟩ := and_e hn
  obtain ⟨j9, hn⟩ := and_e hn
  obtain ⟨j10, hn⟩ := and_e hn
  obtain ⟨j11, hn⟩ := and_e hn
  obtain ⟨j12, hn⟩ := and_e hn
  obtain ⟨j13, hn⟩ := and_e hn
  obtain ⟨j14, hn⟩ := and_e hn
  obtain ⟨j15, hn⟩ := and_e hn
  obtain ⟨j16, hn⟩ := and_e hn
  obtain ⟨j17, hn⟩ := and_e hn
  obtain ⟨j18, hn⟩ := and_e hn
  obtain ⟨j19, hn⟩ := and_e hn
  obtain ⟨j20, hn⟩ := and_e hn
  obtain ⟨j21, hn⟩ := and_e hn
  obtain ⟨j22, hn⟩ := and_e hn
  obtain ⟨j23, hn⟩ := and_e hn
  obtain ⟨j24, hn⟩ := and_e hn
  obtain ⟨j25, hn⟩ := and_e hn
  obtain ⟨j26, hn⟩ := and_e hn
  obtain ⟨j27, hn⟩ := and_e hn
  obtain ⟨j28, hn⟩ := and_e hn
  obtain ⟨j29, hn⟩ := and_e hn
  obtain ⟨j30, hn⟩ := and_e hn
  obtain ⟨j31, hn⟩ := and_e hn
  obtain ⟨j32, hn⟩ := and_e hn
  obtain ⟨j33, hn⟩ := and_e hn
  obtain ⟨j34, hn⟩ := and_e hn
  obtain ⟨j35, hn⟩ := and_e hn
  obtain ⟨j36, hn⟩ := and_e hn
  obtain ⟨j37, hn⟩ := and_e hn
  obtain ⟨j38, hn⟩ := and_e hn
  obtain ⟨j39, hn⟩ := and_e hn
  obtain ⟨j40, hn⟩ := and_e hn
  obtain ⟨j41, hn⟩ := and_e hn
  obtain ⟨j42, hn⟩ := and_e hn
  obtain ⟨j43, hn⟩ := and_e hn
  obtain ⟨j44, hn⟩ := and_e hn
  obtain ⟨j45, hn⟩ := and_e hn
  obtain ⟨j46, hn⟩ := and_e hn
  obtain ⟨j47, hn⟩ := and_e hn
  obtain ⟨j48, hn⟩ := and_e hn
  obtain ⟨j49, hn⟩ := and_e hn
  obtain ⟨j50, hn⟩ := and_e hn
  obtain ⟨j51, hn⟩ := and_e hn
  obtain ⟨j52, hn⟩ := and_e hn
  obtain ⟨j53, hn⟩ := and_e hn
  obtain ⟨j54, hn⟩ := and_e hn
  obtain ⟨j55, hn⟩ := and_e hn
  obtain ⟨j56, hn⟩ := and_e hn
  obtain ⟨j57, hn⟩ := and_e hn
  obtain ⟨j58, hn⟩ := and_e hn
  obtain ⟨j59, hn⟩ := and_e hn
  obtain ⟨j60, hn⟩ := and_e hn
  obtain ⟨j61, hn⟩ := and_e hn
  obtain ⟨j62, hn⟩ := and_e hn
  have j63 := hn
  obtain ⟨u, vU⟩ := arr_v xU
  have SU := Sta.start vU (Or.inr ⟨(hw _ (List.mem_of_getElem? (i := 14) rfl)), (hw _ (List.mem_of_getElem? (i := 24) rfl))⟩)
  obtain ⟨cU, AU⟩ := Arr.start vU xU
  have EU := Exa.start vU yU
  have zU := own_size (own_len vU AU.1 nU)
  have fU : ∀ k, k < 64 → cU.slots[k]? = some .null := by
    intro k hk
    match k, hk with
    | 0, _ => exact own_elemN vU AU.1 j0
    | 1, _ => exact own_elemN vU AU.1 j1
    | 2, _ => exact own_elemN vU AU.1 j2
    | 3, _ => exact own_elemN vU AU.1 j3
    | 4, _ => exact own_elemN vU AU.1 j4
    | 5, _ => exact own_elemN vU AU.1 j5
    | 6, _ => exact own_elemN vU AU.1 j6
    | 7, _ => exact own_elemN vU AU.1 j7
    | 8, _ => exact own_elemN vU AU.1 j8
    | 9, _ => exact own_elemN vU AU.1 j9
    | 10, _ => exact own_elemN vU AU.1 j10
    | 11, _ => exact own_elemN vU AU.1 j11
    | 12, _ => exact own_elemN vU AU.1 j12
    | 13, _ => exact own_elemN vU AU.1 j13
    | 14, _ => exact own_elemN vU AU.1 j14
    | 15, _ => exact own_elemN vU AU.1 j15
    | 16, _ => exact own_elemN vU AU.1 j16
    | 17, _ => exact own_elemN vU AU.1 j17
    | 18, _ => exact own_elemN vU AU.1 j18
    | 19, _ => exact own_elemN vU AU.1 j19
    | 20, _ => exact own_elemN vU AU.1 j20
    | 21, _ => exact own_elemN vU AU.1 j21
    | 22, _ => exact own_elemN vU AU.1 j22
    | 23, _ => exact own_elemN vU AU.1 j23
    | 24, _ => exact own_elemN vU AU.1 j24
    | 25, _ => exact own_elemN vU AU.1 j25
    | 26, _ => exact own_elemN vU AU.1 j26
    | 27, _ => exact own_elemN vU AU.1 j27
    | 28, _ => exact own_elemN vU AU.1 j28
    | 29, _ => exact own_elemN vU AU.1 j29
    | 30, _ => exact own_elemN vU AU.1 j30
    | 31, _ => exact own_elemN vU AU.1 j31
    | 32, _ => exact own_elemN vU AU.1 j32
    | 33, _ => exact own_elemN vU AU.1 j33
    | 34, _ => exact own_elemN vU AU.1 j34
    | 35, _ => exact own_elemN vU AU.1 j35
    | 36, _ => exact own_elemN vU AU.1 j36
    | 37, _ => exact own_elemN vU AU.1 j37
    | 38, _ => exact own_elemN vU AU.1 j38
    | 39, _ => exact own_elemN vU AU.1 j39
    | 40, _ => exact own_elemN vU AU.1 j40
    | 41, _ => exact own_elemN vU AU.1 j41
    | 42, _ => exact own_elemN vU AU.1 j42
    | 43, _ => exact own_elemN vU AU.1 j43
    | 44, _ => exact own_elemN vU AU.1 j44
    | 45, _ => exact own_elemN vU AU.1 j45
    | 46, _ => exact own_elemN vU AU.1 j46
    | 47, _ => exact own_elemN vU AU.1 j47
    | 48, _ => exact own_elemN vU AU.1 j48
    | 49, _ => exact own_elemN vU AU.1 j49
    | 50, _ => exact own_elemN vU AU.1 j50
    | 51, _ => exact own_elemN vU AU.1 j51
    | 52, _ => exact own_elemN vU AU.1 j52
    | 53, _ => exact own_elemN vU AU.1 j53
    | 54, _ => exact own_elemN vU AU.1 j54
    | 55, _ => exact own_elemN vU AU.1 j55
    | 56, _ => exact own_elemN vU AU.1 j56
    | 57, _ => exact own_elemN vU AU.1 j57
    | 58, _ => exact own_elemN vU AU.1 j58
    | 59, _ => exact own_elemN vU AU.1 j59
    | 60, _ => exact own_elemN vU AU.1 j60
    | 61, _ => exact own_elemN vU AU.1 j61
    | 62, _ => exact own_elemN vU AU.1 j62
    | 63, _ => exact own_elemN vU AU.1 j63
    | k + 64, hk => exact absurd hk (by omega)
  have OU : Ovr s cU.cls "java/lang/Object" := own_ovr (hw _ (List.mem_of_getElem? (i := 2) rfl)) EU AU
  have HU : ∀ i, own_Ch s s.heap u (fun _ => .null) i := fun i => ⟨cU, AU, EU, OU, zU, fun j hj => fU j hj⟩
  have cH := Cond.before_iff.mp (hsets _ (List.mem_of_getElem? (i := 3) rfl))
  have vH := eqv_i (Term.int_eval 127) cH
  have SH := Sta.start vH (Or.inl (hsets _ (List.mem_of_getElem? (i := 1) rfl)))
  have cA := Cond.before_iff.mp (hsets _ (List.mem_of_getElem? (i := 4) rfl))
  obtain ⟨ca, vC⟩ := arr_v cA
  have SC := Sta.start vC (Or.inr ⟨(hw _ (List.mem_of_getElem? (i := 8) rfl)), (hsets _ (List.mem_of_getElem? (i := 2) rfl))⟩)
  obtain ⟨cca, AC⟩ := Arr.start vC cA
  have lC := own_len vC AC.1 (Cond.before_iff.mp (hsets _ (List.mem_of_getElem? (i := 6) rfl)))
  have zC := own_size lC
  have BX := own_boxes vC AC lC (Cond.before_iff.mp (hsets _ (List.mem_of_getElem? (i := 7) rfl)))
  obtain ⟨x1, f1, X1_⟩ := BX 129 (by omega)
  obtain ⟨x2, f2, X2_⟩ := BX 130 (by omega)
  obtain ⟨x3, f3, X3_⟩ := BX 131 (by omega)
  obtain ⟨sz, hz1, hz2, esz⟩ := own_szI i0
  obtain ⟨n1, h1, e1⟩ := own_remI i1 _ hz1 hz2 esz
  obtain ⟨n2, h2, e2⟩ := own_remI i2 _ hz1 hz2 esz
  obtain ⟨n3, h3, e3⟩ := own_remI i3 _ hz1 hz2 esz
  obtain ⟨np, hp, ep⟩ := own_remI i4 _ hz1 hz2 esz
  obtain ⟨tw, tw0, tw1⟩ : ∃ t : Bool, ((i5 &&& (1 : Int32)) = (0 : Int32) → t = false) ∧ (¬ ((i5 &&& (1 : Int32)) = (0 : Int32)) → t = true) := ⟨!decide ((i5 &&& (1 : Int32)) = (0 : Int32)), fun q => by simp [q], fun q => by simp [q]⟩
  obtain ⟨th, th0, th1⟩ : ∃ t : Bool, ((i5 &&& (2 : Int32)) = (0 : Int32) → t = false) ∧ (¬ ((i5 &&& (2 : Int32)) = (0 : Int32)) → t = true) := ⟨!decide ((i5 &&& (2 : Int32)) = (0 : Int32)), fun q => by simp [q], fun q => by simp [q]⟩
  obtain ⟨n, o, h1, h2, h3, _, L, rfl, ⟨rfl, N⟩, hq⟩ := rm0 l s _ hw tables_1 i0 i1 i2 i3 i4 i5  s.heap s.heap.size (Nat.le_refl _) sz n1 n2 n3 np tw th hz1 hz2 h1 h2 h3 hp esz e1 e2 e3 ep tw0 tw1 th0 th1 u ca x1 x2 x3 cca SU HU SH SC AC zC f1 f2 f3 X1_ X2_ X3_ p e ha hc hk s m _ below hf ((Spec.applies_iff_loose hf).mp happ).1 ⟨rfl, State.Warmed39.refl s, rfl⟩ trivial
  refine ⟨n, _, h1, h2, h3, hpost _ _ _ _ _ _ ⟨Cond.after_iff.mpr rfl, Cond.after_iff.mpr (eq_i res_at (Term.int_eval (1)) rfl), trivial⟩ ⟨hq.1, hq.2.1, (hq.2.2.sift fun y hy => Or.inr (N y hy)).mono (by decide) (by decide)⟩⟩
theorem main_1_1 : Claimed_1_1 := comes_1 fun _ _ _ _ _ _ h hF => ⟨h.1, hF⟩
theorem main_1_2 : Claimed_1_2 := comes_1 fun _ _ _ _ _ _ h hF => ⟨h.2.1, hF⟩
end Jvm.Pilot.@@N@@
namespace Jvm.Pilot.@@N@@
open Jvm Jvm.ClassFile Sem Op Lib Jvm.Free Jvm.Stand Jvm.Pilot.@@N@@.Jvm.D
/-! MADE BY PROGRAM (witnessworld.py) out of the Statement's table words and the real class files: 18 classes; the members and pool entries that the words name. The judged class is class 1, her method 1. -/
namespace start1
open Jvm.ClassFile
def u (s : String) : CpInfo := .utf8 (stringToUtf16 s)
/-- a pool by its gaps: so many unusable entries, then the entry; so many at the end -/
def gap : Nat → List CpInfo → List CpInfo
  | 0, r => r
  | n + 1, r => .unusable :: gap n r
def poolList (es : List (Nat × CpInfo)) (last : Nat) : List CpInfo := es.foldr (fun e r => gap e.1 (e.2 :: r)) (gap last [])
def pool (es : List (Nat × CpInfo)) (last : Nat) : Array CpInfo := ⟨poolList es last⟩
def fileOf (pool : Array CpInfo) (this : Nat) (attrs : Array Attribute := #[]) (ms : Array MethodInfo := #[]) (fl : Nat := 33) (sup : Nat := 0) (ifs : Array Nat := #[]) (fds : Array FieldInfo := #[]) : ClassFile where
  minorVersion := 0
  majorVersion := 65
  constantPool := pool
  accessFlags := fl
  thisClass := this
  superClass := sup
  interfaces := ifs
  fields := fds
  methods := ms
  attributes := attrs
def plain (name : String) (sup : Option ClassId) : Class where
  name := name
  kind := .ordinary
  loader := none
  accessFlags := 33
  super := sup
  interfaces := #[]
  cf := none
  fields := #[]
  methods := #[]
  instanceTypes := #[]
  staticTypes := #[]
  resolved := #[]
  callSites := []
  init := .initialized
  statics := none
  mirror := none

def pool0 : Array CpInfo := pool [(5, u "<init>"), (0, u "()V"), (1, .class_ 10), (1, u "java/lang/Object"), (85, u "clone"), (0, u "()Ljava/lang/Object;")] 26

def k0c0 : Code := { maxStack := 0, maxLocals := 1, code := object_method_1_code, exceptionTable := #[], attributes := #[] }
def k0m0 : Method := { name := "<init>", desc := "()V", sig := { parameters := [], returnType := none }, accessFlags := 1, code := some k0c0 }
def k0m1 : Method := { name := "clone", desc := "()Ljava/lang/Object;", sig := { parameters := [], returnType := some (.object "java/lang/Object") }, accessFlags := 260, code := none }
/-- java/lang/Object -/
def k0 : Class := { plain "java/lang/Object" none with
  accessFlags := 33
  interfaces := #[]
  cf := some (fileOf pool0 8 #[] #[{ accessFlags := 1, nameIndex := 5, descriptorIndex := 6, attributes := #[] }, { accessFlags := 260, nameIndex := 96, descriptorIndex := 97, attributes := #[] }] 33 0 #[] #[])
  fields := #[]
  methods := #[k0m0, k0m1]
  instanceTypes := #[]
  staticTypes := #[]
  resolved := Array.replicate 124 none
  statics := none }

def pool1 : Array CpInfo := pool [(2, .class_ 4), (1, u "java/lang/Object"), (0, u "<init>"), (0, u "()V"), (0, .integer 2147483647), (0, .methodref 9 10), (0, .class_ 11), (0, .nameAndType 12 13), (0, u "java/lang/Integer"), (0, u "valueOf"), (0, u "(I)Ljava/lang/Integer;"), (0, .class_ 15), (0, u "com/example/runner_bean/runnerbean/service/PublishedSingletons"), (0, .methodref 14 17), (0, .nameAndType 5 18), (0, u "(I)V"), (0, .methodref 14 20), (0, .nameAndType 21 22), (0, u "get"), (0, u "(I)Ljava/lang/Object;"), (0, .methodref 14 24), (0, .nameAndType 25 26), (0, u "publish"), (0, u "([II[Ljava/lang/Object;)V"), (0, .class_ 28), (0, u "com/example/runner_bean/runnerbean/service/PublishedSingletonsGetPinLaw"), (2, u "law"), (0, u "(IIIIII)Z")] 7

def k1m0 : Method := { name := "<init>", desc := "()V", sig := { parameters := [], returnType := none }, accessFlags := 1, code := none }
def k1c1 : Code := { maxStack := 4, maxLocals := 24, code := code, exceptionTable := #[], attributes := #[] }
def k1m1 : Method := { name := "law", desc := "(IIIIII)Z", sig := { parameters := [.int, .int, .int, .int, .int, .int], returnType := some .boolean }, accessFlags := 9, code := some k1c1 }
/-- com/example/runner_bean/runnerbean/service/PublishedSingletonsGetPinLaw -/
def k1 : Class := { plain "com/example/runner_bean/runnerbean/service/PublishedSingletonsGetPinLaw" (some 0) with
  accessFlags := 49
  interfaces := #[]
  cf := some (fileOf pool1 27 #[] #[{ accessFlags := 1, nameIndex := 5, descriptorIndex := 6, attributes := #[] }, { accessFlags := 9, nameIndex := 31, descriptorIndex := 32, attributes := #[] }] 49 2 #[] #[])
  fields := #[]
  methods := #[k1m0, k1m1]
  instanceTypes := #[]
  staticTypes := #[]
  resolved := Array.replicate 40 none
  statics := none }

def pool2 : Array CpInfo := pool [(1, .class_ 2), (0, u "java/io/Serializable"), (0, .class_ 4), (0, u "java/lang/Object")] 2

/-- java/io/Serializable -/
def k2 : Class := { plain "java/io/Serializable" (some 0) with
  accessFlags := 1537
  interfaces := #[]
  cf := some (fileOf pool2 1 #[] #[] 1537 3 #[] #[])
  fields := #[]
  methods := #[]
  instanceTypes := #[]
  staticTypes := #[]
  resolved := Array.replicate 7 none
  statics := none }

def pool3 : Array CpInfo := pool [(2, .class_ 4), (1, u "java/lang/Object"), (0, u "<init>"), (0, u "()V"), (1, .class_ 10), (1, u "java/lang/Number"), (2, .class_ 14), (0, u "java/io/Serializable"), (0, u "serialVersionUID"), (0, u "J")] 20

def k3m0 : Method := { name := "<init>", desc := "()V", sig := { parameters := [], returnType := none }, accessFlags := 1, code := none }
/-- java/lang/Number -/
def k3 : Class := { plain "java/lang/Number" (some 0) with
  accessFlags := 1057
  interfaces := #[2]
  cf := some (fileOf pool3 8 #[] #[{ accessFlags := 1, nameIndex := 5, descriptorIndex := 6, attributes := #[] }] 1057 2 #[13] #[{ accessFlags := 26, nameIndex := 15, descriptorIndex := 16, attributes := #[] }])
  fields := #[{ name := "serialVersionUID", type := .long, accessFlags := 26, slot := 0, constantValue := 0 }]
  methods := #[k3m0]
  instanceTypes := #[]
  staticTypes := #[.long]
  resolved := Array.replicate 37 none
  statics := none }

def pool4 : Array CpInfo := pool [(1, .class_ 2), (0, u "java/lang/Comparable"), (0, .class_ 4), (0, u "java/lang/Object")] 7

/-- java/lang/Comparable -/
def k4 : Class := { plain "java/lang/Comparable" (some 0) with
  accessFlags := 1537
  interfaces := #[]
  cf := some (fileOf pool4 1 #[] #[] 1537 3 #[] #[])
  fields := #[]
  methods := #[]
  instanceTypes := #[]
  staticTypes := #[]
  resolved := Array.replicate 12 none
  statics := none }

def pool5 : Array CpInfo := pool [(1, .class_ 2), (0, u "java/lang/constant/Constable"), (0, .class_ 4), (0, u "java/lang/Object")] 6

/-- java/lang/constant/Constable -/
def k5 : Class := { plain "java/lang/constant/Constable" (some 0) with
  accessFlags := 1537
  interfaces := #[]
  cf := some (fileOf pool5 1 #[] #[] 1537 3 #[] #[])
  fields := #[]
  methods := #[]
  instanceTypes := #[]
  staticTypes := #[]
  resolved := Array.replicate 11 none
  statics := none }

def pool6 : Array CpInfo := pool [(1, .class_ 2), (0, u "java/lang/constant/ConstantDesc"), (0, .class_ 4), (0, u "java/lang/Object")] 32

/-- java/lang/constant/ConstantDesc -/
def k6 : Class := { plain "java/lang/constant/ConstantDesc" (some 0) with
  accessFlags := 1537
  interfaces := #[]
  cf := some (fileOf pool6 1 #[] #[] 1537 3 #[] #[])
  fields := #[]
  methods := #[]
  instanceTypes := #[]
  staticTypes := #[]
  resolved := Array.replicate 37 none
  statics := none }

def pool7 : Array CpInfo := pool [(1, .class_ 2), (0, u "java/lang/Integer"), (16, u "digits"), (0, u "[C"), (64, u "DigitOnes"), (0, u "[B"), (2, u "DigitTens"), (97, u "valueOf"), (0, u "(I)Ljava/lang/Integer;"), (0, .class_ 190), (0, u "java/lang/Integer$IntegerCache"), (0, .fieldref 189 192), (0, .nameAndType 193 194), (0, u "high"), (0, u "I"), (0, .fieldref 189 196), (0, .nameAndType 197 198), (0, u "cache"), (0, u "[Ljava/lang/Integer;"), (4, .class_ 204), (0, u "java/lang/Number"), (2, u "value"), (94, u "TYPE"), (0, u "Ljava/lang/Class;"), (0, .class_ 305), (0, u "java/lang/Comparable"), (0, .class_ 307), (0, u "java/lang/constant/Constable"), (0, .class_ 309), (0, u "java/lang/constant/ConstantDesc"), (0, u "MIN_VALUE"), (1, u "MAX_VALUE"), (3, u "SIZE"), (1, u "BYTES"), (1, u "serialVersionUID"), (0, u "J")] 131

def k7c0 : Code := { maxStack := 3, maxLocals := 1, code := jdk_33_method_22_code, exceptionTable := #[], attributes := #[] }
def k7m0 : Method := { name := "valueOf", desc := "(I)Ljava/lang/Integer;", sig := { parameters := [.int], returnType := some (.object "java/lang/Integer") }, accessFlags := 9, code := some k7c0 }
/-- java/lang/Integer -/
def k7 : Class := { plain "java/lang/Integer" (some 3) with
  accessFlags := 49
  interfaces := #[4, 5, 6]
  cf := some (fileOf pool7 1 #[.nestMembers #[189]] #[{ accessFlags := 9, nameIndex := 187, descriptorIndex := 188, attributes := #[] }] 49 203 #[304, 306, 308] #[{ accessFlags := 25, nameIndex := 310, descriptorIndex := 194, attributes := #[] }, { accessFlags := 25, nameIndex := 312, descriptorIndex := 194, attributes := #[] }, { accessFlags := 25, nameIndex := 302, descriptorIndex := 303, attributes := #[] }, { accessFlags := 24, nameIndex := 19, descriptorIndex := 20, attributes := #[] }, { accessFlags := 24, nameIndex := 89, descriptorIndex := 86, attributes := #[] }, { accessFlags := 24, nameIndex := 85, descriptorIndex := 86, attributes := #[] }, { accessFlags := 18, nameIndex := 207, descriptorIndex := 194, attributes := #[] }, { accessFlags := 25, nameIndex := 316, descriptorIndex := 194, attributes := #[] }, { accessFlags := 25, nameIndex := 318, descriptorIndex := 194, attributes := #[] }, { accessFlags := 26, nameIndex := 320, descriptorIndex := 321, attributes := #[] }])
  fields := #[{ name := "MIN_VALUE", type := .int, accessFlags := 25, slot := 0, constantValue := 0 }, { name := "MAX_VALUE", type := .int, accessFlags := 25, slot := 1, constantValue := 0 }, { name := "TYPE", type := (.object "java/lang/Class"), accessFlags := 25, slot := 2, constantValue := 0 }, { name := "digits", type := (.array .char), accessFlags := 24, slot := 3, constantValue := 0 }, { name := "DigitTens", type := (.array .byte), accessFlags := 24, slot := 4, constantValue := 0 }, { name := "DigitOnes", type := (.array .byte), accessFlags := 24, slot := 5, constantValue := 0 }, { name := "value", type := .int, accessFlags := 18, slot := 0, constantValue := 0 }, { name := "SIZE", type := .int, accessFlags := 25, slot := 6, constantValue := 0 }, { name := "BYTES", type := .int, accessFlags := 25, slot := 7, constantValue := 0 }, { name := "serialVersionUID", type := .long, accessFlags := 26, slot := 8, constantValue := 0 }]
  methods := #[k7m0]
  instanceTypes := #[.int]
  staticTypes := #[.int, .int, (.object "java/lang/Class"), (.array .char), (.array .byte), (.array .byte), .int, .int, .long]
  resolved := Array.replicate 453 none
  statics := none }

def pool8 : Array CpInfo := pool [(2, .class_ 4), (1, u "java/lang/Object"), (0, u "<init>"), (0, u "()V"), (0, .class_ 8), (0, u "java/lang/Integer"), (7, .class_ 18), (1, u "java/lang/Integer$IntegerCache"), (0, u "$assertionsDisabled"), (0, u "Z"), (26, u "high"), (0, u "I"), (8, u "archivedCache"), (0, u "[Ljava/lang/Integer;"), (12, u "cache"), (0, u "low")] 27

def k8m0 : Method := { name := "<init>", desc := "()V", sig := { parameters := [], returnType := none }, accessFlags := 2, code := none }
/-- java/lang/Integer$IntegerCache -/
def k8 : Class := { plain "java/lang/Integer$IntegerCache" (some 0) with
  accessFlags := 48
  interfaces := #[]
  cf := some (fileOf pool8 16 #[.nestHost 7] #[{ accessFlags := 2, nameIndex := 5, descriptorIndex := 6, attributes := #[] }] 48 2 #[] #[{ accessFlags := 24, nameIndex := 72, descriptorIndex := 48, attributes := #[] }, { accessFlags := 24, nameIndex := 47, descriptorIndex := 48, attributes := #[] }, { accessFlags := 24, nameIndex := 71, descriptorIndex := 58, attributes := #[] }, { accessFlags := 8, nameIndex := 57, descriptorIndex := 58, attributes := #[] }, { accessFlags := 4120, nameIndex := 19, descriptorIndex := 20, attributes := #[] }])
  fields := #[{ name := "low", type := .int, accessFlags := 24, slot := 0, constantValue := 0 }, { name := "high", type := .int, accessFlags := 24, slot := 1, constantValue := 0 }, { name := "cache", type := (.array (.object "java/lang/Integer")), accessFlags := 24, slot := 2, constantValue := 0 }, { name := "archivedCache", type := (.array (.object "java/lang/Integer")), accessFlags := 8, slot := 3, constantValue := 0 }, { name := "$assertionsDisabled", type := .boolean, accessFlags := 4120, slot := 4, constantValue := 0 }]
  methods := #[k8m0]
  instanceTypes := #[]
  staticTypes := #[.int, .int, (.array (.object "java/lang/Integer")), (.array (.object "java/lang/Integer")), .boolean]
  resolved := Array.replicate 100 none
  statics := some 0 }

def pool9 : Array CpInfo := pool [(1, .class_ 2), (0, u "com/example/runner_bean/runnerbean/service/PublishedSingletons"), (0, .methodref 4 5), (0, .class_ 6), (0, .nameAndType 7 8), (0, u "java/lang/Object"), (0, u "<init>"), (0, u "()V"), (0, .class_ 10), (0, u "[Ljava/lang/Object;"), (0, .fieldref 1 12), (0, .nameAndType 13 10), (0, u "UNPUBLISHED"), (0, .methodref 15 16), (0, .class_ 17), (0, .nameAndType 18 19), (0, u "java/util/Arrays"), (0, u "fill"), (0, u "([Ljava/lang/Object;Ljava/lang/Object;)V"), (0, .fieldref 1 21), (0, .nameAndType 22 23), (0, u "chunks"), (0, u "[[Ljava/lang/Object;"), (0, .methodref 25 26), (0, .class_ 23), (0, .nameAndType 27 28), (0, u "clone"), (0, u "()Ljava/lang/Object;"), (0, .methodref 9 26), (0, u "CHUNK_BITS"), (0, u "I"), (2, u "CHUNK"), (1, u "(I)V"), (2, u "get"), (0, u "(I)Ljava/lang/Object;"), (0, u "publish"), (0, u "([II[Ljava/lang/Object;)V")] 4

def k9c0 : Code := { maxStack := 2, maxLocals := 3, code := prog_41_method_1_code, exceptionTable := #[], attributes := #[] }
def k9m0 : Method := { name := "<init>", desc := "(I)V", sig := { parameters := [.int], returnType := none }, accessFlags := 0, code := some k9c0 }
def k9c1 : Code := { maxStack := 3, maxLocals := 2, code := prog_41_method_2_code, exceptionTable := #[], attributes := #[] }
def k9m1 : Method := { name := "get", desc := "(I)Ljava/lang/Object;", sig := { parameters := [.int], returnType := some (.object "java/lang/Object") }, accessFlags := 0, code := some k9c1 }
def k9c2 : Code := { maxStack := 4, maxLocals := 9, code := prog_41_method_3_code, exceptionTable := #[], attributes := #[] }
def k9m2 : Method := { name := "publish", desc := "([II[Ljava/lang/Object;)V", sig := { parameters := [(.array .int), .int, (.array (.object "java/lang/Object"))], returnType := none }, accessFlags := 0, code := some k9c2 }
/-- com/example/runner_bean/runnerbean/service/PublishedSingletons -/
def k9 : Class := { plain "com/example/runner_bean/runnerbean/service/PublishedSingletons" (some 0) with
  accessFlags := 32
  interfaces := #[]
  cf := some (fileOf pool9 1 #[] #[{ accessFlags := 0, nameIndex := 7, descriptorIndex := 36, attributes := #[] }, { accessFlags := 0, nameIndex := 39, descriptorIndex := 40, attributes := #[] }, { accessFlags := 0, nameIndex := 41, descriptorIndex := 42, attributes := #[] }] 32 4 #[] #[{ accessFlags := 26, nameIndex := 30, descriptorIndex := 31, attributes := #[] }, { accessFlags := 26, nameIndex := 34, descriptorIndex := 31, attributes := #[] }, { accessFlags := 26, nameIndex := 13, descriptorIndex := 10, attributes := #[] }, { accessFlags := 66, nameIndex := 22, descriptorIndex := 23, attributes := #[] }])
  fields := #[{ name := "CHUNK_BITS", type := .int, accessFlags := 26, slot := 0, constantValue := 0 }, { name := "CHUNK", type := .int, accessFlags := 26, slot := 1, constantValue := 0 }, { name := "UNPUBLISHED", type := (.array (.object "java/lang/Object")), accessFlags := 26, slot := 2, constantValue := 0 }, { name := "chunks", type := (.array (.array (.object "java/lang/Object"))), accessFlags := 66, slot := 0, constantValue := 0 }]
  methods := #[k9m0, k9m1, k9m2]
  instanceTypes := #[(.array (.array (.object "java/lang/Object")))]
  staticTypes := #[.int, .int, (.array (.object "java/lang/Object"))]
  resolved := Array.replicate 47 none
  statics := some 1 }

def pool10 : Array CpInfo := pool [(2, .class_ 4), (1, u "java/lang/Object"), (0, u "<init>"), (0, u "()V"), (7, .class_ 16), (1, u "java/util/Arrays"), (57, .class_ 76), (1, u "java/util/Arrays$NaturalOrder"), (36, .class_ 115), (1, u "java/util/Arrays$LegacyMergeSort"), (1, u "Z"), (257, .class_ 376), (0, u "java/util/Arrays$ArrayList"), (68, u "$assertionsDisabled"), (269, u "MIN_ARRAY_SORT_GRAN"), (0, u "I"), (2, u "INSERTIONSORT_THRESHOLD"), (120, u "fill"), (17, u "([Ljava/lang/Object;Ljava/lang/Object;)V"), (116, .class_ 976), (0, u "java/util/Arrays$ArrayItr")] 52

def k10m0 : Method := { name := "<init>", desc := "()V", sig := { parameters := [], returnType := none }, accessFlags := 2, code := none }
def k10c1 : Code := { maxStack := 3, maxLocals := 4, code := jdk_65_method_117_code, exceptionTable := #[], attributes := #[] }
def k10m1 : Method := { name := "fill", desc := "([Ljava/lang/Object;Ljava/lang/Object;)V", sig := { parameters := [(.array (.object "java/lang/Object")), (.object "java/lang/Object")], returnType := none }, accessFlags := 9, code := some k10c1 }
/-- java/util/Arrays -/
def k10 : Class := { plain "java/util/Arrays" (some 0) with
  accessFlags := 49
  interfaces := #[]
  cf := some (fileOf pool10 14 #[.nestMembers #[975, 375, 113, 74]] #[{ accessFlags := 2, nameIndex := 5, descriptorIndex := 6, attributes := #[] }, { accessFlags := 9, nameIndex := 840, descriptorIndex := 858, attributes := #[] }] 49 2 #[] #[{ accessFlags := 26, nameIndex := 715, descriptorIndex := 716, attributes := #[] }, { accessFlags := 26, nameIndex := 719, descriptorIndex := 716, attributes := #[] }, { accessFlags := 4120, nameIndex := 445, descriptorIndex := 117, attributes := #[] }])
  fields := #[{ name := "MIN_ARRAY_SORT_GRAN", type := .int, accessFlags := 26, slot := 0, constantValue := 0 }, { name := "INSERTIONSORT_THRESHOLD", type := .int, accessFlags := 26, slot := 1, constantValue := 0 }, { name := "$assertionsDisabled", type := .boolean, accessFlags := 4120, slot := 2, constantValue := 0 }]
  methods := #[k10m0, k10m1]
  instanceTypes := #[]
  staticTypes := #[.int, .int, .boolean]
  resolved := Array.replicate 1029 none
  statics := none }

def pool11 : Array CpInfo := pool [(1, .class_ 2), (0, u "java/lang/Cloneable"), (0, .class_ 4), (0, u "java/lang/Object")] 2

/-- java/lang/Cloneable -/
def k11 : Class := { plain "java/lang/Cloneable" (some 0) with
  accessFlags := 1537
  interfaces := #[]
  cf := some (fileOf pool11 1 #[] #[] 1537 3 #[] #[])
  fields := #[]
  methods := #[]
  instanceTypes := #[]
  staticTypes := #[]
  resolved := Array.replicate 7 none
  statics := none }

/-- the primitive byte -/
def k12 : Class := { plain "byte" none with kind := .primitive 'B', accessFlags := 0x411 }
/-- [B -/
def k13 : Class := { plain "[B" (some 0) with kind := .array 12 .byte, interfaces := #[11, 2], accessFlags := 1041 }

/-- the primitive int -/
def k14 : Class := { plain "int" none with kind := .primitive 'I', accessFlags := 0x411 }
/-- [I -/
def k15 : Class := { plain "[I" (some 0) with kind := .array 14 .int, interfaces := #[11, 2], accessFlags := 1041 }

/-- [Ljava/lang/Integer; -/
def k16 : Class := { plain "[Ljava/lang/Integer;" (some 0) with kind := .array 7 (.object "java/lang/Integer"), interfaces := #[11, 2], accessFlags := 1041 }

/-- [Ljava/lang/Object; -/
def k17 : Class := { plain "[Ljava/lang/Object;" (some 0) with kind := .array 0 (.object "java/lang/Object"), interfaces := #[11, 2], accessFlags := 1041 }

def heap : Heap := #[{ cls := 8, slots := #[.int 0, .int 127, .ref 3, .null, .int 0], vm := .statics 8 },
  { cls := 9, slots := #[.int 0, .int 0, .ref 2], vm := .statics 9 },
  { cls := 17, slots := #[.null, .null, .null, .null, .null, .null, .null, .null, .null, .null, .null, .null, .null, .null, .null, .null, .null, .null, .null, .null, .null, .null, .null, .null, .null, .null, .null, .null, .null, .null, .null, .null, .null, .null, .null, .null, .null, .null, .null, .null, .null, .null, .null, .null, .null, .null, .null, .null, .null, .null, .null, .null, .null, .null, .null, .null, .null, .null, .null, .null, .null, .null, .null, .null], vm := .none },
  { cls := 16, slots := #[.ref 4, .ref 5, .ref 6, .ref 7, .ref 8, .ref 9, .ref 10, .ref 11, .ref 12, .ref 13, .ref 14, .ref 15, .ref 16, .ref 17, .ref 18, .ref 19, .ref 20, .ref 21, .ref 22, .ref 23, .ref 24, .ref 25, .ref 26, .ref 27, .ref 28, .ref 29, .ref 30, .ref 31, .ref 32, .ref 33, .ref 34, .ref 35, .ref 36, .ref 37, .ref 38, .ref 39, .ref 40, .ref 41, .ref 42, .ref 43, .ref 44, .ref 45, .ref 46, .ref 47, .ref 48, .ref 49, .ref 50, .ref 51, .ref 52, .ref 53, .ref 54, .ref 55, .ref 56, .ref 57, .ref 58, .ref 59, .ref 60, .ref 61, .ref 62, .ref 63, .ref 64, .ref 65, .ref 66, .ref 67, .ref 68, .ref 69, .ref 70, .ref 71, .ref 72, .ref 73, .ref 74, .ref 75, .ref 76, .ref 77, .ref 78, .ref 79, .ref 80, .ref 81, .ref 82, .ref 83, .ref 84, .ref 85, .ref 86, .ref 87, .ref 88, .ref 89, .ref 90, .ref 91, .ref 92, .ref 93, .ref 94, .ref 95, .ref 96, .ref 97, .ref 98, .ref 99, .ref 100, .ref 101, .ref 102, .ref 103, .ref 104, .ref 105, .ref 106, .ref 107, .ref 108, .ref 109, .ref 110, .ref 111, .ref 112, .ref 113, .ref 114, .ref 115, .ref 116, .ref 117, .ref 118, .ref 119, .ref 120, .ref 121, .ref 122, .ref 123, .ref 124, .ref 125, .ref 126, .ref 127, .ref 128, .ref 129, .ref 130, .ref 131, .ref 132, .ref 133, .ref 134, .ref 135, .ref 136, .ref 137, .ref 138, .ref 139, .ref 140, .ref 141, .ref 142, .ref 143, .ref 144, .ref 145, .ref 146, .ref 147, .ref 148, .ref 149, .ref 150, .ref 151, .ref 152, .ref 153, .ref 154, .ref 155, .ref 156, .ref 157, .ref 158, .ref 159, .ref 160, .ref 161, .ref 162, .ref 163, .ref 164, .ref 165, .ref 166, .ref 167, .ref 168, .ref 169, .ref 170, .ref 171, .ref 172, .ref 173, .ref 174, .ref 175, .ref 176, .ref 177, .ref 178, .ref 179, .ref 180, .ref 181, .ref 182, .ref 183, .ref 184, .ref 185, .ref 186, .ref 187, .ref 188, .ref 189, .ref 190, .ref 191, .ref 192, .ref 193, .ref 194, .ref 195, .ref 196, .ref 197, .ref 198, .ref 199, .ref 200, .ref 201, .ref 202, .ref 203, .ref 204, .ref 205, .ref 206, .ref 207, .ref 208, .ref 209, .ref 210, .ref 211, .ref 212, .ref 213, .ref 214, .ref 215, .ref 216, .ref 217, .ref 218, .ref 219, .ref 220, .ref 221, .ref 222, .ref 223, .ref 224, .ref 225, .ref 226, .ref 227, .ref 228, .ref 229, .ref 230, .ref 231, .ref 232, .ref 233, .ref 234, .ref 235, .ref 236, .ref 237, .ref 238, .ref 239, .ref 240, .ref 241, .ref 242, .ref 243, .ref 244, .ref 245, .ref 246, .ref 247, .ref 248, .ref 249, .ref 250, .ref 251, .ref 252, .ref 253, .ref 254, .ref 255, .ref 256, .ref 257, .ref 258, .ref 259], vm := .none },
  { cls := 7, slots := #[.int (-128)], vm := .none },
  { cls := 7, slots := #[.int (-127)], vm := .none },
  { cls := 7, slots := #[.int (-126)], vm := .none },
  { cls := 7, slots := #[.int (-125)], vm := .none },
  { cls := 7, slots := #[.int (-124)], vm := .none },
  { cls := 7, slots := #[.int (-123)], vm := .none },
  { cls := 7, slots := #[.int (-122)], vm := .none },
  { cls := 7, slots := #[.int (-121)], vm := .none },
  { cls := 7, slots := #[.int (-120)], vm := .none },
  { cls := 7, slots := #[.int (-119)], vm := .none },
  { cls := 7, slots := #[.int (-118)], vm := .none },
  { cls := 7, slots := #[.int (-117)], vm := .none },
  { cls := 7, slots := #[.int (-116)], vm := .none },
  { cls := 7, slots := #[.int (-115)], vm := .none },
  { cls := 7, slots := #[.int (-114)], vm := .none },
  { cls := 7, slots := #[.int (-113)], vm := .none },
  { cls := 7, slots := #[.int (-112)], vm := .none },
  { cls := 7, slots := #[.int (-111)], vm := .none },
  { cls := 7, slots := #[.int (-110)], vm := .none },
  { cls := 7, slots := #[.int (-109)], vm := .none },
  { cls := 7, slots := #[.int (-108)], vm := .none },
  { cls := 7, slots := #[.int (-107)], vm := .none },
  { cls := 7, slots := #[.int (-106)], vm := .none },
  { cls := 7, slots := #[.int (-105)], vm := .none },
  { cls := 7, slots := #[.int (-104)], vm := .none },
  { cls := 7, slots := #[.int (-103)], vm := .none },
  { cls := 7, slots := #[.int (-102)], vm := .none },
  { cls := 7, slots := #[.int (-101)], vm := .none },
  { cls := 7, slots := #[.int (-100)], vm := .none },
  { cls := 7, slots := #[.int (-99)], vm := .none },
  { cls := 7, slots := #[.int (-98)], vm := .none },
  { cls := 7, slots := #[.int (-97)], vm := .none },
  { cls := 7, slots := #[.int (-96)], vm := .none },
  { cls := 7, slots := #[.int (-95)], vm := .none },
  { cls := 7, slots := #[.int (-94)], vm := .none },
  { cls := 7, slots := #[.int (-93)], vm := .none },
  { cls := 7, slots := #[.int (-92)], vm := .none },
  { cls := 7, slots := #[.int (-91)], vm := .none },
  { cls := 7, slots := #[.int (-90)], vm := .none },
  { cls := 7, slots := #[.int (-89)], vm := .none },
  { cls := 7, slots := #[.int (-88)], vm := .none },
  { cls := 7, slots := #[.int (-87)], vm := .none },
  { cls := 7, slots := #[.int (-86)], vm := .none },
  { cls := 7, slots := #[.int (-85)], vm := .none },
  { cls := 7, slots := #[.int (-84)], vm := .none },
  { cls := 7, slots := #[.int (-83)], vm := .none },
  { cls := 7, slots := #[.int (-82)], vm := .none },
  { cls := 7, slots := #[.int (-81)], vm := .none },
  { cls := 7, slots := #[.int (-80)], vm := .none },
  { cls := 7, slots := #[.int (-79)], vm := .none },
  { cls := 7, slots := #[.int (-78)], vm := .none },
  { cls := 7, slots := #[.int (-77)], vm := .none },
  { cls := 7, slots := #[.int (-76)], vm := .none },
  { cls := 7, slots := #[.int (-75)], vm := .none },
  { cls := 7, slots := #[.int (-74)], vm := .none },
  { cls := 7, slots := #[.int (-73)], vm := .none },
  { cls := 7, slots := #[.int (-72)], vm := .none },
  { cls := 7, slots := #[.int (-71)], vm := .none },
  { cls := 7, slots := #[.int (-70)], vm := .none },
  { cls := 7, slots := #[.int (-69)], vm := .none },
  { cls := 7, slots := #[.int (-68)], vm := .none },
  { cls := 7, slots := #[.int (-67)], vm := .none },
  { cls := 7, slots := #[.int (-66)], vm := .none },
  { cls := 7, slots := #[.int (-65)], vm := .none },
  { cls := 7, slots := #[.int (-64)], vm := .none },
  { cls := 7, slots := #[.int (-63)], vm := .none },
  { cls := 7, slots := #[.int (-62)], vm := .none },
  { cls := 7, slots := #[.int (-61)], vm := .none },
  { cls := 7, slots := #[.int (-60)], vm := .none },
  { cls := 7, slots := #[.int (-59)], vm := .none },
  { cls := 7, slots := #[.int (-58)], vm := .none },
  { cls := 7, slots := #[.int (-57)], vm := .none },
  { cls := 7, slots := #[.int (-56)], vm := .none },
  { cls := 7, slots := #[.int (-55)], vm := .none },
  { cls := 7, slots := #[.int (-54)], vm := .none },
  { cls := 7, slots := #[.int (-53)], vm := .none },
  { cls := 7, slots := #[.int (-52)], vm := .none },
  { cls := 7, slots := #[.int (-51)], vm := .none },
  { cls := 7, slots := #[.int (-50)], vm := .none },
  { cls := 7, slots := #[.int (-49)], vm := .none },
  { cls := 7, slots := #[.int (-48)], vm := .none },
  { cls := 7, slots := #[.int (-47)], vm := .none },
  { cls := 7, slots := #[.int (-46)], vm := .none },
  { cls := 7, slots := #[.int (-45)], vm := .none },
  { cls := 7, slots := #[.int (-44)], vm := .none },
  { cls := 7, slots := #[.int (-43)], vm := .none },
  { cls := 7, slots := #[.int (-42)], vm := .none },
  { cls := 7, slots := #[.int (-41)], vm := .none },
  { cls := 7, slots := #[.int (-40)], vm := .none },
  { cls := 7, slots := #[.int (-39)], vm := .none },
  { cls := 7, slots := #[.int (-38)], vm := .none },
  { cls := 7, slots := #[.int (-37)], vm := .none },
  { cls := 7, slots := #[.int (-36)], vm := .none },
  { cls := 7, slots := #[.int (-35)], vm := .none },
  { cls := 7, slots := #[.int (-34)], vm := .none },
  { cls := 7, slots := #[.int (-33)], vm := .none },
  { cls := 7, slots := #[.int (-32)], vm := .none },
  { cls := 7, slots := #[.int (-31)], vm := .none },
  { cls := 7, slots := #[.int (-30)], vm := .none },
  { cls := 7, slots := #[.int (-29)], vm := .none },
  { cls := 7, slots := #[.int (-28)], vm := .none },
  { cls := 7, slots := #[.int (-27)], vm := .none },
  { cls := 7, slots := #[.int (-26)], vm := .none },
  { cls := 7, slots := #[.int (-25)], vm := .none },
  { cls := 7, slots := #[.int (-24)], vm := .none },
  { cls := 7, slots := #[.int (-23)], vm := .none },
  { cls := 7, slots := #[.int (-22)], vm := .none },
  { cls := 7, slots := #[.int (-21)], vm := .none },
  { cls := 7, slots := #[.int (-20)], vm := .none },
  { cls := 7, slots := #[.int (-19)], vm := .none },
  { cls := 7, slots := #[.int (-18)], vm := .none },
  { cls := 7, slots := #[.int (-17)], vm := .none },
  { cls := 7, slots := #[.int (-16)], vm := .none },
  { cls := 7, slots := #[.int (-15)], vm := .none },
  { cls := 7, slots := #[.int (-14)], vm := .none },
  { cls := 7, slots := #[.int (-13)], vm := .none },
  { cls := 7, slots := #[.int (-12)], vm := .none },
  { cls := 7, slots := #[.int (-11)], vm := .none },
  { cls := 7, slots := #[.int (-10)], vm := .none },
  { cls := 7, slots := #[.int (-9)], vm := .none },
  { cls := 7, slots := #[.int (-8)], vm := .none },
  { cls := 7, slots := #[.int (-7)], vm := .none },
  { cls := 7, slots := #[.int (-6)], vm := .none },
  { cls := 7, slots := #[.int (-5)], vm := .none },
  { cls := 7, slots := #[.int (-4)], vm := .none },
  { cls := 7, slots := #[.int (-3)], vm := .none },
  { cls := 7, slots := #[.int (-2)], vm := .none },
  { cls := 7, slots := #[.int (-1)], vm := .none },
  { cls := 7, slots := #[.int 0], vm := .none },
  { cls := 7, slots := #[.int 1], vm := .none },
  { cls := 7, slots := #[.int 2], vm := .none },
  { cls := 7, slots := #[.int 3], vm := .none },
  { cls := 7, slots := #[.int 4], vm := .none },
  { cls := 7, slots := #[.int 5], vm := .none },
  { cls := 7, slots := #[.int 6], vm := .none },
  { cls := 7, slots := #[.int 7], vm := .none },
  { cls := 7, slots := #[.int 8], vm := .none },
  { cls := 7, slots := #[.int 9], vm := .none },
  { cls := 7, slots := #[.int 10], vm := .none },
  { cls := 7, slots := #[.int 11], vm := .none },
  { cls := 7, slots := #[.int 12], vm := .none },
  { cls := 7, slots := #[.int 13], vm := .none },
  { cls := 7, slots := #[.int 14], vm := .none },
  { cls := 7, slots := #[.int 15], vm := .none },
  { cls := 7, slots := #[.int 16], vm := .none },
  { cls := 7, slots := #[.int 17], vm := .none },
  { cls := 7, slots := #[.int 18], vm := .none },
  { cls := 7, slots := #[.int 19], vm := .none },
  { cls := 7, slots := #[.int 20], vm := .none },
  { cls := 7, slots := #[.int 21], vm := .none },
  { cls := 7, slots := #[.int 22], vm := .none },
  { cls := 7, slots := #[.int 23], vm := .none },
  { cls := 7, slots := #[.int 24], vm := .none },
  { cls := 7, slots := #[.int 25], vm := .none },
  { cls := 7, slots := #[.int 26], vm := .none },
  { cls := 7, slots := #[.int 27], vm := .none },
  { cls := 7, slots := #[.int 28], vm := .none },
  { cls := 7, slots := #[.int 29], vm := .none },
  { cls := 7, slots := #[.int 30], vm := .none },
  { cls := 7, slots := #[.int 31], vm := .none },
  { cls := 7, slots := #[.int 32], vm := .none },
  { cls := 7, slots := #[.int 33], vm := .none },
  { cls := 7, slots := #[.int 34], vm := .none },
  { cls := 7, slots := #[.int 35], vm := .none },
  { cls := 7, slots := #[.int 36], vm := .none },
  { cls := 7, slots := #[.int 37], vm := .none },
  { cls := 7, slots := #[.int 38], vm := .none },
  { cls := 7, slots := #[.int 39], vm := .none },
  { cls := 7, slots := #[.int 40], vm := .none },
  { cls := 7, slots := #[.int 41], vm := .none },
  { cls := 7, slots := #[.int 42], vm := .none },
  { cls := 7, slots := #[.int 43], vm := .none },
  { cls := 7, slots := #[.int 44], vm := .none },
  { cls := 7, slots := #[.int 45], vm := .none },
  { cls := 7, slots := #[.int 46], vm := .none },
  { cls := 7, slots := #[.int 47], vm := .none },
  { cls := 7, slots := #[.int 48], vm := .none },
  { cls := 7, slots := #[.int 49], vm := .none },
  { cls := 7, slots := #[.int 50], vm := .none },
  { cls := 7, slots := #[.int 51], vm := .none },
  { cls := 7, slots := #[.int 52], vm := .none },
  { cls := 7, slots := #[.int 53], vm := .none },
  { cls := 7, slots := #[.int 54], vm := .none },
  { cls := 7, slots := #[.int 55], vm := .none },
  { cls := 7, slots := #[.int 56], vm := .none },
  { cls := 7, slots := #[.int 57], vm := .none },
  { cls := 7, slots := #[.int 58], vm := .none },
  { cls := 7, slots := #[.int 59], vm := .none },
  { cls := 7, slots := #[.int 60], vm := .none },
  { cls := 7, slots := #[.int 61], vm := .none },
  { cls := 7, slots := #[.int 62], vm := .none },
  { cls := 7, slots := #[.int 63], vm := .none },
  { cls := 7, slots := #[.int 64], vm := .none },
  { cls := 7, slots := #[.int 65], vm := .none },
  { cls := 7, slots := #[.int 66], vm := .none },
  { cls := 7, slots := #[.int 67], vm := .none },
  { cls := 7, slots := #[.int 68], vm := .none },
  { cls := 7, slots := #[.int 69], vm := .none },
  { cls := 7, slots := #[.int 70], vm := .none },
  { cls := 7, slots := #[.int 71], vm := .none },
  { cls := 7, slots := #[.int 72], vm := .none },
  { cls := 7, slots := #[.int 73], vm := .none },
  { cls := 7, slots := #[.int 74], vm := .none },
  { cls := 7, slots := #[.int 75], vm := .none },
  { cls := 7, slots := #[.int 76], vm := .none },
  { cls := 7, slots := #[.int 77], vm := .none },
  { cls := 7, slots := #[.int 78], vm := .none },
  { cls := 7, slots := #[.int 79], vm := .none },
  { cls := 7, slots := #[.int 80], vm := .none },
  { cls := 7, slots := #[.int 81], vm := .none },
  { cls := 7, slots := #[.int 82], vm := .none },
  { cls := 7, slots := #[.int 83], vm := .none },
  { cls := 7, slots := #[.int 84], vm := .none },
  { cls := 7, slots := #[.int 85], vm := .none },
  { cls := 7, slots := #[.int 86], vm := .none },
  { cls := 7, slots := #[.int 87], vm := .none },
  { cls := 7, slots := #[.int 88], vm := .none },
  { cls := 7, slots := #[.int 89], vm := .none },
  { cls := 7, slots := #[.int 90], vm := .none },
  { cls := 7, slots := #[.int 91], vm := .none },
  { cls := 7, slots := #[.int 92], vm := .none },
  { cls := 7, slots := #[.int 93], vm := .none },
  { cls := 7, slots := #[.int 94], vm := .none },
  { cls := 7, slots := #[.int 95], vm := .none },
  { cls := 7, slots := #[.int 96], vm := .none },
  { cls := 7, slots := #[.int 97], vm := .none },
  { cls := 7, slots := #[.int 98], vm := .none },
  { cls := 7, slots := #[.int 99], vm := .none },
  { cls := 7, slots := #[.int 100], vm := .none },
  { cls := 7, slots := #[.int 101], vm := .none },
  { cls := 7, slots := #[.int 102], vm := .none },
  { cls := 7, slots := #[.int 103], vm := .none },
  { cls := 7, slots := #[.int 104], vm := .none },
  { cls := 7, slots := #[.int 105], vm := .none },
  { cls := 7, slots := #[.int 106], vm := .none },
  { cls := 7, slots := #[.int 107], vm := .none },
  { cls := 7, slots := #[.int 108], vm := .none },
  { cls := 7, slots := #[.int 109], vm := .none },
  { cls := 7, slots := #[.int 110], vm := .none },
  { cls := 7, slots := #[.int 111], vm := .none },
  { cls := 7, slots := #[.int 112], vm := .none },
  { cls := 7, slots := #[.int 113], vm := .none },
  { cls := 7, slots := #[.int 114], vm := .none },
  { cls := 7, slots := #[.int 115], vm := .none },
  { cls := 7, slots := #[.int 116], vm := .none },
  { cls := 7, slots := #[.int 117], vm := .none },
  { cls := 7, slots := #[.int 118], vm := .none },
  { cls := 7, slots := #[.int 119], vm := .none },
  { cls := 7, slots := #[.int 120], vm := .none },
  { cls := 7, slots := #[.int 121], vm := .none },
  { cls := 7, slots := #[.int 122], vm := .none },
  { cls := 7, slots := #[.int 123], vm := .none },
  { cls := 7, slots := #[.int 124], vm := .none },
  { cls := 7, slots := #[.int 125], vm := .none },
  { cls := 7, slots := #[.int 126], vm := .none },
  { cls := 7, slots := #[.int 127], vm := .none }]
def k18 : Class := { plain "[[Ljava/lang/Object;" (some 0) with kind := .array 17 (.array (.object "java/lang/Object")), interfaces := #[11, 2], accessFlags := 1041 }
def classes : Array Class := #[k0, k1, k2, k3, k4, k5, k6, k7, k8, k9, k10, k11, k12, k13, k14, k15, k16, k17, k18]
def interned : List (Array UInt16 × Addr) := []
def slotsUsed : Nat := 584
def theMethod : MethodId := ⟨1, 1⟩
def args0 : Array Value := #[.int 5, .int 6, .int 7, .int 8, .int 9, .int 3]
def aboutOver (below : List Frame) : State where
  vm := { classes := classes, interned := interned.toArray }
  heap := heap
  slotsUsed := slotsUsed
  threads := #[{ frames := .invoking theMethod args0 :: below }]
def below0 : List Frame := [.native { method := ⟨0, 0⟩, args := #[] }]
def about1 : State := aboutOver below0
def p0 : Program := .bare "" "" ""
def e0 : Env := launch0.env 0 0 0
theorem w_frames : about1.frames = Frame.invoking theMethod args0 :: below0 := rfl
set_option maxRecDepth 65536 in
theorem w_args : argsFit about1.vm theMethod args0 = true := by decide +kernel
set_option maxRecDepth 65536 in
theorem w_heap : heapFits about1 = true := by decide +kernel
set_option maxRecDepth 65536 in
theorem w_runnable : about1.curStatus? = some .runnable := by decide +kernel
set_option maxRecDepth 65536 in
theorem w_alone : about1.alone = true := by decide +kernel
set_option maxRecDepth 65536 in
theorem w_named : about1.methodNamed? x = some theMethod := by decide +kernel
set_option maxRecDepth 65536 in
theorem w_hears : about1.hears theMethod below0 = true := by decide +kernel
set_option maxRecDepth 65536 in
theorem w_ripe : about1.ripe theMethod args0 below0 = true := by decide +kernel
theorem w_running : about1.status = .running := rfl
set_option maxRecDepth 65536 in
theorem w_room : about1.hasRoom e0.platform room_1 = true :=
  launch0.hasRoom_least _ room_1 (by decide +kernel) (by decide +kernel) (by decide +kernel) (by decide +kernel) (by decide +kernel) (by decide +kernel)
theorem allAtoms_all (ts : List Jvm.Cond) (a : Array Jvm.Value) (st : Jvm.State) : (allAtoms ts).before a st = ts.all (fun c => c.before a st) := by
  induction ts with
  | nil => rfl
  | cons c t ih =>
    show (Jvm.Cond.and c (allAtoms t)).before a st = _
    rw [Jvm.Cond.before_and, ih, List.all_cons]
def words1 : List Jvm.Cond := Jvm.Cond.code x code maxLocals ret :: tables_1
/-- a 'code' word, met by the world's own term for the bytes: nothing is compared byte by byte -/
theorem code_word {y : MethodName} {bytes : ByteArray} {mx : Nat} {rt : Option FieldType} {a : Array Value} {s : State} {m : MethodId} {meth : Method} {c : Code} (h1 : s.methodNamed? y = some m) (h2 : s.vm.method? m = some meth) (h3 : meth.code = some c) (h4 : c.code = bytes)
    (h5 : (c.maxLocals == mx && c.exceptionTable.isEmpty && decide (c.maxStack ≤ mostOperands) && decide (meth.sig.returnType = rt) && !meth.locks && decide (parseMethodDescriptor y.desc = some meth.sig)) = true) : (Jvm.Cond.code y bytes mx rt).before a s = true := by
  simp only [Bool.and_eq_true, beq_iff_eq, Bool.not_eq_true', decide_eq_true_eq] at h5
  obtain ⟨⟨⟨⟨⟨g1, g2⟩, g3⟩, g4⟩, g5⟩, g6⟩ := h5
  simp [Cond.before, Cond.holds, Cond.value, h1, h2, h3, h4, g1, g2, g3, g4, g5, g6]
def isCode : Jvm.Cond → Bool
  | .code _ _ _ _ => true
  | _ => false
theorem all_split {L : List Jvm.Cond} {P : Jvm.Cond → Bool} (h1 : L.all (fun c => isCode c || P c) = true) (h2 : ∀ c ∈ L.filter isCode, P c = true) : L.all P = true := by
  refine List.all_eq_true.mpr fun c hc => ?_
  have h := List.all_eq_true.mp h1 c hc
  rcases Bool.eq_false_or_eq_true (isCode c) with hi | hi
  · exact h2 c (List.mem_filter.mpr ⟨hc, hi⟩)
  · simpa [hi] using h
set_option maxRecDepth 65536 in
theorem w_c0 : (Jvm.Cond.code x code maxLocals ret).before args0 about1 = true := code_word (m := ⟨1, 1⟩) (meth := k1m1) (c := k1c1) (by decide +kernel) rfl rfl rfl (by decide +kernel)
set_option maxRecDepth 65536 in
theorem w_c1 : (Jvm.Cond.code ({ cls := "java/lang/Integer", name := "valueOf", desc := "(I)Ljava/lang/Integer;" } : Jvm.MethodName) jdk_33_method_22_code (1 : Nat) (Option.some (Jvm.ClassFile.FieldType.object "java/lang/Integer"))).before args0 about1 = true := code_word (m := ⟨7, 0⟩) (meth := k7m0) (c := k7c0) (by decide +kernel) rfl rfl rfl (by decide +kernel)
set_option maxRecDepth 65536 in
theorem w_c2 : (Jvm.Cond.code ({ cls := "com/example/runner_bean/runnerbean/service/PublishedSingletons", name := "<init>", desc := "(I)V" } : Jvm.MethodName) prog_41_method_1_code (3 : Nat) (Option.none : Option Jvm.ClassFile.FieldType)).before args0 about1 = true := code_word (m := ⟨9, 0⟩) (meth := k9m0) (c := k9c0) (by decide +kernel) rfl rfl rfl (by decide +kernel)
set_option maxRecDepth 65536 in
theorem w_c3 : (Jvm.Cond.code ({ cls := "java/lang/Object", name := "<init>", desc := "()V" } : Jvm.MethodName) object_method_1_code (1 : Nat) (Option.none : Option Jvm.ClassFile.FieldType)).before args0 about1 = true := code_word (m := ⟨0, 0⟩) (meth := k0m0) (c := k0c0) (by decide +kernel) rfl rfl rfl (by decide +kernel)
set_option maxRecDepth 65536 in
theorem w_c4 : (Jvm.Cond.code ({ cls := "java/util/Arrays", name := "fill", desc := "([Ljava/lang/Object;Ljava/lang/Object;)V" } : Jvm.MethodName) jdk_65_method_117_code (4 : Nat) (Option.none : Option Jvm.ClassFile.FieldType)).before args0 about1 = true := code_word (m := ⟨10, 1⟩) (meth := k10m1) (c := k10c1) (by decide +kernel) rfl rfl rfl (by decide +kernel)
set_option maxRecDepth 65536 in
theorem w_c5 : (Jvm.Cond.code ({ cls := "com/example/runner_bean/runnerbean/service/PublishedSingletons", name := "get", desc := "(I)Ljava/lang/Object;" } : Jvm.MethodName) prog_41_method_2_code (2 : Nat) (Option.some (Jvm.ClassFile.FieldType.object "java/lang/Object"))).before args0 about1 = true := code_word (m := ⟨9, 1⟩) (meth := k9m1) (c := k9c1) (by decide +kernel) rfl rfl rfl (by decide +kernel)
set_option maxRecDepth 65536 in
theorem w_c6 : (Jvm.Cond.code ({ cls := "com/example/runner_bean/runnerbean/service/PublishedSingletons", name := "publish", desc := "([II[Ljava/lang/Object;)V" } : Jvm.MethodName) prog_41_method_3_code (9 : Nat) (Option.none : Option Jvm.ClassFile.FieldType)).before args0 about1 = true := code_word (m := ⟨9, 2⟩) (meth := k9m2) (c := k9c2) (by decide +kernel) rfl rfl rfl (by decide +kernel)
def codes1 : List Jvm.Cond := [Jvm.Cond.code x code maxLocals ret, Jvm.Cond.code ({ cls := "java/lang/Integer", name := "valueOf", desc := "(I)Ljava/lang/Integer;" } : Jvm.MethodName) jdk_33_method_22_code (1 : Nat) (Option.some (Jvm.ClassFile.FieldType.object "java/lang/Integer")), Jvm.Cond.code ({ cls := "com/example/runner_bean/runnerbean/service/PublishedSingletons", name := "<init>", desc := "(I)V" } : Jvm.MethodName) prog_41_method_1_code (3 : Nat) (Option.none : Option Jvm.ClassFile.FieldType), Jvm.Cond.code ({ cls := "java/lang/Object", name := "<init>", desc := "()V" } : Jvm.MethodName) object_method_1_code (1 : Nat) (Option.none : Option Jvm.ClassFile.FieldType), Jvm.Cond.code ({ cls := "java/util/Arrays", name := "fill", desc := "([Ljava/lang/Object;Ljava/lang/Object;)V" } : Jvm.MethodName) jdk_65_method_117_code (4 : Nat) (Option.none : Option Jvm.ClassFile.FieldType), Jvm.Cond.code ({ cls := "com/example/runner_bean/runnerbean/service/PublishedSingletons", name := "get", desc := "(I)Ljava/lang/Object;" } : Jvm.MethodName) prog_41_method_2_code (2 : Nat) (Option.some (Jvm.ClassFile.FieldType.object "java/lang/Object")), Jvm.Cond.code ({ cls := "com/example/runner_bean/runnerbean/service/PublishedSingletons", name := "publish", desc := "([II[Ljava/lang/Object;)V" } : Jvm.MethodName) prog_41_method_3_code (9 : Nat) (Option.none : Option Jvm.ClassFile.FieldType)]
set_option maxRecDepth 65536 in
theorem codes_eq : words1.filter isCode = codes1 := rfl
theorem w_codes : ∀ c ∈ words1.filter isCode, c.before args0 about1 = true := by
  rw [codes_eq]
  intro c hc
  simp only [codes1, List.mem_cons, List.not_mem_nil, or_false] at hc
  rcases hc with rfl | rfl | rfl | rfl | rfl | rfl | rfl
  · exact w_c0
  · exact w_c1
  · exact w_c2
  · exact w_c3
  · exact w_c4
  · exact w_c5
  · exact w_c6
set_option maxRecDepth 65536 in
theorem w_t1 : (words1.take 24).all (fun c => isCode c || c.before args0 about1) = true := by decide +kernel
set_option maxRecDepth 65536 in
theorem w_t2 : ((words1.drop 24).take 24).all (fun c => isCode c || c.before args0 about1) = true := by decide +kernel
set_option maxRecDepth 65536 in
theorem w_t3 : ((words1.drop 24).drop 24).all (fun c => isCode c || c.before args0 about1) = true := by decide +kernel
theorem w_tables : (allAtoms (Jvm.Cond.code x code maxLocals ret :: tables_1)).before args0 about1 = true := by
  rw [allAtoms_all]
  show words1.all (fun c => c.before args0 about1) = true
  refine all_split ?_ w_codes
  rw [← List.take_append_drop 24 words1, List.all_append, w_t1, ← List.take_append_drop 24 (words1.drop 24), List.all_append, w_t2, w_t3]
  rfl
set_option maxRecDepth 65536 in
theorem w_rest : rest_1_c.before args0 about1 = true := by decide +kernel
set_option maxRecDepth 65536 in
theorem w_case : (Jvm.Cond.and given_1 narrow_1).before args0 about1 = true := by decide +kernel
theorem w_applies : (headSpec (Jvm.Cond.code x code maxLocals ret :: tables_1) room_1).applies x e0.platform about1 = true :=
  (Spec.applies_iff w_frames).mpr ⟨w_running, w_runnable, w_alone, w_named, w_hears, w_ripe, w_room, w_tables⟩
theorem atStart : AtStart classFile x code maxLocals ret World_1 tables_1 room_1 Calls_1 rest_1 Pre_1 launch0 p0 e0 about1 theMethod args0 below0 :=
  ⟨lists_1, trivial, launch0.admits_env _ _ _, launch0.least_env, fairChoices_fair.cas, fairChoices_fair.clock, w_frames, w_args, w_heap, w_applies, trivial, w_rest, w_case⟩
end start1
theorem witness_1 : WitnessClaimed_1 := ⟨start1.p0, start1.e0, start1.about1, start1.theMethod, start1.args0, start1.below0, start1.atStart⟩
end Jvm.Pilot.@@N@@
