import JvmDerived
import JvmDerived.Pilot.@@N@@Statement
import JvmDerived.Pilot.@@N@@Code
set_option linter.unusedVariables false
set_option linter.unusedSimpArgs false
namespace Jvm.RoadKit
open Sem ClassFile Op Lib Jvm.Stand Jvm.Free Jvm.LawKit
section New
variable {p : Program} {l : Launch} {e : Env} {R : Room} {s : State} {m : MethodId} {args : Array Value} {below : List Frame} {meth : Method} {c : Code} {T : State} {locs : List Loc} {cells slots : Nat}
theorem retI (X : Stand p l e R s m args below meth c T locs cells slots) (hx : p.tables.exec = Jvm.exec) {pc : Nat} {Ls : Array Slot} {z : Int32} {rest : List Value} (hret : meth.sig.returnType = some .int) (hd : decode c.code pc = .ok (.ireturn, 1)) {fs : List Frame}
    (hl : ∀ (f : JFrame) (acts : List Action), f.method = m → f.locked = none → f.entered = [] → (doReturn e (T.setTop f) acts (some (.int z))).1 = T.setFrames fs) : Steps p.tables e below (T.setTop (mkF m pc Ls (.int z :: rest))) (T.setFrames fs) :=
  retOut X hx hret rfl (Or.inl ⟨rfl, Or.inl rfl, z, rfl⟩) hd hl
theorem retL (X : Stand p l e R s m args below meth c T locs cells slots) (hx : p.tables.exec = Jvm.exec) {pc : Nat} {Ls : Array Slot} {z : Int64} {rest : List Value} (hret : meth.sig.returnType = some .long) (hd : decode c.code pc = .ok (.lreturn, 1)) {fs : List Frame}
    (hl : ∀ (f : JFrame) (acts : List Action), f.method = m → f.locked = none → f.entered = [] → (doReturn e (T.setTop f) acts (some (.long z))).1 = T.setFrames fs) : Steps p.tables e below (T.setTop (mkF m pc Ls (.long z :: rest))) (T.setFrames fs) :=
  retOut X hx hret rfl (Or.inr (Or.inl ⟨rfl, rfl, z, rfl⟩)) hd hl
theorem own_retD (X : Stand p l e R s m args below meth c T locs cells slots) (hx : p.tables.exec = Jvm.exec) {pc : Nat} {Ls : Array Slot} {z : UInt64} {rest : List Value} (hret : meth.sig.returnType = some .double) (hd : decode c.code pc = .ok (.dreturn, 1)) {fs : List Frame}
    (hl : ∀ (f : JFrame) (acts : List Action), f.method = m → f.locked = none → f.entered = [] → (doReturn e (T.setTop f) acts (some (.double z))).1 = T.setFrames fs) : Steps p.tables e below (T.setTop (mkF m pc Ls (.double z :: rest))) (T.setFrames fs) :=
  retOut X hx hret rfl (Or.inr (Or.inr (Or.inl ⟨rfl, rfl, z, rfl⟩))) hd hl
theorem own_nar {t : FieldType} {w : Value} (ht : t.isReference = true) (hw : w.isRef = true) : narrow t w = w := by
  cases t <;> first | (cases ht; done) | (cases w <;> first | rfl | (cases hw; done))
theorem retA (X : Stand p l e R s m args below meth c T locs cells slots) (hx : p.tables.exec = Jvm.exec) {pc : Nat} {Ls : Array Slot} {w : Value} {t : FieldType} {rest : List Value} (hret : meth.sig.returnType = some t) (ht : t.isReference = true) (hw : w.isRef = true) (hd : decode c.code pc = .ok (.areturn, 1)) {fs : List Frame}
    (hl : ∀ (f : JFrame) (acts : List Action), f.method = m → f.locked = none → f.entered = [] → (doReturn e (T.setTop f) acts (some w)).1 = T.setFrames fs) : Steps p.tables e below (T.setTop (mkF m pc Ls (w :: rest))) (T.setFrames fs) :=
  retOut X hx hret (own_nar ht hw) (Or.inr (Or.inr (Or.inr (Or.inr ⟨rfl, ht, hw⟩)))) hd hl
/-- the rest of a walk, as a predicate on where it stands -/
theorem own_open (K N : Nat) (Q : Option Value → Heap → List Loc → Prop) (hlocks : meth.locks = false) :
    ∃ G : State → JFrame → Prop,
      (∀ {T T' : State} {g g' : JFrame}, (∀ t, Steps p.tables e below (T'.setTop g') t → Steps p.tables e below (T.setTop g) t) → G T' g' → G T g) ∧
      (∀ {T : State} {g : JFrame} {locs : List Loc} {cells slots : Nat} {v : Option Value} {h : Heap}, Stand p l e R s m args below meth c T locs cells slots → (meth.sig.returnType = none → v = none) →
        (∀ fs, (∀ (f : JFrame) (acts : List Action), f.method = m → f.locked = none → f.entered = [] → (doReturn e (T.setTop f) acts v).1 = T.setFrames fs) → Steps p.tables e below (T.setTop g) (T.setFrames fs)) → T.heap = h → Q v h locs → cells ≤ K → slots ≤ N → G T g) ∧
      (∀ {T : State} {g : JFrame}, G T g → ∃ t o, Steps p.tables e below (T.setTop g) t ∧ t.status = .running ∧ Ended t below o ∧ ∃ v L, o = .returned v ∧ Q v t.heap L ∧ FrameEnd s o t L K N) := by
  refine ⟨fun T g => ∃ t o, Steps p.tables e below (T.setTop g) t ∧ t.status = .running ∧ Ended t below o ∧ ∃ v L, o = .returned v ∧ Q v t.heap L ∧ FrameEnd s o t L K N, ?_, ?_, fun h => h⟩
  · intro T T' g g' hs hG
    obtain ⟨t, o, h1, h2⟩ := hG
    exact ⟨t, o, hs t h1, h2⟩
  · intro T g locs cells slots v h X hv hst hT hQ hk hn
    obtain ⟨fs, hr, hrun, hended, hW, hsame⟩ := X.leave hv hlocks
    exact ⟨_, _, hst fs hr, hrun, hended, v, locs, rfl, by show Q v T.heap locs; rw [hT]; exact hQ, ⟨_, rfl⟩, hW, hsame.mono hk hn⟩
theorem own_openW (K N : Nat) (Q : Option Value → Heap → List Loc → Prop) (hlocks : meth.locks = false) :
    ∃ G : State → JFrame → Prop,
      (∀ {T T' : State} {g g' : JFrame}, (∀ t, Steps p.tables e below (T'.setTop g') t → Steps p.tables e below (T.setTop g) t) → G T' g' → G T g) ∧
      (∀ {T : State} {g : JFrame} {locs : List Loc} {cells slots : Nat} {v : Option Value} {h : Heap} {vm0 : Vm} {k0 : Nat}, Stand p l e R (s.setVm vm0) m args below meth c T locs cells slots → s.Since vm0 k0 → k0 ≤ h.size → (meth.sig.returnType = none → v = none) →
        (∀ fs, (∀ (f : JFrame) (acts : List Action), f.method = m → f.locked = none → f.entered = [] → (doReturn e (T.setTop f) acts v).1 = T.setFrames fs) → Steps p.tables e below (T.setTop g) (T.setFrames fs)) → T.heap = h → Q v h locs → cells ≤ K → slots ≤ N → G T g) ∧
      (∀ {T : State} {g : JFrame}, G T g → ∃ t o, Steps p.tables e below (T.setTop g) t ∧ t.status = .running ∧ Ended t below o ∧ ∃ v L, o = .returned v ∧ Q v t.heap L ∧ ReturnedEndW s o t L K N) := by
  refine ⟨fun T g => ∃ t o, Steps p.tables e below (T.setTop g) t ∧ t.status = .running ∧ Ended t below o ∧ ∃ v L, o = .returned v ∧ Q v t.heap L ∧ ReturnedEndW s o t L K N, ?_, ?_, fun h => h⟩
  · intro T T' g g' hs hG
    obtain ⟨t, o, h1, h2⟩ := hG
    exact ⟨t, o, hs t h1, h2⟩
  · intro T g locs cells slots v h vm0 k0 X hS hk0 hv hst hT hQ hk hn
    obtain ⟨fs, hr, hrun, hended, hW⟩ := X.leaveW hS (by rw [hT]; exact hk0) hv hlocks
    exact ⟨_, _, hst fs hr, hrun, hended, v, locs, rfl, by show Q v T.heap locs; rw [hT]; exact hQ, hW.1, hW.2.1, hW.2.2.1, hW.2.2.2.mono hk hn⟩
theorem own_at {j : Int32} {i : Nat} {vs : List Value} {d v : Value} (hj : j.toNatClampNeg = i) (h : vs.getD i d = v) : vs.getD j.toNatClampNeg d = v := hj ▸ h
theorem own_gen {n0 : Nat} (X : Stand p l e R s m args below meth c T locs cells slots) (N : Fr n0 locs) : ∃ lc, Stand p l e R s m args below meth c T lc cells slots ∧ Fr n0 lc := ⟨_, X, N⟩
theorem own_sl (a : Array Slot) : ∃ z, z = a := ⟨_, rfl⟩
theorem own_xlt {x y : Int32} : x < y ↔ x.toInt < y.toInt := Int32.lt_iff_toInt_lt
theorem own_xeq {x y : Int32} : x = y ↔ x.toInt = y.toInt := Int32.toInt_inj.symm
theorem own_xltL {x y : Int64} : x < y ↔ x.toInt < y.toInt := Int64.lt_iff_toInt_lt
theorem own_xeqL {x y : Int64} : x = y ↔ x.toInt = y.toInt := Int64.toInt_inj.symm
theorem own_old_le {Z : State} {n0 : Nat} {h : Heap} (O : Old Z n0 h) : n0 ≤ h.size := O.1 ▸ O.2.1
theorem own_oldne {Z : State} {n0 : Nat} {h : Heap} {a b : Addr} (O : Old Z n0 h) (q : a < Z.heap.size) (r : n0 ≤ b) : a ≠ b := O.ne q r
theorem own_fldI {Z : State} {args : Array Value} {t : Term} {C f d : String} {a : Addr} {k : Int32} (ht : t.eval args Z none [] Z = some (.ref a)) (h : (Cond.eq (.field t C f d) (.int k)).value args Z none Z [] = some true) : Fld Z Z.heap a C f d (.int k) := by
  refine Fld.start ?_
  rw [← fld_at (C := C) (n := f) (dd := d) ht]
  obtain ⟨x, y, h1, h2, h3, h4⟩ := cmp_v (Or.inl h)
  have h5 : y = .int k := Option.some.inj (h2.symm.trans (Term.int_eval k))
  subst h5
  obtain ⟨z, rfl⟩ := h4
  have := gotT (P := z = k) (by simp [Cond.value, h1, h2]) h
  rw [h1, this]
theorem own_fldD {Z : State} {args : Array Value} {t : Term} {C f d : String} {a : Addr} {k : Int64} {b : UInt64} (hb : k.toUInt64 = b) (ht : t.eval args Z none [] Z = some (.ref a)) (h : (Cond.eq (.field t C f d) (.op1 .bitsD (.long k))).value args Z none Z [] = some true) : Fld Z Z.heap a C f d (.double b) := by
  refine Fld.start ?_
  rw [← fld_at (C := C) (n := f) (dd := d) ht]
  obtain ⟨x, y, h1, h2, h3, h4⟩ := cmp_v (Or.inl h)
  have h5 : y = .double k.toUInt64 := Option.some.inj (h2.symm.trans rfl)
  subst h5
  obtain ⟨z, rfl⟩ := h4
  have := gotT (P := z = k.toUInt64) (by simp [Cond.value, h1, h2]) h
  rw [h1, this, hb]
theorem own_dnn {a b : UInt64} (ha : Jvm.Free.Fl.NoNaN64 a) (hb : FP.Core.DFin b) (hz : ¬ FP.Core.DZero b) : Jvm.Free.Fl.NoNaN64 (FP.ddiv a b) := by
  refine Jvm.Free.Fl.val64_no.mpr fun q => ?_
  have q2 := (FP.Core.quotient_nan FP.Core.b64 _ _).mp ((FP.Core.val64_ddiv a b).symm.trans q)
  rcases q2 with h | h | ⟨s, t, h1, h2⟩ | ⟨s, t, q, r, h1, h2⟩
  · exact Jvm.Free.Fl.val64_no.mp ha h
  · exact hb.ne_nan h
  · exact hb.ne_inf t h2
  · exact hz ⟨t, r, h2⟩
theorem own_i2dn (x : Int32) : Jvm.Free.Fl.NoNaN64 (FP.i2d x) := Jvm.Free.Fl.noNaN64_no.mpr (FP.Core.i2d_fin x).notNaN
theorem own_i2dz {x : Int32} (h : x ≠ 0) : ¬ FP.Core.DZero (FP.i2d x) := fun q => FP.Core.i2d_ne_zero h ((FP.Core.zero_bits2 _).mp q)
theorem own_and255 (x : Int32) : ¬ (x &&& (255 : Int32)) < 0 ∧ ¬ (255 : Int32) < (x &&& (255 : Int32)) := by
  have c1 := c_mask x (255 : Int32) 8 (by decide) (by decide)
  have q0 : (0 : Int32).toInt = 0 := by decide
  have q1 : (255 : Int32).toInt = 255 := by decide
  rw [own_xlt, own_xlt]
  omega
theorem own_l255 (x : Int64) : ¬ (x &&& (255 : Int64)).toInt32 < 0 ∧ ¬ (255 : Int32) < (x &&& (255 : Int64)).toInt32 := by
  have c1 := c_maskL x (255 : Int64) 8 (by decide) (by decide)
  have c2 := c_l2i (x &&& (255 : Int64))
  have r := rng32 (x &&& (255 : Int64)).toInt32
  have q0 : (0 : Int32).toInt = 0 := by decide
  have q1 : (255 : Int32).toInt = 255 := by decide
  rw [own_xlt, own_xlt]
  omega
theorem own_i2c {x : Int32} (h : ¬ x < 0 ∧ ¬ (255 : Int32) < x) : x.toUInt32.toUInt16.toUInt32.toInt32 = x := by
  have c1 := c_i2c x
  have q0 : (0 : Int32).toInt = 0 := by decide
  have q1 : (255 : Int32).toInt = 255 := by decide
  rw [own_xlt, own_xlt] at h
  rw [own_xeq]
  omega
theorem own_narc {x : Int32} (h : ¬ x < 0 ∧ ¬ (255 : Int32) < x) : nar .char x = x := own_i2c h
theorem own_nz {Z : State} {args : Array Value} {t : Term} {z : Int32} (ht : t.eval args Z none [] Z = some (.int z)) (h : (Cond.not (Cond.eq t (.int 0))).value args Z none Z [] = some true) : ¬ z = (0 : Int32) :=
  gotF (P := z = (0 : Int32)) (by simp [Cond.value, ht, Term.int_eval]) (not_v h)
theorem own_evI {Z : State} {args : Array Value} {u : Term} {k : Int32} (h : (Cond.eq u (.int k)).value args Z none Z [] = some true) : u.eval args Z none [] Z = some (.int k) := by
  obtain ⟨x, y, h1, h2, h3, h4⟩ := cmp_v (Or.inl h)
  have h5 : y = .int k := Option.some.inj (h2.symm.trans (Term.int_eval k))
  subst h5
  obtain ⟨z, rfl⟩ := h4
  have := gotT (P := z = k) (by simp [Cond.value, h1, h2]) h
  rw [h1, this]
theorem own_slotI {Z : State} {args : Array Value} {t : Term} {a : Addr} {i k : Int32} {cl : Cell} (ht : t.eval args Z none [] Z = some (.ref a)) (hc : Z.heap[a]? = some cl) (h : (Cond.eq (.elem t (.int i)) (.int k)).value args Z none Z [] = some true) : cl.slots[i.toNatClampNeg]? = some (.int k) :=
  (elem_in (own_evI h) ht (Term.int_eval i) hc).2
theorem own_lenI {Z : State} {args : Array Value} {t : Term} {a : Addr} {n : Int32} {cl : Cell} {ty : FieldType} (ht : t.eval args Z none [] Z = some (.ref a)) (A : Arr Z Z.heap a cl ty) (h : (Cond.eq (.length t) (.int n)).value args Z none Z [] = some true) : cl.slots.size < 2 ^ 31 ∧ cl.slots.size.toInt32 = n := by
  have hh := A.fin (Vm.Alike.refl _)
  have q := own_evI h
  simp only [Term.eval, ht, hh, Option.bind_eq_bind, Option.bind_some] at q
  split at q
  · rename_i hlt
    exact ⟨hlt, Value.int.inj (Option.some.inj q)⟩
  · cases q
theorem own_fldN {Z : State} {args : Array Value} {t : Term} {C f d : String} {a : Addr} (ht : t.eval args Z none [] Z = some (.ref a)) (h : (Cond.eq (.field t C f d) .null).value args Z none Z [] = some true) : Fld Z Z.heap a C f d .null := by
  refine Fld.start ?_
  rw [← fld_at (C := C) (n := f) (dd := d) ht]
  exact null_v h
theorem own_selpriv {Z s : State} {a0 args : Array Value} {y : MethodName} {n : Nat} (hZ : Z.Warmed39 s.vm) (wp : (Cond.privateMethod y).before a0 Z = true) (wi : (Cond.instanceMethod y).before a0 Z = true) (wk : (Cond.instantiable y.cls n).before a0 Z = true) (hy : y.cls ≠ "java/lang/invoke/MethodHandle" ∧ y.cls ≠ "java/lang/invoke/VarHandle") : (Cond.selects y.cls y y).before args s = true := by
  obtain ⟨c, k, h1, h2, -, h3, -⟩ := Cond.instantiable_spec (mv (s := s) (args := args) hZ wk)
  exact selects_self_of_private h1 h2 (Bool.or_eq_false_iff.mp h3).1 (Cond.privateMethod_at (mvP hZ wp (args := args))) (mv hZ wi) hy
theorem own_ne_arv {Z : State} {h : Heap} {a b : Addr} {C : String} {a0 : Array Value} {i : Nat} {k : ClassId} {ty : FieldType} {n : Int32} {vs : List Value} {dv : Value} (F : Exa Z h a C) (wi : (Cond.instantiable C i).before a0 Z = true) (V : Arv Z h b k ty n vs dv) : a ≠ b := by
  obtain ⟨cl, A, -⟩ := V
  exact ne_arr F wi A
theorem own_arr_keep {Z : State} {h h' : Heap} {a : Addr} {cl : Cell} {ty : FieldType} {ws : List Addr} (F : Arr Z h a cl ty) (K : Keep h h' ws) (q : a ∉ ws) : Arr Z h' a cl ty := ⟨K.2.1 a cl F.1 q, F.2⟩
section Arrays
variable {Z : State} {h : Heap} {a : Addr} {k : ClassId} {n : Int32} {vs : List Value} {dv : Value} {g : JFrame} {rest : List Value} {j : Int32} {v : Value}
theorem own_len {ty : FieldType} (X : Stand p l e R s m args below meth c T locs cells slots) (hx : p.tables.exec = Jvm.exec) (hZ : Z.Warmed39 s.vm) (eT : T.heap = h) (V : Arv Z h a k ty n vs dv) (hg : g.method = m) (hs : g.stack = .ref a :: rest) (hd : decode c.code g.pc = .ok (.arraylength, 1)) (target : State)
    (hr : Steps p.tables e below (T.setTop { g with pc := g.pc + 1, stack := .int n :: rest }) target) : Steps p.tables e below (T.setTop g) target := by
  obtain ⟨cl, A, -, S, N, -, -⟩ := V
  refine X.arraylength hx (by rw [eT]; exact A.1) (State.isArrayOf_alike hZ.alike A.2.1) hg hs hd target ?_
  rw [len_of S N]; exact hr
theorem own_ldI (X : Stand p l e R s m args below meth c T locs cells slots) (hx : p.tables.exec = Jvm.exec) (hZ : Z.Warmed39 s.vm) (eT : T.heap = h) (V : Arv Z h a k .int n vs dv) (hj : ¬ j < 0 ∧ j < n) (hv : vs.getD j.toNatClampNeg dv = v) (hg : g.method = m) (hs : g.stack = .int j :: .ref a :: rest) (hd : decode c.code g.pc = .ok (.iaload, 1)) (target : State)
    (hr : Steps p.tables e below (T.setTop { g with pc := g.pc + 1, stack := v :: rest }) target) : Steps p.tables e below (T.setTop g) target := by
  obtain ⟨cl, A, -, S, N, H, -⟩ := V
  have hin := inb_of S hj
  exact X.iaload hx (by rw [eT]; exact A.1) (State.isArrayOf_alike hZ.alike A.2.1) A.2.2 hin (H.at hin hv) hg hs hd target hr
theorem own_ldJ (X : Stand p l e R s m args below meth c T locs cells slots) (hx : p.tables.exec = Jvm.exec) (hZ : Z.Warmed39 s.vm) (eT : T.heap = h) (V : Arv Z h a k .long n vs dv) (hj : ¬ j < 0 ∧ j < n) (hv : vs.getD j.toNatClampNeg dv = v) (hg : g.method = m) (hs : g.stack = .int j :: .ref a :: rest) (hd : decode c.code g.pc = .ok (.laload, 1)) (target : State)
    (hr : Steps p.tables e below (T.setTop { g with pc := g.pc + 1, stack := v :: rest }) target) : Steps p.tables e below (T.setTop g) target := by
  obtain ⟨cl, A, -, S, N, H, -⟩ := V
  have hin := inb_of S hj
  exact X.laload hx (by rw [eT]; exact A.1) (State.isArrayOf_alike hZ.alike A.2.1) A.2.2 hin (H.at hin hv) hg hs hd target hr
theorem own_ldC (X : Stand p l e R s m args below meth c T locs cells slots) (hx : p.tables.exec = Jvm.exec) (hZ : Z.Warmed39 s.vm) (eT : T.heap = h) (V : Arv Z h a k .char n vs dv) (hj : ¬ j < 0 ∧ j < n) (hv : vs.getD j.toNatClampNeg dv = v) (hg : g.method = m) (hs : g.stack = .int j :: .ref a :: rest) (hd : decode c.code g.pc = .ok (.caload, 1)) (target : State)
    (hr : Steps p.tables e below (T.setTop { g with pc := g.pc + 1, stack := v :: rest }) target) : Steps p.tables e below (T.setTop g) target := by
  obtain ⟨cl, A, -, S, N, H, -⟩ := V
  have hin := inb_of S hj
  exact X.caload hx (by rw [eT]; exact A.1) (State.isArrayOf_alike hZ.alike A.2.1) A.2.2 hin (H.at hin hv) hg hs hd target hr
theorem own_ldB (X : Stand p l e R s m args below meth c T locs cells slots) (hx : p.tables.exec = Jvm.exec) (hZ : Z.Warmed39 s.vm) (eT : T.heap = h) (V : Arv Z h a k .byte n vs dv) (hj : ¬ j < 0 ∧ j < n) (hv : vs.getD j.toNatClampNeg dv = v) (hg : g.method = m) (hs : g.stack = .int j :: .ref a :: rest) (hd : decode c.code g.pc = .ok (.baload, 1)) (target : State)
    (hr : Steps p.tables e below (T.setTop { g with pc := g.pc + 1, stack := v :: rest }) target) : Steps p.tables e below (T.setTop g) target := by
  obtain ⟨cl, A, -, S, N, H, -⟩ := V
  have hin := inb_of S hj
  exact X.baloadBytes hx (by rw [eT]; exact A.1) (State.isArrayOf_alike hZ.alike A.2.1) A.2.2 hin (H.at hin hv) hg hs hd target hr
theorem own_ldR {ty : FieldType} (X : Stand p l e R s m args below meth c T locs cells slots) (hx : p.tables.exec = Jvm.exec) (hZ : Z.Warmed39 s.vm) (eT : T.heap = h) (V : Arv Z h a k ty n vs dv) (hj : ¬ j < 0 ∧ j < n) (hv : vs.getD j.toNatClampNeg dv = v) (hty : ty.isReference = true) (hg : g.method = m) (hs : g.stack = .int j :: .ref a :: rest) (hd : decode c.code g.pc = .ok (.aaload, 1)) (target : State)
    (hr : Steps p.tables e below (T.setTop { g with pc := g.pc + 1, stack := v :: rest }) target) : Steps p.tables e below (T.setTop g) target := by
  obtain ⟨cl, A, -, S, N, H, -⟩ := V
  have hin := inb_of S hj
  exact X.aaload hx (by rw [eT]; exact A.1) (State.isArrayOf_alike hZ.alike A.2.1) hty A.2.2 hin (H.at hin hv) hg hs hd target hr
theorem own_stI {x : Int32} (X : Stand p l e R s m args below meth c T locs cells slots) (hx : p.tables.exec = Jvm.exec) (hZ : Z.Warmed39 s.vm) (eT : T.heap = h) (V : Arv Z h a k .int n vs dv) (hj : ¬ j < 0 ∧ j < n) {i : Nat} (hji : j.toNatClampNeg = i) (hi : i < vs.length) (hg : g.method = m) (hs : g.stack = .int x :: .int j :: .ref a :: rest) (hd : decode c.code g.pc = .ok (.iastore, 1)) :
    ∃ T' h', Stand p l e R s m args below meth c T' (locs ++ [⟨a, j.toNatClampNeg⟩]) cells slots ∧ T'.heap = h' ∧ Wr h h' a j.toNatClampNeg (.int x) ∧ Arv Z h' a k .int n (vs.set i (.int x)) dv ∧ ∀ target, Steps p.tables e below (T'.setTop { g with pc := g.pc + 1, stack := rest }) target → Steps p.tables e below (T.setTop g) target := by
  obtain ⟨cl, A, q, S, N, H, Gf⟩ := V
  obtain ⟨T', h', X', e', W', st⟩ := stI X hx hZ eT A (inb_of S hj) hg hs hd
  exact ⟨T', h', X', e', W', Arv.set A q S N H Gf rfl W' i hji hi, st⟩
theorem own_stJ {x : Int64} (X : Stand p l e R s m args below meth c T locs cells slots) (hx : p.tables.exec = Jvm.exec) (hZ : Z.Warmed39 s.vm) (eT : T.heap = h) (V : Arv Z h a k .long n vs dv) (hj : ¬ j < 0 ∧ j < n) {i : Nat} (hji : j.toNatClampNeg = i) (hi : i < vs.length) (hg : g.method = m) (hs : g.stack = .long x :: .int j :: .ref a :: rest) (hd : decode c.code g.pc = .ok (.lastore, 1)) :
    ∃ T' h', Stand p l e R s m args below meth c T' (locs ++ [⟨a, j.toNatClampNeg⟩]) cells slots ∧ T'.heap = h' ∧ Wr h h' a j.toNatClampNeg (.long x) ∧ Arv Z h' a k .long n (vs.set i (.long x)) dv ∧ ∀ target, Steps p.tables e below (T'.setTop { g with pc := g.pc + 1, stack := rest }) target → Steps p.tables e below (T.setTop g) target := by
  obtain ⟨cl, A, q, S, N, H, Gf⟩ := V
  obtain ⟨T', h', X', e', W', st⟩ := stJ X hx hZ eT A (inb_of S hj) hg hs hd
  exact ⟨T', h', X', e', W', Arv.set A q S N H Gf rfl W' i hji hi, st⟩
theorem own_stC {x : Int32} (X : Stand p l e R s m args below meth c T locs cells slots) (hx : p.tables.exec = Jvm.exec) (hZ : Z.Warmed39 s.vm) (eT : T.heap = h) (V : Arv Z h a k .char n vs dv) (hj : ¬ j < 0 ∧ j < n) {i : Nat} (hji : j.toNatClampNeg = i) (hi : i < vs.length) (hg : g.method = m) (hs : g.stack = .int x :: .int j :: .ref a :: rest) (hd : decode c.code g.pc = .ok (.castore, 1)) :
    ∃ T' h', Stand p l e R s m args below meth c T' (locs ++ [⟨a, j.toNatClampNeg⟩]) cells slots ∧ T'.heap = h' ∧ Wr h h' a j.toNatClampNeg (.int (nar .char x)) ∧ Arv Z h' a k .char n (vs.set i (.int (nar .char x))) dv ∧ ∀ target, Steps p.tables e below (T'.setTop { g with pc := g.pc + 1, stack := rest }) target → Steps p.tables e below (T.setTop g) target := by
  obtain ⟨cl, A, q, S, N, H, Gf⟩ := V
  obtain ⟨T', h', X', e', W', st⟩ := stC X hx hZ eT A (inb_of S hj) hg hs hd
  exact ⟨T', h', X', e', W', Arv.set A q S N H Gf (fits_nar_char _) W' i hji hi, st⟩
theorem own_stB {x : Int32} (X : Stand p l e R s m args below meth c T locs cells slots) (hx : p.tables.exec = Jvm.exec) (hZ : Z.Warmed39 s.vm) (eT : T.heap = h) (V : Arv Z h a k .byte n vs dv) (hj : ¬ j < 0 ∧ j < n) {i : Nat} (hji : j.toNatClampNeg = i) (hi : i < vs.length) (hg : g.method = m) (hs : g.stack = .int x :: .int j :: .ref a :: rest) (hd : decode c.code g.pc = .ok (.bastore, 1)) :
    ∃ T' h', Stand p l e R s m args below meth c T' (locs ++ [⟨a, j.toNatClampNeg⟩]) cells slots ∧ T'.heap = h' ∧ Wr h h' a j.toNatClampNeg (.int (nar .byte x)) ∧ Arv Z h' a k .byte n (vs.set i (.int (nar .byte x))) dv ∧ ∀ target, Steps p.tables e below (T'.setTop { g with pc := g.pc + 1, stack := rest }) target → Steps p.tables e below (T.setTop g) target := by
  obtain ⟨cl, A, q, S, N, H, Gf⟩ := V
  obtain ⟨T', h', X', e', W', st⟩ := stB X hx hZ eT A (inb_of S hj) hg hs hd
  exact ⟨T', h', X', e', W', Arv.set A q S N H Gf (fits_nar_byte _) W' i hji hi, st⟩
theorem own_stR {K : String} (X : Stand p l e R s m args below meth c T locs cells slots) (hx : p.tables.exec = Jvm.exec) (hZ : Z.Warmed39 s.vm) (eT : T.heap = h) (V : Arv Z h a k (.object K) n vs dv) (hj : ¬ j < 0 ∧ j < n) {i : Nat} (hji : j.toNatClampNeg = i) (hi : i < vs.length) (hS : ∀ {cl : Cell}, Arr Z h a cl (.object K) → cl.cls = k → Sto Z h a v) (hg : g.method = m) (hs : g.stack = v :: .int j :: .ref a :: rest) (hd : decode c.code g.pc = .ok (.aastore, 1)) (hf : fits (.object K) v = true := by rfl) :
    ∃ T' h', Stand p l e R s m args below meth c T' (locs ++ [⟨a, j.toNatClampNeg⟩]) cells slots ∧ T'.heap = h' ∧ Wr h h' a j.toNatClampNeg v ∧ Arv Z h' a k (.object K) n (vs.set i v) dv ∧ ∀ target, Steps p.tables e below (T'.setTop { g with pc := g.pc + 1, stack := rest }) target → Steps p.tables e below (T.setTop g) target := by
  obtain ⟨cl, A, q, S, N, H, Gf⟩ := V
  obtain ⟨T', h', X', e', W', st⟩ := stR X hx hZ eT A (inb_of S hj) rfl (hS A q) hg hs hd
  exact ⟨T', h', X', e', W', Arv.set A q S N H Gf hf W' i hji hi, st⟩
end Arrays
end New
end Jvm.RoadKit
namespace Jvm.Pilot.@@N@@
open Jvm Jvm.ClassFile Sem Op Lib Jvm.Free Jvm.Stand Jvm.LawKit Jvm.RoadKit Bundle Jvm.Pilot.@@N@@.Jvm.D
abbrev cn_0 : String := "com/example/imbakan/imbakan/query/Keyword"
abbrev cn_1 : String := "Lcom/example/imbakan/imbakan/query/Keyword;"
abbrev cn_2 : String := "com/example/imbakan/imbakan/query/KeywordOrdersPinLaw"
abbrev cn_3 : String := "java/lang/Enum"
def own_St (Z : State) (w_EQUALS : Addr) (w_NOT : Addr) (w_GREATER_THAN : Addr) (w_GREATER_THAN_EQUAL : Addr) (w_LESS_THAN : Addr) (w_LESS_THAN_EQUAL : Addr) (w_AFTER : Addr) (w_BEFORE : Addr) (w_BETWEEN : Addr) (w_IN : Addr) (w_NOT_IN : Addr) (w_IS_NULL : Addr) (w_IS_NOT_NULL : Addr) (w_TRUE : Addr) (w_FALSE : Addr) (w_EXISTS : Addr) (w_STARTING_WITH : Addr) (w_ENDING_WITH : Addr) (w_CONTAINING : Addr) (w_NOT_CONTAINING : Addr) (w_LIKE : Addr) (w_NOT_LIKE : Addr) (w_REGEX : Addr) (w_NEAR : Addr) (w_WITHIN : Addr) (w_IGNORE_CASE : Addr) : Prop := (Sta Z Z.heap cn_0 "EQUALS" cn_1 (.ref w_EQUALS)) ∧ (Exa Z Z.heap w_EQUALS cn_0) ∧ (Sta Z Z.heap cn_0 "NOT" cn_1 (.ref w_NOT)) ∧ (Exa Z Z.heap w_NOT cn_0) ∧ (Sta Z Z.heap cn_0 "GREATER_THAN" cn_1 (.ref w_GREATER_THAN)) ∧ (Exa Z Z.heap w_GREATER_THAN cn_0) ∧ (Sta Z Z.heap cn_0 "GREATER_THAN_EQUAL" cn_1 (.ref w_GREATER_THAN_EQUAL)) ∧ (Exa Z Z.heap w_GREATER_THAN_EQUAL cn_0) ∧ (Sta Z Z.heap cn_0 "LESS_THAN" cn_1 (.ref w_LESS_THAN)) ∧ (Exa Z Z.heap w_LESS_THAN cn_0) ∧ (Sta Z Z.heap cn_0 "LESS_THAN_EQUAL" cn_1 (.ref w_LESS_THAN_EQUAL)) ∧ (Exa Z Z.heap w_LESS_THAN_EQUAL cn_0) ∧ (Sta Z Z.heap cn_0 "AFTER" cn_1 (.ref w_AFTER)) ∧ (Exa Z Z.heap w_AFTER cn_0) ∧ (Sta Z Z.heap cn_0 "BEFORE" cn_1 (.ref w_BEFORE)) ∧ (Exa Z Z.heap w_BEFORE cn_0) ∧ (Sta Z Z.heap cn_0 "BETWEEN" cn_1 (.ref w_BETWEEN)) ∧ (Exa Z Z.heap w_BETWEEN cn_0) ∧ (Sta Z Z.heap cn_0 "IN" cn_1 (.ref w_IN)) ∧ (Exa Z Z.heap w_IN cn_0) ∧ (Sta Z Z.heap cn_0 "NOT_IN" cn_1 (.ref w_NOT_IN)) ∧ (Exa Z Z.heap w_NOT_IN cn_0) ∧ (Sta Z Z.heap cn_0 "IS_NULL" cn_1 (.ref w_IS_NULL)) ∧ (Exa Z Z.heap w_IS_NULL cn_0) ∧ (Sta Z Z.heap cn_0 "IS_NOT_NULL" cn_1 (.ref w_IS_NOT_NULL)) ∧ (Exa Z Z.heap w_IS_NOT_NULL cn_0) ∧ (Sta Z Z.heap cn_0 "TRUE" cn_1 (.ref w_TRUE)) ∧ (Exa Z Z.heap w_TRUE cn_0) ∧ (Sta Z Z.heap cn_0 "FALSE" cn_1 (.ref w_FALSE)) ∧ (Exa Z Z.heap w_FALSE cn_0) ∧ (Sta Z Z.heap cn_0 "EXISTS" cn_1 (.ref w_EXISTS)) ∧ (Exa Z Z.heap w_EXISTS cn_0) ∧ (Sta Z Z.heap cn_0 "STARTING_WITH" cn_1 (.ref w_STARTING_WITH)) ∧ (Exa Z Z.heap w_STARTING_WITH cn_0) ∧ (Sta Z Z.heap cn_0 "ENDING_WITH" cn_1 (.ref w_ENDING_WITH)) ∧ (Exa Z Z.heap w_ENDING_WITH cn_0) ∧ (Sta Z Z.heap cn_0 "CONTAINING" cn_1 (.ref w_CONTAINING)) ∧ (Exa Z Z.heap w_CONTAINING cn_0) ∧ (Sta Z Z.heap cn_0 "NOT_CONTAINING" cn_1 (.ref w_NOT_CONTAINING)) ∧ (Exa Z Z.heap w_NOT_CONTAINING cn_0) ∧ (Sta Z Z.heap cn_0 "LIKE" cn_1 (.ref w_LIKE)) ∧ (Exa Z Z.heap w_LIKE cn_0) ∧ (Sta Z Z.heap cn_0 "NOT_LIKE" cn_1 (.ref w_NOT_LIKE)) ∧ (Exa Z Z.heap w_NOT_LIKE cn_0) ∧ (Sta Z Z.heap cn_0 "REGEX" cn_1 (.ref w_REGEX)) ∧ (Exa Z Z.heap w_REGEX cn_0) ∧ (Sta Z Z.heap cn_0 "NEAR" cn_1 (.ref w_NEAR)) ∧ (Exa Z Z.heap w_NEAR cn_0) ∧ (Sta Z Z.heap cn_0 "WITHIN" cn_1 (.ref w_WITHIN)) ∧ (Exa Z Z.heap w_WITHIN cn_0) ∧ (Sta Z Z.heap cn_0 "IGNORE_CASE" cn_1 (.ref w_IGNORE_CASE)) ∧ (Exa Z Z.heap w_IGNORE_CASE cn_0) ∧ (Fld Z Z.heap w_EQUALS cn_3 "ordinal" "I" (.int 0)) ∧ (Fld Z Z.heap w_GREATER_THAN cn_3 "ordinal" "I" (.int 2)) ∧ (Fld Z Z.heap w_GREATER_THAN_EQUAL cn_3 "ordinal" "I" (.int 3)) ∧ (Fld Z Z.heap w_LESS_THAN cn_3 "ordinal" "I" (.int 4)) ∧ (Fld Z Z.heap w_LESS_THAN_EQUAL cn_3 "ordinal" "I" (.int 5)) ∧ (Fld Z Z.heap w_AFTER cn_3 "ordinal" "I" (.int 6)) ∧ (Fld Z Z.heap w_BEFORE cn_3 "ordinal" "I" (.int 7)) ∧ (Fld Z Z.heap w_BETWEEN cn_3 "ordinal" "I" (.int 8)) ∧ (Fld Z Z.heap w_REGEX cn_3 "ordinal" "I" (.int 22)) ∧ (Fld Z Z.heap w_IS_NULL cn_3 "ordinal" "I" (.int 11)) ∧ (Fld Z Z.heap w_FALSE cn_3 "ordinal" "I" (.int 14)) ∧ (Fld Z Z.heap w_NOT cn_3 "ordinal" "I" (.int 1)) ∧ (Fld Z Z.heap w_EXISTS cn_3 "ordinal" "I" (.int 15)) ∧ (Fld Z Z.heap w_STARTING_WITH cn_3 "ordinal" "I" (.int 16)) ∧ (Fld Z Z.heap w_NOT_IN cn_3 "ordinal" "I" (.int 10)) ∧ (Fld Z Z.heap w_NOT_LIKE cn_3 "ordinal" "I" (.int 21)) ∧ (Fld Z Z.heap w_TRUE cn_3 "ordinal" "I" (.int 13)) ∧ (Fld Z Z.heap w_IS_NOT_NULL cn_3 "ordinal" "I" (.int 12)) ∧ (Fld Z Z.heap w_NOT_CONTAINING cn_3 "ordinal" "I" (.int 19)) ∧ (Fld Z Z.heap w_CONTAINING cn_3 "ordinal" "I" (.int 18)) ∧ (Fld Z Z.heap w_IN cn_3 "ordinal" "I" (.int 9)) ∧ (Fld Z Z.heap w_IGNORE_CASE cn_3 "ordinal" "I" (.int 25)) ∧ (Fld Z Z.heap w_ENDING_WITH cn_3 "ordinal" "I" (.int 17)) ∧ (Fld Z Z.heap w_LIKE cn_3 "ordinal" "I" (.int 20)) ∧ (Fld Z Z.heap w_NEAR cn_3 "ordinal" "I" (.int 23)) ∧ (Fld Z Z.heap w_WITHIN cn_3 "ordinal" "I" (.int 24))
theorem own_St.k0 {Z : State} {w_EQUALS : Addr} {w_NOT : Addr} {w_GREATER_THAN : Addr} {w_GREATER_THAN_EQUAL : Addr} {w_LESS_THAN : Addr} {w_LESS_THAN_EQUAL : Addr} {w_AFTER : Addr} {w_BEFORE : Addr} {w_BETWEEN : Addr} {w_IN : Addr} {w_NOT_IN : Addr} {w_IS_NULL : Addr} {w_IS_NOT_NULL : Addr} {w_TRUE : Addr} {w_FALSE : Addr} {w_EXISTS : Addr} {w_STARTING_WITH : Addr} {w_ENDING_WITH : Addr} {w_CONTAINING : Addr} {w_NOT_CONTAINING : Addr} {w_LIKE : Addr} {w_NOT_LIKE : Addr} {w_REGEX : Addr} {w_NEAR : Addr} {w_WITHIN : Addr} {w_IGNORE_CASE : Addr} (ST : own_St Z w_EQUALS w_NOT w_GREATER_THAN w_GREATER_THAN_EQUAL w_LESS_THAN w_LESS_THAN_EQUAL w_AFTER w_BEFORE w_BETWEEN w_IN w_NOT_IN w_IS_NULL w_IS_NOT_NULL w_TRUE w_FALSE w_EXISTS w_STARTING_WITH w_ENDING_WITH w_CONTAINING w_NOT_CONTAINING w_LIKE w_NOT_LIKE w_REGEX w_NEAR w_WITHIN w_IGNORE_CASE) : Sta Z Z.heap cn_0 "EQUALS" cn_1 (.ref w_EQUALS) := ST.1
theorem own_St.k1 {Z : State} {w_EQUALS : Addr} {w_NOT : Addr} {w_GREATER_THAN : Addr} {w_GREATER_THAN_EQUAL : Addr} {w_LESS_THAN : Addr} {w_LESS_THAN_EQUAL : Addr} {w_AFTER : Addr} {w_BEFORE : Addr} {w_BETWEEN : Addr} {w_IN : Addr} {w_NOT_IN : Addr} {w_IS_NULL : Addr} {w_IS_NOT_NULL : Addr} {w_TRUE : Addr} {w_FALSE : Addr} {w_EXISTS : Addr} {w_STARTING_WITH : Addr} {w_ENDING_WITH : Addr} {w_CONTAINING : Addr} {w_NOT_CONTAINING : Addr} {w_LIKE : Addr} {w_NOT_LIKE : Addr} {w_REGEX : Addr} {w_NEAR : Addr} {w_WITHIN : Addr} {w_IGNORE_CASE : Addr} (ST : own_St Z w_EQUALS w_NOT w_GREATER_THAN w_GREATER_THAN_EQUAL w_LESS_THAN w_LESS_THAN_EQUAL w_AFTER w_BEFORE w_BETWEEN w_IN w_NOT_IN w_IS_NULL w_IS_NOT_NULL w_TRUE w_FALSE w_EXISTS w_STARTING_WITH w_ENDING_WITH w_CONTAINING w_NOT_CONTAINING w_LIKE w_NOT_LIKE w_REGEX w_NEAR w_WITHIN w_IGNORE_CASE) : Exa Z Z.heap w_EQUALS cn_0 := ST.2.1
theorem own_St.k2 {Z : State} {w_EQUALS : Addr} {w_NOT : Addr} {w_GREATER_THAN : Addr} {w_GREATER_THAN_EQUAL : Addr} {w_LESS_THAN : Addr} {w_LESS_THAN_EQUAL : Addr} {w_AFTER : Addr} {w_BEFORE : Addr} {w_BETWEEN : Addr} {w_IN : Addr} {w_NOT_IN : Addr} {w_IS_NULL : Addr} {w_IS_NOT_NULL : Addr} {w_TRUE : Addr} {w_FALSE : Addr} {w_EXISTS : Addr} {w_STARTING_WITH : Addr} {w_ENDING_WITH : Addr} {w_CONTAINING : Addr} {w_NOT_CONTAINING : Addr} {w_LIKE : Addr} {w_NOT_LIKE : Addr} {w_REGEX : Addr} {w_NEAR : Addr} {w_WITHIN : Addr} {w_IGNORE_CASE : Addr} (ST : own_St Z w_EQUALS w_NOT w_GREATER_THAN w_GREATER_THAN_EQUAL w_LESS_THAN w_LESS_THAN_EQUAL w_AFTER w_BEFORE w_BETWEEN w_IN w_NOT_IN w_IS_NULL w_IS_NOT_NULL w_TRUE w_FALSE w_EXISTS w_STARTING_WITH w_ENDING_WITH w_CONTAINING w_NOT_CONTAINING w_LIKE w_NOT_LIKE w_REGEX w_NEAR w_WITHIN w_IGNORE_CASE) : Sta Z Z.heap cn_0 "NOT" cn_1 (.ref w_NOT) := ST.2.2.1
theorem own_St.k3 {Z : State} {w_EQUALS : Addr} {w_NOT : Addr} {w_GREATER_THAN : Addr} {w_GREATER_THAN_EQUAL : Addr} {w_LESS_THAN : Addr} {w_LESS_THAN_EQUAL : Addr} {w_AFTER : Addr} {w_BEFORE : Addr} {w_BETWEEN : Addr} {w_IN : Addr} {w_NOT_IN : Addr} {w_IS_NULL : Addr} {w_IS_NOT_NULL : Addr} {w_TRUE : Addr} {w_FALSE : Addr} {w_EXISTS : Addr} {w_STARTING_WITH : Addr} {w_ENDING_WITH : Addr} {w_CONTAINING : Addr} {w_NOT_CONTAINING : Addr} {w_LIKE : Addr} {w_NOT_LIKE : Addr} {w_REGEX : Addr} {w_NEAR : Addr} {w_WITHIN : Addr} {w_IGNORE_CASE : Addr} (ST : own_St Z w_EQUALS w_NOT w_GREATER_THAN w_GREATER_THAN_EQUAL w_LESS_THAN w_LESS_THAN_EQUAL w_AFTER w_BEFORE w_BETWEEN w_IN w_NOT_IN w_IS_NULL w_IS_NOT_NULL w_TRUE w_FALSE w_EXISTS w_STARTING_WITH w_ENDING_WITH w_CONTAINING w_NOT_CONTAINING w_LIKE w_NOT_LIKE w_REGEX w_NEAR w_WITHIN w_IGNORE_CASE) : Exa Z Z.heap w_NOT cn_0 := ST.2.2.2.1
theorem own_St.k4 {Z : State} {w_EQUALS : Addr} {w_NOT : Addr} {w_GREATER_THAN : Addr} {w_GREATER_THAN_EQUAL : Addr} {w_LESS_THAN : Addr} {w_LESS_THAN_EQUAL : Addr} {w_AFTER : Addr} {w_BEFORE : Addr} {w_BETWEEN : Addr} {w_IN : Addr} {w_NOT_IN : Addr} {w_IS_NULL : Addr} {w_IS_NOT_NULL : Addr} {w_TRUE : Addr} {w_FALSE : Addr} {w_EXISTS : Addr} {w_STARTING_WITH : Addr} {w_ENDING_WITH : Addr} {w_CONTAINING : Addr} {w_NOT_CONTAINING : Addr} {w_LIKE : Addr} {w_NOT_LIKE : Addr} {w_REGEX : Addr} {w_NEAR : Addr} {w_WITHIN : Addr} {w_IGNORE_CASE : Addr} (ST : own_St Z w_EQUALS w_NOT w_GREATER_THAN w_GREATER_THAN_EQUAL w_LESS_THAN w_LESS_THAN_EQUAL w_AFTER w_BEFORE w_BETWEEN w_IN w_NOT_IN w_IS_NULL w_IS_NOT_NULL w_TRUE w_FALSE w_EXISTS w_STARTING_WITH w_ENDING_WITH w_CONTAINING w_NOT_CONTAINING w_LIKE w_NOT_LIKE w_REGEX w_NEAR w_WITHIN w_IGNORE_CASE) : Sta Z Z.heap cn_0 "GREATER_THAN" cn_1 (.ref w_GREATER_THAN) := ST.2.2.2.2.1
theorem own_St.k5 {Z : State} {w_EQUALS : Addr} {w_NOT : Addr} {w_GREATER_THAN : Addr} {w_GREATER_THAN_EQUAL : Addr} {w_LESS_THAN : Addr} {w_LESS_THAN_EQUAL : Addr} {w_AFTER : Addr} {w_BEFORE : Addr} {w_BETWEEN : Addr} {w_IN : Addr} {w_NOT_IN : Addr} {w_IS_NULL : Addr} {w_IS_NOT_NULL : Addr} {w_TRUE : Addr} {w_FALSE : Addr} {w_EXISTS : Addr} {w_STARTING_WITH : Addr} {w_ENDING_WITH : Addr} {w_CONTAINING : Addr} {w_NOT_CONTAINING : Addr} {w_LIKE : Addr} {w_NOT_LIKE : Addr} {w_REGEX : Addr} {w_NEAR : Addr} {w_WITHIN : Addr} {w_IGNORE_CASE : Addr} (ST : own_St Z w_EQUALS w_NOT w_GREATER_THAN w_GREATER_THAN_EQUAL w_LESS_THAN w_LESS_THAN_EQUAL w_AFTER w_BEFORE w_BETWEEN w_IN w_NOT_IN w_IS_NULL w_IS_NOT_NULL w_TRUE w_FALSE w_EXISTS w_STARTING_WITH w_ENDING_WITH w_CONTAINING w_NOT_CONTAINING w_LIKE w_NOT_LIKE w_REGEX w_NEAR w_WITHIN w_IGNORE_CASE) : Exa Z Z.heap w_GREATER_THAN cn_0 := ST.2.2.2.2.2.1
theorem own_St.k6 {Z : State} {w_EQUALS : Addr} {w_NOT : Addr} {w_GREATER_THAN : Addr} {w_GREATER_THAN_EQUAL : Addr} {w_LESS_THAN : Addr} {w_LESS_THAN_EQUAL : Addr} {w_AFTER : Addr} {w_BEFORE : Addr} {w_BETWEEN : Addr} {w_IN : Addr} {w_NOT_IN : Addr} {w_IS_NULL : Addr} {w_IS_NOT_NULL : Addr} {w_TRUE : Addr} {w_FALSE : Addr} {w_EXISTS : Addr} {w_STARTING_WITH : Addr} {w_ENDING_WITH : Addr} {w_CONTAINING : Addr} {w_NOT_CONTAINING : Addr} {w_LIKE : Addr} {w_NOT_LIKE : Addr} {w_REGEX : Addr} {w_NEAR : Addr} {w_WITHIN : Addr} {w_IGNORE_CASE : Addr} (ST : own_St Z w_EQUALS w_NOT w_GREATER_THAN w_GREATER_THAN_EQUAL w_LESS_THAN w_LESS_THAN_EQUAL w_AFTER w_BEFORE w_BETWEEN w_IN w_NOT_IN w_IS_NULL w_IS_NOT_NULL w_TRUE w_FALSE w_EXISTS w_STARTING_WITH w_ENDING_WITH w_CONTAINING w_NOT_CONTAINING w_LIKE w_NOT_LIKE w_REGEX w_NEAR w_WITHIN w_IGNORE_CASE) : Sta Z Z.heap cn_0 "GREATER_THAN_EQUAL" cn_1 (.ref w_GREATER_THAN_EQUAL) := ST.2.2.2.2.2.2.1
theorem own_St.k7 {Z : State} {w_EQUALS : Addr} {w_NOT : Addr} {w_GREATER_THAN : Addr} {w_GREATER_THAN_EQUAL : Addr} {w_LESS_THAN : Addr} {w_LESS_THAN_EQUAL : Addr} {w_AFTER : Addr} {w_BEFORE : Addr} {w_BETWEEN : Addr} {w_IN : Addr} {w_NOT_IN : Addr} {w_IS_NULL : Addr} {w_IS_NOT_NULL : Addr} {w_TRUE : Addr} {w_FALSE : Addr} {w_EXISTS : Addr} {w_STARTING_WITH : Addr} {w_ENDING_WITH : Addr} {w_CONTAINING : Addr} {w_NOT_CONTAINING : Addr} {w_LIKE : Addr} {w_NOT_LIKE : Addr} {w_REGEX : Addr} {w_NEAR : Addr} {w_WITHIN : Addr} {w_IGNORE_CASE : Addr} (ST : own_St Z w_EQUALS w_NOT w_GREATER_THAN w_GREATER_THAN_EQUAL w_LESS_THAN w_LESS_THAN_EQUAL w_AFTER w_BEFORE w_BETWEEN w_IN w_NOT_IN w_IS_NULL w_IS_NOT_NULL w_TRUE w_FALSE w_EXISTS w_STARTING_WITH w_ENDING_WITH w_CONTAINING w_NOT_CONTAINING w_LIKE w_NOT_LIKE w_REGEX w_NEAR w_WITHIN w_IGNORE_CASE) : Exa Z Z.heap w_GREATER_THAN_EQUAL cn_0 := ST.2.2.2.2.2.2.2.1
theorem own_St.k8 {Z : State} {w_EQUALS : Addr} {w_NOT : Addr} {w_GREATER_THAN : Addr} {w_GREATER_THAN_EQUAL : Addr} {w_LESS_THAN : Addr} {w_LESS_THAN_EQUAL : Addr} {w_AFTER : Addr} {w_BEFORE : Addr} {w_BETWEEN : Addr} {w_IN : Addr} {w_NOT_IN : Addr} {w_IS_NULL : Addr} {w_IS_NOT_NULL : Addr} {w_TRUE : Addr} {w_FALSE : Addr} {w_EXISTS : Addr} {w_STARTING_WITH : Addr} {w_ENDING_WITH : Addr} {w_CONTAINING : Addr} {w_NOT_CONTAINING : Addr} {w_LIKE : Addr} {w_NOT_LIKE : Addr} {w_REGEX : Addr} {w_NEAR : Addr} {w_WITHIN : Addr} {w_IGNORE_CASE : Addr} (ST : own_St Z w_EQUALS w_NOT w_GREATER_THAN w_GREATER_THAN_EQUAL w_LESS_THAN w_LESS_THAN_EQUAL w_AFTER w_BEFORE w_BETWEEN w_IN w_NOT_IN w_IS_NULL w_IS_NOT_NULL w_TRUE w_FALSE w_EXISTS w_STARTING_WITH w_ENDING_WITH w_CONTAINING w_NOT_CONTAINING w_LIKE w_NOT_LIKE w_REGEX w_NEAR w_WITHIN w_IGNORE_CASE) : Sta Z Z.heap cn_0 "LESS_THAN" cn_1 (.ref w_LESS_THAN) := ST.2.2.2.2.2.2.2.2.1
theorem own_St.k9 {Z : State} {w_EQUALS : Addr} {w_NOT : Addr} {w_GREATER_THAN : Addr} {w_GREATER_THAN_EQUAL : Addr} {w_LESS_THAN : Addr} {w_LESS_THAN_EQUAL : Addr} {w_AFTER : Addr} {w_BEFORE : Addr} {w_BETWEEN : Addr} {w_IN : Addr} {w_NOT_IN : Addr} {w_IS_NULL : Addr} {w_IS_NOT_NULL : Addr} {w_TRUE : Addr} {w_FALSE : Addr} {w_EXISTS : Addr} {w_STARTING_WITH : Addr} {w_ENDING_WITH : Addr} {w_CONTAINING : Addr} {w_NOT_CONTAINING : Addr} {w_LIKE : Addr} {w_NOT_LIKE : Addr} {w_REGEX : Addr} {w_NEAR : Addr} {w_WITHIN : Addr} {w_IGNORE_CASE : Addr} (ST : own_St Z w_EQUALS w_NOT w_GREATER_THAN w_GREATER_THAN_EQUAL w_LESS_THAN w_LESS_THAN_EQUAL w_AFTER w_BEFORE w_BETWEEN w_IN w_NOT_IN w_IS_NULL w_IS_NOT_NULL w_TRUE w_FALSE w_EXISTS w_STARTING_WITH w_ENDING_WITH w_CONTAINING w_NOT_CONTAINING w_LIKE w_NOT_LIKE w_REGEX w_NEAR w_WITHIN w_IGNORE_CASE) : Exa Z Z.heap w_LESS_THAN cn_0 := ST.2.2.2.2.2.2.2.2.2.1
theorem own_St.k10 {Z : State} {w_EQUALS : Addr} {w_NOT : Addr} {w_GREATER_THAN : Addr} {w_GREATER_THAN_EQUAL : Addr} {w_LESS_THAN : Addr} {w_LESS_THAN_EQUAL : Addr} {w_AFTER : Addr} {w_BEFORE : Addr} {w_BETWEEN : Addr} {w_IN : Addr} {w_NOT_IN : Addr} {w_IS_NULL : Addr} {w_IS_NOT_NULL : Addr} {w_TRUE : Addr} {w_FALSE : Addr} {w_EXISTS : Addr} {w_STARTING_WITH : Addr} {w_ENDING_WITH : Addr} {w_CONTAINING : Addr} {w_NOT_CONTAINING : Addr} {w_LIKE : Addr} {w_NOT_LIKE : Addr} {w_REGEX : Addr} {w_NEAR : Addr} {w_WITHIN : Addr} {w_IGNORE_CASE : Addr} (ST : own_St Z w_EQUALS w_NOT w_GREATER_THAN w_GREATER_THAN_EQUAL w_LESS_THAN w_LESS_THAN_EQUAL w_AFTER w_BEFORE w_BETWEEN w_IN w_NOT_IN w_IS_NULL w_IS_NOT_NULL w_TRUE w_FALSE w_EXISTS w_STARTING_WITH w_ENDING_WITH w_CONTAINING w_NOT_CONTAINING w_LIKE w_NOT_LIKE w_REGEX w_NEAR w_WITHIN w_IGNORE_CASE) : Sta Z Z.heap cn_0 "LESS_THAN_EQUAL" cn_1 (.ref w_LESS_THAN_EQUAL) := ST.2.2.2.2.2.2.2.2.2.2.1
theorem own_St.k11 {Z : State} {w_EQUALS : Addr} {w_NOT : Addr} {w_GREATER_THAN : Addr} {w_GREATER_THAN_EQUAL : Addr} {w_LESS_THAN : Addr} {w_LESS_THAN_EQUAL : Addr} {w_AFTER : Addr} {w_BEFORE : Addr} {w_BETWEEN : Addr} {w_IN : Addr} {w_NOT_IN : Addr} {w_IS_NULL : Addr} {w_IS_NOT_NULL : Addr} {w_TRUE : Addr} {w_FALSE : Addr} {w_EXISTS : Addr} {w_STARTING_WITH : Addr} {w_ENDING_WITH : Addr} {w_CONTAINING : Addr} {w_NOT_CONTAINING : Addr} {w_LIKE : Addr} {w_NOT_LIKE : Addr} {w_REGEX : Addr} {w_NEAR : Addr} {w_WITHIN : Addr} {w_IGNORE_CASE : Addr} (ST : own_St Z w_EQUALS w_NOT w_GREATER_THAN w_GREATER_THAN_EQUAL w_LESS_THAN w_LESS_THAN_EQUAL w_AFTER w_BEFORE w_BETWEEN w_IN w_NOT_IN w_IS_NULL w_IS_NOT_NULL w_TRUE w_FALSE w_EXISTS w_STARTING_WITH w_ENDING_WITH w_CONTAINING w_NOT_CONTAINING w_LIKE w_NOT_LIKE w_REGEX w_NEAR w_WITHIN w_IGNORE_CASE) : Exa Z Z.heap w_LESS_THAN_EQUAL cn_0 := ST.2.2.2.2.2.2.2.2.2.2.2.1
theorem own_St.k12 {Z : State} {w_EQUALS : Addr} {w_NOT : Addr} {w_GREATER_THAN : Addr} {w_GREATER_THAN_EQUAL : Addr} {w_LESS_THAN : Addr} {w_LESS_THAN_EQUAL : Addr} {w_AFTER : Addr} {w_BEFORE : Addr} {w_BETWEEN : Addr} {w_IN : Addr} {w_NOT_IN : Addr} {w_IS_NULL : Addr} {w_IS_NOT_NULL : Addr} {w_TRUE : Addr} {w_FALSE : Addr} {w_EXISTS : Addr} {w_STARTING_WITH : Addr} {w_ENDING_WITH : Addr} {w_CONTAINING : Addr} {w_NOT_CONTAINING : Addr} {w_LIKE : Addr} {w_NOT_LIKE : Addr} {w_REGEX : Addr} {w_NEAR : Addr} {w_WITHIN : Addr} {w_IGNORE_CASE : Addr} (ST : own_St Z w_EQUALS w_NOT w_GREATER_THAN w_GREATER_THAN_EQUAL w_LESS_THAN w_LESS_THAN_EQUAL w_AFTER w_BEFORE w_BETWEEN w_IN w_NOT_IN w_IS_NULL w_IS_NOT_NULL w_TRUE w_FALSE w_EXISTS w_STARTING_WITH w_ENDING_WITH w_CONTAINING w_NOT_CONTAINING w_LIKE w_NOT_LIKE w_REGEX w_NEAR w_WITHIN w_IGNORE_CASE) : Sta Z Z.heap cn_0 "AFTER" cn_1 (.ref w_AFTER) := ST.2.2.2.2.2.2.2.2.2.2.2.2.1
theorem own_St.k13 {Z : State} {w_EQUALS : Addr} {w_NOT : Addr} {w_GREATER_THAN : Addr} {w_GREATER_THAN_EQUAL : Addr} {w_LESS_THAN : Addr} {w_LESS_THAN_EQUAL : Addr} {w_AFTER : Addr} {w_BEFORE : Addr} {w_BETWEEN : Addr} {w_IN : Addr} {w_NOT_IN : Addr} {w_IS_NULL : Addr} {w_IS_NOT_NULL : Addr} {w_TRUE : Addr} {w_FALSE : Addr} {w_EXISTS : Addr} {w_STARTING_WITH : Addr} {w_ENDING_WITH : Addr} {w_CONTAINING : Addr} {w_NOT_CONTAINING : Addr} {w_LIKE : Addr} {w_NOT_LIKE : Addr} {w_REGEX : Addr} {w_NEAR : Addr} {w_WITHIN : Addr} {w_IGNORE_CASE : Addr} (ST : own_St Z w_EQUALS w_NOT w_GREATER_THAN w_GREATER_THAN_EQUAL w_LESS_THAN w_LESS_THAN_EQUAL w_AFTER w_BEFORE w_BETWEEN w_IN w_NOT_IN w_IS_NULL w_IS_NOT_NULL w_TRUE w_FALSE w_EXISTS w_STARTING_WITH w_ENDING_WITH w_CONTAINING w_NOT_CONTAINING w_LIKE w_NOT_LIKE w_REGEX w_NEAR w_WITHIN w_IGNORE_CASE) : Exa Z Z.heap w_AFTER cn_0 := ST.2.2.2.2.2.2.2.2.2.2.2.2.2.1
theorem own_St.k14 {Z : State} {w_EQUALS : Addr} {w_NOT : Addr} {w_GREATER_THAN : Addr} {w_GREATER_THAN_EQUAL : Addr} {w_LESS_THAN : Addr} {w_LESS_THAN_EQUAL : Addr} {w_AFTER : Addr} {w_BEFORE : Addr} {w_BETWEEN : Addr} {w_IN : Addr} {w_NOT_IN : Addr} {w_IS_NULL : Addr} {w_IS_NOT_NULL : Addr} {w_TRUE : Addr} {w_FALSE : Addr} {w_EXISTS : Addr} {w_STARTING_WITH : Addr} {w_ENDING_WITH : Addr} {w_CONTAINING : Addr} {w_NOT_CONTAINING : Addr} {w_LIKE : Addr} {w_NOT_LIKE : Addr} {w_REGEX : Addr} {w_NEAR : Addr} {w_WITHIN : Addr} {w_IGNORE_CASE : Addr} (ST : own_St Z w_EQUALS w_NOT w_GREATER_THAN w_GREATER_THAN_EQUAL w_LESS_THAN w_LESS_THAN_EQUAL w_AFTER w_BEFORE w_BETWEEN w_IN w_NOT_IN w_IS_NULL w_IS_NOT_NULL w_TRUE w_FALSE w_EXISTS w_STARTING_WITH w_ENDING_WITH w_CONTAINING w_NOT_CONTAINING w_LIKE w_NOT_LIKE w_REGEX w_NEAR w_WITHIN w_IGNORE_CASE) : Sta Z Z.heap cn_0 "BEFORE" cn_1 (.ref w_BEFORE) := ST.2.2.2.2.2.2.2.2.2.2.2.2.2.2.1
theorem own_St.k15 {Z : State} {w_EQUALS : Addr} {w_NOT : Addr} {w_GREATER_THAN : Addr} {w_GREATER_THAN_EQUAL : Addr} {w_LESS_THAN : Addr} {w_LESS_THAN_EQUAL : Addr} {w_AFTER : Addr} {w_BEFORE : Addr} {w_BETWEEN : Addr} {w_IN : Addr} {w_NOT_IN : Addr} {w_IS_NULL : Addr} {w_IS_NOT_NULL : Addr} {w_TRUE : Addr} {w_FALSE : Addr} {w_EXISTS : Addr} {w_STARTING_WITH : Addr} {w_ENDING_WITH : Addr} {w_CONTAINING : Addr} {w_NOT_CONTAINING : Addr} {w_LIKE : Addr} {w_NOT_LIKE : Addr} {w_REGEX : Addr} {w_NEAR : Addr} {w_WITHIN : Addr} {w_IGNORE_CASE : Addr} (ST : own_St Z w_EQUALS w_NOT w_GREATER_THAN w_GREATER_THAN_EQUAL w_LESS_THAN w_LESS_THAN_EQUAL w_AFTER w_BEFORE w_BETWEEN w_IN w_NOT_IN w_IS_NULL w_IS_NOT_NULL w_TRUE w_FALSE w_EXISTS w_STARTING_WITH w_ENDING_WITH w_CONTAINING w_NOT_CONTAINING w_LIKE w_NOT_LIKE w_REGEX w_NEAR w_WITHIN w_IGNORE_CASE) : Exa Z Z.heap w_BEFORE cn_0 := ST.2.2.2.2.2.2.2.2.2.2.2.2.2.2.2.1
theorem own_St.k16 {Z : State} {w_EQUALS : Addr} {w_NOT : Addr} {w_GREATER_THAN : Addr} {w_GREATER_THAN_EQUAL : Addr} {w_LESS_THAN : Addr} {w_LESS_THAN_EQUAL : Addr} {w_AFTER : Addr} {w_BEFORE : Addr} {w_BETWEEN : Addr} {w_IN : Addr} {w_NOT_IN : Addr} {w_IS_NULL : Addr} {w_IS_NOT_NULL : Addr} {w_TRUE : Addr} {w_FALSE : Addr} {w_EXISTS : Addr} {w_STARTING_WITH : Addr} {w_ENDING_WITH : Addr} {w_CONTAINING : Addr} {w_NOT_CONTAINING : Addr} {w_LIKE : Addr} {w_NOT_LIKE : Addr} {w_REGEX : Addr} {w_NEAR : Addr} {w_WITHIN : Addr} {w_IGNORE_CASE : Addr} (ST : own_St Z w_EQUALS w_NOT w_GREATER_THAN w_GREATER_THAN_EQUAL w_LESS_THAN w_LESS_THAN_EQUAL w_AFTER w_BEFORE w_BETWEEN w_IN w_NOT_IN w_IS_NULL w_IS_NOT_NULL w_TRUE w_FALSE w_EXISTS w_STARTING_WITH w_ENDING_WITH w_CONTAINING w_NOT_CONTAINING w_LIKE w_NOT_LIKE w_REGEX w_NEAR w_WITHIN w_IGNORE_CASE) : Sta Z Z.heap cn_0 "BETWEEN" cn_1 (.ref w_BETWEEN) := ST.2.2.2.2.2.2.2.2.2.2.2.2.2.2.2.2.1
theorem own_St.k17 {Z : State} {w_EQUALS : Addr} {w_NOT : Addr} {w_GREATER_THAN : Addr} {w_GREATER_THAN_EQUAL : Addr} {w_LESS_THAN : Addr} {w_LESS_THAN_EQUAL : Addr} {w_AFTER : Addr} {w_BEFORE : Addr} {w_BETWEEN : Addr} {w_IN : Addr} {w_NOT_IN : Addr} {w_IS_NULL : Addr} {w_IS_NOT_NULL : Addr} {w_TRUE : Addr} {w_FALSE : Addr} {w_EXISTS : Addr} {w_STARTING_WITH : Addr} {w_ENDING_WITH : Addr} {w_CONTAINING : Addr} {w_NOT_CONTAINING : Addr} {w_LIKE : Addr} {w_NOT_LIKE : Addr} {w_REGEX : Addr} {w_NEAR : Addr} {w_WITHIN : Addr} {w_IGNORE_CASE : Addr} (ST : own_St Z w_EQUALS w_NOT w_GREATER_THAN w_GREATER_THAN_EQUAL w_LESS_THAN w_LESS_THAN_EQUAL w_AFTER w_BEFORE w_BETWEEN w_IN w_NOT_IN w_IS_NULL w_IS_NOT_NULL w_TRUE w_FALSE w_EXISTS w_STARTING_WITH w_ENDING_WITH w_CONTAINING w_NOT_CONTAINING w_LIKE w_NOT_LIKE w_REGEX w_NEAR w_WITHIN w_IGNORE_CASE) : Exa Z Z.heap w_BETWEEN cn_0 := ST.2.2.2.2.2.2.2.2.2.2.2.2.2.2.2.2.2.1
theorem own_St.k18 {Z : State} {w_EQUALS : Addr} {w_NOT : Addr} {w_GREATER_THAN : Addr} {w_GREATER_THAN_EQUAL : Addr} {w_LESS_THAN : Addr} {w_LESS_THAN_EQUAL : Addr} {w_AFTER : Addr} {w_BEFORE : Addr} {w_BETWEEN : Addr} {w_IN : Addr} {w_NOT_IN : Addr} {w_IS_NULL : Addr} {w_IS_NOT_NULL : Addr} {w_TRUE : Addr} {w_FALSE : Addr} {w_EXISTS : Addr} {w_STARTING_WITH : Addr} {w_ENDING_WITH : Addr} {w_CONTAINING : Addr} {w_NOT_CONTAINING : Addr} {w_LIKE : Addr} {w_NOT_LIKE : Addr} {w_REGEX : Addr} {w_NEAR : Addr} {w_WITHIN : Addr} {w_IGNORE_CASE : Addr} (ST : own_St Z w_EQUALS w_NOT w_GREATER_THAN w_GREATER_THAN_EQUAL w_LESS_THAN w_LESS_THAN_EQUAL w_AFTER w_BEFORE w_BETWEEN w_IN w_NOT_IN w_IS_NULL w_IS_NOT_NULL w_TRUE w_FALSE w_EXISTS w_STARTING_WITH w_ENDING_WITH w_CONTAINING w_NOT_CONTAINING w_LIKE w_NOT_LIKE w_REGEX w_NEAR w_WITHIN w_IGNORE_CASE) : Sta Z Z.heap cn_0 "IN" cn_1 (.ref w_IN) := ST.2.2.2.2.2.2.2.2.2.2.2.2.2.2.2.2.2.2.1
theorem own_St.k19 {Z : State} {w_EQUALS : Addr} {w_NOT : Addr} {w_GREATER_THAN : Addr} {w_GREATER_THAN_EQUAL : Addr} {w_LESS_THAN : Addr} {w_LESS_THAN_EQUAL : Addr} {w_AFTER : Addr} {w_BEFORE : Addr} {w_BETWEEN : Addr} {w_IN : Addr} {w_NOT_IN : Addr} {w_IS_NULL : Addr} {w_IS_NOT_NULL : Addr} {w_TRUE : Addr} {w_FALSE : Addr} {w_EXISTS : Addr} {w_STARTING_WITH : Addr} {w_ENDING_WITH : Addr} {w_CONTAINING : Addr} {w_NOT_CONTAINING : Addr} {w_LIKE : Addr} {w_NOT_LIKE : Addr} {w_REGEX : Addr} {w_NEAR : Addr} {w_WITHIN : Addr} {w_IGNORE_CASE : Addr} (ST : own_St Z w_EQUALS w_NOT w_GREATER_THAN w_GREATER_THAN_EQUAL w_LESS_THAN w_LESS_THAN_EQUAL w_AFTER w_BEFORE w_BETWEEN w_IN w_NOT_IN w_IS_NULL w_IS_NOT_NULL w_TRUE w_FALSE w_EXISTS w_STARTING_WITH w_ENDING_WITH w_CONTAINING w_NOT_CONTAINING w_LIKE w_NOT_LIKE w_REGEX w_NEAR w_WITHIN w_IGNORE_CASE) : Exa Z Z.heap w_IN cn_0 := ST.2.2.2.2.2.2.2.2.2.2.2.2.2.2.2.2.2.2.2.1
theorem own_St.k20 {Z : State} {w_EQUALS : Addr} {w_NOT : Addr} {w_GREATER_THAN : Addr} {w_GREATER_THAN_EQUAL : Addr} {w_LESS_THAN : Addr} {w_LESS_THAN_EQUAL : Addr} {w_AFTER : Addr} {w_BEFORE : Addr} {w_BETWEEN : Addr} {w_IN : Addr} {w_NOT_IN : Addr} {w_IS_NULL : Addr} {w_IS_NOT_NULL : Addr} {w_TRUE : Addr} {w_FALSE : Addr} {w_EXISTS : Addr} {w_STARTING_WITH : Addr} {w_ENDING_WITH : Addr} {w_CONTAINING : Addr} {w_NOT_CONTAINING : Addr} {w_LIKE : Addr} {w_NOT_LIKE : Addr} {w_REGEX : Addr} {w_NEAR : Addr} {w_WITHIN : Addr} {w_IGNORE_CASE : Addr} (ST : own_St Z w_EQUALS w_NOT w_GREATER_THAN w_GREATER_THAN_EQUAL w_LESS_THAN w_LESS_THAN_EQUAL w_AFTER w_BEFORE w_BETWEEN w_IN w_NOT_IN w_IS_NULL w_IS_NOT_NULL w_TRUE w_FALSE w_EXISTS w_STARTING_WITH w_ENDING_WITH w_CONTAINING w_NOT_CONTAINING w_LIKE w_NOT_LIKE w_REGEX w_NEAR w_WITHIN w_IGNORE_CASE) : Sta Z Z.heap cn_0 "NOT_IN" cn_1 (.ref w_NOT_IN) := ST.2.2.2.2.2.2.2.2.2.2.2.2.2.2.2.2.2.2.2.2.1
theorem own_St.k21 {Z : State} {w_EQUALS : Addr} {w_NOT : Addr} {w_GREATER_THAN : Addr} {w_GREATER_THAN_EQUAL : Addr} {w_LESS_THAN : Addr} {w_LESS_THAN_EQUAL : Addr} {w_AFTER : Addr} {w_BEFORE : Addr} {w_BETWEEN : Addr} {w_IN : Addr} {w_NOT_IN : Addr} {w_IS_NULL : Addr} {w_IS_NOT_NULL : Addr} {w_TRUE : Addr} {w_FALSE : Addr} {w_EXISTS : Addr} {w_STARTING_WITH : Addr} {w_ENDING_WITH : Addr} {w_CONTAINING : Addr} {w_NOT_CONTAINING : Addr} {w_LIKE : Addr} {w_NOT_LIKE : Addr} {w_REGEX : Addr} {w_NEAR : Addr} {w_WITHIN : Addr} {w_IGNORE_CASE : Addr} (ST : own_St Z w_EQUALS w_NOT w_GREATER_THAN w_GREATER_THAN_EQUAL w_LESS_THAN w_LESS_THAN_EQUAL w_AFTER w_BEFORE w_BETWEEN w_IN w_NOT_IN w_IS_NULL w_IS_NOT_NULL w_TRUE w_FALSE w_EXISTS w_STARTING_WITH w_ENDING_WITH w_CONTAINING w_NOT_CONTAINING w_LIKE w_NOT_LIKE w_REGEX w_NEAR w_WITHIN w_IGNORE_CASE) : Exa Z Z.heap w_NOT_IN cn_0 := ST.2.2.2.2.2.2.2.2.2.2.2.2.2.2.2.2.2.2.2.2.2.1
theorem own_St.k22 {Z : State} {w_EQUALS : Addr} {w_NOT : Addr} {w_GREATER_THAN : Addr} {w_GREATER_THAN_EQUAL : Addr} {w_LESS_THAN : Addr} {w_LESS_THAN_EQUAL : Addr} {w_AFTER : Addr} {w_BEFORE : Addr} {w_BETWEEN : Addr} {w_IN : Addr} {w_NOT_IN : Addr} {w_IS_NULL : Addr} {w_IS_NOT_NULL : Addr} {w_TRUE : Addr} {w_FALSE : Addr} {w_EXISTS : Addr} {w_STARTING_WITH : Addr} {w_ENDING_WITH : Addr} {w_CONTAINING : Addr} {w_NOT_CONTAINING : Addr} {w_LIKE : Addr} {w_NOT_LIKE : Addr} {w_REGEX : Addr} {w_NEAR : Addr} {w_WITHIN : Addr} {w_IGNORE_CASE : Addr} (ST : own_St Z w_EQUALS w_NOT w_GREATER_THAN w_GREATER_THAN_EQUAL w_LESS_THAN w_LESS_THAN_EQUAL w_AFTER w_BEFORE w_BETWEEN w_IN w_NOT_IN w_IS_NULL w_IS_NOT_NULL w_TRUE w_FALSE w_EXISTS w_STARTING_WITH w_ENDING_WITH w_CONTAINING w_NOT_CONTAINING w_LIKE w_NOT_LIKE w_REGEX w_NEAR w_WITHIN w_IGNORE_CASE) : Sta Z Z.heap cn_0 "IS_NULL" cn_1 (.ref w_IS_NULL) := ST.2.2.2.2.2.2.2.2.2.2.2.2.2.2.2.2.2.2.2.2.2.2.1
theorem own_St.k23 {Z : State} {w_EQUALS : Addr} {w_NOT : Addr} {w_GREATER_THAN : Addr} {w_GREATER_THAN_EQUAL : Addr} {w_LESS_THAN : Addr} {w_LESS_THAN_EQUAL : Addr} {w_AFTER : Addr} {w_BEFORE : Addr} {w_BETWEEN : Addr} {w_IN : Addr} {w_NOT_IN : Addr} {w_IS_NULL : Addr} {w_IS_NOT_NULL : Addr} {w_TRUE : Addr} {w_FALSE : Addr} {w_EXISTS : Addr} {w_STARTING_WITH : Addr} {w_ENDING_WITH : Addr} {w_CONTAINING : Addr} {w_NOT_CONTAINING : Addr} {w_LIKE : Addr} {w_NOT_LIKE : Addr} {w_REGEX : Addr} {w_NEAR : Addr} {w_WITHIN : Addr} {w_IGNORE_CASE : Addr} (ST : own_St Z w_EQUALS w_NOT w_GREATER_THAN w_GREATER_THAN_EQUAL w_LESS_THAN w_LESS_THAN_EQUAL w_AFTER w_BEFORE w_BETWEEN w_IN w_NOT_IN w_IS_NULL w_IS_NOT_NULL w_TRUE w_FALSE w_EXISTS w_STARTING_WITH w_ENDING_WITH w_CONTAINING w_NOT_CONTAINING w_LIKE w_NOT_LIKE w_REGEX w_NEAR w_WITHIN w_IGNORE_CASE) : Exa Z Z.heap w_IS_NULL cn_0 := ST.2.2.2.2.2.2.2.2.2.2.2.2.2.2.2.2.2.2.2.2.2.2.2.1
theorem own_St.k24 {Z : State} {w_EQUALS : Addr} {w_NOT : Addr} {w_GREATER_THAN : Addr} {w_GREATER_THAN_EQUAL : Addr} {w_LESS_THAN : Addr} {w_LESS_THAN_EQUAL : Addr} {w_AFTER : Addr} {w_BEFORE : Addr} {w_BETWEEN : Addr} {w_IN : Addr} {w_NOT_IN : Addr} {w_IS_NULL : Addr} {w_IS_NOT_NULL : Addr} {w_TRUE : Addr} {w_FALSE : Addr} {w_EXISTS : Addr} {w_STARTING_WITH : Addr} {w_ENDING_WITH : Addr} {w_CONTAINING : Addr} {w_NOT_CONTAINING : Addr} {w_LIKE : Addr} {w_NOT_LIKE : Addr} {w_REGEX : Addr} {w_NEAR : Addr} {w_WITHIN : Addr} {w_IGNORE_CASE : Addr} (ST : own_St Z w_EQUALS w_NOT w_GREATER_THAN w_GREATER_THAN_EQUAL w_LESS_THAN w_LESS_THAN_EQUAL w_AFTER w_BEFORE w_BETWEEN w_IN w_NOT_IN w_IS_NULL w_IS_NOT_NULL w_TRUE w_FALSE w_EXISTS w_STARTING_WITH w_ENDING_WITH w_CONTAINING w_NOT_CONTAINING w_LIKE w_NOT_LIKE w_REGEX w_NEAR w_WITHIN w_IGNORE_CASE) : Sta Z Z.heap cn_0 "IS_NOT_NULL" cn_1 (.ref w_IS_NOT_NULL) := ST.2.2.2.2.2.2.2.2.2.2.2.2.2.2.2.2.2.2.2.2.2.2.2.2.1
theorem own_St.k25 {Z : State} {w_EQUALS : Addr} {w_NOT : Addr} {w_GREATER_THAN : Addr} {w_GREATER_THAN_EQUAL : Addr} {w_LESS_THAN : Addr} {w_LESS_THAN_EQUAL : Addr} {w_AFTER : Addr} {w_BEFORE : Addr} {w_BETWEEN : Addr} {w_IN : Addr} {w_NOT_IN : Addr} {w_IS_NULL : Addr} {w_IS_NOT_NULL : Addr} {w_TRUE : Addr} {w_FALSE : Addr} {w_EXISTS : Addr} {w_STARTING_WITH : Addr} {w_ENDING_WITH : Addr} {w_CONTAINING : Addr} {w_NOT_CONTAINING : Addr} {w_LIKE : Addr} {w_NOT_LIKE : Addr} {w_REGEX : Addr} {w_NEAR : Addr} {w_WITHIN : Addr} {w_IGNORE_CASE : Addr} (ST : own_St Z w_EQUALS w_NOT w_GREATER_THAN w_GREATER_THAN_EQUAL w_LESS_THAN w_LESS_THAN_EQUAL w_AFTER w_BEFORE w_BETWEEN w_IN w_NOT_IN w_IS_NULL w_IS_NOT_NULL w_TRUE w_FALSE w_EXISTS w_STARTING_WITH w_ENDING_WITH w_CONTAINING w_NOT_CONTAINING w_LIKE w_NOT_LIKE w_REGEX w_NEAR w_WITHIN w_IGNORE_CASE) : Exa Z Z.heap w_IS_NOT_NULL cn_0 := ST.2.2.2.2.2.2.2.2.2.2.2.2.2.2.2.2.2.2.2.2.2.2.2.2.2.1
theorem own_St.k26 {Z : State} {w_EQUALS : Addr} {w_NOT : Addr} {w_GREATER_THAN : Addr} {w_GREATER_THAN_EQUAL : Addr} {w_LESS_THAN : Addr} {w_LESS_THAN_EQUAL : Addr} {w_AFTER : Addr} {w_BEFORE : Addr} {w_BETWEEN : Addr} {w_IN : Addr} {w_NOT_IN : Addr} {w_IS_NULL : Addr} {w_IS_NOT_NULL : Addr} {w_TRUE : Addr} {w_FALSE : Addr} {w_EXISTS : Addr} {w_STARTING_WITH : Addr} {w_ENDING_WITH : Addr} {w_CONTAINING : Addr} {w_NOT_CONTAINING : Addr} {w_LIKE : Addr} {w_NOT_LIKE : Addr} {w_REGEX : Addr} {w_NEAR : Addr} {w_WITHIN : Addr} {w_IGNORE_CASE : Addr} (ST : own_St Z w_EQUALS w_NOT w_GREATER_THAN w_GREATER_THAN_EQUAL w_LESS_THAN w_LESS_THAN_EQUAL w_AFTER w_BEFORE w_BETWEEN w_IN w_NOT_IN w_IS_NULL w_IS_NOT_NULL w_TRUE w_FALSE w_EXISTS w_STARTING_WITH w_ENDING_WITH w_CONTAINING w_NOT_CONTAINING w_LIKE w_NOT_LIKE w_REGEX w_NEAR w_WITHIN w_IGNORE_CASE) : Sta Z Z.heap cn_0 "TRUE" cn_1 (.ref w_TRUE) := ST.2.2.2.2.2.2.2.2.2.2.2.2.2.2.2.2.2.2.2.2.2.2.2.2.2.2.1
theorem own_St.k27 {Z : State} {w_EQUALS : Addr} {w_NOT : Addr} {w_GREATER_THAN : Addr} {w_GREATER_THAN_EQUAL : Addr} {w_LESS_THAN : Addr} {w_LESS_THAN_EQUAL : Addr} {w_AFTER : Addr} {w_BEFORE : Addr} {w_BETWEEN : Addr} {w_IN : Addr} {w_NOT_IN : Addr} {w_IS_NULL : Addr} {w_IS_NOT_NULL : Addr} {w_TRUE : Addr} {w_FALSE : Addr} {w_EXISTS : Addr} {w_STARTING_WITH : Addr} {w_ENDING_WITH : Addr} {w_CONTAINING : Addr} {w_NOT_CONTAINING : Addr} {w_LIKE : Addr} {w_NOT_LIKE : Addr} {w_REGEX : Addr} {w_NEAR : Addr} {w_WITHIN : Addr} {w_IGNORE_CASE : Addr} (ST : own_St Z w_EQUALS w_NOT w_GREATER_THAN w_GREATER_THAN_EQUAL w_LESS_THAN w_LESS_THAN_EQUAL w_AFTER w_BEFORE w_BETWEEN w_IN w_NOT_IN w_IS_NULL w_IS_NOT_NULL w_TRUE w_FALSE w_EXISTS w_STARTING_WITH w_ENDING_WITH w_CONTAINING w_NOT_CONTAINING w_LIKE w_NOT_LIKE w_REGEX w_NEAR w_WITHIN w_IGNORE_CASE) : Exa Z Z.heap w_TRUE cn_0 := ST.2.2.2.2.2.2.2.2.2.2.2.2.2.2.2.2.2.2.2.2.2.2.2.2.2.2.2.1
theorem own_St.k28 {Z : State} {w_EQUALS : Addr} {w_NOT : Addr} {w_GREATER_THAN : Addr} {w_GREATER_THAN_EQUAL : Addr} {w_LESS_THAN : Addr} {w_LESS_THAN_EQUAL : Addr} {w_AFTER : Addr} {w_BEFORE : Addr} {w_BETWEEN : Addr} {w_IN : Addr} {w_NOT_IN : Addr} {w_IS_NULL : Addr} {w_IS_NOT_NULL : Addr} {w_TRUE : Addr} {w_FALSE : Addr} {w_EXISTS : Addr} {w_STARTING_WITH : Addr} {w_ENDING_WITH : Addr} {w_CONTAINING : Addr} {w_NOT_CONTAINING : Addr} {w_LIKE : Addr} {w_NOT_LIKE : Addr} {w_REGEX : Addr} {w_NEAR : Addr} {w_WITHIN : Addr} {w_IGNORE_CASE : Addr} (ST : own_St Z w_EQUALS w_NOT w_GREATER_THAN w_GREATER_THAN_EQUAL w_LESS_THAN w_LESS_THAN_EQUAL w_AFTER w_BEFORE w_BETWEEN w_IN w_NOT_IN w_IS_NULL w_IS_NOT_NULL w_TRUE w_FALSE w_EXISTS w_STARTING_WITH w_ENDING_WITH w_CONTAINING w_NOT_CONTAINING w_LIKE w_NOT_LIKE w_REGEX w_NEAR w_WITHIN w_IGNORE_CASE) : Sta Z Z.heap cn_0 "FALSE" cn_1 (.ref w_FALSE) := ST.2.2.2.2.2.2.2.2.2.2.2.2.2.2.2.2.2.2.2.2.2.2.2.2.2.2.2.2.1
theorem own_St.k29 {Z : State} {w_EQUALS : Addr} {w_NOT : Addr} {w_GREATER_THAN : Addr} {w_GREATER_THAN_EQUAL : Addr} {w_LESS_THAN : Addr} {w_LESS_THAN_EQUAL : Addr} {w_AFTER : Addr} {w_BEFORE : Addr} {w_BETWEEN : Addr} {w_IN : Addr} {w_NOT_IN : Addr} {w_IS_NULL : Addr} {w_IS_NOT_NULL : Addr} {w_TRUE : Addr} {w_FALSE : Addr} {w_EXISTS : Addr} {w_STARTING_WITH : Addr} {w_ENDING_WITH : Addr} {w_CONTAINING : Addr} {w_NOT_CONTAINING : Addr} {w_LIKE : Addr} {w_NOT_LIKE : Addr} {w_REGEX : Addr} {w_NEAR : Addr} {w_WITHIN : Addr} {w_IGNORE_CASE : Addr} (ST : own_St Z w_EQUALS w_NOT w_GREATER_THAN w_GREATER_THAN_EQUAL w_LESS_THAN w_LESS_THAN_EQUAL w_AFTER w_BEFORE w_BETWEEN w_IN w_NOT_IN w_IS_NULL w_IS_NOT_NULL w_TRUE w_FALSE w_EXISTS w_STARTING_WITH w_ENDING_WITH w_CONTAINING w_NOT_CONTAINING w_LIKE w_NOT_LIKE w_REGEX w_NEAR w_WITHIN w_IGNORE_CASE) : Exa Z Z.heap w_FALSE cn_0 := ST.2.2.2.2.2.2.2.2.2.2.2.2.2.2.2.2.2.2.2.2.2.2.2.2.2.2.2.2.2.1
theorem own_St.k30 {Z : State} {w_EQUALS : Addr} {w_NOT : Addr} {w_GREATER_THAN : Addr} {w_GREATER_THAN_EQUAL : Addr} {w_LESS_THAN : Addr} {w_LESS_THAN_EQUAL : Addr} {w_AFTER : Addr} {w_BEFORE : Addr} {w_BETWEEN : Addr} {w_IN : Addr} {w_NOT_IN : Addr} {w_IS_NULL : Addr} {w_IS_NOT_NULL : Addr} {w_TRUE : Addr} {w_FALSE : Addr} {w_EXISTS : Addr} {w_STARTING_WITH : Addr} {w_ENDING_WITH : Addr} {w_CONTAINING : Addr} {w_NOT_CONTAINING : Addr} {w_LIKE : Addr} {w_NOT_LIKE : Addr} {w_REGEX : Addr} {w_NEAR : Addr} {w_WITHIN : Addr} {w_IGNORE_CASE : Addr} (ST : own_St Z w_EQUALS w_NOT w_GREATER_THAN w_GREATER_THAN_EQUAL w_LESS_THAN w_LESS_THAN_EQUAL w_AFTER w_BEFORE w_BETWEEN w_IN w_NOT_IN w_IS_NULL w_IS_NOT_NULL w_TRUE w_FALSE w_EXISTS w_STARTING_WITH w_ENDING_WITH w_CONTAINING w_NOT_CONTAINING w_LIKE w_NOT_LIKE w_REGEX w_NEAR w_WITHIN w_IGNORE_CASE) : Sta Z Z.heap cn_0 "EXISTS" cn_1 (.ref w_EXISTS) := ST.2.2.2.2.2.2.2.2.2.2.2.2.2.2.2.2.2.2.2.2.2.2.2.2.2.2.2.2.2.2.1
theorem own_St.k31 {Z : State} {w_EQUALS : Addr} {w_NOT : Addr} {w_GREATER_THAN : Addr} {w_GREATER_THAN_EQUAL : Addr} {w_LESS_THAN : Addr} {w_LESS_THAN_EQUAL : Addr} {w_AFTER : Addr} {w_BEFORE : Addr} {w_BETWEEN : Addr} {w_IN : Addr} {w_NOT_IN : Addr} {w_IS_NULL : Addr} {w_IS_NOT_NULL : Addr} {w_TRUE : Addr} {w_FALSE : Addr} {w_EXISTS : Addr} {w_STARTING_WITH : Addr} {w_ENDING_WITH : Addr} {w_CONTAINING : Addr} {w_NOT_CONTAINING : Addr} {w_LIKE : Addr} {w_NOT_LIKE : Addr} {w_REGEX : Addr} {w_NEAR : Addr} {w_WITHIN : Addr} {w_IGNORE_CASE : Addr} (ST : own_St Z w_EQUALS w_NOT w_GREATER_THAN w_GREATER_THAN_EQUAL w_LESS_THAN w_LESS_THAN_EQUAL w_AFTER w_BEFORE w_BETWEEN w_IN w_NOT_IN w_IS_NULL w_IS_NOT_NULL w_TRUE w_FALSE w_EXISTS w_STARTING_WITH w_ENDING_WITH w_CONTAINING w_NOT_CONTAINING w_LIKE w_NOT_LIKE w_REGEX w_NEAR w_WITHIN w_IGNORE_CASE) : Exa Z Z.heap w_EXISTS cn_0 := ST.2.2.2.2.2.2.2.2.2.2.2.2.2.2.2.2.2.2.2.2.2.2.2.2.2.2.2.2.2.2.2.1
theorem own_St.k32 {Z : State} {w_EQUALS : Addr} {w_NOT : Addr} {w_GREATER_THAN : Addr} {w_GREATER_THAN_EQUAL : Addr} {w_LESS_THAN : Addr} {w_LESS_THAN_EQUAL : Addr} {w_AFTER : Addr} {w_BEFORE : Addr} {w_BETWEEN : Addr} {w_IN : Addr} {w_NOT_IN : Addr} {w_IS_NULL : Addr} {w_IS_NOT_NULL : Addr} {w_TRUE : Addr} {w_FALSE : Addr} {w_EXISTS : Addr} {w_STARTING_WITH : Addr} {w_ENDING_WITH : Addr} {w_CONTAINING : Addr} {w_NOT_CONTAINING : Addr} {w_LIKE : Addr} {w_NOT_LIKE : Addr} {w_REGEX : Addr} {w_NEAR : Addr} {w_WITHIN : Addr} {w_IGNORE_CASE : Addr} (ST : own_St Z w_EQUALS w_NOT w_GREATER_THAN w_GREATER_THAN_EQUAL w_LESS_THAN w_LESS_THAN_EQUAL w_AFTER w_BEFORE w_BETWEEN w_IN w_NOT_IN w_IS_NULL w_IS_NOT_NULL w_TRUE w_FALSE w_EXISTS w_STARTING_WITH w_ENDING_WITH w_CONTAINING w_NOT_CONTAINING w_LIKE w_NOT_LIKE w_REGEX w_NEAR w_WITHIN w_IGNORE_CASE) : Sta Z Z.heap cn_0 "STARTING_WITH" cn_1 (.ref w_STARTING_WITH) := ST.2.2.2.2.2.2.2.2.2.2.2.2.2.2.2.2.2.2.2.2.2.2.2.2.2.2.2.2.2.2.2.2.1
theorem own_St.k33 {Z : State} {w_EQUALS : Addr} {w_NOT : Addr} {w_GREATER_THAN : Addr} {w_GREATER_THAN_EQUAL : Addr} {w_LESS_THAN : Addr} {w_LESS_THAN_EQUAL : Addr} {w_AFTER : Addr} {w_BEFORE : Addr} {w_BETWEEN : Addr} {w_IN : Addr} {w_NOT_IN : Addr} {w_IS_NULL : Addr} {w_IS_NOT_NULL : Addr} {w_TRUE : Addr} {w_FALSE : Addr} {w_EXISTS : Addr} {w_STARTING_WITH : Addr} {w_ENDING_WITH : Addr} {w_CONTAINING : Addr} {w_NOT_CONTAINING : Addr} {w_LIKE : Addr} {w_NOT_LIKE : Addr} {w_REGEX : Addr} {w_NEAR : Addr} {w_WITHIN : Addr} {w_IGNORE_CASE : Addr} (ST : own_St Z w_EQUALS w_NOT w_GREATER_THAN w_GREATER_THAN_EQUAL w_LESS_THAN w_LESS_THAN_EQUAL w_AFTER w_BEFORE w_BETWEEN w_IN w_NOT_IN w_IS_NULL w_IS_NOT_NULL w_TRUE w_FALSE w_EXISTS w_STARTING_WITH w_ENDING_WITH w_CONTAINING w_NOT_CONTAINING w_LIKE w_NOT_LIKE w_REGEX w_NEAR w_WITHIN w_IGNORE_CASE) : Exa Z Z.heap w_STARTING_WITH cn_0 := ST.2.2.2.2.2.2.2.2.2.2.2.2.2.2.2.2.2.2.2.2.2.2.2.2.2.2.2.2.2.2.2.2.2.1
theorem own_St.k34 {Z : State} {w_EQUALS : Addr} {w_NOT : Addr} {w_GREATER_THAN : Addr} {w_GREATER_THAN_EQUAL : Addr} {w_LESS_THAN : Addr} {w_LESS_THAN_EQUAL : Addr} {w_AFTER : Addr} {w_BEFORE : Addr} {w_BETWEEN : Addr} {w_IN : Addr} {w_NOT_IN : Addr} {w_IS_NULL : Addr} {w_IS_NOT_NULL : Addr} {w_TRUE : Addr} {w_FALSE : Addr} {w_EXISTS : Addr} {w_STARTING_WITH : Addr} {w_ENDING_WITH : Addr} {w_CONTAINING : Addr} {w_NOT_CONTAINING : Addr} {w_LIKE : Addr} {w_NOT_LIKE : Addr} {w_REGEX : Addr} {w_NEAR : Addr} {w_WITHIN : Addr} {w_IGNORE_CASE : Addr} (ST : own_St Z w_EQUALS w_NOT w_GREATER_THAN w_GREATER_THAN_EQUAL w_LESS_THAN w_LESS_THAN_EQUAL w_AFTER w_BEFORE w_BETWEEN w_IN w_NOT_IN w_IS_NULL w_IS_NOT_NULL w_TRUE w_FALSE w_EXISTS w_STARTING_WITH w_ENDING_WITH w_CONTAINING w_NOT_CONTAINING w_LIKE w_NOT_LIKE w_REGEX w_NEAR w_WITHIN w_IGNORE_CASE) : Sta Z Z.heap cn_0 "ENDING_WITH" cn_1 (.ref w_ENDING_WITH) := ST.2.2.2.2.2.2.2.2.2.2.2.2.2.2.2.2.2.2.2.2.2.2.2.2.2.2.2.2.2.2.2.2.2.2.1
theorem own_St.k35 {Z : State} {w_EQUALS : Addr} {w_NOT : Addr} {w_GREATER_THAN : Addr} {w_GREATER_THAN_EQUAL : Addr} {w_LESS_THAN : Addr} {w_LESS_THAN_EQUAL : Addr} {w_AFTER : Addr} {w_BEFORE : Addr} {w_BETWEEN : Addr} {w_IN : Addr} {w_NOT_IN : Addr} {w_IS_NULL : Addr} {w_IS_NOT_NULL : Addr} {w_TRUE : Addr} {w_FALSE : Addr} {w_EXISTS : Addr} {w_STARTING_WITH : Addr} {w_ENDING_WITH : Addr} {w_CONTAINING : Addr} {w_NOT_CONTAINING : Addr} {w_LIKE : Addr} {w_NOT_LIKE : Addr} {w_REGEX : Addr} {w_NEAR : Addr} {w_WITHIN : Addr} {w_IGNORE_CASE : Addr} (ST : own_St Z w_EQUALS w_NOT w_GREATER_THAN w_GREATER_THAN_EQUAL w_LESS_THAN w_LESS_THAN_EQUAL w_AFTER w_BEFORE w_BETWEEN w_IN w_NOT_IN w_IS_NULL w_IS_NOT_NULL w_TRUE w_FALSE w_EXISTS w_STARTING_WITH w_ENDING_WITH w_CONTAINING w_NOT_CONTAINING w_LIKE w_NOT_LIKE w_REGEX w_NEAR w_WITHIN w_IGNORE_CASE) : Exa Z Z.heap w_ENDING_WITH cn_0 := ST.2.2.2.2.2.2.2.2.2.2.2.2.2.2.2.2.2.2.2.2.2.2.2.2.2.2.2.2.2.2.2.2.2.2.2.1
theorem own_St.k36 {Z : State} {w_EQUALS : Addr} {w_NOT : Addr} {w_GREATER_THAN : Addr} {w_GREATER_THAN_EQUAL : Addr} {w_LESS_THAN : Addr} {w_LESS_THAN_EQUAL : Addr} {w_AFTER : Addr} {w_BEFORE : Addr} {w_BETWEEN : Addr} {w_IN : Addr} {w_NOT_IN : Addr} {w_IS_NULL : Addr} {w_IS_NOT_NULL : Addr} {w_TRUE : Addr} {w_FALSE : Addr} {w_EXISTS : Addr} {w_STARTING_WITH : Addr} {w_ENDING_WITH : Addr} {w_CONTAINING : Addr} {w_NOT_CONTAINING : Addr} {w_LIKE : Addr} {w_NOT_LIKE : Addr} {w_REGEX : Addr} {w_NEAR : Addr} {w_WITHIN : Addr} {w_IGNORE_CASE : Addr} (ST : own_St Z w_EQUALS w_NOT w_GREATER_THAN w_GREATER_THAN_EQUAL w_LESS_THAN w_LESS_THAN_EQUAL w_AFTER w_BEFORE w_BETWEEN w_IN w_NOT_IN w_IS_NULL w_IS_NOT_NULL w_TRUE w_FALSE w_EXISTS w_STARTING_WITH w_ENDING_WITH w_CONTAINING w_NOT_CONTAINING w_LIKE w_NOT_LIKE w_REGEX w_NEAR w_WITHIN w_IGNORE_CASE) : Sta Z Z.heap cn_0 "CONTAINING" cn_1 (.ref w_CONTAINING) := ST.2.2.2.2.2.2.2.2.2.2.2.2.2.2.2.2.2.2.2.2.2.2.2.2.2.2.2.2.2.2.2.2.2.2.2.2.1
theorem own_St.k37 {Z : State} {w_EQUALS : Addr} {w_NOT : Addr} {w_GREATER_THAN : Addr} {w_GREATER_THAN_EQUAL : Addr} {w_LESS_THAN : Addr} {w_LESS_THAN_EQUAL : Addr} {w_AFTER : Addr} {w_BEFORE : Addr} {w_BETWEEN : Addr} {w_IN : Addr} {w_NOT_IN : Addr} {w_IS_NULL : Addr} {w_IS_NOT_NULL : Addr} {w_TRUE : Addr} {w_FALSE : Addr} {w_EXISTS : Addr} {w_STARTING_WITH : Addr} {w_ENDING_WITH : Addr} {w_CONTAINING : Addr} {w_NOT_CONTAINING : Addr} {w_LIKE : Addr} {w_NOT_LIKE : Addr} {w_REGEX : Addr} {w_NEAR : Addr} {w_WITHIN : Addr} {w_IGNORE_CASE : Addr} (ST : own_St Z w_EQUALS w_NOT w_GREATER_THAN w_GREATER_THAN_EQUAL w_LESS_THAN w_LESS_THAN_EQUAL w_AFTER w_BEFORE w_BETWEEN w_IN w_NOT_IN w_IS_NULL w_IS_NOT_NULL w_TRUE w_FALSE w_EXISTS w_STARTING_WITH w_ENDING_WITH w_CONTAINING w_NOT_CONTAINING w_LIKE w_NOT_LIKE w_REGEX w_NEAR w_WITHIN w_IGNORE_CASE) : Exa Z Z.heap w_CONTAINING cn_0 := ST.2.2.2.2.2.2.2.2.2.2.2.2.2.2.2.2.2.2.2.2.2.2.2.2.2.2.2.2.2.2.2.2.2.2.2.2.2.1
theorem own_St.k38 {Z : State} {w_EQUALS : Addr} {w_NOT : Addr} {w_GREATER_THAN : Addr} {w_GREATER_THAN_EQUAL : Addr} {w_LESS_THAN : Addr} {w_LESS_THAN_EQUAL : Addr} {w_AFTER : Addr} {w_BEFORE : Addr} {w_BETWEEN : Addr} {w_IN : Addr} {w_NOT_IN : Addr} {w_IS_NULL : Addr} {w_IS_NOT_NULL : Addr} {w_TRUE : Addr} {w_FALSE : Addr} {w_EXISTS : Addr} {w_STARTING_WITH : Addr} {w_ENDING_WITH : Addr} {w_CONTAINING : Addr} {w_NOT_CONTAINING : Addr} {w_LIKE : Addr} {w_NOT_LIKE : Addr} {w_REGEX : Addr} {w_NEAR : Addr} {w_WITHIN : Addr} {w_IGNORE_CASE : Addr} (ST : own_St Z w_EQUALS w_NOT w_GREATER_THAN w_GREATER_THAN_EQUAL w_LESS_THAN w_LESS_THAN_EQUAL w_AFTER w_BEFORE w_BETWEEN w_IN w_NOT_IN w_IS_NULL w_IS_NOT_NULL w_TRUE w_FALSE w_EXISTS w_STARTING_WITH w_ENDING_WITH w_CONTAINING w_NOT_CONTAINING w_LIKE w_NOT_LIKE w_REGEX w_NEAR w_WITHIN w_IGNORE_CASE) : Sta Z Z.heap cn_0 "NOT_CONTAINING" cn_1 (.ref w_NOT_CONTAINING) := ST.2.2.2.2.2.2.2.2.2.2.2.2.2.2.2.2.2.2.2.2.2.2.2.2.2.2.2.2.2.2.2.2.2.2.2.2.2.2.1
theorem own_St.k39 {Z : State} {w_EQUALS : Addr} {w_NOT : Addr} {w_GREATER_THAN : Addr} {w_GREATER_THAN_EQUAL : Addr} {w_LESS_THAN : Addr} {w_LESS_THAN_EQUAL : Addr} {w_AFTER : Addr} {w_BEFORE : Addr} {w_BETWEEN : Addr} {w_IN : Addr} {w_NOT_IN : Addr} {w_IS_NULL : Addr} {w_IS_NOT_NULL : Addr} {w_TRUE : Addr} {w_FALSE : Addr} {w_EXISTS : Addr} {w_STARTING_WITH : Addr} {w_ENDING_WITH : Addr} {w_CONTAINING : Addr} {w_NOT_CONTAINING : Addr} {w_LIKE : Addr} {w_NOT_LIKE : Addr} {w_REGEX : Addr} {w_NEAR : Addr} {w_WITHIN : Addr} {w_IGNORE_CASE : Addr} (ST : own_St Z w_EQUALS w_NOT w_GREATER_THAN w_GREATER_THAN_EQUAL w_LESS_THAN w_LESS_THAN_EQUAL w_AFTER w_BEFORE w_BETWEEN w_IN w_NOT_IN w_IS_NULL w_IS_NOT_NULL w_TRUE w_FALSE w_EXISTS w_STARTING_WITH w_ENDING_WITH w_CONTAINING w_NOT_CONTAINING w_LIKE w_NOT_LIKE w_REGEX w_NEAR w_WITHIN w_IGNORE_CASE) : Exa Z Z.heap w_NOT_CONTAINING cn_0 := ST.2.2.2.2.2.2.2.2.2.2.2.2.2.2.2.2.2.2.2.2.2.2.2.2.2.2.2.2.2.2.2.2.2.2.2.2.2.2.2.1
theorem own_St.k40 {Z : State} {w_EQUALS : Addr} {w_NOT : Addr} {w_GREATER_THAN : Addr} {w_GREATER_THAN_EQUAL : Addr} {w_LESS_THAN : Addr} {w_LESS_THAN_EQUAL : Addr} {w_AFTER : Addr} {w_BEFORE : Addr} {w_BETWEEN : Addr} {w_IN : Addr} {w_NOT_IN : Addr} {w_IS_NULL : Addr} {w_IS_NOT_NULL : Addr} {w_TRUE : Addr} {w_FALSE : Addr} {w_EXISTS : Addr} {w_STARTING_WITH : Addr} {w_ENDING_WITH : Addr} {w_CONTAINING : Addr} {w_NOT_CONTAINING : Addr} {w_LIKE : Addr} {w_NOT_LIKE : Addr} {w_REGEX : Addr} {w_NEAR : Addr} {w_WITHIN : Addr} {w_IGNORE_CASE : Addr} (ST : own_St Z w_EQUALS w_NOT w_GREATER_THAN w_GREATER_THAN_EQUAL w_LESS_THAN w_LESS_THAN_EQUAL w_AFTER w_BEFORE w_BETWEEN w_IN w_NOT_IN w_IS_NULL w_IS_NOT_NULL w_TRUE w_FALSE w_EXISTS w_STARTING_WITH w_ENDING_WITH w_CONTAINING w_NOT_CONTAINING w_LIKE w_NOT_LIKE w_REGEX w_NEAR w_WITHIN w_IGNORE_CASE) : Sta Z Z.heap cn_0 "LIKE" cn_1 (.ref w_LIKE) := ST.2.2.2.2.2.2.2.2.2.2.2.2.2.2.2.2.2.2.2.2.2.2.2.2.2.2.2.2.2.2.2.2.2.2.2.2.2.2.2.2.1
theorem own_St.k41 {Z : State} {w_EQUALS : Addr} {w_NOT : Addr} {w_GREATER_THAN : Addr} {w_GREATER_THAN_EQUAL : Addr} {w_LESS_THAN : Addr} {w_LESS_THAN_EQUAL : Addr} {w_AFTER : Addr} {w_BEFORE : Addr} {w_BETWEEN : Addr} {w_IN : Addr} {w_NOT_IN : Addr} {w_IS_NULL : Addr} {w_IS_NOT_NULL : Addr} {w_TRUE : Addr} {w_FALSE : Addr} {w_EXISTS : Addr} {w_STARTING_WITH : Addr} {w_ENDING_WITH : Addr} {w_CONTAINING : Addr} {w_NOT_CONTAINING : Addr} {w_LIKE : Addr} {w_NOT_LIKE : Addr} {w_REGEX : Addr} {w_NEAR : Addr} {w_WITHIN : Addr} {w_IGNORE_CASE : Addr} (ST : own_St Z w_EQUALS w_NOT w_GREATER_THAN w_GREATER_THAN_EQUAL w_LESS_THAN w_LESS_THAN_EQUAL w_AFTER w_BEFORE w_BETWEEN w_IN w_NOT_IN w_IS_NULL w_IS_NOT_NULL w_TRUE w_FALSE w_EXISTS w_STARTING_WITH w_ENDING_WITH w_CONTAINING w_NOT_CONTAINING w_LIKE w_NOT_LIKE w_REGEX w_NEAR w_WITHIN w_IGNORE_CASE) : Exa Z Z.heap w_LIKE cn_0 := ST.2.2.2.2.2.2.2.2.2.2.2.2.2.2.2.2.2.2.2.2.2.2.2.2.2.2.2.2.2.2.2.2.2.2.2.2.2.2.2.2.2.1
theorem own_St.k42 {Z : State} {w_EQUALS : Addr} {w_NOT : Addr} {w_GREATER_THAN : Addr} {w_GREATER_THAN_EQUAL : Addr} {w_LESS_THAN : Addr} {w_LESS_THAN_EQUAL : Addr} {w_AFTER : Addr} {w_BEFORE : Addr} {w_BETWEEN : Addr} {w_IN : Addr} {w_NOT_IN : Addr} {w_IS_NULL : Addr} {w_IS_NOT_NULL : Addr} {w_TRUE : Addr} {w_FALSE : Addr} {w_EXISTS : Addr} {w_STARTING_WITH : Addr} {w_ENDING_WITH : Addr} {w_CONTAINING : Addr} {w_NOT_CONTAINING : Addr} {w_LIKE : Addr} {w_NOT_LIKE : Addr} {w_REGEX : Addr} {w_NEAR : Addr} {w_WITHIN : Addr} {w_IGNORE_CASE : Addr} (ST : own_St Z w_EQUALS w_NOT w_GREATER_THAN w_GREATER_THAN_EQUAL w_LESS_THAN w_LESS_THAN_EQUAL w_AFTER w_BEFORE w_BETWEEN w_IN w_NOT_IN w_IS_NULL w_IS_NOT_NULL w_TRUE w_FALSE w_EXISTS w_STARTING_WITH w_ENDING_WITH w_CONTAINING w_NOT_CONTAINING w_LIKE w_NOT_LIKE w_REGEX w_NEAR w_WITHIN w_IGNORE_CASE) : Sta Z Z.heap cn_0 "NOT_LIKE" cn_1 (.ref w_NOT_LIKE) := ST.2.2.2.2.2.2.2.2.2.2.2.2.2.2.2.2.2.2.2.2.2.2.2.2.2.2.2.2.2.2.2.2.2.2.2.2.2.2.2.2.2.2.1
theorem own_St.k43 {Z : State} {w_EQUALS : Addr} {w_NOT : Addr} {w_GREATER_THAN : Addr} {w_GREATER_THAN_EQUAL : Addr} {w_LESS_THAN : Addr} {w_LESS_THAN_EQUAL : Addr} {w_AFTER : Addr} {w_BEFORE : Addr} {w_BETWEEN : Addr} {w_IN : Addr} {w_NOT_IN : Addr} {w_IS_NULL : Addr} {w_IS_NOT_NULL : Addr} {w_TRUE : Addr} {w_FALSE : Addr} {w_EXISTS : Addr} {w_STARTING_WITH : Addr} {w_ENDING_WITH : Addr} {w_CONTAINING : Addr} {w_NOT_CONTAINING : Addr} {w_LIKE : Addr} {w_NOT_LIKE : Addr} {w_REGEX : Addr} {w_NEAR : Addr} {w_WITHIN : Addr} {w_IGNORE_CASE : Addr} (ST : own_St Z w_EQUALS w_NOT w_GREATER_THAN w_GREATER_THAN_EQUAL w_LESS_THAN w_LESS_THAN_EQUAL w_AFTER w_BEFORE w_BETWEEN w_IN w_NOT_IN w_IS_NULL w_IS_NOT_NULL w_TRUE w_FALSE w_EXISTS w_STARTING_WITH w_ENDING_WITH w_CONTAINING w_NOT_CONTAINING w_LIKE w_NOT_LIKE w_REGEX w_NEAR w_WITHIN w_IGNORE_CASE) : Exa Z Z.heap w_NOT_LIKE cn_0 := ST.2.2.2.2.2.2.2.2.2.2.2.2.2.2.2.2.2.2.2.2.2.2.2.2.2.2.2.2.2.2.2.2.2.2.2.2.2.2.2.2.2.2.2.1
theorem own_St.k44 {Z : State} {w_EQUALS : Addr} {w_NOT : Addr} {w_GREATER_THAN : Addr} {w_GREATER_THAN_EQUAL : Addr} {w_LESS_THAN : Addr} {w_LESS_THAN_EQUAL : Addr} {w_AFTER : Addr} {w_BEFORE : Addr} {w_BETWEEN : Addr} {w_IN : Addr} {w_NOT_IN : Addr} {w_IS_NULL : Addr} {w_IS_NOT_NULL : Addr} {w_TRUE : Addr} {w_FALSE : Addr} {w_EXISTS : Addr} {w_STARTING_WITH : Addr} {w_ENDING_WITH : Addr} {w_CONTAINING : Addr} {w_NOT_CONTAINING : Addr} {w_LIKE : Addr} {w_NOT_LIKE : Addr} {w_REGEX : Addr} {w_NEAR : Addr} {w_WITHIN : Addr} {w_IGNORE_CASE : Addr} (ST : own_St Z w_EQUALS w_NOT w_GREATER_THAN w_GREATER_THAN_EQUAL w_LESS_THAN w_LESS_THAN_EQUAL w_AFTER w_BEFORE w_BETWEEN w_IN w_NOT_IN w_IS_NULL w_IS_NOT_NULL w_TRUE w_FALSE w_EXISTS w_STARTING_WITH w_ENDING_WITH w_CONTAINING w_NOT_CONTAINING w_LIKE w_NOT_LIKE w_REGEX w_NEAR w_WITHIN w_IGNORE_CASE) : Sta Z Z.heap cn_0 "REGEX" cn_1 (.ref w_REGEX) := ST.2.2.2.2.2.2.2.2.2.2.2.2.2.2.2.2.2.2.2.2.2.2.2.2.2.2.2.2.2.2.2.2.2.2.2.2.2.2.2.2.2.2.2.2.1
theorem own_St.k45 {Z : State} {w_EQUALS : Addr} {w_NOT : Addr} {w_GREATER_THAN : Addr} {w_GREATER_THAN_EQUAL : Addr} {w_LESS_THAN : Addr} {w_LESS_THAN_EQUAL : Addr} {w_AFTER : Addr} {w_BEFORE : Addr} {w_BETWEEN : Addr} {w_IN : Addr} {w_NOT_IN : Addr} {w_IS_NULL : Addr} {w_IS_NOT_NULL : Addr} {w_TRUE : Addr} {w_FALSE : Addr} {w_EXISTS : Addr} {w_STARTING_WITH : Addr} {w_ENDING_WITH : Addr} {w_CONTAINING : Addr} {w_NOT_CONTAINING : Addr} {w_LIKE : Addr} {w_NOT_LIKE : Addr} {w_REGEX : Addr} {w_NEAR : Addr} {w_WITHIN : Addr} {w_IGNORE_CASE : Addr} (ST : own_St Z w_EQUALS w_NOT w_GREATER_THAN w_GREATER_THAN_EQUAL w_LESS_THAN w_LESS_THAN_EQUAL w_AFTER w_BEFORE w_BETWEEN w_IN w_NOT_IN w_IS_NULL w_IS_NOT_NULL w_TRUE w_FALSE w_EXISTS w_STARTING_WITH w_ENDING_WITH w_CONTAINING w_NOT_CONTAINING w_LIKE w_NOT_LIKE w_REGEX w_NEAR w_WITHIN w_IGNORE_CASE) : Exa Z Z.heap w_REGEX cn_0 := ST.2.2.2.2.2.2.2.2.2.2.2.2.2.2.2.2.2.2.2.2.2.2.2.2.2.2.2.2.2.2.2.2.2.2.2.2.2.2.2.2.2.2.2.2.2.1
theorem own_St.k46 {Z : State} {w_EQUALS : Addr} {w_NOT : Addr} {w_GREATER_THAN : Addr} {w_GREATER_THAN_EQUAL : Addr} {w_LESS_THAN : Addr} {w_LESS_THAN_EQUAL : Addr} {w_AFTER : Addr} {w_BEFORE : Addr} {w_BETWEEN : Addr} {w_IN : Addr} {w_NOT_IN : Addr} {w_IS_NULL : Addr} {w_IS_NOT_NULL : Addr} {w_TRUE : Addr} {w_FALSE : Addr} {w_EXISTS : Addr} {w_STARTING_WITH : Addr} {w_ENDING_WITH : Addr} {w_CONTAINING : Addr} {w_NOT_CONTAINING : Addr} {w_LIKE : Addr} {w_NOT_LIKE : Addr} {w_REGEX : Addr} {w_NEAR : Addr} {w_WITHIN : Addr} {w_IGNORE_CASE : Addr} (ST : own_St Z w_EQUALS w_NOT w_GREATER_THAN w_GREATER_THAN_EQUAL w_LESS_THAN w_LESS_THAN_EQUAL w_AFTER w_BEFORE w_BETWEEN w_IN w_NOT_IN w_IS_NULL w_IS_NOT_NULL w_TRUE w_FALSE w_EXISTS w_STARTING_WITH w_ENDING_WITH w_CONTAINING w_NOT_CONTAINING w_LIKE w_NOT_LIKE w_REGEX w_NEAR w_WITHIN w_IGNORE_CASE) : Sta Z Z.heap cn_0 "NEAR" cn_1 (.ref w_NEAR) := ST.2.2.2.2.2.2.2.2.2.2.2.2.2.2.2.2.2.2.2.2.2.2.2.2.2.2.2.2.2.2.2.2.2.2.2.2.2.2.2.2.2.2.2.2.2.2.1
theorem own_St.k47 {Z : State} {w_EQUALS : Addr} {w_NOT : Addr} {w_GREATER_THAN : Addr} {w_GREATER_THAN_EQUAL : Addr} {w_LESS_THAN : Addr} {w_LESS_THAN_EQUAL : Addr} {w_AFTER : Addr} {w_BEFORE : Addr} {w_BETWEEN : Addr} {w_IN : Addr} {w_NOT_IN : Addr} {w_IS_NULL : Addr} {w_IS_NOT_NULL : Addr} {w_TRUE : Addr} {w_FALSE : Addr} {w_EXISTS : Addr} {w_STARTING_WITH : Addr} {w_ENDING_WITH : Addr} {w_CONTAINING : Addr} {w_NOT_CONTAINING : Addr} {w_LIKE : Addr} {w_NOT_LIKE : Addr} {w_REGEX : Addr} {w_NEAR : Addr} {w_WITHIN : Addr} {w_IGNORE_CASE : Addr} (ST : own_St Z w_EQUALS w_NOT w_GREATER_THAN w_GREATER_THAN_EQUAL w_LESS_THAN w_LESS_THAN_EQUAL w_AFTER w_BEFORE w_BETWEEN w_IN w_NOT_IN w_IS_NULL w_IS_NOT_NULL w_TRUE w_FALSE w_EXISTS w_STARTING_WITH w_ENDING_WITH w_CONTAINING w_NOT_CONTAINING w_LIKE w_NOT_LIKE w_REGEX w_NEAR w_WITHIN w_IGNORE_CASE) : Exa Z Z.heap w_NEAR cn_0 := ST.2.2.2.2.2.2.2.2.2.2.2.2.2.2.2.2.2.2.2.2.2.2.2.2.2.2.2.2.2.2.2.2.2.2.2.2.2.2.2.2.2.2.2.2.2.2.2.1
theorem own_St.k48 {Z : State} {w_EQUALS : Addr} {w_NOT : Addr} {w_GREATER_THAN : Addr} {w_GREATER_THAN_EQUAL : Addr} {w_LESS_THAN : Addr} {w_LESS_THAN_EQUAL : Addr} {w_AFTER : Addr} {w_BEFORE : Addr} {w_BETWEEN : Addr} {w_IN : Addr} {w_NOT_IN : Addr} {w_IS_NULL : Addr} {w_IS_NOT_NULL : Addr} {w_TRUE : Addr} {w_FALSE : Addr} {w_EXISTS : Addr} {w_STARTING_WITH : Addr} {w_ENDING_WITH : Addr} {w_CONTAINING : Addr} {w_NOT_CONTAINING : Addr} {w_LIKE : Addr} {w_NOT_LIKE : Addr} {w_REGEX : Addr} {w_NEAR : Addr} {w_WITHIN : Addr} {w_IGNORE_CASE : Addr} (ST : own_St Z w_EQUALS w_NOT w_GREATER_THAN w_GREATER_THAN_EQUAL w_LESS_THAN w_LESS_THAN_EQUAL w_AFTER w_BEFORE w_BETWEEN w_IN w_NOT_IN w_IS_NULL w_IS_NOT_NULL w_TRUE w_FALSE w_EXISTS w_STARTING_WITH w_ENDING_WITH w_CONTAINING w_NOT_CONTAINING w_LIKE w_NOT_LIKE w_REGEX w_NEAR w_WITHIN w_IGNORE_CASE) : Sta Z Z.heap cn_0 "WITHIN" cn_1 (.ref w_WITHIN) := ST.2.2.2.2.2.2.2.2.2.2.2.2.2.2.2.2.2.2.2.2.2.2.2.2.2.2.2.2.2.2.2.2.2.2.2.2.2.2.2.2.2.2.2.2.2.2.2.2.1
theorem own_St.k49 {Z : State} {w_EQUALS : Addr} {w_NOT : Addr} {w_GREATER_THAN : Addr} {w_GREATER_THAN_EQUAL : Addr} {w_LESS_THAN : Addr} {w_LESS_THAN_EQUAL : Addr} {w_AFTER : Addr} {w_BEFORE : Addr} {w_BETWEEN : Addr} {w_IN : Addr} {w_NOT_IN : Addr} {w_IS_NULL : Addr} {w_IS_NOT_NULL : Addr} {w_TRUE : Addr} {w_FALSE : Addr} {w_EXISTS : Addr} {w_STARTING_WITH : Addr} {w_ENDING_WITH : Addr} {w_CONTAINING : Addr} {w_NOT_CONTAINING : Addr} {w_LIKE : Addr} {w_NOT_LIKE : Addr} {w_REGEX : Addr} {w_NEAR : Addr} {w_WITHIN : Addr} {w_IGNORE_CASE : Addr} (ST : own_St Z w_EQUALS w_NOT w_GREATER_THAN w_GREATER_THAN_EQUAL w_LESS_THAN w_LESS_THAN_EQUAL w_AFTER w_BEFORE w_BETWEEN w_IN w_NOT_IN w_IS_NULL w_IS_NOT_NULL w_TRUE w_FALSE w_EXISTS w_STARTING_WITH w_ENDING_WITH w_CONTAINING w_NOT_CONTAINING w_LIKE w_NOT_LIKE w_REGEX w_NEAR w_WITHIN w_IGNORE_CASE) : Exa Z Z.heap w_WITHIN cn_0 := ST.2.2.2.2.2.2.2.2.2.2.2.2.2.2.2.2.2.2.2.2.2.2.2.2.2.2.2.2.2.2.2.2.2.2.2.2.2.2.2.2.2.2.2.2.2.2.2.2.2.1
theorem own_St.k50 {Z : State} {w_EQUALS : Addr} {w_NOT : Addr} {w_GREATER_THAN : Addr} {w_GREATER_THAN_EQUAL : Addr} {w_LESS_THAN : Addr} {w_LESS_THAN_EQUAL : Addr} {w_AFTER : Addr} {w_BEFORE : Addr} {w_BETWEEN : Addr} {w_IN : Addr} {w_NOT_IN : Addr} {w_IS_NULL : Addr} {w_IS_NOT_NULL : Addr} {w_TRUE : Addr} {w_FALSE : Addr} {w_EXISTS : Addr} {w_STARTING_WITH : Addr} {w_ENDING_WITH : Addr} {w_CONTAINING : Addr} {w_NOT_CONTAINING : Addr} {w_LIKE : Addr} {w_NOT_LIKE : Addr} {w_REGEX : Addr} {w_NEAR : Addr} {w_WITHIN : Addr} {w_IGNORE_CASE : Addr} (ST : own_St Z w_EQUALS w_NOT w_GREATER_THAN w_GREATER_THAN_EQUAL w_LESS_THAN w_LESS_THAN_EQUAL w_AFTER w_BEFORE w_BETWEEN w_IN w_NOT_IN w_IS_NULL w_IS_NOT_NULL w_TRUE w_FALSE w_EXISTS w_STARTING_WITH w_ENDING_WITH w_CONTAINING w_NOT_CONTAINING w_LIKE w_NOT_LIKE w_REGEX w_NEAR w_WITHIN w_IGNORE_CASE) : Sta Z Z.heap cn_0 "IGNORE_CASE" cn_1 (.ref w_IGNORE_CASE) := ST.2.2.2.2.2.2.2.2.2.2.2.2.2.2.2.2.2.2.2.2.2.2.2.2.2.2.2.2.2.2.2.2.2.2.2.2.2.2.2.2.2.2.2.2.2.2.2.2.2.2.1
theorem own_St.k51 {Z : State} {w_EQUALS : Addr} {w_NOT : Addr} {w_GREATER_THAN : Addr} {w_GREATER_THAN_EQUAL : Addr} {w_LESS_THAN : Addr} {w_LESS_THAN_EQUAL : Addr} {w_AFTER : Addr} {w_BEFORE : Addr} {w_BETWEEN : Addr} {w_IN : Addr} {w_NOT_IN : Addr} {w_IS_NULL : Addr} {w_IS_NOT_NULL : Addr} {w_TRUE : Addr} {w_FALSE : Addr} {w_EXISTS : Addr} {w_STARTING_WITH : Addr} {w_ENDING_WITH : Addr} {w_CONTAINING : Addr} {w_NOT_CONTAINING : Addr} {w_LIKE : Addr} {w_NOT_LIKE : Addr} {w_REGEX : Addr} {w_NEAR : Addr} {w_WITHIN : Addr} {w_IGNORE_CASE : Addr} (ST : own_St Z w_EQUALS w_NOT w_GREATER_THAN w_GREATER_THAN_EQUAL w_LESS_THAN w_LESS_THAN_EQUAL w_AFTER w_BEFORE w_BETWEEN w_IN w_NOT_IN w_IS_NULL w_IS_NOT_NULL w_TRUE w_FALSE w_EXISTS w_STARTING_WITH w_ENDING_WITH w_CONTAINING w_NOT_CONTAINING w_LIKE w_NOT_LIKE w_REGEX w_NEAR w_WITHIN w_IGNORE_CASE) : Exa Z Z.heap w_IGNORE_CASE cn_0 := ST.2.2.2.2.2.2.2.2.2.2.2.2.2.2.2.2.2.2.2.2.2.2.2.2.2.2.2.2.2.2.2.2.2.2.2.2.2.2.2.2.2.2.2.2.2.2.2.2.2.2.2.1
theorem own_St.k52 {Z : State} {w_EQUALS : Addr} {w_NOT : Addr} {w_GREATER_THAN : Addr} {w_GREATER_THAN_EQUAL : Addr} {w_LESS_THAN : Addr} {w_LESS_THAN_EQUAL : Addr} {w_AFTER : Addr} {w_BEFORE : Addr} {w_BETWEEN : Addr} {w_IN : Addr} {w_NOT_IN : Addr} {w_IS_NULL : Addr} {w_IS_NOT_NULL : Addr} {w_TRUE : Addr} {w_FALSE : Addr} {w_EXISTS : Addr} {w_STARTING_WITH : Addr} {w_ENDING_WITH : Addr} {w_CONTAINING : Addr} {w_NOT_CONTAINING : Addr} {w_LIKE : Addr} {w_NOT_LIKE : Addr} {w_REGEX : Addr} {w_NEAR : Addr} {w_WITHIN : Addr} {w_IGNORE_CASE : Addr} (ST : own_St Z w_EQUALS w_NOT w_GREATER_THAN w_GREATER_THAN_EQUAL w_LESS_THAN w_LESS_THAN_EQUAL w_AFTER w_BEFORE w_BETWEEN w_IN w_NOT_IN w_IS_NULL w_IS_NOT_NULL w_TRUE w_FALSE w_EXISTS w_STARTING_WITH w_ENDING_WITH w_CONTAINING w_NOT_CONTAINING w_LIKE w_NOT_LIKE w_REGEX w_NEAR w_WITHIN w_IGNORE_CASE) : Fld Z Z.heap w_EQUALS cn_3 "ordinal" "I" (.int 0) := ST.2.2.2.2.2.2.2.2.2.2.2.2.2.2.2.2.2.2.2.2.2.2.2.2.2.2.2.2.2.2.2.2.2.2.2.2.2.2.2.2.2.2.2.2.2.2.2.2.2.2.2.2.1
theorem own_St.k53 {Z : State} {w_EQUALS : Addr} {w_NOT : Addr} {w_GREATER_THAN : Addr} {w_GREATER_THAN_EQUAL : Addr} {w_LESS_THAN : Addr} {w_LESS_THAN_EQUAL : Addr} {w_AFTER : Addr} {w_BEFORE : Addr} {w_BETWEEN : Addr} {w_IN : Addr} {w_NOT_IN : Addr} {w_IS_NULL : Addr} {w_IS_NOT_NULL : Addr} {w_TRUE : Addr} {w_FALSE : Addr} {w_EXISTS : Addr} {w_STARTING_WITH : Addr} {w_ENDING_WITH : Addr} {w_CONTAINING : Addr} {w_NOT_CONTAINING : Addr} {w_LIKE : Addr} {w_NOT_LIKE : Addr} {w_REGEX : Addr} {w_NEAR : Addr} {w_WITHIN : Addr} {w_IGNORE_CASE : Addr} (ST : own_St Z w_EQUALS w_NOT w_GREATER_THAN w_GREATER_THAN_EQUAL w_LESS_THAN w_LESS_THAN_EQUAL w_AFTER w_BEFORE w_BETWEEN w_IN w_NOT_IN w_IS_NULL w_IS_NOT_NULL w_TRUE w_FALSE w_EXISTS w_STARTING_WITH w_ENDING_WITH w_CONTAINING w_NOT_CONTAINING w_LIKE w_NOT_LIKE w_REGEX w_NEAR w_WITHIN w_IGNORE_CASE) : Fld Z Z.heap w_GREATER_THAN cn_3 "ordinal" "I" (.int 2) := ST.2.2.2.2.2.2.2.2.2.2.2.2.2.2.2.2.2.2.2.2.2.2.2.2.2.2.2.2.2.2.2.2.2.2.2.2.2.2.2.2.2.2.2.2.2.2.2.2.2.2.2.2.2.1
theorem own_St.k54 {Z : State} {w_EQUALS : Addr} {w_NOT : Addr} {w_GREATER_THAN : Addr} {w_GREATER_THAN_EQUAL : Addr} {w_LESS_THAN : Addr} {w_LESS_THAN_EQUAL : Addr} {w_AFTER : Addr} {w_BEFORE : Addr} {w_BETWEEN : Addr} {w_IN : Addr} {w_NOT_IN : Addr} {w_IS_NULL : Addr} {w_IS_NOT_NULL : Addr} {w_TRUE : Addr} {w_FALSE : Addr} {w_EXISTS : Addr} {w_STARTING_WITH : Addr} {w_ENDING_WITH : Addr} {w_CONTAINING : Addr} {w_NOT_CONTAINING : Addr} {w_LIKE : Addr} {w_NOT_LIKE : Addr} {w_REGEX : Addr} {w_NEAR : Addr} {w_WITHIN : Addr} {w_IGNORE_CASE : Addr} (ST : own_St Z w_EQUALS w_NOT w_GREATER_THAN w_GREATER_THAN_EQUAL w_LESS_THAN w_LESS_THAN_EQUAL w_AFTER w_BEFORE w_BETWEEN w_IN w_NOT_IN w_IS_NULL w_IS_NOT_NULL w_TRUE w_FALSE w_EXISTS w_STARTING_WITH w_ENDING_WITH w_CONTAINING w_NOT_CONTAINING w_LIKE w_NOT_LIKE w_REGEX w_NEAR w_WITHIN w_IGNORE_CASE) : Fld Z Z.heap w_GREATER_THAN_EQUAL cn_3 "ordinal" "I" (.int 3) := ST.2.2.2.2.2.2.2.2.2.2.2.2.2.2.2.2.2.2.2.2.2.2.2.2.2.2.2.2.2.2.2.2.2.2.2.2.2.2.2.2.2.2.2.2.2.2.2.2.2.2.2.2.2.2.1
theorem own_St.k55 {Z : State} {w_EQUALS : Addr} {w_NOT : Addr} {w_GREATER_THAN : Addr} {w_GREATER_THAN_EQUAL : Addr} {w_LESS_THAN : Addr} {w_LESS_THAN_EQUAL : Addr} {w_AFTER : Addr} {w_BEFORE : Addr} {w_BETWEEN : Addr} {w_IN : Addr} {w_NOT_IN : Addr} {w_IS_NULL : Addr} {w_IS_NOT_NULL : Addr} {w_TRUE : Addr} {w_FALSE : Addr} {w_EXISTS : Addr} {w_STARTING_WITH : Addr} {w_ENDING_WITH : Addr} {w_CONTAINING : Addr} {w_NOT_CONTAINING : Addr} {w_LIKE : Addr} {w_NOT_LIKE : Addr} {w_REGEX : Addr} {w_NEAR : Addr} {w_WITHIN : Addr} {w_IGNORE_CASE : Addr} (ST : own_St Z w_EQUALS w_NOT w_GREATER_THAN w_GREATER_THAN_EQUAL w_LESS_THAN w_LESS_THAN_EQUAL w_AFTER w_BEFORE w_BETWEEN w_IN w_NOT_IN w_IS_NULL w_IS_NOT_NULL w_TRUE w_FALSE w_EXISTS w_STARTING_WITH w_ENDING_WITH w_CONTAINING w_NOT_CONTAINING w_LIKE w_NOT_LIKE w_REGEX w_NEAR w_WITHIN w_IGNORE_CASE) : Fld Z Z.heap w_LESS_THAN cn_3 "ordinal" "I" (.int 4) := ST.2.2.2.2.2.2.2.2.2.2.2.2.2.2.2.2.2.2.2.2.2.2.2.2.2.2.2.2.2.2.2.2.2.2.2.2.2.2.2.2.2.2.2.2.2.2.2.2.2.2.2.2.2.2.2.1
theorem own_St.k56 {Z : State} {w_EQUALS : Addr} {w_NOT : Addr} {w_GREATER_THAN : Addr} {w_GREATER_THAN_EQUAL : Addr} {w_LESS_THAN : Addr} {w_LESS_THAN_EQUAL : Addr} {w_AFTER : Addr} {w_BEFORE : Addr} {w_BETWEEN : Addr} {w_IN : Addr} {w_NOT_IN : Addr} {w_IS_NULL : Addr} {w_IS_NOT_NULL : Addr} {w_TRUE : Addr} {w_FALSE : Addr} {w_EXISTS : Addr} {w_STARTING_WITH : Addr} {w_ENDING_WITH : Addr} {w_CONTAINING : Addr} {w_NOT_CONTAINING : Addr} {w_LIKE : Addr} {w_NOT_LIKE : Addr} {w_REGEX : Addr} {w_NEAR : Addr} {w_WITHIN : Addr} {w_IGNORE_CASE : Addr} (ST : own_St Z w_EQUALS w_NOT w_GREATER_THAN w_GREATER_THAN_EQUAL w_LESS_THAN w_LESS_THAN_EQUAL w_AFTER w_BEFORE w_BETWEEN w_IN w_NOT_IN w_IS_NULL w_IS_NOT_NULL w_TRUE w_FALSE w_EXISTS w_STARTING_WITH w_ENDING_WITH w_CONTAINING w_NOT_CONTAINING w_LIKE w_NOT_LIKE w_REGEX w_NEAR w_WITHIN w_IGNORE_CASE) : Fld Z Z.heap w_LESS_THAN_EQUAL cn_3 "ordinal" "I" (.int 5) := ST.2.2.2.2.2.2.2.2.2.2.2.2.2.2.2.2.2.2.2.2.2.2.2.2.2.2.2.2.2.2.2.2.2.2.2.2.2.2.2.2.2.2.2.2.2.2.2.2.2.2.2.2.2.2.2.2.1
theorem own_St.k57 {Z : State} {w_EQUALS : Addr} {w_NOT : Addr} {w_GREATER_THAN : Addr} {w_GREATER_THAN_EQUAL : Addr} {w_LESS_THAN : Addr} {w_LESS_THAN_EQUAL : Addr} {w_AFTER : Addr} {w_BEFORE : Addr} {w_BETWEEN : Addr} {w_IN : Addr} {w_NOT_IN : Addr} {w_IS_NULL : Addr} {w_IS_NOT_NULL : Addr} {w_TRUE : Addr} {w_FALSE : Addr} {w_EXISTS : Addr} {w_STARTING_WITH : Addr} {w_ENDING_WITH : Addr} {w_CONTAINING : Addr} {w_NOT_CONTAINING : Addr} {w_LIKE : Addr} {w_NOT_LIKE : Addr} {w_REGEX : Addr} {w_NEAR : Addr} {w_WITHIN : Addr} {w_IGNORE_CASE : Addr} (ST : own_St Z w_EQUALS w_NOT w_GREATER_THAN w_GREATER_THAN_EQUAL w_LESS_THAN w_LESS_THAN_EQUAL w_AFTER w_BEFORE w_BETWEEN w_IN w_NOT_IN w_IS_NULL w_IS_NOT_NULL w_TRUE w_FALSE w_EXISTS w_STARTING_WITH w_ENDING_WITH w_CONTAINING w_NOT_CONTAINING w_LIKE w_NOT_LIKE w_REGEX w_NEAR w_WITHIN w_IGNORE_CASE) : Fld Z Z.heap w_AFTER cn_3 "ordinal" "I" (.int 6) := ST.2.2.2.2.2.2.2.2.2.2.2.2.2.2.2.2.2.2.2.2.2.2.2.2.2.2.2.2.2.2.2.2.2.2.2.2.2.2.2.2.2.2.2.2.2.2.2.2.2.2.2.2.2.2.2.2.2.1
theorem own_St.k58 {Z : State} {w_EQUALS : Addr} {w_NOT : Addr} {w_GREATER_THAN : Addr} {w_GREATER_THAN_EQUAL : Addr} {w_LESS_THAN : Addr} {w_LESS_THAN_EQUAL : Addr} {w_AFTER : Addr} {w_BEFORE : Addr} {w_BETWEEN : Addr} {w_IN : Addr} {w_NOT_IN : Addr} {w_IS_NULL : Addr} {w_IS_NOT_NULL : Addr} {w_TRUE : Addr} {w_FALSE : Addr} {w_EXISTS : Addr} {w_STARTING_WITH : Addr} {w_ENDING_WITH : Addr} {w_CONTAINING : Addr} {w_NOT_CONTAINING : Addr} {w_LIKE : Addr} {w_NOT_LIKE : Addr} {w_REGEX : Addr} {w_NEAR : Addr} {w_WITHIN : Addr} {w_IGNORE_CASE : Addr} (ST : own_St Z w_EQUALS w_NOT w_GREATER_THAN w_GREATER_THAN_EQUAL w_LESS_THAN w_LESS_THAN_EQUAL w_AFTER w_BEFORE w_BETWEEN w_IN w_NOT_IN w_IS_NULL w_IS_NOT_NULL w_TRUE w_FALSE w_EXISTS w_STARTING_WITH w_ENDING_WITH w_CONTAINING w_NOT_CONTAINING w_LIKE w_NOT_LIKE w_REGEX w_NEAR w_WITHIN w_IGNORE_CASE) : Fld Z Z.heap w_BEFORE cn_3 "ordinal" "I" (.int 7) := ST.2.2.2.2.2.2.2.2.2.2.2.2.2.2.2.2.2.2.2.2.2.2.2.2.2.2.2.2.2.2.2.2.2.2.2.2.2.2.2.2.2.2.2.2.2.2.2.2.2.2.2.2.2.2.2.2.2.2.1
theorem own_St.k59 {Z : State} {w_EQUALS : Addr} {w_NOT : Addr} {w_GREATER_THAN : Addr} {w_GREATER_THAN_EQUAL : Addr} {w_LESS_THAN : Addr} {w_LESS_THAN_EQUAL : Addr} {w_AFTER : Addr} {w_BEFORE : Addr} {w_BETWEEN : Addr} {w_IN : Addr} {w_NOT_IN : Addr} {w_IS_NULL : Addr} {w_IS_NOT_NULL : Addr} {w_TRUE : Addr} {w_FALSE : Addr} {w_EXISTS : Addr} {w_STARTING_WITH : Addr} {w_ENDING_WITH : Addr} {w_CONTAINING : Addr} {w_NOT_CONTAINING : Addr} {w_LIKE : Addr} {w_NOT_LIKE : Addr} {w_REGEX : Addr} {w_NEAR : Addr} {w_WITHIN : Addr} {w_IGNORE_CASE : Addr} (ST : own_St Z w_EQUALS w_NOT w_GREATER_THAN w_GREATER_THAN_EQUAL w_LESS_THAN w_LESS_THAN_EQUAL w_AFTER w_BEFORE w_BETWEEN w_IN w_NOT_IN w_IS_NULL w_IS_NOT_NULL w_TRUE w_FALSE w_EXISTS w_STARTING_WITH w_ENDING_WITH w_CONTAINING w_NOT_CONTAINING w_LIKE w_NOT_LIKE w_REGEX w_NEAR w_WITHIN w_IGNORE_CASE) : Fld Z Z.heap w_BETWEEN cn_3 "ordinal" "I" (.int 8) := ST.2.2.2.2.2.2.2.2.2.2.2.2.2.2.2.2.2.2.2.2.2.2.2.2.2.2.2.2.2.2.2.2.2.2.2.2.2.2.2.2.2.2.2.2.2.2.2.2.2.2.2.2.2.2.2.2.2.2.2.1
theorem own_St.k60 {Z : State} {w_EQUALS : Addr} {w_NOT : Addr} {w_GREATER_THAN : Addr} {w_GREATER_THAN_EQUAL : Addr} {w_LESS_THAN : Addr} {w_LESS_THAN_EQUAL : Addr} {w_AFTER : Addr} {w_BEFORE : Addr} {w_BETWEEN : Addr} {w_IN : Addr} {w_NOT_IN : Addr} {w_IS_NULL : Addr} {w_IS_NOT_NULL : Addr} {w_TRUE : Addr} {w_FALSE : Addr} {w_EXISTS : Addr} {w_STARTING_WITH : Addr} {w_ENDING_WITH : Addr} {w_CONTAINING : Addr} {w_NOT_CONTAINING : Addr} {w_LIKE : Addr} {w_NOT_LIKE : Addr} {w_REGEX : Addr} {w_NEAR : Addr} {w_WITHIN : Addr} {w_IGNORE_CASE : Addr} (ST : own_St Z w_EQUALS w_NOT w_GREATER_THAN w_GREATER_THAN_EQUAL w_LESS_THAN w_LESS_THAN_EQUAL w_AFTER w_BEFORE w_BETWEEN w_IN w_NOT_IN w_IS_NULL w_IS_NOT_NULL w_TRUE w_FALSE w_EXISTS w_STARTING_WITH w_ENDING_WITH w_CONTAINING w_NOT_CONTAINING w_LIKE w_NOT_LIKE w_REGEX w_NEAR w_WITHIN w_IGNORE_CASE) : Fld Z Z.heap w_REGEX cn_3 "ordinal" "I" (.int 22) := ST.2.2.2.2.2.2.2.2.2.2.2.2.2.2.2.2.2.2.2.2.2.2.2.2.2.2.2.2.2.2.2.2.2.2.2.2.2.2.2.2.2.2.2.2.2.2.2.2.2.2.2.2.2.2.2.2.2.2.2.2.1
theorem own_St.k61 {Z : State} {w_EQUALS : Addr} {w_NOT : Addr} {w_GREATER_THAN : Addr} {w_GREATER_THAN_EQUAL : Addr} {w_LESS_THAN : Addr} {w_LESS_THAN_EQUAL : Addr} {w_AFTER : Addr} {w_BEFORE : Addr} {w_BETWEEN : Addr} {w_IN : Addr} {w_NOT_IN : Addr} {w_IS_NULL : Addr} {w_IS_NOT_NULL : Addr} {w_TRUE : Addr} {w_FALSE : Addr} {w_EXISTS : Addr} {w_STARTING_WITH : Addr} {w_ENDING_WITH : Addr} {w_CONTAINING : Addr} {w_NOT_CONTAINING : Addr} {w_LIKE : Addr} {w_NOT_LIKE : Addr} {w_REGEX : Addr} {w_NEAR : Addr} {w_WITHIN : Addr} {w_IGNORE_CASE : Addr} (ST : own_St Z w_EQUALS w_NOT w_GREATER_THAN w_GREATER_THAN_EQUAL w_LESS_THAN w_LESS_THAN_EQUAL w_AFTER w_BEFORE w_BETWEEN w_IN w_NOT_IN w_IS_NULL w_IS_NOT_NULL w_TRUE w_FALSE w_EXISTS w_STARTING_WITH w_ENDING_WITH w_CONTAINING w_NOT_CONTAINING w_LIKE w_NOT_LIKE w_REGEX w_NEAR w_WITHIN w_IGNORE_CASE) : Fld Z Z.heap w_IS_NULL cn_3 "ordinal" "I" (.int 11) := ST.2.2.2.2.2.2.2.2.2.2.2.2.2.2.2.2.2.2.2.2.2.2.2.2.2.2.2.2.2.2.2.2.2.2.2.2.2.2.2.2.2.2.2.2.2.2.2.2.2.2.2.2.2.2.2.2.2.2.2.2.2.1
theorem own_St.k62 {Z : State} {w_EQUALS : Addr} {w_NOT : Addr} {w_GREATER_THAN : Addr} {w_GREATER_THAN_EQUAL : Addr} {w_LESS_THAN : Addr} {w_LESS_THAN_EQUAL : Addr} {w_AFTER : Addr} {w_BEFORE : Addr} {w_BETWEEN : Addr} {w_IN : Addr} {w_NOT_IN : Addr} {w_IS_NULL : Addr} {w_IS_NOT_NULL : Addr} {w_TRUE : Addr} {w_FALSE : Addr} {w_EXISTS : Addr} {w_STARTING_WITH : Addr} {w_ENDING_WITH : Addr} {w_CONTAINING : Addr} {w_NOT_CONTAINING : Addr} {w_LIKE : Addr} {w_NOT_LIKE : Addr} {w_REGEX : Addr} {w_NEAR : Addr} {w_WITHIN : Addr} {w_IGNORE_CASE : Addr} (ST : own_St Z w_EQUALS w_NOT w_GREATER_THAN w_GREATER_THAN_EQUAL w_LESS_THAN w_LESS_THAN_EQUAL w_AFTER w_BEFORE w_BETWEEN w_IN w_NOT_IN w_IS_NULL w_IS_NOT_NULL w_TRUE w_FALSE w_EXISTS w_STARTING_WITH w_ENDING_WITH w_CONTAINING w_NOT_CONTAINING w_LIKE w_NOT_LIKE w_REGEX w_NEAR w_WITHIN w_IGNORE_CASE) : Fld Z Z.heap w_FALSE cn_3 "ordinal" "I" (.int 14) := ST.2.2.2.2.2.2.2.2.2.2.2.2.2.2.2.2.2.2.2.2.2.2.2.2.2.2.2.2.2.2.2.2.2.2.2.2.2.2.2.2.2.2.2.2.2.2.2.2.2.2.2.2.2.2.2.2.2.2.2.2.2.2.1
theorem own_St.k63 {Z : State} {w_EQUALS : Addr} {w_NOT : Addr} {w_GREATER_THAN : Addr} {w_GREATER_THAN_EQUAL : Addr} {w_LESS_THAN : Addr} {w_LESS_THAN_EQUAL : Addr} {w_AFTER : Addr} {w_BEFORE : Addr} {w_BETWEEN : Addr} {w_IN : Addr} {w_NOT_IN : Addr} {w_IS_NULL : Addr} {w_IS_NOT_NULL : Addr} {w_TRUE : Addr} {w_FALSE : Addr} {w_EXISTS : Addr} {w_STARTING_WITH : Addr} {w_ENDING_WITH : Addr} {w_CONTAINING : Addr} {w_NOT_CONTAINING : Addr} {w_LIKE : Addr} {w_NOT_LIKE : Addr} {w_REGEX : Addr} {w_NEAR : Addr} {w_WITHIN : Addr} {w_IGNORE_CASE : Addr} (ST : own_St Z w_EQUALS w_NOT w_GREATER_THAN w_GREATER_THAN_EQUAL w_LESS_THAN w_LESS_THAN_EQUAL w_AFTER w_BEFORE w_BETWEEN w_IN w_NOT_IN w_IS_NULL w_IS_NOT_NULL w_TRUE w_FALSE w_EXISTS w_STARTING_WITH w_ENDING_WITH w_CONTAINING w_NOT_CONTAINING w_LIKE w_NOT_LIKE w_REGEX w_NEAR w_WITHIN w_IGNORE_CASE) : Fld Z Z.heap w_NOT cn_3 "ordinal" "I" (.int 1) := ST.2.2.2.2.2.2.2.2.2.2.2.2.2.2.2.2.2.2.2.2.2.2.2.2.2.2.2.2.2.2.2.2.2.2.2.2.2.2.2.2.2.2.2.2.2.2.2.2.2.2.2.2.2.2.2.2.2.2.2.2.2.2.2.1
theorem own_St.k64 {Z : State} {w_EQUALS : Addr} {w_NOT : Addr} {w_GREATER_THAN : Addr} {w_GREATER_THAN_EQUAL : Addr} {w_LESS_THAN : Addr} {w_LESS_THAN_EQUAL : Addr} {w_AFTER : Addr} {w_BEFORE : Addr} {w_BETWEEN : Addr} {w_IN : Addr} {w_NOT_IN : Addr} {w_IS_NULL : Addr} {w_IS_NOT_NULL : Addr} {w_TRUE : Addr} {w_FALSE : Addr} {w_EXISTS : Addr} {w_STARTING_WITH : Addr} {w_ENDING_WITH : Addr} {w_CONTAINING : Addr} {w_NOT_CONTAINING : Addr} {w_LIKE : Addr} {w_NOT_LIKE : Addr} {w_REGEX : Addr} {w_NEAR : Addr} {w_WITHIN : Addr} {w_IGNORE_CASE : Addr} (ST : own_St Z w_EQUALS w_NOT w_GREATER_THAN w_GREATER_THAN_EQUAL w_LESS_THAN w_LESS_THAN_EQUAL w_AFTER w_BEFORE w_BETWEEN w_IN w_NOT_IN w_IS_NULL w_IS_NOT_NULL w_TRUE w_FALSE w_EXISTS w_STARTING_WITH w_ENDING_WITH w_CONTAINING w_NOT_CONTAINING w_LIKE w_NOT_LIKE w_REGEX w_NEAR w_WITHIN w_IGNORE_CASE) : Fld Z Z.heap w_EXISTS cn_3 "ordinal" "I" (.int 15) := ST.2.2.2.2.2.2.2.2.2.2.2.2.2.2.2.2.2.2.2.2.2.2.2.2.2.2.2.2.2.2.2.2.2.2.2.2.2.2.2.2.2.2.2.2.2.2.2.2.2.2.2.2.2.2.2.2.2.2.2.2.2.2.2.2.1
theorem own_St.k65 {Z : State} {w_EQUALS : Addr} {w_NOT : Addr} {w_GREATER_THAN : Addr} {w_GREATER_THAN_EQUAL : Addr} {w_LESS_THAN : Addr} {w_LESS_THAN_EQUAL : Addr} {w_AFTER : Addr} {w_BEFORE : Addr} {w_BETWEEN : Addr} {w_IN : Addr} {w_NOT_IN : Addr} {w_IS_NULL : Addr} {w_IS_NOT_NULL : Addr} {w_TRUE : Addr} {w_FALSE : Addr} {w_EXISTS : Addr} {w_STARTING_WITH : Addr} {w_ENDING_WITH : Addr} {w_CONTAINING : Addr} {w_NOT_CONTAINING : Addr} {w_LIKE : Addr} {w_NOT_LIKE : Addr} {w_REGEX : Addr} {w_NEAR : Addr} {w_WITHIN : Addr} {w_IGNORE_CASE : Addr} (ST : own_St Z w_EQUALS w_NOT w_GREATER_THAN w_GREATER_THAN_EQUAL w_LESS_THAN w_LESS_THAN_EQUAL w_AFTER w_BEFORE w_BETWEEN w_IN w_NOT_IN w_IS_NULL w_IS_NOT_NULL w_TRUE w_FALSE w_EXISTS w_STARTING_WITH w_ENDING_WITH w_CONTAINING w_NOT_CONTAINING w_LIKE w_NOT_LIKE w_REGEX w_NEAR w_WITHIN w_IGNORE_CASE) : Fld Z Z.heap w_STARTING_WITH cn_3 "ordinal" "I" (.int 16) := ST.2.2.2.2.2.2.2.2.2.2.2.2.2.2.2.2.2.2.2.2.2.2.2.2.2.2.2.2.2.2.2.2.2.2.2.2.2.2.2.2.2.2.2.2.2.2.2.2.2.2.2.2.2.2.2.2.2.2.2.2.2.2.2.2.2.1
theorem own_St.k66 {Z : State} {w_EQUALS : Addr} {w_NOT : Addr} {w_GREATER_THAN : Addr} {w_GREATER_THAN_EQUAL : Addr} {w_LESS_THAN : Addr} {w_LESS_THAN_EQUAL : Addr} {w_AFTER : Addr} {w_BEFORE : Addr} {w_BETWEEN : Addr} {w_IN : Addr} {w_NOT_IN : Addr} {w_IS_NULL : Addr} {w_IS_NOT_NULL : Addr} {w_TRUE : Addr} {w_FALSE : Addr} {w_EXISTS : Addr} {w_STARTING_WITH : Addr} {w_ENDING_WITH : Addr} {w_CONTAINING : Addr} {w_NOT_CONTAINING : Addr} {w_LIKE : Addr} {w_NOT_LIKE : Addr} {w_REGEX : Addr} {w_NEAR : Addr} {w_WITHIN : Addr} {w_IGNORE_CASE : Addr} (ST : own_St Z w_EQUALS w_NOT w_GREATER_THAN w_GREATER_THAN_EQUAL w_LESS_THAN w_LESS_THAN_EQUAL w_AFTER w_BEFORE w_BETWEEN w_IN w_NOT_IN w_IS_NULL w_IS_NOT_NULL w_TRUE w_FALSE w_EXISTS w_STARTING_WITH w_ENDING_WITH w_CONTAINING w_NOT_CONTAINING w_LIKE w_NOT_LIKE w_REGEX w_NEAR w_WITHIN w_IGNORE_CASE) : Fld Z Z.heap w_NOT_IN cn_3 "ordinal" "I" (.int 10) := ST.2.2.2.2.2.2.2.2.2.2.2.2.2.2.2.2.2.2.2.2.2.2.2.2.2.2.2.2.2.2.2.2.2.2.2.2.2.2.2.2.2.2.2.2.2.2.2.2.2.2.2.2.2.2.2.2.2.2.2.2.2.2.2.2.2.2.1
theorem own_St.k67 {Z : State} {w_EQUALS : Addr} {w_NOT : Addr} {w_GREATER_THAN : Addr} {w_GREATER_THAN_EQUAL : Addr} {w_LESS_THAN : Addr} {w_LESS_THAN_EQUAL : Addr} {w_AFTER : Addr} {w_BEFORE : Addr} {w_BETWEEN : Addr} {w_IN : Addr} {w_NOT_IN : Addr} {w_IS_NULL : Addr} {w_IS_NOT_NULL : Addr} {w_TRUE : Addr} {w_FALSE : Addr} {w_EXISTS : Addr} {w_STARTING_WITH : Addr} {w_ENDING_WITH : Addr} {w_CONTAINING : Addr} {w_NOT_CONTAINING : Addr} {w_LIKE : Addr} {w_NOT_LIKE : Addr} {w_REGEX : Addr} {w_NEAR : Addr} {w_WITHIN : Addr} {w_IGNORE_CASE : Addr} (ST : own_St Z w_EQUALS w_NOT w_GREATER_THAN w_GREATER_THAN_EQUAL w_LESS_THAN w_LESS_THAN_EQUAL w_AFTER w_BEFORE w_BETWEEN w_IN w_NOT_IN w_IS_NULL w_IS_NOT_NULL w_TRUE w_FALSE w_EXISTS w_STARTING_WITH w_ENDING_WITH w_CONTAINING w_NOT_CONTAINING w_LIKE w_NOT_LIKE w_REGEX w_NEAR w_WITHIN w_IGNORE_CASE) : Fld Z Z.heap w_NOT_LIKE cn_3 "ordinal" "I" (.int 21) := ST.2.2.2.2.2.2.2.2.2.2.2.2.2.2.2.2.2.2.2.2.2.2.2.2.2.2.2.2.2.2.2.2.2.2.2.2.2.2.2.2.2.2.2.2.2.2.2.2.2.2.2.2.2.2.2.2.2.2.2.2.2.2.2.2.2.2.2.1
theorem own_St.k68 {Z : State} {w_EQUALS : Addr} {w_NOT : Addr} {w_GREATER_THAN : Addr} {w_GREATER_THAN_EQUAL : Addr} {w_LESS_THAN : Addr} {w_LESS_THAN_EQUAL : Addr} {w_AFTER : Addr} {w_BEFORE : Addr} {w_BETWEEN : Addr} {w_IN : Addr} {w_NOT_IN : Addr} {w_IS_NULL : Addr} {w_IS_NOT_NULL : Addr} {w_TRUE : Addr} {w_FALSE : Addr} {w_EXISTS : Addr} {w_STARTING_WITH : Addr} {w_ENDING_WITH : Addr} {w_CONTAINING : Addr} {w_NOT_CONTAINING : Addr} {w_LIKE : Addr} {w_NOT_LIKE : Addr} {w_REGEX : Addr} {w_NEAR : Addr} {w_WITHIN : Addr} {w_IGNORE_CASE : Addr} (ST : own_St Z w_EQUALS w_NOT w_GREATER_THAN w_GREATER_THAN_EQUAL w_LESS_THAN w_LESS_THAN_EQUAL w_AFTER w_BEFORE w_BETWEEN w_IN w_NOT_IN w_IS_NULL w_IS_NOT_NULL w_TRUE w_FALSE w_EXISTS w_STARTING_WITH w_ENDING_WITH w_CONTAINING w_NOT_CONTAINING w_LIKE w_NOT_LIKE w_REGEX w_NEAR w_WITHIN w_IGNORE_CASE) : Fld Z Z.heap w_TRUE cn_3 "ordinal" "I" (.int 13) := ST.2.2.2.2.2.2.2.2.2.2.2.2.2.2.2.2.2.2.2.2.2.2.2.2.2.2.2.2.2.2.2.2.2.2.2.2.2.2.2.2.2.2.2.2.2.2.2.2.2.2.2.2.2.2.2.2.2.2.2.2.2.2.2.2.2.2.2.2.1
theorem own_St.k69 {Z : State} {w_EQUALS : Addr} {w_NOT : Addr} {w_GREATER_THAN : Addr} {w_GREATER_THAN_EQUAL : Addr} {w_LESS_THAN : Addr} {w_LESS_THAN_EQUAL : Addr} {w_AFTER : Addr} {w_BEFORE : Addr} {w_BETWEEN : Addr} {w_IN : Addr} {w_NOT_IN : Addr} {w_IS_NULL : Addr} {w_IS_NOT_NULL : Addr} {w_TRUE : Addr} {w_FALSE : Addr} {w_EXISTS : Addr} {w_STARTING_WITH : Addr} {w_ENDING_WITH : Addr} {w_CONTAINING : Addr} {w_NOT_CONTAINING : Addr} {w_LIKE : Addr} {w_NOT_LIKE : Addr} {w_REGEX : Addr} {w_NEAR : Addr} {w_WITHIN : Addr} {w_IGNORE_CASE : Addr} (ST : own_St Z w_EQUALS w_NOT w_GREATER_THAN w_GREATER_THAN_EQUAL w_LESS_THAN w_LESS_THAN_EQUAL w_AFTER w_BEFORE w_BETWEEN w_IN w_NOT_IN w_IS_NULL w_IS_NOT_NULL w_TRUE w_FALSE w_EXISTS w_STARTING_WITH w_ENDING_WITH w_CONTAINING w_NOT_CONTAINING w_LIKE w_NOT_LIKE w_REGEX w_NEAR w_WITHIN w_IGNORE_CASE) : Fld Z Z.heap w_IS_NOT_NULL cn_3 "ordinal" "I" (.int 12) := ST.2.2.2.2.2.2.2.2.2.2.2.2.2.2.2.2.2.2.2.2.2.2.2.2.2.2.2.2.2.2.2.2.2.2.2.2.2.2.2.2.2.2.2.2.2.2.2.2.2.2.2.2.2.2.2.2.2.2.2.2.2.2.2.2.2.2.2.2.2.1
theorem own_St.k70 {Z : State} {w_EQUALS : Addr} {w_NOT : Addr} {w_GREATER_THAN : Addr} {w_GREATER_THAN_EQUAL : Addr} {w_LESS_THAN : Addr} {w_LESS_THAN_EQUAL : Addr} {w_AFTER : Addr} {w_BEFORE : Addr} {w_BETWEEN : Addr} {w_IN : Addr} {w_NOT_IN : Addr} {w_IS_NULL : Addr} {w_IS_NOT_NULL : Addr} {w_TRUE : Addr} {w_FALSE : Addr} {w_EXISTS : Addr} {w_STARTING_WITH : Addr} {w_ENDING_WITH : Addr} {w_CONTAINING : Addr} {w_NOT_CONTAINING : Addr} {w_LIKE : Addr} {w_NOT_LIKE : Addr} {w_REGEX : Addr} {w_NEAR : Addr} {w_WITHIN : Addr} {w_IGNORE_CASE : Addr} (ST : own_St Z w_EQUALS w_NOT w_GREATER_THAN w_GREATER_THAN_EQUAL w_LESS_THAN w_LESS_THAN_EQUAL w_AFTER w_BEFORE w_BETWEEN w_IN w_NOT_IN w_IS_NULL w_IS_NOT_NULL w_TRUE w_FALSE w_EXISTS w_STARTING_WITH w_ENDING_WITH w_CONTAINING w_NOT_CONTAINING w_LIKE w_NOT_LIKE w_REGEX w_NEAR w_WITHIN w_IGNORE_CASE) : Fld Z Z.heap w_NOT_CONTAINING cn_3 "ordinal" "I" (.int 19) := ST.2.2.2.2.2.2.2.2.2.2.2.2.2.2.2.2.2.2.2.2.2.2.2.2.2.2.2.2.2.2.2.2.2.2.2.2.2.2.2.2.2.2.2.2.2.2.2.2.2.2.2.2.2.2.2.2.2.2.2.2.2.2.2.2.2.2.2.2.2.2.1
theorem own_St.k71 {Z : State} {w_EQUALS : Addr} {w_NOT : Addr} {w_GREATER_THAN : Addr} {w_GREATER_THAN_EQUAL : Addr} {w_LESS_THAN : Addr} {w_LESS_THAN_EQUAL : Addr} {w_AFTER : Addr} {w_BEFORE : Addr} {w_BETWEEN : Addr} {w_IN : Addr} {w_NOT_IN : Addr} {w_IS_NULL : Addr} {w_IS_NOT_NULL : Addr} {w_TRUE : Addr} {w_FALSE : Addr} {w_EXISTS : Addr} {w_STARTING_WITH : Addr} {w_ENDING_WITH : Addr} {w_CONTAINING : Addr} {w_NOT_CONTAINING : Addr} {w_LIKE : Addr} {w_NOT_LIKE : Addr} {w_REGEX : Addr} {w_NEAR : Addr} {w_WITHIN : Addr} {w_IGNORE_CASE : Addr} (ST : own_St Z w_EQUALS w_NOT w_GREATER_THAN w_GREATER_THAN_EQUAL w_LESS_THAN w_LESS_THAN_EQUAL w_AFTER w_BEFORE w_BETWEEN w_IN w_NOT_IN w_IS_NULL w_IS_NOT_NULL w_TRUE w_FALSE w_EXISTS w_STARTING_WITH w_ENDING_WITH w_CONTAINING w_NOT_CONTAINING w_LIKE w_NOT_LIKE w_REGEX w_NEAR w_WITHIN w_IGNORE_CASE) : Fld Z Z.heap w_CONTAINING cn_3 "ordinal" "I" (.int 18) := ST.2.2.2.2.2.2.2.2.2.2.2.2.2.2.2.2.2.2.2.2.2.2.2.2.2.2.2.2.2.2.2.2.2.2.2.2.2.2.2.2.2.2.2.2.2.2.2.2.2.2.2.2.2.2.2.2.2.2.2.2.2.2.2.2.2.2.2.2.2.2.2.1
theorem own_St.k72 {Z : State} {w_EQUALS : Addr} {w_NOT : Addr} {w_GREATER_THAN : Addr} {w_GREATER_THAN_EQUAL : Addr} {w_LESS_THAN : Addr} {w_LESS_THAN_EQUAL : Addr} {w_AFTER : Addr} {w_BEFORE : Addr} {w_BETWEEN : Addr} {w_IN : Addr} {w_NOT_IN : Addr} {w_IS_NULL : Addr} {w_IS_NOT_NULL : Addr} {w_TRUE : Addr} {w_FALSE : Addr} {w_EXISTS : Addr} {w_STARTING_WITH : Addr} {w_ENDING_WITH : Addr} {w_CONTAINING : Addr} {w_NOT_CONTAINING : Addr} {w_LIKE : Addr} {w_NOT_LIKE : Addr} {w_REGEX : Addr} {w_NEAR : Addr} {w_WITHIN : Addr} {w_IGNORE_CASE : Addr} (ST : own_St Z w_EQUALS w_NOT w_GREATER_THAN w_GREATER_THAN_EQUAL w_LESS_THAN w_LESS_THAN_EQUAL w_AFTER w_BEFORE w_BETWEEN w_IN w_NOT_IN w_IS_NULL w_IS_NOT_NULL w_TRUE w_FALSE w_EXISTS w_STARTING_WITH w_ENDING_WITH w_CONTAINING w_NOT_CONTAINING w_LIKE w_NOT_LIKE w_REGEX w_NEAR w_WITHIN w_IGNORE_CASE) : Fld Z Z.heap w_IN cn_3 "ordinal" "I" (.int 9) := ST.2.2.2.2.2.2.2.2.2.2.2.2.2.2.2.2.2.2.2.2.2.2.2.2.2.2.2.2.2.2.2.2.2.2.2.2.2.2.2.2.2.2.2.2.2.2.2.2.2.2.2.2.2.2.2.2.2.2.2.2.2.2.2.2.2.2.2.2.2.2.2.2.1
theorem own_St.k73 {Z : State} {w_EQUALS : Addr} {w_NOT : Addr} {w_GREATER_THAN : Addr} {w_GREATER_THAN_EQUAL : Addr} {w_LESS_THAN : Addr} {w_LESS_THAN_EQUAL : Addr} {w_AFTER : Addr} {w_BEFORE : Addr} {w_BETWEEN : Addr} {w_IN : Addr} {w_NOT_IN : Addr} {w_IS_NULL : Addr} {w_IS_NOT_NULL : Addr} {w_TRUE : Addr} {w_FALSE : Addr} {w_EXISTS : Addr} {w_STARTING_WITH : Addr} {w_ENDING_WITH : Addr} {w_CONTAINING : Addr} {w_NOT_CONTAINING : Addr} {w_LIKE : Addr} {w_NOT_LIKE : Addr} {w_REGEX : Addr} {w_NEAR : Addr} {w_WITHIN : Addr} {w_IGNORE_CASE : Addr} (ST : own_St Z w_EQUALS w_NOT w_GREATER_THAN w_GREATER_THAN_EQUAL w_LESS_THAN w_LESS_THAN_EQUAL w_AFTER w_BEFORE w_BETWEEN w_IN w_NOT_IN w_IS_NULL w_IS_NOT_NULL w_TRUE w_FALSE w_EXISTS w_STARTING_WITH w_ENDING_WITH w_CONTAINING w_NOT_CONTAINING w_LIKE w_NOT_LIKE w_REGEX w_NEAR w_WITHIN w_IGNORE_CASE) : Fld Z Z.heap w_IGNORE_CASE cn_3 "ordinal" "I" (.int 25) := ST.2.2.2.2.2.2.2.2.2.2.2.2.2.2.2.2.2.2.2.2.2.2.2.2.2.2.2.2.2.2.2.2.2.2.2.2.2.2.2.2.2.2.2.2.2.2.2.2.2.2.2.2.2.2.2.2.2.2.2.2.2.2.2.2.2.2.2.2.2.2.2.2.2.1
theorem own_St.k74 {Z : State} {w_EQUALS : Addr} {w_NOT : Addr} {w_GREATER_THAN : Addr} {w_GREATER_THAN_EQUAL : Addr} {w_LESS_THAN : Addr} {w_LESS_THAN_EQUAL : Addr} {w_AFTER : Addr} {w_BEFORE : Addr} {w_BETWEEN : Addr} {w_IN : Addr} {w_NOT_IN : Addr} {w_IS_NULL : Addr} {w_IS_NOT_NULL : Addr} {w_TRUE : Addr} {w_FALSE : Addr} {w_EXISTS : Addr} {w_STARTING_WITH : Addr} {w_ENDING_WITH : Addr} {w_CONTAINING : Addr} {w_NOT_CONTAINING : Addr} {w_LIKE : Addr} {w_NOT_LIKE : Addr} {w_REGEX : Addr} {w_NEAR : Addr} {w_WITHIN : Addr} {w_IGNORE_CASE : Addr} (ST : own_St Z w_EQUALS w_NOT w_GREATER_THAN w_GREATER_THAN_EQUAL w_LESS_THAN w_LESS_THAN_EQUAL w_AFTER w_BEFORE w_BETWEEN w_IN w_NOT_IN w_IS_NULL w_IS_NOT_NULL w_TRUE w_FALSE w_EXISTS w_STARTING_WITH w_ENDING_WITH w_CONTAINING w_NOT_CONTAINING w_LIKE w_NOT_LIKE w_REGEX w_NEAR w_WITHIN w_IGNORE_CASE) : Fld Z Z.heap w_ENDING_WITH cn_3 "ordinal" "I" (.int 17) := ST.2.2.2.2.2.2.2.2.2.2.2.2.2.2.2.2.2.2.2.2.2.2.2.2.2.2.2.2.2.2.2.2.2.2.2.2.2.2.2.2.2.2.2.2.2.2.2.2.2.2.2.2.2.2.2.2.2.2.2.2.2.2.2.2.2.2.2.2.2.2.2.2.2.2.1
theorem own_St.k75 {Z : State} {w_EQUALS : Addr} {w_NOT : Addr} {w_GREATER_THAN : Addr} {w_GREATER_THAN_EQUAL : Addr} {w_LESS_THAN : Addr} {w_LESS_THAN_EQUAL : Addr} {w_AFTER : Addr} {w_BEFORE : Addr} {w_BETWEEN : Addr} {w_IN : Addr} {w_NOT_IN : Addr} {w_IS_NULL : Addr} {w_IS_NOT_NULL : Addr} {w_TRUE : Addr} {w_FALSE : Addr} {w_EXISTS : Addr} {w_STARTING_WITH : Addr} {w_ENDING_WITH : Addr} {w_CONTAINING : Addr} {w_NOT_CONTAINING : Addr} {w_LIKE : Addr} {w_NOT_LIKE : Addr} {w_REGEX : Addr} {w_NEAR : Addr} {w_WITHIN : Addr} {w_IGNORE_CASE : Addr} (ST : own_St Z w_EQUALS w_NOT w_GREATER_THAN w_GREATER_THAN_EQUAL w_LESS_THAN w_LESS_THAN_EQUAL w_AFTER w_BEFORE w_BETWEEN w_IN w_NOT_IN w_IS_NULL w_IS_NOT_NULL w_TRUE w_FALSE w_EXISTS w_STARTING_WITH w_ENDING_WITH w_CONTAINING w_NOT_CONTAINING w_LIKE w_NOT_LIKE w_REGEX w_NEAR w_WITHIN w_IGNORE_CASE) : Fld Z Z.heap w_LIKE cn_3 "ordinal" "I" (.int 20) := ST.2.2.2.2.2.2.2.2.2.2.2.2.2.2.2.2.2.2.2.2.2.2.2.2.2.2.2.2.2.2.2.2.2.2.2.2.2.2.2.2.2.2.2.2.2.2.2.2.2.2.2.2.2.2.2.2.2.2.2.2.2.2.2.2.2.2.2.2.2.2.2.2.2.2.2.1
theorem own_St.k76 {Z : State} {w_EQUALS : Addr} {w_NOT : Addr} {w_GREATER_THAN : Addr} {w_GREATER_THAN_EQUAL : Addr} {w_LESS_THAN : Addr} {w_LESS_THAN_EQUAL : Addr} {w_AFTER : Addr} {w_BEFORE : Addr} {w_BETWEEN : Addr} {w_IN : Addr} {w_NOT_IN : Addr} {w_IS_NULL : Addr} {w_IS_NOT_NULL : Addr} {w_TRUE : Addr} {w_FALSE : Addr} {w_EXISTS : Addr} {w_STARTING_WITH : Addr} {w_ENDING_WITH : Addr} {w_CONTAINING : Addr} {w_NOT_CONTAINING : Addr} {w_LIKE : Addr} {w_NOT_LIKE : Addr} {w_REGEX : Addr} {w_NEAR : Addr} {w_WITHIN : Addr} {w_IGNORE_CASE : Addr} (ST : own_St Z w_EQUALS w_NOT w_GREATER_THAN w_GREATER_THAN_EQUAL w_LESS_THAN w_LESS_THAN_EQUAL w_AFTER w_BEFORE w_BETWEEN w_IN w_NOT_IN w_IS_NULL w_IS_NOT_NULL w_TRUE w_FALSE w_EXISTS w_STARTING_WITH w_ENDING_WITH w_CONTAINING w_NOT_CONTAINING w_LIKE w_NOT_LIKE w_REGEX w_NEAR w_WITHIN w_IGNORE_CASE) : Fld Z Z.heap w_NEAR cn_3 "ordinal" "I" (.int 23) := ST.2.2.2.2.2.2.2.2.2.2.2.2.2.2.2.2.2.2.2.2.2.2.2.2.2.2.2.2.2.2.2.2.2.2.2.2.2.2.2.2.2.2.2.2.2.2.2.2.2.2.2.2.2.2.2.2.2.2.2.2.2.2.2.2.2.2.2.2.2.2.2.2.2.2.2.2.1
theorem own_St.k77 {Z : State} {w_EQUALS : Addr} {w_NOT : Addr} {w_GREATER_THAN : Addr} {w_GREATER_THAN_EQUAL : Addr} {w_LESS_THAN : Addr} {w_LESS_THAN_EQUAL : Addr} {w_AFTER : Addr} {w_BEFORE : Addr} {w_BETWEEN : Addr} {w_IN : Addr} {w_NOT_IN : Addr} {w_IS_NULL : Addr} {w_IS_NOT_NULL : Addr} {w_TRUE : Addr} {w_FALSE : Addr} {w_EXISTS : Addr} {w_STARTING_WITH : Addr} {w_ENDING_WITH : Addr} {w_CONTAINING : Addr} {w_NOT_CONTAINING : Addr} {w_LIKE : Addr} {w_NOT_LIKE : Addr} {w_REGEX : Addr} {w_NEAR : Addr} {w_WITHIN : Addr} {w_IGNORE_CASE : Addr} (ST : own_St Z w_EQUALS w_NOT w_GREATER_THAN w_GREATER_THAN_EQUAL w_LESS_THAN w_LESS_THAN_EQUAL w_AFTER w_BEFORE w_BETWEEN w_IN w_NOT_IN w_IS_NULL w_IS_NOT_NULL w_TRUE w_FALSE w_EXISTS w_STARTING_WITH w_ENDING_WITH w_CONTAINING w_NOT_CONTAINING w_LIKE w_NOT_LIKE w_REGEX w_NEAR w_WITHIN w_IGNORE_CASE) : Fld Z Z.heap w_WITHIN cn_3 "ordinal" "I" (.int 24) := ST.2.2.2.2.2.2.2.2.2.2.2.2.2.2.2.2.2.2.2.2.2.2.2.2.2.2.2.2.2.2.2.2.2.2.2.2.2.2.2.2.2.2.2.2.2.2.2.2.2.2.2.2.2.2.2.2.2.2.2.2.2.2.2.2.2.2.2.2.2.2.2.2.2.2.2.2.2
theorem ww4 {Z : State} {a0 : Array Value} (hw : ∀ d ∈ tables_1, d.before a0 Z = true) : Jvm.Cond.before (Jvm.Cond.laysStatic cn_0 "EQUALS" cn_1) a0 Z = true := hw _ (List.mem_of_getElem? (i := 4) rfl)
theorem ww3 {Z : State} {a0 : Array Value} (hw : ∀ d ∈ tables_1, d.before a0 Z = true) : Jvm.Cond.before (Jvm.Cond.initialized cn_0) a0 Z = true := hw _ (List.mem_of_getElem? (i := 3) rfl)
theorem ww7 {Z : State} {a0 : Array Value} (hw : ∀ d ∈ tables_1, d.before a0 Z = true) : Jvm.Cond.before (Jvm.Cond.laysStatic cn_0 "NOT" cn_1) a0 Z = true := hw _ (List.mem_of_getElem? (i := 7) rfl)
theorem ww9 {Z : State} {a0 : Array Value} (hw : ∀ d ∈ tables_1, d.before a0 Z = true) : Jvm.Cond.before (Jvm.Cond.laysStatic cn_0 "GREATER_THAN" cn_1) a0 Z = true := hw _ (List.mem_of_getElem? (i := 9) rfl)
theorem ww11 {Z : State} {a0 : Array Value} (hw : ∀ d ∈ tables_1, d.before a0 Z = true) : Jvm.Cond.before (Jvm.Cond.laysStatic cn_0 "GREATER_THAN_EQUAL" cn_1) a0 Z = true := hw _ (List.mem_of_getElem? (i := 11) rfl)
theorem ww13 {Z : State} {a0 : Array Value} (hw : ∀ d ∈ tables_1, d.before a0 Z = true) : Jvm.Cond.before (Jvm.Cond.laysStatic cn_0 "LESS_THAN" cn_1) a0 Z = true := hw _ (List.mem_of_getElem? (i := 13) rfl)
theorem ww15 {Z : State} {a0 : Array Value} (hw : ∀ d ∈ tables_1, d.before a0 Z = true) : Jvm.Cond.before (Jvm.Cond.laysStatic cn_0 "LESS_THAN_EQUAL" cn_1) a0 Z = true := hw _ (List.mem_of_getElem? (i := 15) rfl)
theorem ww17 {Z : State} {a0 : Array Value} (hw : ∀ d ∈ tables_1, d.before a0 Z = true) : Jvm.Cond.before (Jvm.Cond.laysStatic cn_0 "AFTER" cn_1) a0 Z = true := hw _ (List.mem_of_getElem? (i := 17) rfl)
theorem ww19 {Z : State} {a0 : Array Value} (hw : ∀ d ∈ tables_1, d.before a0 Z = true) : Jvm.Cond.before (Jvm.Cond.laysStatic cn_0 "BEFORE" cn_1) a0 Z = true := hw _ (List.mem_of_getElem? (i := 19) rfl)
theorem ww21 {Z : State} {a0 : Array Value} (hw : ∀ d ∈ tables_1, d.before a0 Z = true) : Jvm.Cond.before (Jvm.Cond.laysStatic cn_0 "BETWEEN" cn_1) a0 Z = true := hw _ (List.mem_of_getElem? (i := 21) rfl)
theorem ww23 {Z : State} {a0 : Array Value} (hw : ∀ d ∈ tables_1, d.before a0 Z = true) : Jvm.Cond.before (Jvm.Cond.laysStatic cn_0 "IN" cn_1) a0 Z = true := hw _ (List.mem_of_getElem? (i := 23) rfl)
theorem ww25 {Z : State} {a0 : Array Value} (hw : ∀ d ∈ tables_1, d.before a0 Z = true) : Jvm.Cond.before (Jvm.Cond.laysStatic cn_0 "NOT_IN" cn_1) a0 Z = true := hw _ (List.mem_of_getElem? (i := 25) rfl)
theorem ww27 {Z : State} {a0 : Array Value} (hw : ∀ d ∈ tables_1, d.before a0 Z = true) : Jvm.Cond.before (Jvm.Cond.laysStatic cn_0 "IS_NULL" cn_1) a0 Z = true := hw _ (List.mem_of_getElem? (i := 27) rfl)
theorem ww29 {Z : State} {a0 : Array Value} (hw : ∀ d ∈ tables_1, d.before a0 Z = true) : Jvm.Cond.before (Jvm.Cond.laysStatic cn_0 "IS_NOT_NULL" cn_1) a0 Z = true := hw _ (List.mem_of_getElem? (i := 29) rfl)
theorem ww31 {Z : State} {a0 : Array Value} (hw : ∀ d ∈ tables_1, d.before a0 Z = true) : Jvm.Cond.before (Jvm.Cond.laysStatic cn_0 "TRUE" cn_1) a0 Z = true := hw _ (List.mem_of_getElem? (i := 31) rfl)
theorem ww33 {Z : State} {a0 : Array Value} (hw : ∀ d ∈ tables_1, d.before a0 Z = true) : Jvm.Cond.before (Jvm.Cond.laysStatic cn_0 "FALSE" cn_1) a0 Z = true := hw _ (List.mem_of_getElem? (i := 33) rfl)
theorem ww35 {Z : State} {a0 : Array Value} (hw : ∀ d ∈ tables_1, d.before a0 Z = true) : Jvm.Cond.before (Jvm.Cond.laysStatic cn_0 "EXISTS" cn_1) a0 Z = true := hw _ (List.mem_of_getElem? (i := 35) rfl)
theorem ww37 {Z : State} {a0 : Array Value} (hw : ∀ d ∈ tables_1, d.before a0 Z = true) : Jvm.Cond.before (Jvm.Cond.laysStatic cn_0 "STARTING_WITH" cn_1) a0 Z = true := hw _ (List.mem_of_getElem? (i := 37) rfl)
theorem ww39 {Z : State} {a0 : Array Value} (hw : ∀ d ∈ tables_1, d.before a0 Z = true) : Jvm.Cond.before (Jvm.Cond.laysStatic cn_0 "ENDING_WITH" cn_1) a0 Z = true := hw _ (List.mem_of_getElem? (i := 39) rfl)
theorem ww41 {Z : State} {a0 : Array Value} (hw : ∀ d ∈ tables_1, d.before a0 Z = true) : Jvm.Cond.before (Jvm.Cond.laysStatic cn_0 "CONTAINING" cn_1) a0 Z = true := hw _ (List.mem_of_getElem? (i := 41) rfl)
theorem ww43 {Z : State} {a0 : Array Value} (hw : ∀ d ∈ tables_1, d.before a0 Z = true) : Jvm.Cond.before (Jvm.Cond.laysStatic cn_0 "NOT_CONTAINING" cn_1) a0 Z = true := hw _ (List.mem_of_getElem? (i := 43) rfl)
theorem ww45 {Z : State} {a0 : Array Value} (hw : ∀ d ∈ tables_1, d.before a0 Z = true) : Jvm.Cond.before (Jvm.Cond.laysStatic cn_0 "LIKE" cn_1) a0 Z = true := hw _ (List.mem_of_getElem? (i := 45) rfl)
theorem ww47 {Z : State} {a0 : Array Value} (hw : ∀ d ∈ tables_1, d.before a0 Z = true) : Jvm.Cond.before (Jvm.Cond.laysStatic cn_0 "NOT_LIKE" cn_1) a0 Z = true := hw _ (List.mem_of_getElem? (i := 47) rfl)
theorem ww49 {Z : State} {a0 : Array Value} (hw : ∀ d ∈ tables_1, d.before a0 Z = true) : Jvm.Cond.before (Jvm.Cond.laysStatic cn_0 "REGEX" cn_1) a0 Z = true := hw _ (List.mem_of_getElem? (i := 49) rfl)
theorem ww51 {Z : State} {a0 : Array Value} (hw : ∀ d ∈ tables_1, d.before a0 Z = true) : Jvm.Cond.before (Jvm.Cond.laysStatic cn_0 "NEAR" cn_1) a0 Z = true := hw _ (List.mem_of_getElem? (i := 51) rfl)
theorem ww53 {Z : State} {a0 : Array Value} (hw : ∀ d ∈ tables_1, d.before a0 Z = true) : Jvm.Cond.before (Jvm.Cond.laysStatic cn_0 "WITHIN" cn_1) a0 Z = true := hw _ (List.mem_of_getElem? (i := 53) rfl)
theorem ww55 {Z : State} {a0 : Array Value} (hw : ∀ d ∈ tables_1, d.before a0 Z = true) : Jvm.Cond.before (Jvm.Cond.laysStatic cn_0 "IGNORE_CASE" cn_1) a0 Z = true := hw _ (List.mem_of_getElem? (i := 55) rfl)
theorem d0_0 : decode prog_45_method_7_code 0 = .ok (.aload_n 0, 1) := by decide +kernel
theorem d0_1 : decode prog_45_method_7_code 1 = .ok (.getstatic 10, 3) := by decide +kernel
theorem ww62 {Z : State} {a0 : Array Value} (hw : ∀ d ∈ tables_1, d.before a0 Z = true) : Jvm.Cond.before (Jvm.Cond.fieldLink cn_0 (10 : Nat) cn_0 "GREATER_THAN" cn_1) a0 Z = true := hw _ (List.mem_of_getElem? (i := 62) rfl)
theorem d0_4 : decode prog_45_method_7_code 4 = .ok (.if_acmp .eq 45, 3) := by decide +kernel
theorem d0_49 : decode prog_45_method_7_code 49 = .ok (.iconst 1, 1) := by decide +kernel
theorem d0_50 : decode prog_45_method_7_code 50 = .ok (.goto 4, 3) := by decide +kernel
theorem d0_54 : decode prog_45_method_7_code 54 = .ok (.ireturn, 1) := by decide +kernel
theorem d0_7 : decode prog_45_method_7_code 7 = .ok (.aload_n 0, 1) := by decide +kernel
theorem d0_8 : decode prog_45_method_7_code 8 = .ok (.getstatic 13, 3) := by decide +kernel
theorem ww63 {Z : State} {a0 : Array Value} (hw : ∀ d ∈ tables_1, d.before a0 Z = true) : Jvm.Cond.before (Jvm.Cond.fieldLink cn_0 (13 : Nat) cn_0 "GREATER_THAN_EQUAL" cn_1) a0 Z = true := hw _ (List.mem_of_getElem? (i := 63) rfl)
theorem d0_11 : decode prog_45_method_7_code 11 = .ok (.if_acmp .eq 38, 3) := by decide +kernel
theorem d0_14 : decode prog_45_method_7_code 14 = .ok (.aload_n 0, 1) := by decide +kernel
theorem d0_15 : decode prog_45_method_7_code 15 = .ok (.getstatic 16, 3) := by decide +kernel
theorem ww64 {Z : State} {a0 : Array Value} (hw : ∀ d ∈ tables_1, d.before a0 Z = true) : Jvm.Cond.before (Jvm.Cond.fieldLink cn_0 (16 : Nat) cn_0 "LESS_THAN" cn_1) a0 Z = true := hw _ (List.mem_of_getElem? (i := 64) rfl)
theorem d0_18 : decode prog_45_method_7_code 18 = .ok (.if_acmp .eq 31, 3) := by decide +kernel
theorem d0_21 : decode prog_45_method_7_code 21 = .ok (.aload_n 0, 1) := by decide +kernel
theorem d0_22 : decode prog_45_method_7_code 22 = .ok (.getstatic 19, 3) := by decide +kernel
theorem ww65 {Z : State} {a0 : Array Value} (hw : ∀ d ∈ tables_1, d.before a0 Z = true) : Jvm.Cond.before (Jvm.Cond.fieldLink cn_0 (19 : Nat) cn_0 "LESS_THAN_EQUAL" cn_1) a0 Z = true := hw _ (List.mem_of_getElem? (i := 65) rfl)
theorem d0_25 : decode prog_45_method_7_code 25 = .ok (.if_acmp .eq 24, 3) := by decide +kernel
theorem d0_28 : decode prog_45_method_7_code 28 = .ok (.aload_n 0, 1) := by decide +kernel
theorem d0_29 : decode prog_45_method_7_code 29 = .ok (.getstatic 22, 3) := by decide +kernel
theorem ww66 {Z : State} {a0 : Array Value} (hw : ∀ d ∈ tables_1, d.before a0 Z = true) : Jvm.Cond.before (Jvm.Cond.fieldLink cn_0 (22 : Nat) cn_0 "AFTER" cn_1) a0 Z = true := hw _ (List.mem_of_getElem? (i := 66) rfl)
theorem d0_32 : decode prog_45_method_7_code 32 = .ok (.if_acmp .eq 17, 3) := by decide +kernel
theorem d0_35 : decode prog_45_method_7_code 35 = .ok (.aload_n 0, 1) := by decide +kernel
theorem d0_36 : decode prog_45_method_7_code 36 = .ok (.getstatic 25, 3) := by decide +kernel
theorem ww67 {Z : State} {a0 : Array Value} (hw : ∀ d ∈ tables_1, d.before a0 Z = true) : Jvm.Cond.before (Jvm.Cond.fieldLink cn_0 (25 : Nat) cn_0 "BEFORE" cn_1) a0 Z = true := hw _ (List.mem_of_getElem? (i := 67) rfl)
theorem d0_39 : decode prog_45_method_7_code 39 = .ok (.if_acmp .eq 10, 3) := by decide +kernel
theorem d0_42 : decode prog_45_method_7_code 42 = .ok (.aload_n 0, 1) := by decide +kernel
theorem d0_43 : decode prog_45_method_7_code 43 = .ok (.getstatic 28, 3) := by decide +kernel
theorem ww68 {Z : State} {a0 : Array Value} (hw : ∀ d ∈ tables_1, d.before a0 Z = true) : Jvm.Cond.before (Jvm.Cond.fieldLink cn_0 (28 : Nat) cn_0 "BETWEEN" cn_1) a0 Z = true := hw _ (List.mem_of_getElem? (i := 68) rfl)
theorem d0_46 : decode prog_45_method_7_code 46 = .ok (.if_acmp .ne 7, 3) := by decide +kernel
theorem d0_53 : decode prog_45_method_7_code 53 = .ok (.iconst 0, 1) := by decide +kernel
abbrev rr_ord : Room := { frames := 0, cells := 0, slots := 0, locals := 0 }
abbrev y_0 : MethodName := ⟨cn_0, "orders", "()Z"⟩
theorem pn_0 : plainName cn_0 = true := by first | (simp [plainName, overriddenIn]; done) | decide +kernel
theorem ef_ord (m : MethodId) (o0 : Addr) : entryFrame m #[(.ref o0)] 1 = mkF m 0 #[.val (.ref o0)] [] := by first | (simp [entryFrame, mkF, argsToLocals, Value.category]; done) | rfl
def f_ord (w_EQUALS : Addr) (w_NOT : Addr) (w_GREATER_THAN : Addr) (w_GREATER_THAN_EQUAL : Addr) (w_LESS_THAN : Addr) (w_LESS_THAN_EQUAL : Addr) (w_AFTER : Addr) (w_BEFORE : Addr) (w_BETWEEN : Addr) (w_IN : Addr) (w_NOT_IN : Addr) (w_IS_NULL : Addr) (w_IS_NOT_NULL : Addr) (w_TRUE : Addr) (w_FALSE : Addr) (w_EXISTS : Addr) (w_STARTING_WITH : Addr) (w_ENDING_WITH : Addr) (w_CONTAINING : Addr) (w_NOT_CONTAINING : Addr) (w_LIKE : Addr) (w_NOT_LIKE : Addr) (w_REGEX : Addr) (w_NEAR : Addr) (w_WITHIN : Addr) (w_IGNORE_CASE : Addr) (o0 : Addr) : Int32 := (if o0 = w_GREATER_THAN then (1 : Int32) else (if o0 = w_GREATER_THAN_EQUAL then (1 : Int32) else (if o0 = w_LESS_THAN then (1 : Int32) else (if o0 = w_LESS_THAN_EQUAL then (1 : Int32) else (if o0 = w_AFTER then (1 : Int32) else (if o0 = w_BEFORE then (1 : Int32) else (if o0 = w_BETWEEN then (1 : Int32) else (0 : Int32))))))))
def Q_ord (Z : State) (w_EQUALS : Addr) (w_NOT : Addr) (w_GREATER_THAN : Addr) (w_GREATER_THAN_EQUAL : Addr) (w_LESS_THAN : Addr) (w_LESS_THAN_EQUAL : Addr) (w_AFTER : Addr) (w_BEFORE : Addr) (w_BETWEEN : Addr) (w_IN : Addr) (w_NOT_IN : Addr) (w_IS_NULL : Addr) (w_IS_NOT_NULL : Addr) (w_TRUE : Addr) (w_FALSE : Addr) (w_EXISTS : Addr) (w_STARTING_WITH : Addr) (w_ENDING_WITH : Addr) (w_CONTAINING : Addr) (w_NOT_CONTAINING : Addr) (w_LIKE : Addr) (w_NOT_LIKE : Addr) (w_REGEX : Addr) (w_NEAR : Addr) (w_WITHIN : Addr) (w_IGNORE_CASE : Addr) (o0 : Addr) (h0 : Heap) (n0 : Nat) (v : Option Value) (h : Heap) (L : List Loc) : Prop := v = some (.int (f_ord w_EQUALS w_NOT w_GREATER_THAN w_GREATER_THAN_EQUAL w_LESS_THAN w_LESS_THAN_EQUAL w_AFTER w_BEFORE w_BETWEEN w_IN w_NOT_IN w_IS_NULL w_IS_NOT_NULL w_TRUE w_FALSE w_EXISTS w_STARTING_WITH w_ENDING_WITH w_CONTAINING w_NOT_CONTAINING w_LIKE w_NOT_LIKE w_REGEX w_NEAR w_WITHIN w_IGNORE_CASE o0)) ∧ Fr n0 L ∧ h = h0
set_option maxRecDepth 65536 in
set_option maxHeartbeats 40000000 in
theorem rm_ord (l : Launch) (Z : State) (a0 : Array Value) (hw : ∀ d ∈ tables_1, d.before a0 Z = true) (ws : List Jvm.Cond) (w_EQUALS : Addr) (w_NOT : Addr) (w_GREATER_THAN : Addr) (w_GREATER_THAN_EQUAL : Addr) (w_LESS_THAN : Addr) (w_LESS_THAN_EQUAL : Addr) (w_AFTER : Addr) (w_BEFORE : Addr) (w_BETWEEN : Addr) (w_IN : Addr) (w_NOT_IN : Addr) (w_IS_NULL : Addr) (w_IS_NOT_NULL : Addr) (w_TRUE : Addr) (w_FALSE : Addr) (w_EXISTS : Addr) (w_STARTING_WITH : Addr) (w_ENDING_WITH : Addr) (w_CONTAINING : Addr) (w_NOT_CONTAINING : Addr) (w_LIKE : Addr) (w_NOT_LIKE : Addr) (w_REGEX : Addr) (w_NEAR : Addr) (w_WITHIN : Addr) (w_IGNORE_CASE : Addr) (o0 : Addr) (h0 : Heap) (n0 : Nat) (Z0 : n0 ≤ h0.size) (ST : own_St Z w_EQUALS w_NOT w_GREATER_THAN w_GREATER_THAN_EQUAL w_LESS_THAN w_LESS_THAN_EQUAL w_AFTER w_BEFORE w_BETWEEN w_IN w_NOT_IN w_IS_NULL w_IS_NOT_NULL w_TRUE w_FALSE w_EXISTS w_STARTING_WITH w_ENDING_WITH w_CONTAINING w_NOT_CONTAINING w_LIKE w_NOT_LIKE w_REGEX w_NEAR w_WITHIN w_IGNORE_CASE) (O0 : Old Z n0 h0) :
    MetFree l y_0 (head1 (Jvm.Cond.code y_0 prog_45_method_7_code 1 (some .boolean) :: ws) rr_ord) (fun a U => a = #[(.ref o0)] ∧ Z.Warmed39 U.vm ∧ U.heap = h0) (fun _ _ _ _ _ => True) (fun _ U o U' => ∃ v L, o = .returned v ∧ Q_ord Z w_EQUALS w_NOT w_GREATER_THAN w_GREATER_THAN_EQUAL w_LESS_THAN w_LESS_THAN_EQUAL w_AFTER w_BEFORE w_BETWEEN w_IN w_NOT_IN w_IS_NULL w_IS_NOT_NULL w_TRUE w_FALSE w_EXISTS w_STARTING_WITH w_ENDING_WITH w_CONTAINING w_NOT_CONTAINING w_LIKE w_NOT_LIKE w_REGEX w_NEAR w_WITHIN w_IGNORE_CASE o0 h0 n0 v U'.heap L ∧ FrameEnd U o U' L rr_ord.cells rr_ord.slots) := by
  refine MetFree.of_bodySF (plainFor_of_name pn_0) hisR ?_
  intro p e s m args below meth c s₁ Bd hml0 hP hK
  obtain ⟨rfl, hZ, hh⟩ := hP
  have hx := Bd.exec
  have hby := Bd.bytes
  have hml : c.maxLocals = 1 := hml0
  have hown : s.vm.findClass cn_0 = some m.cls := findClass_of_methodNamed Bd.named
  have hnm := (name_of_methodNamed Bd.named Bd.method).1
  have X0 : Stand p l e rr_ord s m #[(.ref o0)] below meth c s₁ [] 0 0 := Stand.of_body Bd
  have e0 : s₁.heap = h0 := by rw [← hh, Bd.state]; rfl
  have N0 := Fr.nil n0
  obtain ⟨G, step, ret, fin⟩ := own_open (p := p) (l := l) (e := e) (R := rr_ord) (s := s) (m := m) (args := #[(.ref o0)]) (below := below) (meth := meth) (c := c) (rr_ord.cells) (rr_ord.slots) (Q_ord Z w_EQUALS w_NOT w_GREATER_THAN w_GREATER_THAN_EQUAL w_LESS_THAN w_LESS_THAN_EQUAL w_AFTER w_BEFORE w_BETWEEN w_IN w_NOT_IN w_IS_NULL w_IS_NOT_NULL w_TRUE w_FALSE w_EXISTS w_STARTING_WITH w_ENDING_WITH w_CONTAINING w_NOT_CONTAINING w_LIKE w_NOT_LIKE w_REGEX w_NEAR w_WITHIN w_IGNORE_CASE o0 h0 n0) Bd.notSynchronized
  refine fin (g := entryFrame m #[(.ref o0)] 1) ?_
  rw [ef_ord m o0]
  show G s₁ (mkF m 0 #[.val (.ref o0)] [])
  refine step (fun t k => XS.aloadN X0.here hx rfl (hb hby d0_0) rfl rfl k) ?_
  show G s₁ (mkF m 1 #[.val (.ref o0)] [(.ref o0)])
  obtain ⟨T1, X1, e1, st1⟩ := getS2 X0 hx hZ hown (host := "") (Or.inl (ww62 hw)) Via.refl e0 (Sta.ext O0.2 ST.k4) (g := (mkF m 1 #[.val (.ref o0)] [(.ref o0)])) rfl (hb hby d0_1)
  refine step st1 ?_
  show G T1 (mkF m 4 #[.val (.ref o0)] [(.ref w_GREATER_THAN), (.ref o0)])
  by_cases hc2 : o0 = w_GREATER_THAN
  · skip
    refine step (fun t k => Jvm.RoadKit.acmp X1 hx rfl rfl rfl (pc0 := 4) (pc' := 49) (same := true) rfl (hb hby d0_4) rfl (decide_eq_true (congrArg Value.ref hc2)) (by decide) (by decide) k) ?_
    show G T1 (mkF m 49 #[.val (.ref o0)] [])
    refine step (fun t k => XS.iconst X1.here hx rfl (hb hby d0_49) k) ?_
    show G T1 (mkF m 50 #[.val (.ref o0)] [(.int 1)])
    refine step (fun t k => XS.goto X1.here hx rfl (pc0 := 50) (pc' := 54) rfl (hb hby d0_50) (by decide) (by decide) k) ?_
    show G T1 (mkF m 54 #[.val (.ref o0)] [(.int 1)])
    exact ret (v := some (.int 1)) X1 (fun h => by rw [Bd.returns] at h; cases h) (fun fs hr => retN X1 hx (t := .boolean) Bd.returns (by simp) (hb hby d0_54) hr) e1 ⟨by unfold f_ord; rw [if_pos hc2], N0, rfl⟩ (by decide) (by decide)
  · skip
    refine step (fun t k => Jvm.RoadKit.acmp X1 hx rfl rfl rfl (pc0 := 4) (pc' := 7) (same := false) rfl (hb hby d0_4) rfl (decide_eq_false fun q => hc2 (Value.ref.inj q)) (by decide) (by decide) k) ?_
    show G T1 (mkF m 7 #[.val (.ref o0)] [])
    refine step (fun t k => XS.aloadN X1.here hx rfl (hb hby d0_7) rfl rfl k) ?_
    show G T1 (mkF m 8 #[.val (.ref o0)] [(.ref o0)])
    obtain ⟨T3, X3, e3, st3⟩ := getS2 X1 hx hZ hown (host := "") (Or.inl (ww63 hw)) Via.refl e1 (Sta.ext O0.2 ST.k6) (g := (mkF m 8 #[.val (.ref o0)] [(.ref o0)])) rfl (hb hby d0_8)
    refine step st3 ?_
    show G T3 (mkF m 11 #[.val (.ref o0)] [(.ref w_GREATER_THAN_EQUAL), (.ref o0)])
    by_cases hc4 : o0 = w_GREATER_THAN_EQUAL
    · skip
      refine step (fun t k => Jvm.RoadKit.acmp X3 hx rfl rfl rfl (pc0 := 11) (pc' := 49) (same := true) rfl (hb hby d0_11) rfl (decide_eq_true (congrArg Value.ref hc4)) (by decide) (by decide) k) ?_
      show G T3 (mkF m 49 #[.val (.ref o0)] [])
      refine step (fun t k => XS.iconst X3.here hx rfl (hb hby d0_49) k) ?_
      show G T3 (mkF m 50 #[.val (.ref o0)] [(.int 1)])
      refine step (fun t k => XS.goto X3.here hx rfl (pc0 := 50) (pc' := 54) rfl (hb hby d0_50) (by decide) (by decide) k) ?_
      show G T3 (mkF m 54 #[.val (.ref o0)] [(.int 1)])
      exact ret (v := some (.int 1)) X3 (fun h => by rw [Bd.returns] at h; cases h) (fun fs hr => retN X3 hx (t := .boolean) Bd.returns (by simp) (hb hby d0_54) hr) e3 ⟨by unfold f_ord; rw [if_neg hc2, if_pos hc4], N0, rfl⟩ (by decide) (by decide)
    · skip
      refine step (fun t k => Jvm.RoadKit.acmp X3 hx rfl rfl rfl (pc0 := 11) (pc' := 14) (same := false) rfl (hb hby d0_11) rfl (decide_eq_false fun q => hc4 (Value.ref.inj q)) (by decide) (by decide) k) ?_
      show G T3 (mkF m 14 #[.val (.ref o0)] [])
      refine step (fun t k => XS.aloadN X3.here hx rfl (hb hby d0_14) rfl rfl k) ?_
      show G T3 (mkF m 15 #[.val (.ref o0)] [(.ref o0)])
      obtain ⟨T5, X5, e5, st5⟩ := getS2 X3 hx hZ hown (host := "") (Or.inl (ww64 hw)) Via.refl e3 (Sta.ext O0.2 ST.k8) (g := (mkF m 15 #[.val (.ref o0)] [(.ref o0)])) rfl (hb hby d0_15)
      refine step st5 ?_
      show G T5 (mkF m 18 #[.val (.ref o0)] [(.ref w_LESS_THAN), (.ref o0)])
      by_cases hc6 : o0 = w_LESS_THAN
      · skip
        refine step (fun t k => Jvm.RoadKit.acmp X5 hx rfl rfl rfl (pc0 := 18) (pc' := 49) (same := true) rfl (hb hby d0_18) rfl (decide_eq_true (congrArg Value.ref hc6)) (by decide) (by decide) k) ?_
        show G T5 (mkF m 49 #[.val (.ref o0)] [])
        refine step (fun t k => XS.iconst X5.here hx rfl (hb hby d0_49) k) ?_
        show G T5 (mkF m 50 #[.val (.ref o0)] [(.int 1)])
        refine step (fun t k => XS.goto X5.here hx rfl (pc0 := 50) (pc' := 54) rfl (hb hby d0_50) (by decide) (by decide) k) ?_
        show G T5 (mkF m 54 #[.val (.ref o0)] [(.int 1)])
        exact ret (v := some (.int 1)) X5 (fun h => by rw [Bd.returns] at h; cases h) (fun fs hr => retN X5 hx (t := .boolean) Bd.returns (by simp) (hb hby d0_54) hr) e5 ⟨by unfold f_ord; rw [if_neg hc2, if_neg hc4, if_pos hc6], N0, rfl⟩ (by decide) (by decide)
      · skip
        refine step (fun t k => Jvm.RoadKit.acmp X5 hx rfl rfl rfl (pc0 := 18) (pc' := 21) (same := false) rfl (hb hby d0_18) rfl (decide_eq_false fun q => hc6 (Value.ref.inj q)) (by decide) (by decide) k) ?_
        show G T5 (mkF m 21 #[.val (.ref o0)] [])
        refine step (fun t k => XS.aloadN X5.here hx rfl (hb hby d0_21) rfl rfl k) ?_
        show G T5 (mkF m 22 #[.val (.ref o0)] [(.ref o0)])
        obtain ⟨T7, X7, e7, st7⟩ := getS2 X5 hx hZ hown (host := "") (Or.inl (ww65 hw)) Via.refl e5 (Sta.ext O0.2 ST.k10) (g := (mkF m 22 #[.val (.ref o0)] [(.ref o0)])) rfl (hb hby d0_22)
        refine step st7 ?_
        show G T7 (mkF m 25 #[.val (.ref o0)] [(.ref w_LESS_THAN_EQUAL), (.ref o0)])
        by_cases hc8 : o0 = w_LESS_THAN_EQUAL
        · skip
          refine step (fun t k => Jvm.RoadKit.acmp X7 hx rfl rfl rfl (pc0 := 25) (pc' := 49) (same := true) rfl (hb hby d0_25) rfl (decide_eq_true (congrArg Value.ref hc8)) (by decide) (by decide) k) ?_
          show G T7 (mkF m 49 #[.val (.ref o0)] [])
          refine step (fun t k => XS.iconst X7.here hx rfl (hb hby d0_49) k) ?_
          show G T7 (mkF m 50 #[.val (.ref o0)] [(.int 1)])
          refine step (fun t k => XS.goto X7.here hx rfl (pc0 := 50) (pc' := 54) rfl (hb hby d0_50) (by decide) (by decide) k) ?_
          show G T7 (mkF m 54 #[.val (.ref o0)] [(.int 1)])
          exact ret (v := some (.int 1)) X7 (fun h => by rw [Bd.returns] at h; cases h) (fun fs hr => retN X7 hx (t := .boolean) Bd.returns (by simp) (hb hby d0_54) hr) e7 ⟨by unfold f_ord; rw [if_neg hc2, if_neg hc4, if_neg hc6, if_pos hc8], N0, rfl⟩ (by decide) (by decide)
        · skip
          refine step (fun t k => Jvm.RoadKit.acmp X7 hx rfl rfl rfl (pc0 := 25) (pc' := 28) (same := false) rfl (hb hby d0_25) rfl (decide_eq_false fun q => hc8 (Value.ref.inj q)) (by decide) (by decide) k) ?_
          show G T7 (mkF m 28 #[.val (.ref o0)] [])
          refine step (fun t k => XS.aloadN X7.here hx rfl (hb hby d0_28) rfl rfl k) ?_
          show G T7 (mkF m 29 #[.val (.ref o0)] [(.ref o0)])
          obtain ⟨T9, X9, e9, st9⟩ := getS2 X7 hx hZ hown (host := "") (Or.inl (ww66 hw)) Via.refl e7 (Sta.ext O0.2 ST.k12) (g := (mkF m 29 #[.val (.ref o0)] [(.ref o0)])) rfl (hb hby d0_29)
          refine step st9 ?_
          show G T9 (mkF m 32 #[.val (.ref o0)] [(.ref w_AFTER), (.ref o0)])
          by_cases hc10 : o0 = w_AFTER
          · skip
            refine step (fun t k => Jvm.RoadKit.acmp X9 hx rfl rfl rfl (pc0 := 32) (pc' := 49) (same := true) rfl (hb hby d0_32) rfl (decide_eq_true (congrArg Value.ref hc10)) (by decide) (by decide) k) ?_
            show G T9 (mkF m 49 #[.val (.ref o0)] [])
            refine step (fun t k => XS.iconst X9.here hx rfl (hb hby d0_49) k) ?_
            show G T9 (mkF m 50 #[.val (.ref o0)] [(.int 1)])
            refine step (fun t k => XS.goto X9.here hx rfl (pc0 := 50) (pc' := 54) rfl (hb hby d0_50) (by decide) (by decide) k) ?_
            show G T9 (mkF m 54 #[.val (.ref o0)] [(.int 1)])
            exact ret (v := some (.int 1)) X9 (fun h => by rw [Bd.returns] at h; cases h) (fun fs hr => retN X9 hx (t := .boolean) Bd.returns (by simp) (hb hby d0_54) hr) e9 ⟨by unfold f_ord; rw [if_neg hc2, if_neg hc4, if_neg hc6, if_neg hc8, if_pos hc10], N0, rfl⟩ (by decide) (by decide)
          · skip
            refine step (fun t k => Jvm.RoadKit.acmp X9 hx rfl rfl rfl (pc0 := 32) (pc' := 35) (same := false) rfl (hb hby d0_32) rfl (decide_eq_false fun q => hc10 (Value.ref.inj q)) (by decide) (by decide) k) ?_
            show G T9 (mkF m 35 #[.val (.ref o0)] [])
            refine step (fun t k => XS.aloadN X9.here hx rfl (hb hby d0_35) rfl rfl k) ?_
            show G T9 (mkF m 36 #[.val (.ref o0)] [(.ref o0)])
            obtain ⟨T11, X11, e11, st11⟩ := getS2 X9 hx hZ hown (host := "") (Or.inl (ww67 hw)) Via.refl e9 (Sta.ext O0.2 ST.k14) (g := (mkF m 36 #[.val (.ref o0)] [(.ref o0)])) rfl (hb hby d0_36)
            refine step st11 ?_
            show G T11 (mkF m 39 #[.val (.ref o0)] [(.ref w_BEFORE), (.ref o0)])
            by_cases hc12 : o0 = w_BEFORE
            · skip
              refine step (fun t k => Jvm.RoadKit.acmp X11 hx rfl rfl rfl (pc0 := 39) (pc' := 49) (same := true) rfl (hb hby d0_39) rfl (decide_eq_true (congrArg Value.ref hc12)) (by decide) (by decide) k) ?_
              show G T11 (mkF m 49 #[.val (.ref o0)] [])
              refine step (fun t k => XS.iconst X11.here hx rfl (hb hby d0_49) k) ?_
              show G T11 (mkF m 50 #[.val (.ref o0)] [(.int 1)])
              refine step (fun t k => XS.goto X11.here hx rfl (pc0 := 50) (pc' := 54) rfl (hb hby d0_50) (by decide) (by decide) k) ?_
              show G T11 (mkF m 54 #[.val (.ref o0)] [(.int 1)])
              exact ret (v := some (.int 1)) X11 (fun h => by rw [Bd.returns] at h; cases h) (fun fs hr => retN X11 hx (t := .boolean) Bd.returns (by simp) (hb hby d0_54) hr) e11 ⟨by unfold f_ord; rw [if_neg hc2, if_neg hc4, if_neg hc6, if_neg hc8, if_neg hc10, if_pos hc12], N0, rfl⟩ (by decide) (by decide)
            · skip
              refine step (fun t k => Jvm.RoadKit.acmp X11 hx rfl rfl rfl (pc0 := 39) (pc' := 42) (same := false) rfl (hb hby d0_39) rfl (decide_eq_false fun q => hc12 (Value.ref.inj q)) (by decide) (by decide) k) ?_
              show G T11 (mkF m 42 #[.val (.ref o0)] [])
              refine step (fun t k => XS.aloadN X11.here hx rfl (hb hby d0_42) rfl rfl k) ?_
              show G T11 (mkF m 43 #[.val (.ref o0)] [(.ref o0)])
              obtain ⟨T13, X13, e13, st13⟩ := getS2 X11 hx hZ hown (host := "") (Or.inl (ww68 hw)) Via.refl e11 (Sta.ext O0.2 ST.k16) (g := (mkF m 43 #[.val (.ref o0)] [(.ref o0)])) rfl (hb hby d0_43)
              refine step st13 ?_
              show G T13 (mkF m 46 #[.val (.ref o0)] [(.ref w_BETWEEN), (.ref o0)])
              by_cases hc14 : o0 = w_BETWEEN
              · skip
                refine step (fun t k => Jvm.RoadKit.acmp X13 hx rfl rfl rfl (pc0 := 46) (pc' := 49) (same := true) rfl (hb hby d0_46) rfl (decide_eq_true (congrArg Value.ref hc14)) (by decide) (by decide) k) ?_
                show G T13 (mkF m 49 #[.val (.ref o0)] [])
                refine step (fun t k => XS.iconst X13.here hx rfl (hb hby d0_49) k) ?_
                show G T13 (mkF m 50 #[.val (.ref o0)] [(.int 1)])
                refine step (fun t k => XS.goto X13.here hx rfl (pc0 := 50) (pc' := 54) rfl (hb hby d0_50) (by decide) (by decide) k) ?_
                show G T13 (mkF m 54 #[.val (.ref o0)] [(.int 1)])
                exact ret (v := some (.int 1)) X13 (fun h => by rw [Bd.returns] at h; cases h) (fun fs hr => retN X13 hx (t := .boolean) Bd.returns (by simp) (hb hby d0_54) hr) e13 ⟨by unfold f_ord; rw [if_neg hc2, if_neg hc4, if_neg hc6, if_neg hc8, if_neg hc10, if_neg hc12, if_pos hc14], N0, rfl⟩ (by decide) (by decide)
              · skip
                refine step (fun t k => Jvm.RoadKit.acmp X13 hx rfl rfl rfl (pc0 := 46) (pc' := 53) (same := false) rfl (hb hby d0_46) rfl (decide_eq_false fun q => hc14 (Value.ref.inj q)) (by decide) (by decide) k) ?_
                show G T13 (mkF m 53 #[.val (.ref o0)] [])
                refine step (fun t k => XS.iconst X13.here hx rfl (hb hby d0_53) k) ?_
                show G T13 (mkF m 54 #[.val (.ref o0)] [(.int 0)])
                exact ret (v := some (.int 0)) X13 (fun h => by rw [Bd.returns] at h; cases h) (fun fs hr => retN X13 hx (t := .boolean) Bd.returns (by simp) (hb hby d0_54) hr) e13 ⟨by unfold f_ord; rw [if_neg hc2, if_neg hc4, if_neg hc6, if_neg hc8, if_neg hc10, if_neg hc12, if_neg hc14], N0, rfl⟩ (by decide) (by decide)
theorem own_split (k : Int32) : ((k &&& (2147483647 : Int32)) % (26 : Int32)) = (0 : Int32) ∨ ((k &&& (2147483647 : Int32)) % (26 : Int32)) = (1 : Int32) ∨ ((k &&& (2147483647 : Int32)) % (26 : Int32)) = (2 : Int32) ∨ ((k &&& (2147483647 : Int32)) % (26 : Int32)) = (3 : Int32) ∨ ((k &&& (2147483647 : Int32)) % (26 : Int32)) = (4 : Int32) ∨ ((k &&& (2147483647 : Int32)) % (26 : Int32)) = (5 : Int32) ∨ ((k &&& (2147483647 : Int32)) % (26 : Int32)) = (6 : Int32) ∨ ((k &&& (2147483647 : Int32)) % (26 : Int32)) = (7 : Int32) ∨ ((k &&& (2147483647 : Int32)) % (26 : Int32)) = (8 : Int32) ∨ ((k &&& (2147483647 : Int32)) % (26 : Int32)) = (9 : Int32) ∨ ((k &&& (2147483647 : Int32)) % (26 : Int32)) = (10 : Int32) ∨ ((k &&& (2147483647 : Int32)) % (26 : Int32)) = (11 : Int32) ∨ ((k &&& (2147483647 : Int32)) % (26 : Int32)) = (12 : Int32) ∨ ((k &&& (2147483647 : Int32)) % (26 : Int32)) = (13 : Int32) ∨ ((k &&& (2147483647 : Int32)) % (26 : Int32)) = (14 : Int32) ∨ ((k &&& (2147483647 : Int32)) % (26 : Int32)) = (15 : Int32) ∨ ((k &&& (2147483647 : Int32)) % (26 : Int32)) = (16 : Int32) ∨ ((k &&& (2147483647 : Int32)) % (26 : Int32)) = (17 : Int32) ∨ ((k &&& (2147483647 : Int32)) % (26 : Int32)) = (18 : Int32) ∨ ((k &&& (2147483647 : Int32)) % (26 : Int32)) = (19 : Int32) ∨ ((k &&& (2147483647 : Int32)) % (26 : Int32)) = (20 : Int32) ∨ ((k &&& (2147483647 : Int32)) % (26 : Int32)) = (21 : Int32) ∨ ((k &&& (2147483647 : Int32)) % (26 : Int32)) = (22 : Int32) ∨ ((k &&& (2147483647 : Int32)) % (26 : Int32)) = (23 : Int32) ∨ ((k &&& (2147483647 : Int32)) % (26 : Int32)) = (24 : Int32) ∨ ((k &&& (2147483647 : Int32)) % (26 : Int32)) = (25 : Int32) := by
  have c1 := c_mask k (2147483647 : Int32) 31 (by decide) (by decide)
  have c2 := c_irem (k &&& (2147483647 : Int32)) (26 : Int32) 26 (by decide)
  have r1 := rng32 k
  have q0 : (0 : Int32).toInt = 0 := by decide
  have q1 : (1 : Int32).toInt = 1 := by decide
  have q2 : (2 : Int32).toInt = 2 := by decide
  have q3 : (3 : Int32).toInt = 3 := by decide
  have q4 : (4 : Int32).toInt = 4 := by decide
  have q5 : (5 : Int32).toInt = 5 := by decide
  have q6 : (6 : Int32).toInt = 6 := by decide
  have q7 : (7 : Int32).toInt = 7 := by decide
  have q8 : (8 : Int32).toInt = 8 := by decide
  have q9 : (9 : Int32).toInt = 9 := by decide
  have q10 : (10 : Int32).toInt = 10 := by decide
  have q11 : (11 : Int32).toInt = 11 := by decide
  have q12 : (12 : Int32).toInt = 12 := by decide
  have q13 : (13 : Int32).toInt = 13 := by decide
  have q14 : (14 : Int32).toInt = 14 := by decide
  have q15 : (15 : Int32).toInt = 15 := by decide
  have q16 : (16 : Int32).toInt = 16 := by decide
  have q17 : (17 : Int32).toInt = 17 := by decide
  have q18 : (18 : Int32).toInt = 18 := by decide
  have q19 : (19 : Int32).toInt = 19 := by decide
  have q20 : (20 : Int32).toInt = 20 := by decide
  have q21 : (21 : Int32).toInt = 21 := by decide
  have q22 : (22 : Int32).toInt = 22 := by decide
  have q23 : (23 : Int32).toInt = 23 := by decide
  have q24 : (24 : Int32).toInt = 24 := by decide
  have q25 : (25 : Int32).toInt = 25 := by decide
  simp only [own_xeq, q0, q1, q2, q3, q4, q5, q6, q7, q8, q9, q10, q11, q12, q13, q14, q15, q16, q17, q18, q19, q20, q21, q22, q23, q24, q25]
  generalize ((k &&& (2147483647 : Int32)) % (26 : Int32)).toInt = d at *
  generalize (k &&& (2147483647 : Int32)).toInt = x at *
  omega
theorem ww0 {Z : State} {a0 : Array Value} (hw : ∀ d ∈ tables_1, d.before a0 Z = true) : Jvm.Cond.before (Jvm.Cond.classLink cn_2 (7 : Nat) cn_0) a0 Z = true := hw _ (List.mem_of_getElem? (i := 0) rfl)
theorem ww1 {Z : State} {a0 : Array Value} (hw : ∀ d ∈ tables_1, d.before a0 Z = true) : Jvm.Cond.before (Jvm.Cond.arrayOver (Jvm.ClassFile.FieldType.object cn_0)) a0 Z = true := hw _ (List.mem_of_getElem? (i := 1) rfl)
theorem ww2 {Z : State} {a0 : Array Value} (hw : ∀ d ∈ tables_1, d.before a0 Z = true) : Jvm.Cond.before (Jvm.Cond.fieldLink cn_2 (9 : Nat) cn_0 "EQUALS" cn_1) a0 Z = true := hw _ (List.mem_of_getElem? (i := 2) rfl)
theorem ww6 {Z : State} {a0 : Array Value} (hw : ∀ d ∈ tables_1, d.before a0 Z = true) : Jvm.Cond.before (Jvm.Cond.fieldLink cn_2 (13 : Nat) cn_0 "NOT" cn_1) a0 Z = true := hw _ (List.mem_of_getElem? (i := 6) rfl)
theorem ww8 {Z : State} {a0 : Array Value} (hw : ∀ d ∈ tables_1, d.before a0 Z = true) : Jvm.Cond.before (Jvm.Cond.fieldLink cn_2 (16 : Nat) cn_0 "GREATER_THAN" cn_1) a0 Z = true := hw _ (List.mem_of_getElem? (i := 8) rfl)
theorem ww10 {Z : State} {a0 : Array Value} (hw : ∀ d ∈ tables_1, d.before a0 Z = true) : Jvm.Cond.before (Jvm.Cond.fieldLink cn_2 (19 : Nat) cn_0 "GREATER_THAN_EQUAL" cn_1) a0 Z = true := hw _ (List.mem_of_getElem? (i := 10) rfl)
theorem ww12 {Z : State} {a0 : Array Value} (hw : ∀ d ∈ tables_1, d.before a0 Z = true) : Jvm.Cond.before (Jvm.Cond.fieldLink cn_2 (22 : Nat) cn_0 "LESS_THAN" cn_1) a0 Z = true := hw _ (List.mem_of_getElem? (i := 12) rfl)
theorem ww14 {Z : State} {a0 : Array Value} (hw : ∀ d ∈ tables_1, d.before a0 Z = true) : Jvm.Cond.before (Jvm.Cond.fieldLink cn_2 (25 : Nat) cn_0 "LESS_THAN_EQUAL" cn_1) a0 Z = true := hw _ (List.mem_of_getElem? (i := 14) rfl)
theorem ww16 {Z : State} {a0 : Array Value} (hw : ∀ d ∈ tables_1, d.before a0 Z = true) : Jvm.Cond.before (Jvm.Cond.fieldLink cn_2 (28 : Nat) cn_0 "AFTER" cn_1) a0 Z = true := hw _ (List.mem_of_getElem? (i := 16) rfl)
theorem ww18 {Z : State} {a0 : Array Value} (hw : ∀ d ∈ tables_1, d.before a0 Z = true) : Jvm.Cond.before (Jvm.Cond.fieldLink cn_2 (31 : Nat) cn_0 "BEFORE" cn_1) a0 Z = true := hw _ (List.mem_of_getElem? (i := 18) rfl)
theorem ww20 {Z : State} {a0 : Array Value} (hw : ∀ d ∈ tables_1, d.before a0 Z = true) : Jvm.Cond.before (Jvm.Cond.fieldLink cn_2 (34 : Nat) cn_0 "BETWEEN" cn_1) a0 Z = true := hw _ (List.mem_of_getElem? (i := 20) rfl)
theorem ww22 {Z : State} {a0 : Array Value} (hw : ∀ d ∈ tables_1, d.before a0 Z = true) : Jvm.Cond.before (Jvm.Cond.fieldLink cn_2 (37 : Nat) cn_0 "IN" cn_1) a0 Z = true := hw _ (List.mem_of_getElem? (i := 22) rfl)
theorem ww24 {Z : State} {a0 : Array Value} (hw : ∀ d ∈ tables_1, d.before a0 Z = true) : Jvm.Cond.before (Jvm.Cond.fieldLink cn_2 (40 : Nat) cn_0 "NOT_IN" cn_1) a0 Z = true := hw _ (List.mem_of_getElem? (i := 24) rfl)
theorem ww26 {Z : State} {a0 : Array Value} (hw : ∀ d ∈ tables_1, d.before a0 Z = true) : Jvm.Cond.before (Jvm.Cond.fieldLink cn_2 (43 : Nat) cn_0 "IS_NULL" cn_1) a0 Z = true := hw _ (List.mem_of_getElem? (i := 26) rfl)
theorem ww28 {Z : State} {a0 : Array Value} (hw : ∀ d ∈ tables_1, d.before a0 Z = true) : Jvm.Cond.before (Jvm.Cond.fieldLink cn_2 (46 : Nat) cn_0 "IS_NOT_NULL" cn_1) a0 Z = true := hw _ (List.mem_of_getElem? (i := 28) rfl)
theorem ww30 {Z : State} {a0 : Array Value} (hw : ∀ d ∈ tables_1, d.before a0 Z = true) : Jvm.Cond.before (Jvm.Cond.fieldLink cn_2 (49 : Nat) cn_0 "TRUE" cn_1) a0 Z = true := hw _ (List.mem_of_getElem? (i := 30) rfl)
theorem ww32 {Z : State} {a0 : Array Value} (hw : ∀ d ∈ tables_1, d.before a0 Z = true) : Jvm.Cond.before (Jvm.Cond.fieldLink cn_2 (52 : Nat) cn_0 "FALSE" cn_1) a0 Z = true := hw _ (List.mem_of_getElem? (i := 32) rfl)
theorem ww34 {Z : State} {a0 : Array Value} (hw : ∀ d ∈ tables_1, d.before a0 Z = true) : Jvm.Cond.before (Jvm.Cond.fieldLink cn_2 (55 : Nat) cn_0 "EXISTS" cn_1) a0 Z = true := hw _ (List.mem_of_getElem? (i := 34) rfl)
theorem ww36 {Z : State} {a0 : Array Value} (hw : ∀ d ∈ tables_1, d.before a0 Z = true) : Jvm.Cond.before (Jvm.Cond.fieldLink cn_2 (58 : Nat) cn_0 "STARTING_WITH" cn_1) a0 Z = true := hw _ (List.mem_of_getElem? (i := 36) rfl)
theorem ww38 {Z : State} {a0 : Array Value} (hw : ∀ d ∈ tables_1, d.before a0 Z = true) : Jvm.Cond.before (Jvm.Cond.fieldLink cn_2 (61 : Nat) cn_0 "ENDING_WITH" cn_1) a0 Z = true := hw _ (List.mem_of_getElem? (i := 38) rfl)
theorem ww40 {Z : State} {a0 : Array Value} (hw : ∀ d ∈ tables_1, d.before a0 Z = true) : Jvm.Cond.before (Jvm.Cond.fieldLink cn_2 (64 : Nat) cn_0 "CONTAINING" cn_1) a0 Z = true := hw _ (List.mem_of_getElem? (i := 40) rfl)
theorem ww42 {Z : State} {a0 : Array Value} (hw : ∀ d ∈ tables_1, d.before a0 Z = true) : Jvm.Cond.before (Jvm.Cond.fieldLink cn_2 (67 : Nat) cn_0 "NOT_CONTAINING" cn_1) a0 Z = true := hw _ (List.mem_of_getElem? (i := 42) rfl)
theorem ww44 {Z : State} {a0 : Array Value} (hw : ∀ d ∈ tables_1, d.before a0 Z = true) : Jvm.Cond.before (Jvm.Cond.fieldLink cn_2 (70 : Nat) cn_0 "LIKE" cn_1) a0 Z = true := hw _ (List.mem_of_getElem? (i := 44) rfl)
theorem ww46 {Z : State} {a0 : Array Value} (hw : ∀ d ∈ tables_1, d.before a0 Z = true) : Jvm.Cond.before (Jvm.Cond.fieldLink cn_2 (73 : Nat) cn_0 "NOT_LIKE" cn_1) a0 Z = true := hw _ (List.mem_of_getElem? (i := 46) rfl)
theorem ww48 {Z : State} {a0 : Array Value} (hw : ∀ d ∈ tables_1, d.before a0 Z = true) : Jvm.Cond.before (Jvm.Cond.fieldLink cn_2 (76 : Nat) cn_0 "REGEX" cn_1) a0 Z = true := hw _ (List.mem_of_getElem? (i := 48) rfl)
theorem ww50 {Z : State} {a0 : Array Value} (hw : ∀ d ∈ tables_1, d.before a0 Z = true) : Jvm.Cond.before (Jvm.Cond.fieldLink cn_2 (79 : Nat) cn_0 "NEAR" cn_1) a0 Z = true := hw _ (List.mem_of_getElem? (i := 50) rfl)
theorem ww52 {Z : State} {a0 : Array Value} (hw : ∀ d ∈ tables_1, d.before a0 Z = true) : Jvm.Cond.before (Jvm.Cond.fieldLink cn_2 (82 : Nat) cn_0 "WITHIN" cn_1) a0 Z = true := hw _ (List.mem_of_getElem? (i := 52) rfl)
theorem ww54 {Z : State} {a0 : Array Value} (hw : ∀ d ∈ tables_1, d.before a0 Z = true) : Jvm.Cond.before (Jvm.Cond.fieldLink cn_2 (85 : Nat) cn_0 "IGNORE_CASE" cn_1) a0 Z = true := hw _ (List.mem_of_getElem? (i := 54) rfl)
theorem ww56 {Z : State} {a0 : Array Value} (hw : ∀ d ∈ tables_1, d.before a0 Z = true) : Jvm.Cond.before (Jvm.Cond.constant cn_2 (88 : Nat) (2147483647 : Int32)) a0 Z = true := hw _ (List.mem_of_getElem? (i := 56) rfl)
theorem ww57 {Z : State} {a0 : Array Value} (hw : ∀ d ∈ tables_1, d.before a0 Z = true) : Jvm.Cond.before (Jvm.Cond.methodLink cn_2 (89 : Nat) ({ cls := cn_0, name := "orders", desc := "()Z" } : Jvm.MethodName)) a0 Z = true := hw _ (List.mem_of_getElem? (i := 57) rfl)
theorem ww60 {Z : State} {a0 : Array Value} (hw : ∀ d ∈ tables_1, d.before a0 Z = true) : Jvm.Cond.before (Jvm.Cond.selects cn_0 ({ cls := cn_0, name := "orders", desc := "()Z" } : Jvm.MethodName) ({ cls := cn_0, name := "orders", desc := "()Z" } : Jvm.MethodName)) a0 Z = true := hw _ (List.mem_of_getElem? (i := 60) rfl)
theorem ww61 {Z : State} {a0 : Array Value} (hw : ∀ d ∈ tables_1, d.before a0 Z = true) : Jvm.Cond.before (Jvm.Cond.code ({ cls := cn_0, name := "orders", desc := "()Z" } : Jvm.MethodName) prog_45_method_7_code (1 : Nat) (Option.some Jvm.ClassFile.FieldType.boolean)) a0 Z = true := hw _ (List.mem_of_getElem? (i := 61) rfl)
theorem pd_0 : parseMethodDescriptor "()Z" = some ⟨[], some .boolean⟩ := by decide +kernel
theorem ww58 {Z : State} {a0 : Array Value} (hw : ∀ d ∈ tables_1, d.before a0 Z = true) : Jvm.Cond.before (Jvm.Cond.declares ({ cls := cn_0, name := "orders", desc := "()Z" } : Jvm.MethodName)) a0 Z = true := hw _ (List.mem_of_getElem? (i := 58) rfl)
theorem ww59 {Z : State} {a0 : Array Value} (hw : ∀ d ∈ tables_1, d.before a0 Z = true) : Jvm.Cond.before (Jvm.Cond.instanceMethod ({ cls := cn_0, name := "orders", desc := "()Z" } : Jvm.MethodName)) a0 Z = true := hw _ (List.mem_of_getElem? (i := 59) rfl)
abbrev y_1 : MethodName := ⟨cn_2, "law", "(I)Z"⟩
theorem pn_1 : plainName cn_2 = true := by first | (simp [plainName, overriddenIn]; done) | decide +kernel
theorem ef_law (m : MethodId) (p0 : Int32) : entryFrame m #[(.int p0)] maxLocals = mkF m 0 #[.val (.int p0), .unset, .unset, .unset] [] := by first | (simp [entryFrame, mkF, argsToLocals, Value.category, maxLocals]; done) | rfl
def Q_law (Z : State) (w_EQUALS : Addr) (w_NOT : Addr) (w_GREATER_THAN : Addr) (w_GREATER_THAN_EQUAL : Addr) (w_LESS_THAN : Addr) (w_LESS_THAN_EQUAL : Addr) (w_AFTER : Addr) (w_BEFORE : Addr) (w_BETWEEN : Addr) (w_IN : Addr) (w_NOT_IN : Addr) (w_IS_NULL : Addr) (w_IS_NOT_NULL : Addr) (w_TRUE : Addr) (w_FALSE : Addr) (w_EXISTS : Addr) (w_STARTING_WITH : Addr) (w_ENDING_WITH : Addr) (w_CONTAINING : Addr) (w_NOT_CONTAINING : Addr) (w_LIKE : Addr) (w_NOT_LIKE : Addr) (w_REGEX : Addr) (w_NEAR : Addr) (w_WITHIN : Addr) (w_IGNORE_CASE : Addr) (p0 : Int32) (h0 : Heap) (n0 : Nat) (v : Option Value) (h : Heap) (L : List Loc) : Prop := v = some (.int 1) ∧ Fr n0 L
set_option maxRecDepth 65536 in
set_option maxHeartbeats 40000000 in
theorem rm_law (l : Launch) (Z : State) (a0 : Array Value) (hw : ∀ d ∈ tables_1, d.before a0 Z = true) (ws : List Jvm.Cond) (w_EQUALS : Addr) (w_NOT : Addr) (w_GREATER_THAN : Addr) (w_GREATER_THAN_EQUAL : Addr) (w_LESS_THAN : Addr) (w_LESS_THAN_EQUAL : Addr) (w_AFTER : Addr) (w_BEFORE : Addr) (w_BETWEEN : Addr) (w_IN : Addr) (w_NOT_IN : Addr) (w_IS_NULL : Addr) (w_IS_NOT_NULL : Addr) (w_TRUE : Addr) (w_FALSE : Addr) (w_EXISTS : Addr) (w_STARTING_WITH : Addr) (w_ENDING_WITH : Addr) (w_CONTAINING : Addr) (w_NOT_CONTAINING : Addr) (w_LIKE : Addr) (w_NOT_LIKE : Addr) (w_REGEX : Addr) (w_NEAR : Addr) (w_WITHIN : Addr) (w_IGNORE_CASE : Addr) (p0 : Int32) (h0 : Heap) (n0 : Nat) (Z0 : n0 ≤ h0.size) (ST : own_St Z w_EQUALS w_NOT w_GREATER_THAN w_GREATER_THAN_EQUAL w_LESS_THAN w_LESS_THAN_EQUAL w_AFTER w_BEFORE w_BETWEEN w_IN w_NOT_IN w_IS_NULL w_IS_NOT_NULL w_TRUE w_FALSE w_EXISTS w_STARTING_WITH w_ENDING_WITH w_CONTAINING w_NOT_CONTAINING w_LIKE w_NOT_LIKE w_REGEX w_NEAR w_WITHIN w_IGNORE_CASE) (O0 : Old Z n0 h0) :
    MetFree l x (head1 (Jvm.Cond.code x code maxLocals ret :: ws) room_1) (fun a U => a = #[(.int p0)] ∧ Z.Warmed39 U.vm ∧ U.heap = h0) (fun _ _ _ _ _ => True) (fun _ U o U' => ∃ v L, o = .returned v ∧ Q_law Z w_EQUALS w_NOT w_GREATER_THAN w_GREATER_THAN_EQUAL w_LESS_THAN w_LESS_THAN_EQUAL w_AFTER w_BEFORE w_BETWEEN w_IN w_NOT_IN w_IS_NULL w_IS_NOT_NULL w_TRUE w_FALSE w_EXISTS w_STARTING_WITH w_ENDING_WITH w_CONTAINING w_NOT_CONTAINING w_LIKE w_NOT_LIKE w_REGEX w_NEAR w_WITHIN w_IGNORE_CASE p0 h0 n0 v U'.heap L ∧ FrameEnd U o U' L 1 26) := by
  refine MetFree.of_bodySF (plainFor_of_name pn_1) hisR ?_
  intro p e s m args below meth c s₁ Bd hml0 hP hK
  obtain ⟨rfl, hZ, hh⟩ := hP
  have hx := Bd.exec
  have hby := Bd.bytes
  have hml : c.maxLocals = 4 := hml0
  have hown : s.vm.findClass cn_2 = some m.cls := findClass_of_methodNamed Bd.named
  have hnm := (name_of_methodNamed Bd.named Bd.method).1
  have X0 : Stand p l e room_1 s m #[(.int p0)] below meth c s₁ [] 0 0 := Stand.of_body Bd
  have e0 : s₁.heap = h0 := by rw [← hh, Bd.state]; rfl
  have N0 := Fr.nil n0
  obtain ⟨G, step, ret, fin⟩ := own_open (p := p) (l := l) (e := e) (R := room_1) (s := s) (m := m) (args := #[(.int p0)]) (below := below) (meth := meth) (c := c) (1) (26) (Q_law Z w_EQUALS w_NOT w_GREATER_THAN w_GREATER_THAN_EQUAL w_LESS_THAN w_LESS_THAN_EQUAL w_AFTER w_BEFORE w_BETWEEN w_IN w_NOT_IN w_IS_NULL w_IS_NOT_NULL w_TRUE w_FALSE w_EXISTS w_STARTING_WITH w_ENDING_WITH w_CONTAINING w_NOT_CONTAINING w_LIKE w_NOT_LIKE w_REGEX w_NEAR w_WITHIN w_IGNORE_CASE p0 h0 n0) Bd.notSynchronized
  refine fin (g := entryFrame m #[(.int p0)] maxLocals) ?_
  rw [ef_law m p0]
  show G s₁ (mkF m 0 #[.val (.int p0), .unset, .unset, .unset] [])
  refine step (fun t k => XS.bipush X0.here hx rfl (hb hby at_0) k) ?_
  show G s₁ (mkF m 2 #[.val (.int p0), .unset, .unset, .unset] [(.int 26)])
  obtain ⟨T1, h1, k1, X1, e1, E1, A1, B1, U1, st1⟩ := newRE X0 hx hZ hown (ww0 hw) (ww1 hw) e0 (g := (mkF m 2 #[.val (.int p0), .unset, .unset, .unset] [(.int 26)])) rfl (hb hby at_2) rfl (by decide) (cap := 26) (by decide) (by decide) (by decide) (by decide) (ad := "[Lcom/example/imbakan/imbakan/query/Keyword;") (by decide)
  obtain ⟨b1, g1⟩ : ∃ z, z = h0.size := ⟨_, rfl⟩
  rw [← g1] at A1 B1 st1
  have V1 : Arv Z h1 b1 k1 (.object cn_0) (26 : Int32) [.null, .null, .null, .null, .null, .null, .null, .null, .null, .null, .null, .null, .null, .null, .null, .null, .null, .null, .null, .null, .null, .null, .null, .null, .null, .null] .null := (Arv.new A1 (by decide)).pad (pad_rep [] .null 26)
  have ge_b1 : n0 ≤ b1 := Nat.le_trans (own_old_le O0) (Nat.le_of_eq g1.symm)
  have O1 := O0.ext E1
  refine step st1 ?_
  show G T1 (mkF m 5 #[.val (.int p0), .unset, .unset, .unset] [(.ref b1)])
  refine step (fun t k => XS.dup X1.here hx rfl (hb hby at_5) rfl rfl k) ?_
  show G T1 (mkF m 6 #[.val (.int p0), .unset, .unset, .unset] [(.ref b1), (.ref b1)])
  refine step (fun t k => XS.iconst X1.here hx rfl (hb hby at_6) k) ?_
  show G T1 (mkF m 7 #[.val (.int p0), .unset, .unset, .unset] [(.int 0), (.ref b1), (.ref b1)])
  obtain ⟨T2, X2, e2, st2⟩ := getS2 X1 hx hZ hown (host := "") (Or.inl (ww2 hw)) Via.refl e1 (Sta.ext O1.2 ST.k0) (g := (mkF m 7 #[.val (.int p0), .unset, .unset, .unset] [(.int 0), (.ref b1), (.ref b1)])) rfl (hb hby at_7)
  refine step st2 ?_
  show G T2 (mkF m 10 #[.val (.int p0), .unset, .unset, .unset] [(.ref w_EQUALS), (.int 0), (.ref b1), (.ref b1)])
  obtain ⟨T3, h3, X3, e3, W3, V3, st3⟩ := own_stR X2 hx hZ e2 V1 (j := (0 : Int32)) (by decide) (i := 0) rfl (by show 0 < 26; decide) (fun A q => Sto.ofV A q U1 (Ins.self (Exa.ext O1.2 ST.k1))) (g := (mkF m 10 #[.val (.int p0), .unset, .unset, .unset] [(.ref w_EQUALS), (.int 0), (.ref b1), (.ref b1)])) rfl rfl (hb hby at_10)
  replace V3 : Arv Z h3 b1 k1 (.object cn_0) (26 : Int32) [(.ref w_EQUALS), .null, .null, .null, .null, .null, .null, .null, .null, .null, .null, .null, .null, .null, .null, .null, .null, .null, .null, .null, .null, .null, .null, .null, .null, .null] .null := V3
  have N3 := Fr.snoc X3 N0 ge_b1
  obtain ⟨lc3, X3, N3⟩ := own_gen X3 N3
  have O3 := O1.wr W3 ge_b1
  refine step st3 ?_
  show G T3 (mkF m 11 #[.val (.int p0), .unset, .unset, .unset] [(.ref b1)])
  refine step (fun t k => XS.dup X3.here hx rfl (hb hby at_11) rfl rfl k) ?_
  show G T3 (mkF m 12 #[.val (.int p0), .unset, .unset, .unset] [(.ref b1), (.ref b1)])
  refine step (fun t k => XS.iconst X3.here hx rfl (hb hby at_12) k) ?_
  show G T3 (mkF m 13 #[.val (.int p0), .unset, .unset, .unset] [(.int 1), (.ref b1), (.ref b1)])
  obtain ⟨T4, X4, e4, st4⟩ := getS2 X3 hx hZ hown (host := "") (Or.inl (ww6 hw)) Via.refl e3 (Sta.ext O3.2 ST.k2) (g := (mkF m 13 #[.val (.int p0), .unset, .unset, .unset] [(.int 1), (.ref b1), (.ref b1)])) rfl (hb hby at_13)
  refine step st4 ?_
  show G T4 (mkF m 16 #[.val (.int p0), .unset, .unset, .unset] [(.ref w_NOT), (.int 1), (.ref b1), (.ref b1)])
  obtain ⟨T5, h5, X5, e5, W5, V5, st5⟩ := own_stR X4 hx hZ e4 V3 (j := (1 : Int32)) (by decide) (i := 1) rfl (by show 1 < 26; decide) (fun A q => Sto.ofV A q U1 (Ins.self (Exa.ext O3.2 ST.k3))) (g := (mkF m 16 #[.val (.int p0), .unset, .unset, .unset] [(.ref w_NOT), (.int 1), (.ref b1), (.ref b1)])) rfl rfl (hb hby at_16)
  replace V5 : Arv Z h5 b1 k1 (.object cn_0) (26 : Int32) [(.ref w_EQUALS), (.ref w_NOT), .null, .null, .null, .null, .null, .null, .null, .null, .null, .null, .null, .null, .null, .null, .null, .null, .null, .null, .null, .null, .null, .null, .null, .null] .null := V5
  have N5 := Fr.snoc X5 N3 ge_b1
  obtain ⟨lc5, X5, N5⟩ := own_gen X5 N5
  have O5 := O3.wr W5 ge_b1
  refine step st5 ?_
  show G T5 (mkF m 17 #[.val (.int p0), .unset, .unset, .unset] [(.ref b1)])
  refine step (fun t k => XS.dup X5.here hx rfl (hb hby at_17) rfl rfl k) ?_
  show G T5 (mkF m 18 #[.val (.int p0), .unset, .unset, .unset] [(.ref b1), (.ref b1)])
  refine step (fun t k => XS.iconst X5.here hx rfl (hb hby at_18) k) ?_
  show G T5 (mkF m 19 #[.val (.int p0), .unset, .unset, .unset] [(.int 2), (.ref b1), (.ref b1)])
  obtain ⟨T6, X6, e6, st6⟩ := getS2 X5 hx hZ hown (host := "") (Or.inl (ww8 hw)) Via.refl e5 (Sta.ext O5.2 ST.k4) (g := (mkF m 19 #[.val (.int p0), .unset, .unset, .unset] [(.int 2), (.ref b1), (.ref b1)])) rfl (hb hby at_19)
  refine step st6 ?_
  show G T6 (mkF m 22 #[.val (.int p0), .unset, .unset, .unset] [(.ref w_GREATER_THAN), (.int 2), (.ref b1), (.ref b1)])
  obtain ⟨T7, h7, X7, e7, W7, V7, st7⟩ := own_stR X6 hx hZ e6 V5 (j := (2 : Int32)) (by decide) (i := 2) rfl (by show 2 < 26; decide) (fun A q => Sto.ofV A q U1 (Ins.self (Exa.ext O5.2 ST.k5))) (g := (mkF m 22 #[.val (.int p0), .unset, .unset, .unset] [(.ref w_GREATER_THAN), (.int 2), (.ref b1), (.ref b1)])) rfl rfl (hb hby at_22)
  replace V7 : Arv Z h7 b1 k1 (.object cn_0) (26 : Int32) [(.ref w_EQUALS), (.ref w_NOT), (.ref w_GREATER_THAN), .null, .null, .null, .null, .null, .null, .null, .null, .null, .null, .null, .null, .null, .null, .null, .null, .null, .null, .null, .null, .null, .null, .null] .null := V7
  have N7 := Fr.snoc X7 N5 ge_b1
  obtain ⟨lc7, X7, N7⟩ := own_gen X7 N7
  have O7 := O5.wr W7 ge_b1
  refine step st7 ?_
  show G T7 (mkF m 23 #[.val (.int p0), .unset, .unset, .unset] [(.ref b1)])
  refine step (fun t k => XS.dup X7.here hx rfl (hb hby at_23) rfl rfl k) ?_
  show G T7 (mkF m 24 #[.val (.int p0), .unset, .unset, .unset] [(.ref b1), (.ref b1)])
  refine step (fun t k => XS.iconst X7.here hx rfl (hb hby at_24) k) ?_
  show G T7 (mkF m 25 #[.val (.int p0), .unset, .unset, .unset] [(.int 3), (.ref b1), (.ref b1)])
  obtain ⟨T8, X8, e8, st8⟩ := getS2 X7 hx hZ hown (host := "") (Or.inl (ww10 hw)) Via.refl e7 (Sta.ext O7.2 ST.k6) (g := (mkF m 25 #[.val (.int p0), .unset, .unset, .unset] [(.int 3), (.ref b1), (.ref b1)])) rfl (hb hby at_25)
  refine step st8 ?_
  show G T8 (mkF m 28 #[.val (.int p0), .unset, .unset, .unset] [(.ref w_GREATER_THAN_EQUAL), (.int 3), (.ref b1), (.ref b1)])
  obtain ⟨T9, h9, X9, e9, W9, V9, st9⟩ := own_stR X8 hx hZ e8 V7 (j := (3 : Int32)) (by decide) (i := 3) rfl (by show 3 < 26; decide) (fun A q => Sto.ofV A q U1 (Ins.self (Exa.ext O7.2 ST.k7))) (g := (mkF m 28 #[.val (.int p0), .unset, .unset, .unset] [(.ref w_GREATER_THAN_EQUAL), (.int 3), (.ref b1), (.ref b1)])) rfl rfl (hb hby at_28)
  replace V9 : Arv Z h9 b1 k1 (.object cn_0) (26 : Int32) [(.ref w_EQUALS), (.ref w_NOT), (.ref w_GREATER_THAN), (.ref w_GREATER_THAN_EQUAL), .null, .null, .null, .null, .null, .null, .null, .null, .null, .null, .null, .null, .null, .null, .null, .null, .null, .null, .null, .null, .null, .null] .null := V9
  have N9 := Fr.snoc X9 N7 ge_b1
  obtain ⟨lc9, X9, N9⟩ := own_gen X9 N9
  have O9 := O7.wr W9 ge_b1
  refine step st9 ?_
  show G T9 (mkF m 29 #[.val (.int p0), .unset, .unset, .unset] [(.ref b1)])
  refine step (fun t k => XS.dup X9.here hx rfl (hb hby at_29) rfl rfl k) ?_
  show G T9 (mkF m 30 #[.val (.int p0), .unset, .unset, .unset] [(.ref b1), (.ref b1)])
  refine step (fun t k => XS.iconst X9.here hx rfl (hb hby at_30) k) ?_
  show G T9 (mkF m 31 #[.val (.int p0), .unset, .unset, .unset] [(.int 4), (.ref b1), (.ref b1)])
  obtain ⟨T10, X10, e10, st10⟩ := getS2 X9 hx hZ hown (host := "") (Or.inl (ww12 hw)) Via.refl e9 (Sta.ext O9.2 ST.k8) (g := (mkF m 31 #[.val (.int p0), .unset, .unset, .unset] [(.int 4), (.ref b1), (.ref b1)])) rfl (hb hby at_31)
  refine step st10 ?_
  show G T10 (mkF m 34 #[.val (.int p0), .unset, .unset, .unset] [(.ref w_LESS_THAN), (.int 4), (.ref b1), (.ref b1)])
  obtain ⟨T11, h11, X11, e11, W11, V11, st11⟩ := own_stR X10 hx hZ e10 V9 (j := (4 : Int32)) (by decide) (i := 4) rfl (by show 4 < 26; decide) (fun A q => Sto.ofV A q U1 (Ins.self (Exa.ext O9.2 ST.k9))) (g := (mkF m 34 #[.val (.int p0), .unset, .unset, .unset] [(.ref w_LESS_THAN), (.int 4), (.ref b1), (.ref b1)])) rfl rfl (hb hby at_34)
  replace V11 : Arv Z h11 b1 k1 (.object cn_0) (26 : Int32) [(.ref w_EQUALS), (.ref w_NOT), (.ref w_GREATER_THAN), (.ref w_GREATER_THAN_EQUAL), (.ref w_LESS_THAN), .null, .null, .null, .null, .null, .null, .null, .null, .null, .null, .null, .null, .null, .null, .null, .null, .null, .null, .null, .null, .null] .null := V11
  have N11 := Fr.snoc X11 N9 ge_b1
  obtain ⟨lc11, X11, N11⟩ := own_gen X11 N11
  have O11 := O9.wr W11 ge_b1
  refine step st11 ?_
  show G T11 (mkF m 35 #[.val (.int p0), .unset, .unset, .unset] [(.ref b1)])
  refine step (fun t k => XS.dup X11.here hx rfl (hb hby at_35) rfl rfl k) ?_
  show G T11 (mkF m 36 #[.val (.int p0), .unset, .unset, .unset] [(.ref b1), (.ref b1)])
  refine step (fun t k => XS.iconst X11.here hx rfl (hb hby at_36) k) ?_
  show G T11 (mkF m 37 #[.val (.int p0), .unset, .unset, .unset] [(.int 5), (.ref b1), (.ref b1)])
  obtain ⟨T12, X12, e12, st12⟩ := getS2 X11 hx hZ hown (host := "") (Or.inl (ww14 hw)) Via.refl e11 (Sta.ext O11.2 ST.k10) (g := (mkF m 37 #[.val (.int p0), .unset, .unset, .unset] [(.int 5), (.ref b1), (.ref b1)])) rfl (hb hby at_37)
  refine step st12 ?_
  show G T12 (mkF m 40 #[.val (.int p0), .unset, .unset, .unset] [(.ref w_LESS_THAN_EQUAL), (.int 5), (.ref b1), (.ref b1)])
  obtain ⟨T13, h13, X13, e13, W13, V13, st13⟩ := own_stR X12 hx hZ e12 V11 (j := (5 : Int32)) (by decide) (i := 5) rfl (by show 5 < 26; decide) (fun A q => Sto.ofV A q U1 (Ins.self (Exa.ext O11.2 ST.k11))) (g := (mkF m 40 #[.val (.int p0), .unset, .unset, .unset] [(.ref w_LESS_THAN_EQUAL), (.int 5), (.ref b1), (.ref b1)])) rfl rfl (hb hby at_40)
  replace V13 : Arv Z h13 b1 k1 (.object cn_0) (26 : Int32) [(.ref w_EQUALS), (.ref w_NOT), (.ref w_GREATER_THAN), (.ref w_GREATER_THAN_EQUAL), (.ref w_LESS_THAN), (.ref w_LESS_THAN_EQUAL), .null, .null, .null, .null, .null, .null, .null, .null, .null, .null, .null, .null, .null, .null, .null, .null, .null, .null, .null, .null] .null := V13
  have N13 := Fr.snoc X13 N11 ge_b1
  obtain ⟨lc13, X13, N13⟩ := own_gen X13 N13
  have O13 := O11.wr W13 ge_b1
  refine step st13 ?_
  show G T13 (mkF m 41 #[.val (.int p0), .unset, .unset, .unset] [(.ref b1)])
  refine step (fun t k => XS.dup X13.here hx rfl (hb hby at_41) rfl rfl k) ?_
  show G T13 (mkF m 42 #[.val (.int p0), .unset, .unset, .unset] [(.ref b1), (.ref b1)])
  refine step (fun t k => XS.bipush X13.here hx rfl (hb hby at_42) k) ?_
  show G T13 (mkF m 44 #[.val (.int p0), .unset, .unset, .unset] [(.int 6), (.ref b1), (.ref b1)])
  obtain ⟨T14, X14, e14, st14⟩ := getS2 X13 hx hZ hown (host := "") (Or.inl (ww16 hw)) Via.refl e13 (Sta.ext O13.2 ST.k12) (g := (mkF m 44 #[.val (.int p0), .unset, .unset, .unset] [(.int 6), (.ref b1), (.ref b1)])) rfl (hb hby at_44)
  refine step st14 ?_
  show G T14 (mkF m 47 #[.val (.int p0), .unset, .unset, .unset] [(.ref w_AFTER), (.int 6), (.ref b1), (.ref b1)])
  obtain ⟨T15, h15, X15, e15, W15, V15, st15⟩ := own_stR X14 hx hZ e14 V13 (j := (6 : Int32)) (by decide) (i := 6) rfl (by show 6 < 26; decide) (fun A q => Sto.ofV A q U1 (Ins.self (Exa.ext O13.2 ST.k13))) (g := (mkF m 47 #[.val (.int p0), .unset, .unset, .unset] [(.ref w_AFTER), (.int 6), (.ref b1), (.ref b1)])) rfl rfl (hb hby at_47)
  replace V15 : Arv Z h15 b1 k1 (.object cn_0) (26 : Int32) [(.ref w_EQUALS), (.ref w_NOT), (.ref w_GREATER_THAN), (.ref w_GREATER_THAN_EQUAL), (.ref w_LESS_THAN), (.ref w_LESS_THAN_EQUAL), (.ref w_AFTER), .null, .null, .null, .null, .null, .null, .null, .null, .null, .null, .null, .null, .null, .null, .null, .null, .null, .null, .null] .null := V15
  have N15 := Fr.snoc X15 N13 ge_b1
  obtain ⟨lc15, X15, N15⟩ := own_gen X15 N15
  have O15 := O13.wr W15 ge_b1
  refine step st15 ?_
  show G T15 (mkF m 48 #[.val (.int p0), .unset, .unset, .unset] [(.ref b1)])
  refine step (fun t k => XS.dup X15.here hx rfl (hb hby at_48) rfl rfl k) ?_
  show G T15 (mkF m 49 #[.val (.int p0), .unset, .unset, .unset] [(.ref b1), (.ref b1)])
  refine step (fun t k => XS.bipush X15.here hx rfl (hb hby at_49) k) ?_
  show G T15 (mkF m 51 #[.val (.int p0), .unset, .unset, .unset] [(.int 7), (.ref b1), (.ref b1)])
  obtain ⟨T16, X16, e16, st16⟩ := getS2 X15 hx hZ hown (host := "") (Or.inl (ww18 hw)) Via.refl e15 (Sta.ext O15.2 ST.k14) (g := (mkF m 51 #[.val (.int p0), .unset, .unset, .unset] [(.int 7), (.ref b1), (.ref b1)])) rfl (hb hby at_51)
  refine step st16 ?_
  show G T16 (mkF m 54 #[.val (.int p0), .unset, .unset, .unset] [(.ref w_BEFORE), (.int 7), (.ref b1), (.ref b1)])
  obtain ⟨T17, h17, X17, e17, W17, V17, st17⟩ := own_stR X16 hx hZ e16 V15 (j := (7 : Int32)) (by decide) (i := 7) rfl (by show 7 < 26; decide) (fun A q => Sto.ofV A q U1 (Ins.self (Exa.ext O15.2 ST.k15))) (g := (mkF m 54 #[.val (.int p0), .unset, .unset, .unset] [(.ref w_BEFORE), (.int 7), (.ref b1), (.ref b1)])) rfl rfl (hb hby at_54)
  replace V17 : Arv Z h17 b1 k1 (.object cn_0) (26 : Int32) [(.ref w_EQUALS), (.ref w_NOT), (.ref w_GREATER_THAN), (.ref w_GREATER_THAN_EQUAL), (.ref w_LESS_THAN), (.ref w_LESS_THAN_EQUAL), (.ref w_AFTER), (.ref w_BEFORE), .null, .null, .null, .null, .null, .null, .null, .null, .null, .null, .null, .null, .null, .null, .null, .null, .null, .null] .null := V17
  have N17 := Fr.snoc X17 N15 ge_b1
  obtain ⟨lc17, X17, N17⟩ := own_gen X17 N17
  have O17 := O15.wr W17 ge_b1
  refine step st17 ?_
  show G T17 (mkF m 55 #[.val (.int p0), .unset, .unset, .unset] [(.ref b1)])
  refine step (fun t k => XS.dup X17.here hx rfl (hb hby at_55) rfl rfl k) ?_
  show G T17 (mkF m 56 #[.val (.int p0), .unset, .unset, .unset] [(.ref b1), (.ref b1)])
  refine step (fun t k => XS.bipush X17.here hx rfl (hb hby at_56) k) ?_
  show G T17 (mkF m 58 #[.val (.int p0), .unset, .unset, .unset] [(.int 8), (.ref b1), (.ref b1)])
  obtain ⟨T18, X18, e18, st18⟩ := getS2 X17 hx hZ hown (host := "") (Or.inl (ww20 hw)) Via.refl e17 (Sta.ext O17.2 ST.k16) (g := (mkF m 58 #[.val (.int p0), .unset, .unset, .unset] [(.int 8), (.ref b1), (.ref b1)])) rfl (hb hby at_58)
  refine step st18 ?_
  show G T18 (mkF m 61 #[.val (.int p0), .unset, .unset, .unset] [(.ref w_BETWEEN), (.int 8), (.ref b1), (.ref b1)])
  obtain ⟨T19, h19, X19, e19, W19, V19, st19⟩ := own_stR X18 hx hZ e18 V17 (j := (8 : Int32)) (by decide) (i := 8) rfl (by show 8 < 26; decide) (fun A q => Sto.ofV A q U1 (Ins.self (Exa.ext O17.2 ST.k17))) (g := (mkF m 61 #[.val (.int p0), .unset, .unset, .unset] [(.ref w_BETWEEN), (.int 8), (.ref b1), (.ref b1)])) rfl rfl (hb hby at_61)
  replace V19 : Arv Z h19 b1 k1 (.object cn_0) (26 : Int32) [(.ref w_EQUALS), (.ref w_NOT), (.ref w_GREATER_THAN), (.ref w_GREATER_THAN_EQUAL), (.ref w_LESS_THAN), (.ref w_LESS_THAN_EQUAL), (.ref w_AFTER), (.ref w_BEFORE), (.ref w_BETWEEN), .null, .null, .null, .null, .null, .null, .null, .null, .null, .null, .null, .null, .null, .null, .null, .null, .null] .null := V19
  have N19 := Fr.snoc X19 N17 ge_b1
  obtain ⟨lc19, X19, N19⟩ := own_gen X19 N19
  have O19 := O17.wr W19 ge_b1
  refine step st19 ?_
  show G T19 (mkF m 62 #[.val (.int p0), .unset, .unset, .unset] [(.ref b1)])
  refine step (fun t k => XS.dup X19.here hx rfl (hb hby at_62) rfl rfl k) ?_
  show G T19 (mkF m 63 #[.val (.int p0), .unset, .unset, .unset] [(.ref b1), (.ref b1)])
  refine step (fun t k => XS.bipush X19.here hx rfl (hb hby at_63) k) ?_
  show G T19 (mkF m 65 #[.val (.int p0), .unset, .unset, .unset] [(.int 9), (.ref b1), (.ref b1)])
  obtain ⟨T20, X20, e20, st20⟩ := getS2 X19 hx hZ hown (host := "") (Or.inl (ww22 hw)) Via.refl e19 (Sta.ext O19.2 ST.k18) (g := (mkF m 65 #[.val (.int p0), .unset, .unset, .unset] [(.int 9), (.ref b1), (.ref b1)])) rfl (hb hby at_65)
  refine step st20 ?_
  show G T20 (mkF m 68 #[.val (.int p0), .unset, .unset, .unset] [(.ref w_IN), (.int 9), (.ref b1), (.ref b1)])
  obtain ⟨T21, h21, X21, e21, W21, V21, st21⟩ := own_stR X20 hx hZ e20 V19 (j := (9 : Int32)) (by decide) (i := 9) rfl (by show 9 < 26; decide) (fun A q => Sto.ofV A q U1 (Ins.self (Exa.ext O19.2 ST.k19))) (g := (mkF m 68 #[.val (.int p0), .unset, .unset, .unset] [(.ref w_IN), (.int 9), (.ref b1), (.ref b1)])) rfl rfl (hb hby at_68)
  replace V21 : Arv Z h21 b1 k1 (.object cn_0) (26 : Int32) [(.ref w_EQUALS), (.ref w_NOT), (.ref w_GREATER_THAN), (.ref w_GREATER_THAN_EQUAL), (.ref w_LESS_THAN), (.ref w_LESS_THAN_EQUAL), (.ref w_AFTER), (.ref w_BEFORE), (.ref w_BETWEEN), (.ref w_IN), .null, .null, .null, .null, .null, .null, .null, .null, .null, .null, .null, .null, .null, .null, .null, .null] .null := V21
  have N21 := Fr.snoc X21 N19 ge_b1
  obtain ⟨lc21, X21, N21⟩ := own_gen X21 N21
  have O21 := O19.wr W21 ge_b1
  refine step st21 ?_
  show G T21 (mkF m 69 #[.val (.int p0), .unset, .unset, .unset] [(.ref b1)])
  refine step (fun t k => XS.dup X21.here hx rfl (hb hby at_69) rfl rfl k) ?_
  show G T21 (mkF m 70 #[.val (.int p0), .unset, .unset, .unset] [(.ref b1), (.ref b1)])
  refine step (fun t k => XS.bipush X21.here hx rfl (hb hby at_70) k) ?_
  show G T21 (mkF m 72 #[.val (.int p0), .unset, .unset, .unset] [(.int 10), (.ref b1), (.ref b1)])
  obtain ⟨T22, X22, e22, st22⟩ := getS2 X21 hx hZ hown (host := "") (Or.inl (ww24 hw)) Via.refl e21 (Sta.ext O21.2 ST.k20) (g := (mkF m 72 #[.val (.int p0), .unset, .unset, .unset] [(.int 10), (.ref b1), (.ref b1)])) rfl (hb hby at_72)
  refine step st22 ?_
  show G T22 (mkF m 75 #[.val (.int p0), .unset, .unset, .unset] [(.ref w_NOT_IN), (.int 10), (.ref b1), (.ref b1)])
  obtain ⟨T23, h23, X23, e23, W23, V23, st23⟩ := own_stR X22 hx hZ e22 V21 (j := (10 : Int32)) (by decide) (i := 10) rfl (by show 10 < 26; decide) (fun A q => Sto.ofV A q U1 (Ins.self (Exa.ext O21.2 ST.k21))) (g := (mkF m 75 #[.val (.int p0), .unset, .unset, .unset] [(.ref w_NOT_IN), (.int 10), (.ref b1), (.ref b1)])) rfl rfl (hb hby at_75)
  replace V23 : Arv Z h23 b1 k1 (.object cn_0) (26 : Int32) [(.ref w_EQUALS), (.ref w_NOT), (.ref w_GREATER_THAN), (.ref w_GREATER_THAN_EQUAL), (.ref w_LESS_THAN), (.ref w_LESS_THAN_EQUAL), (.ref w_AFTER), (.ref w_BEFORE), (.ref w_BETWEEN), (.ref w_IN), (.ref w_NOT_IN), .null, .null, .null, .null, .null, .null, .null, .null, .null, .null, .null, .null, .null, .null, .null] .null := V23
  have N23 := Fr.snoc X23 N21 ge_b1
  obtain ⟨lc23, X23, N23⟩ := own_gen X23 N23
  have O23 := O21.wr W23 ge_b1
  refine step st23 ?_
  show G T23 (mkF m 76 #[.val (.int p0), .unset, .unset, .unset] [(.ref b1)])
  refine step (fun t k => XS.dup X23.here hx rfl (hb hby at_76) rfl rfl k) ?_
  show G T23 (mkF m 77 #[.val (.int p0), .unset, .unset, .unset] [(.ref b1), (.ref b1)])
  refine step (fun t k => XS.bipush X23.here hx rfl (hb hby at_77) k) ?_
  show G T23 (mkF m 79 #[.val (.int p0), .unset, .unset, .unset] [(.int 11), (.ref b1), (.ref b1)])
  obtain ⟨T24, X24, e24, st24⟩ := getS2 X23 hx hZ hown (host := "") (Or.inl (ww26 hw)) Via.refl e23 (Sta.ext O23.2 ST.k22) (g := (mkF m 79 #[.val (.int p0), .unset, .unset, .unset] [(.int 11), (.ref b1), (.ref b1)])) rfl (hb hby at_79)
  refine step st24 ?_
  show G T24 (mkF m 82 #[.val (.int p0), .unset, .unset, .unset] [(.ref w_IS_NULL), (.int 11), (.ref b1), (.ref b1)])
  obtain ⟨T25, h25, X25, e25, W25, V25, st25⟩ := own_stR X24 hx hZ e24 V23 (j := (11 : Int32)) (by decide) (i := 11) rfl (by show 11 < 26; decide) (fun A q => Sto.ofV A q U1 (Ins.self (Exa.ext O23.2 ST.k23))) (g := (mkF m 82 #[.val (.int p0), .unset, .unset, .unset] [(.ref w_IS_NULL), (.int 11), (.ref b1), (.ref b1)])) rfl rfl (hb hby at_82)
  replace V25 : Arv Z h25 b1 k1 (.object cn_0) (26 : Int32) [(.ref w_EQUALS), (.ref w_NOT), (.ref w_GREATER_THAN), (.ref w_GREATER_THAN_EQUAL), (.ref w_LESS_THAN), (.ref w_LESS_THAN_EQUAL), (.ref w_AFTER), (.ref w_BEFORE), (.ref w_BETWEEN), (.ref w_IN), (.ref w_NOT_IN), (.ref w_IS_NULL), .null, .null, .null, .null, .null, .null, .null, .null, .null, .null, .null, .null, .null, .null] .null := V25
  have N25 := Fr.snoc X25 N23 ge_b1
  obtain ⟨lc25, X25, N25⟩ := own_gen X25 N25
  have O25 := O23.wr W25 ge_b1
  refine step st25 ?_
  show G T25 (mkF m 83 #[.val (.int p0), .unset, .unset, .unset] [(.ref b1)])
  refine step (fun t k => XS.dup X25.here hx rfl (hb hby at_83) rfl rfl k) ?_
  show G T25 (mkF m 84 #[.val (.int p0), .unset, .unset, .unset] [(.ref b1), (.ref b1)])
  refine step (fun t k => XS.bipush X25.here hx rfl (hb hby at_84) k) ?_
  show G T25 (mkF m 86 #[.val (.int p0), .unset, .unset, .unset] [(.int 12), (.ref b1), (.ref b1)])
  obtain ⟨T26, X26, e26, st26⟩ := getS2 X25 hx hZ hown (host := "") (Or.inl (ww28 hw)) Via.refl e25 (Sta.ext O25.2 ST.k24) (g := (mkF m 86 #[.val (.int p0), .unset, .unset, .unset] [(.int 12), (.ref b1), (.ref b1)])) rfl (hb hby at_86)
  refine step st26 ?_
  show G T26 (mkF m 89 #[.val (.int p0), .unset, .unset, .unset] [(.ref w_IS_NOT_NULL), (.int 12), (.ref b1), (.ref b1)])
  obtain ⟨T27, h27, X27, e27, W27, V27, st27⟩ := own_stR X26 hx hZ e26 V25 (j := (12 : Int32)) (by decide) (i := 12) rfl (by show 12 < 26; decide) (fun A q => Sto.ofV A q U1 (Ins.self (Exa.ext O25.2 ST.k25))) (g := (mkF m 89 #[.val (.int p0), .unset, .unset, .unset] [(.ref w_IS_NOT_NULL), (.int 12), (.ref b1), (.ref b1)])) rfl rfl (hb hby at_89)
  replace V27 : Arv Z h27 b1 k1 (.object cn_0) (26 : Int32) [(.ref w_EQUALS), (.ref w_NOT), (.ref w_GREATER_THAN), (.ref w_GREATER_THAN_EQUAL), (.ref w_LESS_THAN), (.ref w_LESS_THAN_EQUAL), (.ref w_AFTER), (.ref w_BEFORE), (.ref w_BETWEEN), (.ref w_IN), (.ref w_NOT_IN), (.ref w_IS_NULL), (.ref w_IS_NOT_NULL), .null, .null, .null, .null, .null, .null, .null, .null, .null, .null, .null, .null, .null] .null := V27
  have N27 := Fr.snoc X27 N25 ge_b1
  obtain ⟨lc27, X27, N27⟩ := own_gen X27 N27
  have O27 := O25.wr W27 ge_b1
  refine step st27 ?_
  show G T27 (mkF m 90 #[.val (.int p0), .unset, .unset, .unset] [(.ref b1)])
  refine step (fun t k => XS.dup X27.here hx rfl (hb hby at_90) rfl rfl k) ?_
  show G T27 (mkF m 91 #[.val (.int p0), .unset, .unset, .unset] [(.ref b1), (.ref b1)])
  refine step (fun t k => XS.bipush X27.here hx rfl (hb hby at_91) k) ?_
  show G T27 (mkF m 93 #[.val (.int p0), .unset, .unset, .unset] [(.int 13), (.ref b1), (.ref b1)])
  obtain ⟨T28, X28, e28, st28⟩ := getS2 X27 hx hZ hown (host := "") (Or.inl (ww30 hw)) Via.refl e27 (Sta.ext O27.2 ST.k26) (g := (mkF m 93 #[.val (.int p0), .unset, .unset, .unset] [(.int 13), (.ref b1), (.ref b1)])) rfl (hb hby at_93)
  refine step st28 ?_
  show G T28 (mkF m 96 #[.val (.int p0), .unset, .unset, .unset] [(.ref w_TRUE), (.int 13), (.ref b1), (.ref b1)])
  obtain ⟨T29, h29, X29, e29, W29, V29, st29⟩ := own_stR X28 hx hZ e28 V27 (j := (13 : Int32)) (by decide) (i := 13) rfl (by show 13 < 26; decide) (fun A q => Sto.ofV A q U1 (Ins.self (Exa.ext O27.2 ST.k27))) (g := (mkF m 96 #[.val (.int p0), .unset, .unset, .unset] [(.ref w_TRUE), (.int 13), (.ref b1), (.ref b1)])) rfl rfl (hb hby at_96)
  replace V29 : Arv Z h29 b1 k1 (.object cn_0) (26 : Int32) [(.ref w_EQUALS), (.ref w_NOT), (.ref w_GREATER_THAN), (.ref w_GREATER_THAN_EQUAL), (.ref w_LESS_THAN), (.ref w_LESS_THAN_EQUAL), (.ref w_AFTER), (.ref w_BEFORE), (.ref w_BETWEEN), (.ref w_IN), (.ref w_NOT_IN), (.ref w_IS_NULL), (.ref w_IS_NOT_NULL), (.ref w_TRUE), .null, .null, .null, .null, .null, .null, .null, .null, .null, .null, .null, .null] .null := V29
  have N29 := Fr.snoc X29 N27 ge_b1
  obtain ⟨lc29, X29, N29⟩ := own_gen X29 N29
  have O29 := O27.wr W29 ge_b1
  refine step st29 ?_
  show G T29 (mkF m 97 #[.val (.int p0), .unset, .unset, .unset] [(.ref b1)])
  refine step (fun t k => XS.dup X29.here hx rfl (hb hby at_97) rfl rfl k) ?_
  show G T29 (mkF m 98 #[.val (.int p0), .unset, .unset, .unset] [(.ref b1), (.ref b1)])
  refine step (fun t k => XS.bipush X29.here hx rfl (hb hby at_98) k) ?_
  show G T29 (mkF m 100 #[.val (.int p0), .unset, .unset, .unset] [(.int 14), (.ref b1), (.ref b1)])
  obtain ⟨T30, X30, e30, st30⟩ := getS2 X29 hx hZ hown (host := "") (Or.inl (ww32 hw)) Via.refl e29 (Sta.ext O29.2 ST.k28) (g := (mkF m 100 #[.val (.int p0), .unset, .unset, .unset] [(.int 14), (.ref b1), (.ref b1)])) rfl (hb hby at_100)
  refine step st30 ?_
  show G T30 (mkF m 103 #[.val (.int p0), .unset, .unset, .unset] [(.ref w_FALSE), (.int 14), (.ref b1), (.ref b1)])
  obtain ⟨T31, h31, X31, e31, W31, V31, st31⟩ := own_stR X30 hx hZ e30 V29 (j := (14 : Int32)) (by decide) (i := 14) rfl (by show 14 < 26; decide) (fun A q => Sto.ofV A q U1 (Ins.self (Exa.ext O29.2 ST.k29))) (g := (mkF m 103 #[.val (.int p0), .unset, .unset, .unset] [(.ref w_FALSE), (.int 14), (.ref b1), (.ref b1)])) rfl rfl (hb hby at_103)
  replace V31 : Arv Z h31 b1 k1 (.object cn_0) (26 : Int32) [(.ref w_EQUALS), (.ref w_NOT), (.ref w_GREATER_THAN), (.ref w_GREATER_THAN_EQUAL), (.ref w_LESS_THAN), (.ref w_LESS_THAN_EQUAL), (.ref w_AFTER), (.ref w_BEFORE), (.ref w_BETWEEN), (.ref w_IN), (.ref w_NOT_IN), (.ref w_IS_NULL), (.ref w_IS_NOT_NULL), (.ref w_TRUE), (.ref w_FALSE), .null, .null, .null, .null, .null, .null, .null, .null, .null, .null, .null] .null := V31
  have N31 := Fr.snoc X31 N29 ge_b1
  obtain ⟨lc31, X31, N31⟩ := own_gen X31 N31
  have O31 := O29.wr W31 ge_b1
  refine step st31 ?_
  show G T31 (mkF m 104 #[.val (.int p0), .unset, .unset, .unset] [(.ref b1)])
  refine step (fun t k => XS.dup X31.here hx rfl (hb hby at_104) rfl rfl k) ?_
  show G T31 (mkF m 105 #[.val (.int p0), .unset, .unset, .unset] [(.ref b1), (.ref b1)])
  refine step (fun t k => XS.bipush X31.here hx rfl (hb hby at_105) k) ?_
  show G T31 (mkF m 107 #[.val (.int p0), .unset, .unset, .unset] [(.int 15), (.ref b1), (.ref b1)])
  obtain ⟨T32, X32, e32, st32⟩ := getS2 X31 hx hZ hown (host := "") (Or.inl (ww34 hw)) Via.refl e31 (Sta.ext O31.2 ST.k30) (g := (mkF m 107 #[.val (.int p0), .unset, .unset, .unset] [(.int 15), (.ref b1), (.ref b1)])) rfl (hb hby at_107)
  refine step st32 ?_
  show G T32 (mkF m 110 #[.val (.int p0), .unset, .unset, .unset] [(.ref w_EXISTS), (.int 15), (.ref b1), (.ref b1)])
  obtain ⟨T33, h33, X33, e33, W33, V33, st33⟩ := own_stR X32 hx hZ e32 V31 (j := (15 : Int32)) (by decide) (i := 15) rfl (by show 15 < 26; decide) (fun A q => Sto.ofV A q U1 (Ins.self (Exa.ext O31.2 ST.k31))) (g := (mkF m 110 #[.val (.int p0), .unset, .unset, .unset] [(.ref w_EXISTS), (.int 15), (.ref b1), (.ref b1)])) rfl rfl (hb hby at_110)
  replace V33 : Arv Z h33 b1 k1 (.object cn_0) (26 : Int32) [(.ref w_EQUALS), (.ref w_NOT), (.ref w_GREATER_THAN), (.ref w_GREATER_THAN_EQUAL), (.ref w_LESS_THAN), (.ref w_LESS_THAN_EQUAL), (.ref w_AFTER), (.ref w_BEFORE), (.ref w_BETWEEN), (.ref w_IN), (.ref w_NOT_IN), (.ref w_IS_NULL), (.ref w_IS_NOT_NULL), (.ref w_TRUE), (.ref w_FALSE), (.ref w_EXISTS), .null, .null, .null, .null, .null, .null, .null, .null, .null, .null] .null := V33
  have N33 := Fr.snoc X33 N31 ge_b1
  obtain ⟨lc33, X33, N33⟩ := own_gen X33 N33
  have O33 := O31.wr W33 ge_b1
  refine step st33 ?_
  show G T33 (mkF m 111 #[.val (.int p0), .unset, .unset, .unset] [(.ref b1)])
  refine step (fun t k => XS.dup X33.here hx rfl (hb hby at_111) rfl rfl k) ?_
  show G T33 (mkF m 112 #[.val (.int p0), .unset, .unset, .unset] [(.ref b1), (.ref b1)])
  refine step (fun t k => XS.bipush X33.here hx rfl (hb hby at_112) k) ?_
  show G T33 (mkF m 114 #[.val (.int p0), .unset, .unset, .unset] [(.int 16), (.ref b1), (.ref b1)])
  obtain ⟨T34, X34, e34, st34⟩ := getS2 X33 hx hZ hown (host := "") (Or.inl (ww36 hw)) Via.refl e33 (Sta.ext O33.2 ST.k32) (g := (mkF m 114 #[.val (.int p0), .unset, .unset, .unset] [(.int 16), (.ref b1), (.ref b1)])) rfl (hb hby at_114)
  refine step st34 ?_
  show G T34 (mkF m 117 #[.val (.int p0), .unset, .unset, .unset] [(.ref w_STARTING_WITH), (.int 16), (.ref b1), (.ref b1)])
  obtain ⟨T35, h35, X35, e35, W35, V35, st35⟩ := own_stR X34 hx hZ e34 V33 (j := (16 : Int32)) (by decide) (i := 16) rfl (by show 16 < 26; decide) (fun A q => Sto.ofV A q U1 (Ins.self (Exa.ext O33.2 ST.k33))) (g := (mkF m 117 #[.val (.int p0), .unset, .unset, .unset] [(.ref w_STARTING_WITH), (.int 16), (.ref b1), (.ref b1)])) rfl rfl (hb hby at_117)
  replace V35 : Arv Z h35 b1 k1 (.object cn_0) (26 : Int32) [(.ref w_EQUALS), (.ref w_NOT), (.ref w_GREATER_THAN), (.ref w_GREATER_THAN_EQUAL), (.ref w_LESS_THAN), (.ref w_LESS_THAN_EQUAL), (.ref w_AFTER), (.ref w_BEFORE), (.ref w_BETWEEN), (.ref w_IN), (.ref w_NOT_IN), (.ref w_IS_NULL), (.ref w_IS_NOT_NULL), (.ref w_TRUE), (.ref w_FALSE), (.ref w_EXISTS), (.ref w_STARTING_WITH), .null, .null, .null, .null, .null, .null, .null, .null, .null] .null := V35
  have N35 := Fr.snoc X35 N33 ge_b1
  obtain ⟨lc35, X35, N35⟩ := own_gen X35 N35
  have O35 := O33.wr W35 ge_b1
  refine step st35 ?_
  show G T35 (mkF m 118 #[.val (.int p0), .unset, .unset, .unset] [(.ref b1)])
  refine step (fun t k => XS.dup X35.here hx rfl (hb hby at_118) rfl rfl k) ?_
  show G T35 (mkF m 119 #[.val (.int p0), .unset, .unset, .unset] [(.ref b1), (.ref b1)])
  refine step (fun t k => XS.bipush X35.here hx rfl (hb hby at_119) k) ?_
  show G T35 (mkF m 121 #[.val (.int p0), .unset, .unset, .unset] [(.int 17), (.ref b1), (.ref b1)])
  obtain ⟨T36, X36, e36, st36⟩ := getS2 X35 hx hZ hown (host := "") (Or.inl (ww38 hw)) Via.refl e35 (Sta.ext O35.2 ST.k34) (g := (mkF m 121 #[.val (.int p0), .unset, .unset, .unset] [(.int 17), (.ref b1), (.ref b1)])) rfl (hb hby at_121)
  refine step st36 ?_
  show G T36 (mkF m 124 #[.val (.int p0), .unset, .unset, .unset] [(.ref w_ENDING_WITH), (.int 17), (.ref b1), (.ref b1)])
  obtain ⟨T37, h37, X37, e37, W37, V37, st37⟩ := own_stR X36 hx hZ e36 V35 (j := (17 : Int32)) (by decide) (i := 17) rfl (by show 17 < 26; decide) (fun A q => Sto.ofV A q U1 (Ins.self (Exa.ext O35.2 ST.k35))) (g := (mkF m 124 #[.val (.int p0), .unset, .unset, .unset] [(.ref w_ENDING_WITH), (.int 17), (.ref b1), (.ref b1)])) rfl rfl (hb hby at_124)
  replace V37 : Arv Z h37 b1 k1 (.object cn_0) (26 : Int32) [(.ref w_EQUALS), (.ref w_NOT), (.ref w_GREATER_THAN), (.ref w_GREATER_THAN_EQUAL), (.ref w_LESS_THAN), (.ref w_LESS_THAN_EQUAL), (.ref w_AFTER), (.ref w_BEFORE), (.ref w_BETWEEN), (.ref w_IN), (.ref w_NOT_IN), (.ref w_IS_NULL), (.ref w_IS_NOT_NULL), (.ref w_TRUE), (.ref w_FALSE), (.ref w_EXISTS), (.ref w_STARTING_WITH), (.ref w_ENDING_WITH), .null, .null, .null, .null, .null, .null, .null, .null] .null := V37
  have N37 := Fr.snoc X37 N35 ge_b1
  obtain ⟨lc37, X37, N37⟩ := own_gen X37 N37
  have O37 := O35.wr W37 ge_b1
  refine step st37 ?_
  show G T37 (mkF m 125 #[.val (.int p0), .unset, .unset, .unset] [(.ref b1)])
  refine step (fun t k => XS.dup X37.here hx rfl (hb hby at_125) rfl rfl k) ?_
  show G T37 (mkF m 126 #[.val (.int p0), .unset, .unset, .unset] [(.ref b1), (.ref b1)])
  refine step (fun t k => XS.bipush X37.here hx rfl (hb hby at_126) k) ?_
  show G T37 (mkF m 128 #[.val (.int p0), .unset, .unset, .unset] [(.int 18), (.ref b1), (.ref b1)])
  obtain ⟨T38, X38, e38, st38⟩ := getS2 X37 hx hZ hown (host := "") (Or.inl (ww40 hw)) Via.refl e37 (Sta.ext O37.2 ST.k36) (g := (mkF m 128 #[.val (.int p0), .unset, .unset, .unset] [(.int 18), (.ref b1), (.ref b1)])) rfl (hb hby at_128)
  refine step st38 ?_
  show G T38 (mkF m 131 #[.val (.int p0), .unset, .unset, .unset] [(.ref w_CONTAINING), (.int 18), (.ref b1), (.ref b1)])
  obtain ⟨T39, h39, X39, e39, W39, V39, st39⟩ := own_stR X38 hx hZ e38 V37 (j := (18 : Int32)) (by decide) (i := 18) rfl (by show 18 < 26; decide) (fun A q => Sto.ofV A q U1 (Ins.self (Exa.ext O37.2 ST.k37))) (g := (mkF m 131 #[.val (.int p0), .unset, .unset, .unset] [(.ref w_CONTAINING), (.int 18), (.ref b1), (.ref b1)])) rfl rfl (hb hby at_131)
  replace V39 : Arv Z h39 b1 k1 (.object cn_0) (26 : Int32) [(.ref w_EQUALS), (.ref w_NOT), (.ref w_GREATER_THAN), (.ref w_GREATER_THAN_EQUAL), (.ref w_LESS_THAN), (.ref w_LESS_THAN_EQUAL), (.ref w_AFTER), (.ref w_BEFORE), (.ref w_BETWEEN), (.ref w_IN), (.ref w_NOT_IN), (.ref w_IS_NULL), (.ref w_IS_NOT_NULL), (.ref w_TRUE), (.ref w_FALSE), (.ref w_EXISTS), (.ref w_STARTING_WITH), (.ref w_ENDING_WITH), (.ref w_CONTAINING), .null, .null, .null, .null, .null, .null, .null] .null := V39
  have N39 := Fr.snoc X39 N37 ge_b1
  obtain ⟨lc39, X39, N39⟩ := own_gen X39 N39
  have O39 := O37.wr W39 ge_b1
  refine step st39 ?_
  show G T39 (mkF m 132 #[.val (.int p0), .unset, .unset, .unset] [(.ref b1)])
  refine step (fun t k => XS.dup X39.here hx rfl (hb hby at_132) rfl rfl k) ?_
  show G T39 (mkF m 133 #[.val (.int p0), .unset, .unset, .unset] [(.ref b1), (.ref b1)])
  refine step (fun t k => XS.bipush X39.here hx rfl (hb hby at_133) k) ?_
  show G T39 (mkF m 135 #[.val (.int p0), .unset, .unset, .unset] [(.int 19), (.ref b1), (.ref b1)])
  obtain ⟨T40, X40, e40, st40⟩ := getS2 X39 hx hZ hown (host := "") (Or.inl (ww42 hw)) Via.refl e39 (Sta.ext O39.2 ST.k38) (g := (mkF m 135 #[.val (.int p0), .unset, .unset, .unset] [(.int 19), (.ref b1), (.ref b1)])) rfl (hb hby at_135)
  refine step st40 ?_
  show G T40 (mkF m 138 #[.val (.int p0), .unset, .unset, .unset] [(.ref w_NOT_CONTAINING), (.int 19), (.ref b1), (.ref b1)])
  obtain ⟨T41, h41, X41, e41, W41, V41, st41⟩ := own_stR X40 hx hZ e40 V39 (j := (19 : Int32)) (by decide) (i := 19) rfl (by show 19 < 26; decide) (fun A q => Sto.ofV A q U1 (Ins.self (Exa.ext O39.2 ST.k39))) (g := (mkF m 138 #[.val (.int p0), .unset, .unset, .unset] [(.ref w_NOT_CONTAINING), (.int 19), (.ref b1), (.ref b1)])) rfl rfl (hb hby at_138)
  replace V41 : Arv Z h41 b1 k1 (.object cn_0) (26 : Int32) [(.ref w_EQUALS), (.ref w_NOT), (.ref w_GREATER_THAN), (.ref w_GREATER_THAN_EQUAL), (.ref w_LESS_THAN), (.ref w_LESS_THAN_EQUAL), (.ref w_AFTER), (.ref w_BEFORE), (.ref w_BETWEEN), (.ref w_IN), (.ref w_NOT_IN), (.ref w_IS_NULL), (.ref w_IS_NOT_NULL), (.ref w_TRUE), (.ref w_FALSE), (.ref w_EXISTS), (.ref w_STARTING_WITH), (.ref w_ENDING_WITH), (.ref w_CONTAINING), (.ref w_NOT_CONTAINING), .null, .null, .null, .null, .null, .null] .null := V41
  have N41 := Fr.snoc X41 N39 ge_b1
  obtain ⟨lc41, X41, N41⟩ := own_gen X41 N41
  have O41 := O39.wr W41 ge_b1
  refine step st41 ?_
  show G T41 (mkF m 139 #[.val (.int p0), .unset, .unset, .unset] [(.ref b1)])
  refine step (fun t k => XS.dup X41.here hx rfl (hb hby at_139) rfl rfl k) ?_
  show G T41 (mkF m 140 #[.val (.int p0), .unset, .unset, .unset] [(.ref b1), (.ref b1)])
  refine step (fun t k => XS.bipush X41.here hx rfl (hb hby at_140) k) ?_
  show G T41 (mkF m 142 #[.val (.int p0), .unset, .unset, .unset] [(.int 20), (.ref b1), (.ref b1)])
  obtain ⟨T42, X42, e42, st42⟩ := getS2 X41 hx hZ hown (host := "") (Or.inl (ww44 hw)) Via.refl e41 (Sta.ext O41.2 ST.k40) (g := (mkF m 142 #[.val (.int p0), .unset, .unset, .unset] [(.int 20), (.ref b1), (.ref b1)])) rfl (hb hby at_142)
  refine step st42 ?_
  show G T42 (mkF m 145 #[.val (.int p0), .unset, .unset, .unset] [(.ref w_LIKE), (.int 20), (.ref b1), (.ref b1)])
  obtain ⟨T43, h43, X43, e43, W43, V43, st43⟩ := own_stR X42 hx hZ e42 V41 (j := (20 : Int32)) (by decide) (i := 20) rfl (by show 20 < 26; decide) (fun A q => Sto.ofV A q U1 (Ins.self (Exa.ext O41.2 ST.k41))) (g := (mkF m 145 #[.val (.int p0), .unset, .unset, .unset] [(.ref w_LIKE), (.int 20), (.ref b1), (.ref b1)])) rfl rfl (hb hby at_145)
  replace V43 : Arv Z h43 b1 k1 (.object cn_0) (26 : Int32) [(.ref w_EQUALS), (.ref w_NOT), (.ref w_GREATER_THAN), (.ref w_GREATER_THAN_EQUAL), (.ref w_LESS_THAN), (.ref w_LESS_THAN_EQUAL), (.ref w_AFTER), (.ref w_BEFORE), (.ref w_BETWEEN), (.ref w_IN), (.ref w_NOT_IN), (.ref w_IS_NULL), (.ref w_IS_NOT_NULL), (.ref w_TRUE), (.ref w_FALSE), (.ref w_EXISTS), (.ref w_STARTING_WITH), (.ref w_ENDING_WITH), (.ref w_CONTAINING), (.ref w_NOT_CONTAINING), (.ref w_LIKE), .null, .null, .null, .null, .null] .null := V43
  have N43 := Fr.snoc X43 N41 ge_b1
  obtain ⟨lc43, X43, N43⟩ := own_gen X43 N43
  have O43 := O41.wr W43 ge_b1
  refine step st43 ?_
  show G T43 (mkF m 146 #[.val (.int p0), .unset, .unset, .unset] [(.ref b1)])
  refine step (fun t k => XS.dup X43.here hx rfl (hb hby at_146) rfl rfl k) ?_
  show G T43 (mkF m 147 #[.val (.int p0), .unset, .unset, .unset] [(.ref b1), (.ref b1)])
  refine step (fun t k => XS.bipush X43.here hx rfl (hb hby at_147) k) ?_
  show G T43 (mkF m 149 #[.val (.int p0), .unset, .unset, .unset] [(.int 21), (.ref b1), (.ref b1)])
  obtain ⟨T44, X44, e44, st44⟩ := getS2 X43 hx hZ hown (host := "") (Or.inl (ww46 hw)) Via.refl e43 (Sta.ext O43.2 ST.k42) (g := (mkF m 149 #[.val (.int p0), .unset, .unset, .unset] [(.int 21), (.ref b1), (.ref b1)])) rfl (hb hby at_149)
  refine step st44 ?_
  show G T44 (mkF m 152 #[.val (.int p0), .unset, .unset, .unset] [(.ref w_NOT_LIKE), (.int 21), (.ref b1), (.ref b1)])
  obtain ⟨T45, h45, X45, e45, W45, V45, st45⟩ := own_stR X44 hx hZ e44 V43 (j := (21 : Int32)) (by decide) (i := 21) rfl (by show 21 < 26; decide) (fun A q => Sto.ofV A q U1 (Ins.self (Exa.ext O43.2 ST.k43))) (g := (mkF m 152 #[.val (.int p0), .unset, .unset, .unset] [(.ref w_NOT_LIKE), (.int 21), (.ref b1), (.ref b1)])) rfl rfl (hb hby at_152)
  replace V45 : Arv Z h45 b1 k1 (.object cn_0) (26 : Int32) [(.ref w_EQUALS), (.ref w_NOT), (.ref w_GREATER_THAN), (.ref w_GREATER_THAN_EQUAL), (.ref w_LESS_THAN), (.ref w_LESS_THAN_EQUAL), (.ref w_AFTER), (.ref w_BEFORE), (.ref w_BETWEEN), (.ref w_IN), (.ref w_NOT_IN), (.ref w_IS_NULL), (.ref w_IS_NOT_NULL), (.ref w_TRUE), (.ref w_FALSE), (.ref w_EXISTS), (.ref w_STARTING_WITH), (.ref w_ENDING_WITH), (.ref w_CONTAINING), (.ref w_NOT_CONTAINING), (.ref w_LIKE), (.ref w_NOT_LIKE), .null, .null, .null, .null] .null := V45
  have N45 := Fr.snoc X45 N43 ge_b1
  obtain ⟨lc45, X45, N45⟩ := own_gen X45 N45
  have O45 := O43.wr W45 ge_b1
  refine step st45 ?_
  show G T45 (mkF m 153 #[.val (.int p0), .unset, .unset, .unset] [(.ref b1)])
  refine step (fun t k => XS.dup X45.here hx rfl (hb hby at_153) rfl rfl k) ?_
  show G T45 (mkF m 154 #[.val (.int p0), .unset, .unset, .unset] [(.ref b1), (.ref b1)])
  refine step (fun t k => XS.bipush X45.here hx rfl (hb hby at_154) k) ?_
  show G T45 (mkF m 156 #[.val (.int p0), .unset, .unset, .unset] [(.int 22), (.ref b1), (.ref b1)])
  obtain ⟨T46, X46, e46, st46⟩ := getS2 X45 hx hZ hown (host := "") (Or.inl (ww48 hw)) Via.refl e45 (Sta.ext O45.2 ST.k44) (g := (mkF m 156 #[.val (.int p0), .unset, .unset, .unset] [(.int 22), (.ref b1), (.ref b1)])) rfl (hb hby at_156)
  refine step st46 ?_
  show G T46 (mkF m 159 #[.val (.int p0), .unset, .unset, .unset] [(.ref w_REGEX), (.int 22), (.ref b1), (.ref b1)])
  obtain ⟨T47, h47, X47, e47, W47, V47, st47⟩ := own_stR X46 hx hZ e46 V45 (j := (22 : Int32)) (by decide) (i := 22) rfl (by show 22 < 26; decide) (fun A q => Sto.ofV A q U1 (Ins.self (Exa.ext O45.2 ST.k45))) (g := (mkF m 159 #[.val (.int p0), .unset, .unset, .unset] [(.ref w_REGEX), (.int 22), (.ref b1), (.ref b1)])) rfl rfl (hb hby at_159)
  replace V47 : Arv Z h47 b1 k1 (.object cn_0) (26 : Int32) [(.ref w_EQUALS), (.ref w_NOT), (.ref w_GREATER_THAN), (.ref w_GREATER_THAN_EQUAL), (.ref w_LESS_THAN), (.ref w_LESS_THAN_EQUAL), (.ref w_AFTER), (.ref w_BEFORE), (.ref w_BETWEEN), (.ref w_IN), (.ref w_NOT_IN), (.ref w_IS_NULL), (.ref w_IS_NOT_NULL), (.ref w_TRUE), (.ref w_FALSE), (.ref w_EXISTS), (.ref w_STARTING_WITH), (.ref w_ENDING_WITH), (.ref w_CONTAINING), (.ref w_NOT_CONTAINING), (.ref w_LIKE), (.ref w_NOT_LIKE), (.ref w_REGEX), .null, .null, .null] .null := V47
  have N47 := Fr.snoc X47 N45 ge_b1
  obtain ⟨lc47, X47, N47⟩ := own_gen X47 N47
  have O47 := O45.wr W47 ge_b1
  refine step st47 ?_
  show G T47 (mkF m 160 #[.val (.int p0), .unset, .unset, .unset] [(.ref b1)])
  refine step (fun t k => XS.dup X47.here hx rfl (hb hby at_160) rfl rfl k) ?_
  show G T47 (mkF m 161 #[.val (.int p0), .unset, .unset, .unset] [(.ref b1), (.ref b1)])
  refine step (fun t k => XS.bipush X47.here hx rfl (hb hby at_161) k) ?_
  show G T47 (mkF m 163 #[.val (.int p0), .unset, .unset, .unset] [(.int 23), (.ref b1), (.ref b1)])
  obtain ⟨T48, X48, e48, st48⟩ := getS2 X47 hx hZ hown (host := "") (Or.inl (ww50 hw)) Via.refl e47 (Sta.ext O47.2 ST.k46) (g := (mkF m 163 #[.val (.int p0), .unset, .unset, .unset] [(.int 23), (.ref b1), (.ref b1)])) rfl (hb hby at_163)
  refine step st48 ?_
  show G T48 (mkF m 166 #[.val (.int p0), .unset, .unset, .unset] [(.ref w_NEAR), (.int 23), (.ref b1), (.ref b1)])
  obtain ⟨T49, h49, X49, e49, W49, V49, st49⟩ := own_stR X48 hx hZ e48 V47 (j := (23 : Int32)) (by decide) (i := 23) rfl (by show 23 < 26; decide) (fun A q => Sto.ofV A q U1 (Ins.self (Exa.ext O47.2 ST.k47))) (g := (mkF m 166 #[.val (.int p0), .unset, .unset, .unset] [(.ref w_NEAR), (.int 23), (.ref b1), (.ref b1)])) rfl rfl (hb hby at_166)
  replace V49 : Arv Z h49 b1 k1 (.object cn_0) (26 : Int32) [(.ref w_EQUALS), (.ref w_NOT), (.ref w_GREATER_THAN), (.ref w_GREATER_THAN_EQUAL), (.ref w_LESS_THAN), (.ref w_LESS_THAN_EQUAL), (.ref w_AFTER), (.ref w_BEFORE), (.ref w_BETWEEN), (.ref w_IN), (.ref w_NOT_IN), (.ref w_IS_NULL), (.ref w_IS_NOT_NULL), (.ref w_TRUE), (.ref w_FALSE), (.ref w_EXISTS), (.ref w_STARTING_WITH), (.ref w_ENDING_WITH), (.ref w_CONTAINING), (.ref w_NOT_CONTAINING), (.ref w_LIKE), (.ref w_NOT_LIKE), (.ref w_REGEX), (.ref w_NEAR), .null, .null] .null := V49
  have N49 := Fr.snoc X49 N47 ge_b1
  obtain ⟨lc49, X49, N49⟩ := own_gen X49 N49
  have O49 := O47.wr W49 ge_b1
  refine step st49 ?_
  show G T49 (mkF m 167 #[.val (.int p0), .unset, .unset, .unset] [(.ref b1)])
  refine step (fun t k => XS.dup X49.here hx rfl (hb hby at_167) rfl rfl k) ?_
  show G T49 (mkF m 168 #[.val (.int p0), .unset, .unset, .unset] [(.ref b1), (.ref b1)])
  refine step (fun t k => XS.bipush X49.here hx rfl (hb hby at_168) k) ?_
  show G T49 (mkF m 170 #[.val (.int p0), .unset, .unset, .unset] [(.int 24), (.ref b1), (.ref b1)])
  obtain ⟨T50, X50, e50, st50⟩ := getS2 X49 hx hZ hown (host := "") (Or.inl (ww52 hw)) Via.refl e49 (Sta.ext O49.2 ST.k48) (g := (mkF m 170 #[.val (.int p0), .unset, .unset, .unset] [(.int 24), (.ref b1), (.ref b1)])) rfl (hb hby at_170)
  refine step st50 ?_
  show G T50 (mkF m 173 #[.val (.int p0), .unset, .unset, .unset] [(.ref w_WITHIN), (.int 24), (.ref b1), (.ref b1)])
  obtain ⟨T51, h51, X51, e51, W51, V51, st51⟩ := own_stR X50 hx hZ e50 V49 (j := (24 : Int32)) (by decide) (i := 24) rfl (by show 24 < 26; decide) (fun A q => Sto.ofV A q U1 (Ins.self (Exa.ext O49.2 ST.k49))) (g := (mkF m 173 #[.val (.int p0), .unset, .unset, .unset] [(.ref w_WITHIN), (.int 24), (.ref b1), (.ref b1)])) rfl rfl (hb hby at_173)
  replace V51 : Arv Z h51 b1 k1 (.object cn_0) (26 : Int32) [(.ref w_EQUALS), (.ref w_NOT), (.ref w_GREATER_THAN), (.ref w_GREATER_THAN_EQUAL), (.ref w_LESS_THAN), (.ref w_LESS_THAN_EQUAL), (.ref w_AFTER), (.ref w_BEFORE), (.ref w_BETWEEN), (.ref w_IN), (.ref w_NOT_IN), (.ref w_IS_NULL), (.ref w_IS_NOT_NULL), (.ref w_TRUE), (.ref w_FALSE), (.ref w_EXISTS), (.ref w_STARTING_WITH), (.ref w_ENDING_WITH), (.ref w_CONTAINING), (.ref w_NOT_CONTAINING), (.ref w_LIKE), (.ref w_NOT_LIKE), (.ref w_REGEX), (.ref w_NEAR), (.ref w_WITHIN), .null] .null := V51
  have N51 := Fr.snoc X51 N49 ge_b1
  obtain ⟨lc51, X51, N51⟩ := own_gen X51 N51
  have O51 := O49.wr W51 ge_b1
  refine step st51 ?_
  show G T51 (mkF m 174 #[.val (.int p0), .unset, .unset, .unset] [(.ref b1)])
  refine step (fun t k => XS.dup X51.here hx rfl (hb hby at_174) rfl rfl k) ?_
  show G T51 (mkF m 175 #[.val (.int p0), .unset, .unset, .unset] [(.ref b1), (.ref b1)])
  refine step (fun t k => XS.bipush X51.here hx rfl (hb hby at_175) k) ?_
  show G T51 (mkF m 177 #[.val (.int p0), .unset, .unset, .unset] [(.int 25), (.ref b1), (.ref b1)])
  obtain ⟨T52, X52, e52, st52⟩ := getS2 X51 hx hZ hown (host := "") (Or.inl (ww54 hw)) Via.refl e51 (Sta.ext O51.2 ST.k50) (g := (mkF m 177 #[.val (.int p0), .unset, .unset, .unset] [(.int 25), (.ref b1), (.ref b1)])) rfl (hb hby at_177)
  refine step st52 ?_
  show G T52 (mkF m 180 #[.val (.int p0), .unset, .unset, .unset] [(.ref w_IGNORE_CASE), (.int 25), (.ref b1), (.ref b1)])
  obtain ⟨T53, h53, X53, e53, W53, V53, st53⟩ := own_stR X52 hx hZ e52 V51 (j := (25 : Int32)) (by decide) (i := 25) rfl (by show 25 < 26; decide) (fun A q => Sto.ofV A q U1 (Ins.self (Exa.ext O51.2 ST.k51))) (g := (mkF m 180 #[.val (.int p0), .unset, .unset, .unset] [(.ref w_IGNORE_CASE), (.int 25), (.ref b1), (.ref b1)])) rfl rfl (hb hby at_180)
  replace V53 : Arv Z h53 b1 k1 (.object cn_0) (26 : Int32) [(.ref w_EQUALS), (.ref w_NOT), (.ref w_GREATER_THAN), (.ref w_GREATER_THAN_EQUAL), (.ref w_LESS_THAN), (.ref w_LESS_THAN_EQUAL), (.ref w_AFTER), (.ref w_BEFORE), (.ref w_BETWEEN), (.ref w_IN), (.ref w_NOT_IN), (.ref w_IS_NULL), (.ref w_IS_NOT_NULL), (.ref w_TRUE), (.ref w_FALSE), (.ref w_EXISTS), (.ref w_STARTING_WITH), (.ref w_ENDING_WITH), (.ref w_CONTAINING), (.ref w_NOT_CONTAINING), (.ref w_LIKE), (.ref w_NOT_LIKE), (.ref w_REGEX), (.ref w_NEAR), (.ref w_WITHIN), (.ref w_IGNORE_CASE)] .null := V53
  have N53 := Fr.snoc X53 N51 ge_b1
  obtain ⟨lc53, X53, N53⟩ := own_gen X53 N53
  have O53 := O51.wr W53 ge_b1
  refine step st53 ?_
  show G T53 (mkF m 181 #[.val (.int p0), .unset, .unset, .unset] [(.ref b1)])
  refine step (fun t k => XS.astoreN X53.here hx rfl (hb hby at_181) rfl rfl (l' := #[.val (.int p0), .val (.ref b1), .unset, .unset]) rfl k) ?_
  show G T53 (mkF m 182 #[.val (.int p0), .val (.ref b1), .unset, .unset] [])
  refine step (fun t k => XS.iloadN X53.here hx rfl (hb hby at_182) rfl k) ?_
  show G T53 (mkF m 183 #[.val (.int p0), .val (.ref b1), .unset, .unset] [(.int p0)])
  have q54 := X53.ldcInt hx hown (mvT hZ (ww56 hw)) (g := (mkF m 183 #[.val (.int p0), .val (.ref b1), .unset, .unset] [(.int p0)])) rfl (hb hby at_183)
  refine step q54 ?_
  show G T53 (mkF m 185 #[.val (.int p0), .val (.ref b1), .unset, .unset] [(.int 2147483647), (.int p0)])
  refine step (fun t k => XS.iand X53.here hx rfl (hb hby at_185) rfl k) ?_
  show G T53 (mkF m 186 #[.val (.int p0), .val (.ref b1), .unset, .unset] [(.int (p0 &&& (2147483647 : Int32)))])
  refine step (fun t k => XS.bipush X53.here hx rfl (hb hby at_186) k) ?_
  show G T53 (mkF m 188 #[.val (.int p0), .val (.ref b1), .unset, .unset] [(.int 26), (.int (p0 &&& (2147483647 : Int32)))])
  refine step (fun t k => iremM X53 hx rfl (hb hby at_188) rfl (by decide) k) ?_
  show G T53 (mkF m 189 #[.val (.int p0), .val (.ref b1), .unset, .unset] [(.int ((p0 &&& (2147483647 : Int32)) % (26 : Int32)))])
  rcases own_split p0 with hk | hk | hk | hk | hk | hk | hk | hk | hk | hk | hk | hk | hk | hk | hk | hk | hk | hk | hk | hk | hk | hk | hk | hk | hk | hk
  · rw [hk]
    show G T53 (mkF m 189 #[.val (.int p0), .val (.ref b1), .unset, .unset] [(.int 0)])
    refine step (fun t k => XS.istoreN X53.here hx rfl (hb hby at_189) rfl (l' := #[.val (.int p0), .val (.ref b1), .val (.int 0), .unset]) rfl k) ?_
    show G T53 (mkF m 190 #[.val (.int p0), .val (.ref b1), .val (.int 0), .unset] [])
    refine step (fun t k => XS.iloadN X53.here hx rfl (hb hby at_190) rfl k) ?_
    show G T53 (mkF m 191 #[.val (.int p0), .val (.ref b1), .val (.int 0), .unset] [(.int 0)])
    refine step (fun t k => XS.iconst X53.here hx rfl (hb hby at_191) k) ?_
    show G T53 (mkF m 192 #[.val (.int p0), .val (.ref b1), .val (.int 0), .unset] [(.int 2), (.int 0)])
    refine step (fun t k => XS.icmpYes X53.here hx rfl (pc0 := 192) (pc' := 205) rfl (hb hby at_192) rfl (tlt (by decide : (0 : Int32) < (2 : Int32))).1 (by decide) (by decide) k) ?_
    show G T53 (mkF m 205 #[.val (.int p0), .val (.ref b1), .val (.int 0), .unset] [])
    refine step (fun t k => XS.iconst X53.here hx rfl (hb hby at_205) k) ?_
    show G T53 (mkF m 206 #[.val (.int p0), .val (.ref b1), .val (.int 0), .unset] [(.int 0)])
    refine step (fun t k => XS.istoreN X53.here hx rfl (hb hby at_206) rfl (l' := #[.val (.int p0), .val (.ref b1), .val (.int 0), .val (.int 0)]) rfl k) ?_
    show G T53 (mkF m 207 #[.val (.int p0), .val (.ref b1), .val (.int 0), .val (.int 0)] [])
    refine step (fun t k => XS.aloadN X53.here hx rfl (hb hby at_207) rfl rfl k) ?_
    show G T53 (mkF m 208 #[.val (.int p0), .val (.ref b1), .val (.int 0), .val (.int 0)] [(.ref b1)])
    refine step (fun t k => XS.iloadN X53.here hx rfl (hb hby at_208) rfl k) ?_
    show G T53 (mkF m 209 #[.val (.int p0), .val (.ref b1), .val (.int 0), .val (.int 0)] [(.int 0), (.ref b1)])
    have q55 := own_ldR X53 hx hZ e53 V53 (j := (0 : Int32)) (v := (.ref w_EQUALS)) (by decide) (own_at (i := 0) rfl rfl) rfl (g := (mkF m 209 #[.val (.int p0), .val (.ref b1), .val (.int 0), .val (.int 0)] [(.int 0), (.ref b1)])) rfl rfl (hb hby at_209)
    refine step q55 ?_
    show G T53 (mkF m 210 #[.val (.int p0), .val (.ref b1), .val (.int 0), .val (.int 0)] [(.ref w_EQUALS)])
    have hK56 := (backOf (R := room_1) (p := p) (e := e) (below := below) (s := s) (args := #[(.int p0)]) (len := 3) (W := 0) (rm_ord l Z a0 hw [] w_EQUALS w_NOT w_GREATER_THAN w_GREATER_THAN_EQUAL w_LESS_THAN w_LESS_THAN_EQUAL w_AFTER w_BEFORE w_BETWEEN w_IN w_NOT_IN w_IS_NULL w_IS_NOT_NULL w_TRUE w_FALSE w_EXISTS w_STARTING_WITH w_ENDING_WITH w_CONTAINING w_NOT_CONTAINING w_LIKE w_NOT_LIKE w_REGEX w_NEAR w_WITHIN w_IGNORE_CASE w_EQUALS h53 n0 (own_old_le O53) ST O53) hZ (ww61 hw) (ww3 hw) (by decide) (by decide))
    obtain ⟨cq56, kq56, q56a, q56b, q56c⟩ := isOf hZ e53 (Exa.ext O53.2 ST.k1)
    obtain ⟨_, _, ⟨T56, L56, k56, n56⟩, -, X56, ⟨Lc56, hQ56, l56, y56, z56⟩, st56⟩ := X53.virtualBack hx (y := y_0) (z := y_0) hown (mvT hZ (ww57 hw)) (mvT hZ (ww58 hw)) (notFace_of_selects (args := #[]) (mvT hZ (ww60 hw))) (mvT hZ (ww60 hw)) (mvT hZ (ww59 hw)) (by decide) hK56 q56a q56c (g := (mkF m 210 #[.val (.int p0), .val (.ref b1), .val (.int 0), .val (.int 0)] [(.ref w_EQUALS)])) rfl (by rw [hml]; rfl) (Steps.refl _) (argsL := []) (rest := []) (lenOf pd_0 rfl) rfl (by show 2 * 0 + _ ≤ _; exact Nat.le_of_eq rfl) (hb hby at_210) (fun _ _ => ⟨rfl, e53, (by decide : 1 + 0 ≤ _), (by decide : 26 + 0 ≤ _)⟩)
    dsimp only [Pt.U, Pt.locs, Pt.cells, Pt.slots] at X56 l56 y56 z56 st56 hQ56
    subst l56 y56 z56
    obtain ⟨rfl, N56q, e56⟩ := hQ56
    have N56 := Fr.app N53 N56q
    obtain ⟨lc56, X56, N56⟩ := own_gen X56 N56
    refine step (fun t k => st56.trans k) ?_
    show G T56 (mkF m 213 #[.val (.int p0), .val (.ref b1), .val (.int 0), .val (.int 0)] [(.int (f_ord w_EQUALS w_NOT w_GREATER_THAN w_GREATER_THAN_EQUAL w_LESS_THAN w_LESS_THAN_EQUAL w_AFTER w_BEFORE w_BETWEEN w_IN w_NOT_IN w_IS_NULL w_IS_NOT_NULL w_TRUE w_FALSE w_EXISTS w_STARTING_WITH w_ENDING_WITH w_CONTAINING w_NOT_CONTAINING w_LIKE w_NOT_LIKE w_REGEX w_NEAR w_WITHIN w_IGNORE_CASE w_EQUALS))])
    have r57 : (f_ord w_EQUALS w_NOT w_GREATER_THAN w_GREATER_THAN_EQUAL w_LESS_THAN w_LESS_THAN_EQUAL w_AFTER w_BEFORE w_BETWEEN w_IN w_NOT_IN w_IS_NULL w_IS_NOT_NULL w_TRUE w_FALSE w_EXISTS w_STARTING_WITH w_ENDING_WITH w_CONTAINING w_NOT_CONTAINING w_LIKE w_NOT_LIKE w_REGEX w_NEAR w_WITHIN w_IGNORE_CASE w_EQUALS) = (0 : Int32) := by
      unfold f_ord
      rw [if_neg ((Fld.ne ST.k52 ST.k53 (fun q => absurd (Value.int.inj q) (by decide))) : ¬ (w_EQUALS = w_GREATER_THAN)), if_neg ((Fld.ne ST.k52 ST.k54 (fun q => absurd (Value.int.inj q) (by decide))) : ¬ (w_EQUALS = w_GREATER_THAN_EQUAL)), if_neg ((Fld.ne ST.k52 ST.k55 (fun q => absurd (Value.int.inj q) (by decide))) : ¬ (w_EQUALS = w_LESS_THAN)), if_neg ((Fld.ne ST.k52 ST.k56 (fun q => absurd (Value.int.inj q) (by decide))) : ¬ (w_EQUALS = w_LESS_THAN_EQUAL)), if_neg ((Fld.ne ST.k52 ST.k57 (fun q => absurd (Value.int.inj q) (by decide))) : ¬ (w_EQUALS = w_AFTER)), if_neg ((Fld.ne ST.k52 ST.k58 (fun q => absurd (Value.int.inj q) (by decide))) : ¬ (w_EQUALS = w_BEFORE)), if_neg ((Fld.ne ST.k52 ST.k59 (fun q => absurd (Value.int.inj q) (by decide))) : ¬ (w_EQUALS = w_BETWEEN))]
    rw [r57]
    show G T56 (mkF m 213 #[.val (.int p0), .val (.ref b1), .val (.int 0), .val (.int 0)] [(.int 0)])
    refine step (fun t k => XS.iloadN X56.here hx rfl (hb hby at_213) rfl k) ?_
    show G T56 (mkF m 214 #[.val (.int p0), .val (.ref b1), .val (.int 0), .val (.int 0)] [(.int 0), (.int 0)])
    refine step (fun t k => XS.icmpNo X56.here hx rfl (hb hby at_214) rfl (teq (by decide : (0 : Int32) = (0 : Int32))).2 k) ?_
    show G T56 (mkF m 217 #[.val (.int p0), .val (.ref b1), .val (.int 0), .val (.int 0)] [])
    refine step (fun t k => XS.iconst X56.here hx rfl (hb hby at_217) k) ?_
    show G T56 (mkF m 218 #[.val (.int p0), .val (.ref b1), .val (.int 0), .val (.int 0)] [(.int 1)])
    refine step (fun t k => XS.goto X56.here hx rfl (pc0 := 218) (pc' := 222) rfl (hb hby at_218) (by decide) (by decide) k) ?_
    show G T56 (mkF m 222 #[.val (.int p0), .val (.ref b1), .val (.int 0), .val (.int 0)] [(.int 1)])
    exact ret (v := some (.int 1)) X56 (fun h => by rw [Bd.returns] at h; cases h) (fun fs hr => retN X56 hx (t := .boolean) Bd.returns (by simp) (hb hby at_222) hr) e56 ⟨rfl, N56⟩ (by decide) (by decide)
  · rw [hk]
    show G T53 (mkF m 189 #[.val (.int p0), .val (.ref b1), .unset, .unset] [(.int 1)])
    refine step (fun t k => XS.istoreN X53.here hx rfl (hb hby at_189) rfl (l' := #[.val (.int p0), .val (.ref b1), .val (.int 1), .unset]) rfl k) ?_
    show G T53 (mkF m 190 #[.val (.int p0), .val (.ref b1), .val (.int 1), .unset] [])
    refine step (fun t k => XS.iloadN X53.here hx rfl (hb hby at_190) rfl k) ?_
    show G T53 (mkF m 191 #[.val (.int p0), .val (.ref b1), .val (.int 1), .unset] [(.int 1)])
    refine step (fun t k => XS.iconst X53.here hx rfl (hb hby at_191) k) ?_
    show G T53 (mkF m 192 #[.val (.int p0), .val (.ref b1), .val (.int 1), .unset] [(.int 2), (.int 1)])
    refine step (fun t k => XS.icmpYes X53.here hx rfl (pc0 := 192) (pc' := 205) rfl (hb hby at_192) rfl (tlt (by decide : (1 : Int32) < (2 : Int32))).1 (by decide) (by decide) k) ?_
    show G T53 (mkF m 205 #[.val (.int p0), .val (.ref b1), .val (.int 1), .unset] [])
    refine step (fun t k => XS.iconst X53.here hx rfl (hb hby at_205) k) ?_
    show G T53 (mkF m 206 #[.val (.int p0), .val (.ref b1), .val (.int 1), .unset] [(.int 0)])
    refine step (fun t k => XS.istoreN X53.here hx rfl (hb hby at_206) rfl (l' := #[.val (.int p0), .val (.ref b1), .val (.int 1), .val (.int 0)]) rfl k) ?_
    show G T53 (mkF m 207 #[.val (.int p0), .val (.ref b1), .val (.int 1), .val (.int 0)] [])
    refine step (fun t k => XS.aloadN X53.here hx rfl (hb hby at_207) rfl rfl k) ?_
    show G T53 (mkF m 208 #[.val (.int p0), .val (.ref b1), .val (.int 1), .val (.int 0)] [(.ref b1)])
    refine step (fun t k => XS.iloadN X53.here hx rfl (hb hby at_208) rfl k) ?_
    show G T53 (mkF m 209 #[.val (.int p0), .val (.ref b1), .val (.int 1), .val (.int 0)] [(.int 1), (.ref b1)])
    have q58 := own_ldR X53 hx hZ e53 V53 (j := (1 : Int32)) (v := (.ref w_NOT)) (by decide) (own_at (i := 1) rfl rfl) rfl (g := (mkF m 209 #[.val (.int p0), .val (.ref b1), .val (.int 1), .val (.int 0)] [(.int 1), (.ref b1)])) rfl rfl (hb hby at_209)
    refine step q58 ?_
    show G T53 (mkF m 210 #[.val (.int p0), .val (.ref b1), .val (.int 1), .val (.int 0)] [(.ref w_NOT)])
    have hK59 := (backOf (R := room_1) (p := p) (e := e) (below := below) (s := s) (args := #[(.int p0)]) (len := 3) (W := 0) (rm_ord l Z a0 hw [] w_EQUALS w_NOT w_GREATER_THAN w_GREATER_THAN_EQUAL w_LESS_THAN w_LESS_THAN_EQUAL w_AFTER w_BEFORE w_BETWEEN w_IN w_NOT_IN w_IS_NULL w_IS_NOT_NULL w_TRUE w_FALSE w_EXISTS w_STARTING_WITH w_ENDING_WITH w_CONTAINING w_NOT_CONTAINING w_LIKE w_NOT_LIKE w_REGEX w_NEAR w_WITHIN w_IGNORE_CASE w_NOT h53 n0 (own_old_le O53) ST O53) hZ (ww61 hw) (ww3 hw) (by decide) (by decide))
    obtain ⟨cq59, kq59, q59a, q59b, q59c⟩ := isOf hZ e53 (Exa.ext O53.2 ST.k3)
    obtain ⟨_, _, ⟨T59, L59, k59, n59⟩, -, X59, ⟨Lc59, hQ59, l59, y59, z59⟩, st59⟩ := X53.virtualBack hx (y := y_0) (z := y_0) hown (mvT hZ (ww57 hw)) (mvT hZ (ww58 hw)) (notFace_of_selects (args := #[]) (mvT hZ (ww60 hw))) (mvT hZ (ww60 hw)) (mvT hZ (ww59 hw)) (by decide) hK59 q59a q59c (g := (mkF m 210 #[.val (.int p0), .val (.ref b1), .val (.int 1), .val (.int 0)] [(.ref w_NOT)])) rfl (by rw [hml]; rfl) (Steps.refl _) (argsL := []) (rest := []) (lenOf pd_0 rfl) rfl (by show 2 * 0 + _ ≤ _; exact Nat.le_of_eq rfl) (hb hby at_210) (fun _ _ => ⟨rfl, e53, (by decide : 1 + 0 ≤ _), (by decide : 26 + 0 ≤ _)⟩)
    dsimp only [Pt.U, Pt.locs, Pt.cells, Pt.slots] at X59 l59 y59 z59 st59 hQ59
    subst l59 y59 z59
    obtain ⟨rfl, N59q, e59⟩ := hQ59
    have N59 := Fr.app N53 N59q
    obtain ⟨lc59, X59, N59⟩ := own_gen X59 N59
    refine step (fun t k => st59.trans k) ?_
    show G T59 (mkF m 213 #[.val (.int p0), .val (.ref b1), .val (.int 1), .val (.int 0)] [(.int (f_ord w_EQUALS w_NOT w_GREATER_THAN w_GREATER_THAN_EQUAL w_LESS_THAN w_LESS_THAN_EQUAL w_AFTER w_BEFORE w_BETWEEN w_IN w_NOT_IN w_IS_NULL w_IS_NOT_NULL w_TRUE w_FALSE w_EXISTS w_STARTING_WITH w_ENDING_WITH w_CONTAINING w_NOT_CONTAINING w_LIKE w_NOT_LIKE w_REGEX w_NEAR w_WITHIN w_IGNORE_CASE w_NOT))])
    have r60 : (f_ord w_EQUALS w_NOT w_GREATER_THAN w_GREATER_THAN_EQUAL w_LESS_THAN w_LESS_THAN_EQUAL w_AFTER w_BEFORE w_BETWEEN w_IN w_NOT_IN w_IS_NULL w_IS_NOT_NULL w_TRUE w_FALSE w_EXISTS w_STARTING_WITH w_ENDING_WITH w_CONTAINING w_NOT_CONTAINING w_LIKE w_NOT_LIKE w_REGEX w_NEAR w_WITHIN w_IGNORE_CASE w_NOT) = (0 : Int32) := by
      unfold f_ord
      rw [if_neg ((Fld.ne ST.k63 ST.k53 (fun q => absurd (Value.int.inj q) (by decide))) : ¬ (w_NOT = w_GREATER_THAN)), if_neg ((Fld.ne ST.k63 ST.k54 (fun q => absurd (Value.int.inj q) (by decide))) : ¬ (w_NOT = w_GREATER_THAN_EQUAL)), if_neg ((Fld.ne ST.k63 ST.k55 (fun q => absurd (Value.int.inj q) (by decide))) : ¬ (w_NOT = w_LESS_THAN)), if_neg ((Fld.ne ST.k63 ST.k56 (fun q => absurd (Value.int.inj q) (by decide))) : ¬ (w_NOT = w_LESS_THAN_EQUAL)), if_neg ((Fld.ne ST.k63 ST.k57 (fun q => absurd (Value.int.inj q) (by decide))) : ¬ (w_NOT = w_AFTER)), if_neg ((Fld.ne ST.k63 ST.k58 (fun q => absurd (Value.int.inj q) (by decide))) : ¬ (w_NOT = w_BEFORE)), if_neg ((Fld.ne ST.k63 ST.k59 (fun q => absurd (Value.int.inj q) (by decide))) : ¬ (w_NOT = w_BETWEEN))]
    rw [r60]
    show G T59 (mkF m 213 #[.val (.int p0), .val (.ref b1), .val (.int 1), .val (.int 0)] [(.int 0)])
    refine step (fun t k => XS.iloadN X59.here hx rfl (hb hby at_213) rfl k) ?_
    show G T59 (mkF m 214 #[.val (.int p0), .val (.ref b1), .val (.int 1), .val (.int 0)] [(.int 0), (.int 0)])
    refine step (fun t k => XS.icmpNo X59.here hx rfl (hb hby at_214) rfl (teq (by decide : (0 : Int32) = (0 : Int32))).2 k) ?_
    show G T59 (mkF m 217 #[.val (.int p0), .val (.ref b1), .val (.int 1), .val (.int 0)] [])
    refine step (fun t k => XS.iconst X59.here hx rfl (hb hby at_217) k) ?_
    show G T59 (mkF m 218 #[.val (.int p0), .val (.ref b1), .val (.int 1), .val (.int 0)] [(.int 1)])
    refine step (fun t k => XS.goto X59.here hx rfl (pc0 := 218) (pc' := 222) rfl (hb hby at_218) (by decide) (by decide) k) ?_
    show G T59 (mkF m 222 #[.val (.int p0), .val (.ref b1), .val (.int 1), .val (.int 0)] [(.int 1)])
    exact ret (v := some (.int 1)) X59 (fun h => by rw [Bd.returns] at h; cases h) (fun fs hr => retN X59 hx (t := .boolean) Bd.returns (by simp) (hb hby at_222) hr) e59 ⟨rfl, N59⟩ (by decide) (by decide)
  · rw [hk]
    show G T53 (mkF m 189 #[.val (.int p0), .val (.ref b1), .unset, .unset] [(.int 2)])
    refine step (fun t k => XS.istoreN X53.here hx rfl (hb hby at_189) rfl (l' := #[.val (.int p0), .val (.ref b1), .val (.int 2), .unset]) rfl k) ?_
    show G T53 (mkF m 190 #[.val (.int p0), .val (.ref b1), .val (.int 2), .unset] [])
    refine step (fun t k => XS.iloadN X53.here hx rfl (hb hby at_190) rfl k) ?_
    show G T53 (mkF m 191 #[.val (.int p0), .val (.ref b1), .val (.int 2), .unset] [(.int 2)])
    refine step (fun t k => XS.iconst X53.here hx rfl (hb hby at_191) k) ?_
    show G T53 (mkF m 192 #[.val (.int p0), .val (.ref b1), .val (.int 2), .unset] [(.int 2), (.int 2)])
    refine step (fun t k => XS.icmpNo X53.here hx rfl (hb hby at_192) rfl (flt (by decide : ¬ ((2 : Int32) < (2 : Int32)))).1 k) ?_
    show G T53 (mkF m 195 #[.val (.int p0), .val (.ref b1), .val (.int 2), .unset] [])
    refine step (fun t k => XS.iloadN X53.here hx rfl (hb hby at_195) rfl k) ?_
    show G T53 (mkF m 196 #[.val (.int p0), .val (.ref b1), .val (.int 2), .unset] [(.int 2)])
    refine step (fun t k => XS.bipush X53.here hx rfl (hb hby at_196) k) ?_
    show G T53 (mkF m 198 #[.val (.int p0), .val (.ref b1), .val (.int 2), .unset] [(.int 8), (.int 2)])
    refine step (fun t k => XS.icmpNo X53.here hx rfl (hb hby at_198) rfl (flt (by decide : ¬ ((8 : Int32) < (2 : Int32)))).2.2.1 k) ?_
    show G T53 (mkF m 201 #[.val (.int p0), .val (.ref b1), .val (.int 2), .unset] [])
    refine step (fun t k => XS.iconst X53.here hx rfl (hb hby at_201) k) ?_
    show G T53 (mkF m 202 #[.val (.int p0), .val (.ref b1), .val (.int 2), .unset] [(.int 1)])
    refine step (fun t k => XS.goto X53.here hx rfl (pc0 := 202) (pc' := 206) rfl (hb hby at_202) (by decide) (by decide) k) ?_
    show G T53 (mkF m 206 #[.val (.int p0), .val (.ref b1), .val (.int 2), .unset] [(.int 1)])
    refine step (fun t k => XS.istoreN X53.here hx rfl (hb hby at_206) rfl (l' := #[.val (.int p0), .val (.ref b1), .val (.int 2), .val (.int 1)]) rfl k) ?_
    show G T53 (mkF m 207 #[.val (.int p0), .val (.ref b1), .val (.int 2), .val (.int 1)] [])
    refine step (fun t k => XS.aloadN X53.here hx rfl (hb hby at_207) rfl rfl k) ?_
    show G T53 (mkF m 208 #[.val (.int p0), .val (.ref b1), .val (.int 2), .val (.int 1)] [(.ref b1)])
    refine step (fun t k => XS.iloadN X53.here hx rfl (hb hby at_208) rfl k) ?_
    show G T53 (mkF m 209 #[.val (.int p0), .val (.ref b1), .val (.int 2), .val (.int 1)] [(.int 2), (.ref b1)])
    have q61 := own_ldR X53 hx hZ e53 V53 (j := (2 : Int32)) (v := (.ref w_GREATER_THAN)) (by decide) (own_at (i := 2) rfl rfl) rfl (g := (mkF m 209 #[.val (.int p0), .val (.ref b1), .val (.int 2), .val (.int 1)] [(.int 2), (.ref b1)])) rfl rfl (hb hby at_209)
    refine step q61 ?_
    show G T53 (mkF m 210 #[.val (.int p0), .val (.ref b1), .val (.int 2), .val (.int 1)] [(.ref w_GREATER_THAN)])
    have hK62 := (backOf (R := room_1) (p := p) (e := e) (below := below) (s := s) (args := #[(.int p0)]) (len := 3) (W := 0) (rm_ord l Z a0 hw [] w_EQUALS w_NOT w_GREATER_THAN w_GREATER_THAN_EQUAL w_LESS_THAN w_LESS_THAN_EQUAL w_AFTER w_BEFORE w_BETWEEN w_IN w_NOT_IN w_IS_NULL w_IS_NOT_NULL w_TRUE w_FALSE w_EXISTS w_STARTING_WITH w_ENDING_WITH w_CONTAINING w_NOT_CONTAINING w_LIKE w_NOT_LIKE w_REGEX w_NEAR w_WITHIN w_IGNORE_CASE w_GREATER_THAN h53 n0 (own_old_le O53) ST O53) hZ (ww61 hw) (ww3 hw) (by decide) (by decide))
    obtain ⟨cq62, kq62, q62a, q62b, q62c⟩ := isOf hZ e53 (Exa.ext O53.2 ST.k5)
    obtain ⟨_, _, ⟨T62, L62, k62, n62⟩, -, X62, ⟨Lc62, hQ62, l62, y62, z62⟩, st62⟩ := X53.virtualBack hx (y := y_0) (z := y_0) hown (mvT hZ (ww57 hw)) (mvT hZ (ww58 hw)) (notFace_of_selects (args := #[]) (mvT hZ (ww60 hw))) (mvT hZ (ww60 hw)) (mvT hZ (ww59 hw)) (by decide) hK62 q62a q62c (g := (mkF m 210 #[.val (.int p0), .val (.ref b1), .val (.int 2), .val (.int 1)] [(.ref w_GREATER_THAN)])) rfl (by rw [hml]; rfl) (Steps.refl _) (argsL := []) (rest := []) (lenOf pd_0 rfl) rfl (by show 2 * 0 + _ ≤ _; exact Nat.le_of_eq rfl) (hb hby at_210) (fun _ _ => ⟨rfl, e53, (by decide : 1 + 0 ≤ _), (by decide : 26 + 0 ≤ _)⟩)
    dsimp only [Pt.U, Pt.locs, Pt.cells, Pt.slots] at X62 l62 y62 z62 st62 hQ62
    subst l62 y62 z62
    obtain ⟨rfl, N62q, e62⟩ := hQ62
    have N62 := Fr.app N53 N62q
    obtain ⟨lc62, X62, N62⟩ := own_gen X62 N62
    refine step (fun t k => st62.trans k) ?_
    show G T62 (mkF m 213 #[.val (.int p0), .val (.ref b1), .val (.int 2), .val (.int 1)] [(.int (f_ord w_EQUALS w_NOT w_GREATER_THAN w_GREATER_THAN_EQUAL w_LESS_THAN w_LESS_THAN_EQUAL w_AFTER w_BEFORE w_BETWEEN w_IN w_NOT_IN w_IS_NULL w_IS_NOT_NULL w_TRUE w_FALSE w_EXISTS w_STARTING_WITH w_ENDING_WITH w_CONTAINING w_NOT_CONTAINING w_LIKE w_NOT_LIKE w_REGEX w_NEAR w_WITHIN w_IGNORE_CASE w_GREATER_THAN))])
    have r63 : (f_ord w_EQUALS w_NOT w_GREATER_THAN w_GREATER_THAN_EQUAL w_LESS_THAN w_LESS_THAN_EQUAL w_AFTER w_BEFORE w_BETWEEN w_IN w_NOT_IN w_IS_NULL w_IS_NOT_NULL w_TRUE w_FALSE w_EXISTS w_STARTING_WITH w_ENDING_WITH w_CONTAINING w_NOT_CONTAINING w_LIKE w_NOT_LIKE w_REGEX w_NEAR w_WITHIN w_IGNORE_CASE w_GREATER_THAN) = (1 : Int32) := by
      unfold f_ord
      rw [if_pos (rfl : w_GREATER_THAN = w_GREATER_THAN)]
    rw [r63]
    show G T62 (mkF m 213 #[.val (.int p0), .val (.ref b1), .val (.int 2), .val (.int 1)] [(.int 1)])
    refine step (fun t k => XS.iloadN X62.here hx rfl (hb hby at_213) rfl k) ?_
    show G T62 (mkF m 214 #[.val (.int p0), .val (.ref b1), .val (.int 2), .val (.int 1)] [(.int 1), (.int 1)])
    refine step (fun t k => XS.icmpNo X62.here hx rfl (hb hby at_214) rfl (teq (by decide : (1 : Int32) = (1 : Int32))).2 k) ?_
    show G T62 (mkF m 217 #[.val (.int p0), .val (.ref b1), .val (.int 2), .val (.int 1)] [])
    refine step (fun t k => XS.iconst X62.here hx rfl (hb hby at_217) k) ?_
    show G T62 (mkF m 218 #[.val (.int p0), .val (.ref b1), .val (.int 2), .val (.int 1)] [(.int 1)])
    refine step (fun t k => XS.goto X62.here hx rfl (pc0 := 218) (pc' := 222) rfl (hb hby at_218) (by decide) (by decide) k) ?_
    show G T62 (mkF m 222 #[.val (.int p0), .val (.ref b1), .val (.int 2), .val (.int 1)] [(.int 1)])
    exact ret (v := some (.int 1)) X62 (fun h => by rw [Bd.returns] at h; cases h) (fun fs hr => retN X62 hx (t := .boolean) Bd.returns (by simp) (hb hby at_222) hr) e62 ⟨rfl, N62⟩ (by decide) (by decide)
  · rw [hk]
    show G T53 (mkF m 189 #[.val (.int p0), .val (.ref b1), .unset, .unset] [(.int 3)])
    refine step (fun t k => XS.istoreN X53.here hx rfl (hb hby at_189) rfl (l' := #[.val (.int p0), .val (.ref b1), .val (.int 3), .unset]) rfl k) ?_
    show G T53 (mkF m 190 #[.val (.int p0), .val (.ref b1), .val (.int 3), .unset] [])
    refine step (fun t k => XS.iloadN X53.here hx rfl (hb hby at_190) rfl k) ?_
    show G T53 (mkF m 191 #[.val (.int p0), .val (.ref b1), .val (.int 3), .unset] [(.int 3)])
    refine step (fun t k => XS.iconst X53.here hx rfl (hb hby at_191) k) ?_
    show G T53 (mkF m 192 #[.val (.int p0), .val (.ref b1), .val (.int 3), .unset] [(.int 2), (.int 3)])
    refine step (fun t k => XS.icmpNo X53.here hx rfl (hb hby at_192) rfl (flt (by decide : ¬ ((3 : Int32) < (2 : Int32)))).1 k) ?_
    show G T53 (mkF m 195 #[.val (.int p0), .val (.ref b1), .val (.int 3), .unset] [])
    refine step (fun t k => XS.iloadN X53.here hx rfl (hb hby at_195) rfl k) ?_
    show G T53 (mkF m 196 #[.val (.int p0), .val (.ref b1), .val (.int 3), .unset] [(.int 3)])
    refine step (fun t k => XS.bipush X53.here hx rfl (hb hby at_196) k) ?_
    show G T53 (mkF m 198 #[.val (.int p0), .val (.ref b1), .val (.int 3), .unset] [(.int 8), (.int 3)])
    refine step (fun t k => XS.icmpNo X53.here hx rfl (hb hby at_198) rfl (flt (by decide : ¬ ((8 : Int32) < (3 : Int32)))).2.2.1 k) ?_
    show G T53 (mkF m 201 #[.val (.int p0), .val (.ref b1), .val (.int 3), .unset] [])
    refine step (fun t k => XS.iconst X53.here hx rfl (hb hby at_201) k) ?_
    show G T53 (mkF m 202 #[.val (.int p0), .val (.ref b1), .val (.int 3), .unset] [(.int 1)])
    refine step (fun t k => XS.goto X53.here hx rfl (pc0 := 202) (pc' := 206) rfl (hb hby at_202) (by decide) (by decide) k) ?_
    show G T53 (mkF m 206 #[.val (.int p0), .val (.ref b1), .val (.int 3), .unset] [(.int 1)])
    refine step (fun t k => XS.istoreN X53.here hx rfl (hb hby at_206) rfl (l' := #[.val (.int p0), .val (.ref b1), .val (.int 3), .val (.int 1)]) rfl k) ?_
    show G T53 (mkF m 207 #[.val (.int p0), .val (.ref b1), .val (.int 3), .val (.int 1)] [])
    refine step (fun t k => XS.aloadN X53.here hx rfl (hb hby at_207) rfl rfl k) ?_
    show G T53 (mkF m 208 #[.val (.int p0), .val (.ref b1), .val (.int 3), .val (.int 1)] [(.ref b1)])
    refine step (fun t k => XS.iloadN X53.here hx rfl (hb hby at_208) rfl k) ?_
    show G T53 (mkF m 209 #[.val (.int p0), .val (.ref b1), .val (.int 3), .val (.int 1)] [(.int 3), (.ref b1)])
    have q64 := own_ldR X53 hx hZ e53 V53 (j := (3 : Int32)) (v := (.ref w_GREATER_THAN_EQUAL)) (by decide) (own_at (i := 3) rfl rfl) rfl (g := (mkF m 209 #[.val (.int p0), .val (.ref b1), .val (.int 3), .val (.int 1)] [(.int 3), (.ref b1)])) rfl rfl (hb hby at_209)
    refine step q64 ?_
    show G T53 (mkF m 210 #[.val (.int p0), .val (.ref b1), .val (.int 3), .val (.int 1)] [(.ref w_GREATER_THAN_EQUAL)])
    have hK65 := (backOf (R := room_1) (p := p) (e := e) (below := below) (s := s) (args := #[(.int p0)]) (len := 3) (W := 0) (rm_ord l Z a0 hw [] w_EQUALS w_NOT w_GREATER_THAN w_GREATER_THAN_EQUAL w_LESS_THAN w_LESS_THAN_EQUAL w_AFTER w_BEFORE w_BETWEEN w_IN w_NOT_IN w_IS_NULL w_IS_NOT_NULL w_TRUE w_FALSE w_EXISTS w_STARTING_WITH w_ENDING_WITH w_CONTAINING w_NOT_CONTAINING w_LIKE w_NOT_LIKE w_REGEX w_NEAR w_WITHIN w_IGNORE_CASE w_GREATER_THAN_EQUAL h53 n0 (own_old_le O53) ST O53) hZ (ww61 hw) (ww3 hw) (by decide) (by decide))
    obtain ⟨cq65, kq65, q65a, q65b, q65c⟩ := isOf hZ e53 (Exa.ext O53.2 ST.k7)
    obtain ⟨_, _, ⟨T65, L65, k65, n65⟩, -, X65, ⟨Lc65, hQ65, l65, y65, z65⟩, st65⟩ := X53.virtualBack hx (y := y_0) (z := y_0) hown (mvT hZ (ww57 hw)) (mvT hZ (ww58 hw)) (notFace_of_selects (args := #[]) (mvT hZ (ww60 hw))) (mvT hZ (ww60 hw)) (mvT hZ (ww59 hw)) (by decide) hK65 q65a q65c (g := (mkF m 210 #[.val (.int p0), .val (.ref b1), .val (.int 3), .val (.int 1)] [(.ref w_GREATER_THAN_EQUAL)])) rfl (by rw [hml]; rfl) (Steps.refl _) (argsL := []) (rest := []) (lenOf pd_0 rfl) rfl (by show 2 * 0 + _ ≤ _; exact Nat.le_of_eq rfl) (hb hby at_210) (fun _ _ => ⟨rfl, e53, (by decide : 1 + 0 ≤ _), (by decide : 26 + 0 ≤ _)⟩)
    dsimp only [Pt.U, Pt.locs, Pt.cells, Pt.slots] at X65 l65 y65 z65 st65 hQ65
    subst l65 y65 z65
    obtain ⟨rfl, N65q, e65⟩ := hQ65
    have N65 := Fr.app N53 N65q
    obtain ⟨lc65, X65, N65⟩ := own_gen X65 N65
    refine step (fun t k => st65.trans k) ?_
    show G T65 (mkF m 213 #[.val (.int p0), .val (.ref b1), .val (.int 3), .val (.int 1)] [(.int (f_ord w_EQUALS w_NOT w_GREATER_THAN w_GREATER_THAN_EQUAL w_LESS_THAN w_LESS_THAN_EQUAL w_AFTER w_BEFORE w_BETWEEN w_IN w_NOT_IN w_IS_NULL w_IS_NOT_NULL w_TRUE w_FALSE w_EXISTS w_STARTING_WITH w_ENDING_WITH w_CONTAINING w_NOT_CONTAINING w_LIKE w_NOT_LIKE w_REGEX w_NEAR w_WITHIN w_IGNORE_CASE w_GREATER_THAN_EQUAL))])
    have r66 : (f_ord w_EQUALS w_NOT w_GREATER_THAN w_GREATER_THAN_EQUAL w_LESS_THAN w_LESS_THAN_EQUAL w_AFTER w_BEFORE w_BETWEEN w_IN w_NOT_IN w_IS_NULL w_IS_NOT_NULL w_TRUE w_FALSE w_EXISTS w_STARTING_WITH w_ENDING_WITH w_CONTAINING w_NOT_CONTAINING w_LIKE w_NOT_LIKE w_REGEX w_NEAR w_WITHIN w_IGNORE_CASE w_GREATER_THAN_EQUAL) = (1 : Int32) := by
      unfold f_ord
      rw [if_neg ((Fld.ne ST.k54 ST.k53 (fun q => absurd (Value.int.inj q) (by decide))) : ¬ (w_GREATER_THAN_EQUAL = w_GREATER_THAN)), if_pos (rfl : w_GREATER_THAN_EQUAL = w_GREATER_THAN_EQUAL)]
    rw [r66]
    show G T65 (mkF m 213 #[.val (.int p0), .val (.ref b1), .val (.int 3), .val (.int 1)] [(.int 1)])
    refine step (fun t k => XS.iloadN X65.here hx rfl (hb hby at_213) rfl k) ?_
    show G T65 (mkF m 214 #[.val (.int p0), .val (.ref b1), .val (.int 3), .val (.int 1)] [(.int 1), (.int 1)])
    refine step (fun t k => XS.icmpNo X65.here hx rfl (hb hby at_214) rfl (teq (by decide : (1 : Int32) = (1 : Int32))).2 k) ?_
    show G T65 (mkF m 217 #[.val (.int p0), .val (.ref b1), .val (.int 3), .val (.int 1)] [])
    refine step (fun t k => XS.iconst X65.here hx rfl (hb hby at_217) k) ?_
    show G T65 (mkF m 218 #[.val (.int p0), .val (.ref b1), .val (.int 3), .val (.int 1)] [(.int 1)])
    refine step (fun t k => XS.goto X65.here hx rfl (pc0 := 218) (pc' := 222) rfl (hb hby at_218) (by decide) (by decide) k) ?_
    show G T65 (mkF m 222 #[.val (.int p0), .val (.ref b1), .val (.int 3), .val (.int 1)] [(.int 1)])
    exact ret (v := some (.int 1)) X65 (fun h => by rw [Bd.returns] at h; cases h) (fun fs hr => retN X65 hx (t := .boolean) Bd.returns (by simp) (hb hby at_222) hr) e65 ⟨rfl, N65⟩ (by decide) (by decide)
  · rw [hk]
    show G T53 (mkF m 189 #[.val (.int p0), .val (.ref b1), .unset, .unset] [(.int 4)])
    refine step (fun t k => XS.istoreN X53.here hx rfl (hb hby at_189) rfl (l' := #[.val (.int p0), .val (.ref b1), .val (.int 4), .unset]) rfl k) ?_
    show G T53 (mkF m 190 #[.val (.int p0), .val (.ref b1), .val (.int 4), .unset] [])
    refine step (fun t k => XS.iloadN X53.here hx rfl (hb hby at_190) rfl k) ?_
    show G T53 (mkF m 191 #[.val (.int p0), .val (.ref b1), .val (.int 4), .unset] [(.int 4)])
    refine step (fun t k => XS.iconst X53.here hx rfl (hb hby at_191) k) ?_
    show G T53 (mkF m 192 #[.val (.int p0), .val (.ref b1), .val (.int 4), .unset] [(.int 2), (.int 4)])
    refine step (fun t k => XS.icmpNo X53.here hx rfl (hb hby at_192) rfl (flt (by decide : ¬ ((4 : Int32) < (2 : Int32)))).1 k) ?_
    show G T53 (mkF m 195 #[.val (.int p0), .val (.ref b1), .val (.int 4), .unset] [])
    refine step (fun t k => XS.iloadN X53.here hx rfl (hb hby at_195) rfl k) ?_
    show G T53 (mkF m 196 #[.val (.int p0), .val (.ref b1), .val (.int 4), .unset] [(.int 4)])
    refine step (fun t k => XS.bipush X53.here hx rfl (hb hby at_196) k) ?_
    show G T53 (mkF m 198 #[.val (.int p0), .val (.ref b1), .val (.int 4), .unset] [(.int 8), (.int 4)])
    refine step (fun t k => XS.icmpNo X53.here hx rfl (hb hby at_198) rfl (flt (by decide : ¬ ((8 : Int32) < (4 : Int32)))).2.2.1 k) ?_
    show G T53 (mkF m 201 #[.val (.int p0), .val (.ref b1), .val (.int 4), .unset] [])
    refine step (fun t k => XS.iconst X53.here hx rfl (hb hby at_201) k) ?_
    show G T53 (mkF m 202 #[.val (.int p0), .val (.ref b1), .val (.int 4), .unset] [(.int 1)])
    refine step (fun t k => XS.goto X53.here hx rfl (pc0 := 202) (pc' := 206) rfl (hb hby at_202) (by decide) (by decide) k) ?_
    show G T53 (mkF m 206 #[.val (.int p0), .val (.ref b1), .val (.int 4), .unset] [(.int 1)])
    refine step (fun t k => XS.istoreN X53.here hx rfl (hb hby at_206) rfl (l' := #[.val (.int p0), .val (.ref b1), .val (.int 4), .val (.int 1)]) rfl k) ?_
    show G T53 (mkF m 207 #[.val (.int p0), .val (.ref b1), .val (.int 4), .val (.int 1)] [])
    refine step (fun t k => XS.aloadN X53.here hx rfl (hb hby at_207) rfl rfl k) ?_
    show G T53 (mkF m 208 #[.val (.int p0), .val (.ref b1), .val (.int 4), .val (.int 1)] [(.ref b1)])
    refine step (fun t k => XS.iloadN X53.here hx rfl (hb hby at_208) rfl k) ?_
    show G T53 (mkF m 209 #[.val (.int p0), .val (.ref b1), .val (.int 4), .val (.int 1)] [(.int 4), (.ref b1)])
    have q67 := own_ldR X53 hx hZ e53 V53 (j := (4 : Int32)) (v := (.ref w_LESS_THAN)) (by decide) (own_at (i := 4) rfl rfl) rfl (g := (mkF m 209 #[.val (.int p0), .val (.ref b1), .val (.int 4), .val (.int 1)] [(.int 4), (.ref b1)])) rfl rfl (hb hby at_209)
    refine step q67 ?_
    show G T53 (mkF m 210 #[.val (.int p0), .val (.ref b1), .val (.int 4), .val (.int 1)] [(.ref w_LESS_THAN)])
    have hK68 := (backOf (R := room_1) (p := p) (e := e) (below := below) (s := s) (args := #[(.int p0)]) (len := 3) (W := 0) (rm_ord l Z a0 hw [] w_EQUALS w_NOT w_GREATER_THAN w_GREATER_THAN_EQUAL w_LESS_THAN w_LESS_THAN_EQUAL w_AFTER w_BEFORE w_BETWEEN w_IN w_NOT_IN w_IS_NULL w_IS_NOT_NULL w_TRUE w_FALSE w_EXISTS w_STARTING_WITH w_ENDING_WITH w_CONTAINING w_NOT_CONTAINING w_LIKE w_NOT_LIKE w_REGEX w_NEAR w_WITHIN w_IGNORE_CASE w_LESS_THAN h53 n0 (own_old_le O53) ST O53) hZ (ww61 hw) (ww3 hw) (by decide) (by decide))
    obtain ⟨cq68, kq68, q68a, q68b, q68c⟩ := isOf hZ e53 (Exa.ext O53.2 ST.k9)
    obtain ⟨_, _, ⟨T68, L68, k68, n68⟩, -, X68, ⟨Lc68, hQ68, l68, y68, z68⟩, st68⟩ := X53.virtualBack hx (y := y_0) (z := y_0) hown (mvT hZ (ww57 hw)) (mvT hZ (ww58 hw)) (notFace_of_selects (args := #[]) (mvT hZ (ww60 hw))) (mvT hZ (ww60 hw)) (mvT hZ (ww59 hw)) (by decide) hK68 q68a q68c (g := (mkF m 210 #[.val (.int p0), .val (.ref b1), .val (.int 4), .val (.int 1)] [(.ref w_LESS_THAN)])) rfl (by rw [hml]; rfl) (Steps.refl _) (argsL := []) (rest := []) (lenOf pd_0 rfl) rfl (by show 2 * 0 + _ ≤ _; exact Nat.le_of_eq rfl) (hb hby at_210) (fun _ _ => ⟨rfl, e53, (by decide : 1 + 0 ≤ _), (by decide : 26 + 0 ≤ _)⟩)
    dsimp only [Pt.U, Pt.locs, Pt.cells, Pt.slots] at X68 l68 y68 z68 st68 hQ68
    subst l68 y68 z68
    obtain ⟨rfl, N68q, e68⟩ := hQ68
    have N68 := Fr.app N53 N68q
    obtain ⟨lc68, X68, N68⟩ := own_gen X68 N68
    refine step (fun t k => st68.trans k) ?_
    show G T68 (mkF m 213 #[.val (.int p0), .val (.ref b1), .val (.int 4), .val (.int 1)] [(.int (f_ord w_EQUALS w_NOT w_GREATER_THAN w_GREATER_THAN_EQUAL w_LESS_THAN w_LESS_THAN_EQUAL w_AFTER w_BEFORE w_BETWEEN w_IN w_NOT_IN w_IS_NULL w_IS_NOT_NULL w_TRUE w_FALSE w_EXISTS w_STARTING_WITH w_ENDING_WITH w_CONTAINING w_NOT_CONTAINING w_LIKE w_NOT_LIKE w_REGEX w_NEAR w_WITHIN w_IGNORE_CASE w_LESS_THAN))])
    have r69 : (f_ord w_EQUALS w_NOT w_GREATER_THAN w_GREATER_THAN_EQUAL w_LESS_THAN w_LESS_THAN_EQUAL w_AFTER w_BEFORE w_BETWEEN w_IN w_NOT_IN w_IS_NULL w_IS_NOT_NULL w_TRUE w_FALSE w_EXISTS w_STARTING_WITH w_ENDING_WITH w_CONTAINING w_NOT_CONTAINING w_LIKE w_NOT_LIKE w_REGEX w_NEAR w_WITHIN w_IGNORE_CASE w_LESS_THAN) = (1 : Int32) := by
      unfold f_ord
      rw [if_neg ((Fld.ne ST.k55 ST.k53 (fun q => absurd (Value.int.inj q) (by decide))) : ¬ (w_LESS_THAN = w_GREATER_THAN)), if_neg ((Fld.ne ST.k55 ST.k54 (fun q => absurd (Value.int.inj q) (by decide))) : ¬ (w_LESS_THAN = w_GREATER_THAN_EQUAL)), if_pos (rfl : w_LESS_THAN = w_LESS_THAN)]
    rw [r69]
    show G T68 (mkF m 213 #[.val (.int p0), .val (.ref b1), .val (.int 4), .val (.int 1)] [(.int 1)])
    refine step (fun t k => XS.iloadN X68.here hx rfl (hb hby at_213) rfl k) ?_
    show G T68 (mkF m 214 #[.val (.int p0), .val (.ref b1), .val (.int 4), .val (.int 1)] [(.int 1), (.int 1)])
    refine step (fun t k => XS.icmpNo X68.here hx rfl (hb hby at_214) rfl (teq (by decide : (1 : Int32) = (1 : Int32))).2 k) ?_
    show G T68 (mkF m 217 #[.val (.int p0), .val (.ref b1), .val (.int 4), .val (.int 1)] [])
    refine step (fun t k => XS.iconst X68.here hx rfl (hb hby at_217) k) ?_
    show G T68 (mkF m 218 #[.val (.int p0), .val (.ref b1), .val (.int 4), .val (.int 1)] [(.int 1)])
    refine step (fun t k => XS.goto X68.here hx rfl (pc0 := 218) (pc' := 222) rfl (hb hby at_218) (by decide) (by decide) k) ?_
    show G T68 (mkF m 222 #[.val (.int p0), .val (.ref b1), .val (.int 4), .val (.int 1)] [(.int 1)])
    exact ret (v := some (.int 1)) X68 (fun h => by rw [Bd.returns] at h; cases h) (fun fs hr => retN X68 hx (t := .boolean) Bd.returns (by simp) (hb hby at_222) hr) e68 ⟨rfl, N68⟩ (by decide) (by decide)
  · rw [hk]
    show G T53 (mkF m 189 #[.val (.int p0), .val (.ref b1), .unset, .unset] [(.int 5)])
    refine step (fun t k => XS.istoreN X53.here hx rfl (hb hby at_189) rfl (l' := #[.val (.int p0), .val (.ref b1), .val (.int 5), .unset]) rfl k) ?_
    show G T53 (mkF m 190 #[.val (.int p0), .val (.ref b1), .val (.int 5), .unset] [])
    refine step (fun t k => XS.iloadN X53.here hx rfl (hb hby at_190) rfl k) ?_
    show G T53 (mkF m 191 #[.val (.int p0), .val (.ref b1), .val (.int 5), .unset] [(.int 5)])
    refine step (fun t k => XS.iconst X53.here hx rfl (hb hby at_191) k) ?_
    show G T53 (mkF m 192 #[.val (.int p0), .val (.ref b1), .val (.int 5), .unset] [(.int 2), (.int 5)])
    refine step (fun t k => XS.icmpNo X53.here hx rfl (hb hby at_192) rfl (flt (by decide : ¬ ((5 : Int32) < (2 : Int32)))).1 k) ?_
    show G T53 (mkF m 195 #[.val (.int p0), .val (.ref b1), .val (.int 5), .unset] [])
    refine step (fun t k => XS.iloadN X53.here hx rfl (hb hby at_195) rfl k) ?_
    show G T53 (mkF m 196 #[.val (.int p0), .val (.ref b1), .val (.int 5), .unset] [(.int 5)])
    refine step (fun t k => XS.bipush X53.here hx rfl (hb hby at_196) k) ?_
    show G T53 (mkF m 198 #[.val (.int p0), .val (.ref b1), .val (.int 5), .unset] [(.int 8), (.int 5)])
    refine step (fun t k => XS.icmpNo X53.here hx rfl (hb hby at_198) rfl (flt (by decide : ¬ ((8 : Int32) < (5 : Int32)))).2.2.1 k) ?_
    show G T53 (mkF m 201 #[.val (.int p0), .val (.ref b1), .val (.int 5), .unset] [])
    refine step (fun t k => XS.iconst X53.here hx rfl (hb hby at_201) k) ?_
    show G T53 (mkF m 202 #[.val (.int p0), .val (.ref b1), .val (.int 5), .unset] [(.int 1)])
    refine step (fun t k => XS.goto X53.here hx rfl (pc0 := 202) (pc' := 206) rfl (hb hby at_202) (by decide) (by decide) k) ?_
    show G T53 (mkF m 206 #[.val (.int p0), .val (.ref b1), .val (.int 5), .unset] [(.int 1)])
    refine step (fun t k => XS.istoreN X53.here hx rfl (hb hby at_206) rfl (l' := #[.val (.int p0), .val (.ref b1), .val (.int 5), .val (.int 1)]) rfl k) ?_
    show G T53 (mkF m 207 #[.val (.int p0), .val (.ref b1), .val (.int 5), .val (.int 1)] [])
    refine step (fun t k => XS.aloadN X53.here hx rfl (hb hby at_207) rfl rfl k) ?_
    show G T53 (mkF m 208 #[.val (.int p0), .val (.ref b1), .val (.int 5), .val (.int 1)] [(.ref b1)])
    refine step (fun t k => XS.iloadN X53.here hx rfl (hb hby at_208) rfl k) ?_
    show G T53 (mkF m 209 #[.val (.int p0), .val (.ref b1), .val (.int 5), .val (.int 1)] [(.int 5), (.ref b1)])
    have q70 := own_ldR X53 hx hZ e53 V53 (j := (5 : Int32)) (v := (.ref w_LESS_THAN_EQUAL)) (by decide) (own_at (i := 5) rfl rfl) rfl (g := (mkF m 209 #[.val (.int p0), .val (.ref b1), .val (.int 5), .val (.int 1)] [(.int 5), (.ref b1)])) rfl rfl (hb hby at_209)
    refine step q70 ?_
    show G T53 (mkF m 210 #[.val (.int p0), .val (.ref b1), .val (.int 5), .val (.int 1)] [(.ref w_LESS_THAN_EQUAL)])
    have hK71 := (backOf (R := room_1) (p := p) (e := e) (below := below) (s := s) (args := #[(.int p0)]) (len := 3) (W := 0) (rm_ord l Z a0 hw [] w_EQUALS w_NOT w_GREATER_THAN w_GREATER_THAN_EQUAL w_LESS_THAN w_LESS_THAN_EQUAL w_AFTER w_BEFORE w_BETWEEN w_IN w_NOT_IN w_IS_NULL w_IS_NOT_NULL w_TRUE w_FALSE w_EXISTS w_STARTING_WITH w_ENDING_WITH w_CONTAINING w_NOT_CONTAINING w_LIKE w_NOT_LIKE w_REGEX w_NEAR w_WITHIN w_IGNORE_CASE w_LESS_THAN_EQUAL h53 n0 (own_old_le O53) ST O53) hZ (ww61 hw) (ww3 hw) (by decide) (by decide))
    obtain ⟨cq71, kq71, q71a, q71b, q71c⟩ := isOf hZ e53 (Exa.ext O53.2 ST.k11)
    obtain ⟨_, _, ⟨T71, L71, k71, n71⟩, -, X71, ⟨Lc71, hQ71, l71, y71, z71⟩, st71⟩ := X53.virtualBack hx (y := y_0) (z := y_0) hown (mvT hZ (ww57 hw)) (mvT hZ (ww58 hw)) (notFace_of_selects (args := #[]) (mvT hZ (ww60 hw))) (mvT hZ (ww60 hw)) (mvT hZ (ww59 hw)) (by decide) hK71 q71a q71c (g := (mkF m 210 #[.val (.int p0), .val (.ref b1), .val (.int 5), .val (.int 1)] [(.ref w_LESS_THAN_EQUAL)])) rfl (by rw [hml]; rfl) (Steps.refl _) (argsL := []) (rest := []) (lenOf pd_0 rfl) rfl (by show 2 * 0 + _ ≤ _; exact Nat.le_of_eq rfl) (hb hby at_210) (fun _ _ => ⟨rfl, e53, (by decide : 1 + 0 ≤ _), (by decide : 26 + 0 ≤ _)⟩)
    dsimp only [Pt.U, Pt.locs, Pt.cells, Pt.slots] at X71 l71 y71 z71 st71 hQ71
    subst l71 y71 z71
    obtain ⟨rfl, N71q, e71⟩ := hQ71
    have N71 := Fr.app N53 N71q
    obtain ⟨lc71, X71, N71⟩ := own_gen X71 N71
    refine step (fun t k => st71.trans k) ?_
    show G T71 (mkF m 213 #[.val (.int p0), .val (.ref b1), .val (.int 5), .val (.int 1)] [(.int (f_ord w_EQUALS w_NOT w_GREATER_THAN w_GREATER_THAN_EQUAL w_LESS_THAN w_LESS_THAN_EQUAL w_AFTER w_BEFORE w_BETWEEN w_IN w_NOT_IN w_IS_NULL w_IS_NOT_NULL w_TRUE w_FALSE w_EXISTS w_STARTING_WITH w_ENDING_WITH w_CONTAINING w_NOT_CONTAINING w_LIKE w_NOT_LIKE w_REGEX w_NEAR w_WITHIN w_IGNORE_CASE w_LESS_THAN_EQUAL))])
    have r72 : (f_ord w_EQUALS w_NOT w_GREATER_THAN w_GREATER_THAN_EQUAL w_LESS_THAN w_LESS_THAN_EQUAL w_AFTER w_BEFORE w_BETWEEN w_IN w_NOT_IN w_IS_NULL w_IS_NOT_NULL w_TRUE w_FALSE w_EXISTS w_STARTING_WITH w_ENDING_WITH w_CONTAINING w_NOT_CONTAINING w_LIKE w_NOT_LIKE w_REGEX w_NEAR w_WITHIN w_IGNORE_CASE w_LESS_THAN_EQUAL) = (1 : Int32) := by
      unfold f_ord
      rw [if_neg ((Fld.ne ST.k56 ST.k53 (fun q => absurd (Value.int.inj q) (by decide))) : ¬ (w_LESS_THAN_EQUAL = w_GREATER_THAN)), if_neg ((Fld.ne ST.k56 ST.k54 (fun q => absurd (Value.int.inj q) (by decide))) : ¬ (w_LESS_THAN_EQUAL = w_GREATER_THAN_EQUAL)), if_neg ((Fld.ne ST.k56 ST.k55 (fun q => absurd (Value.int.inj q) (by decide))) : ¬ (w_LESS_THAN_EQUAL = w_LESS_THAN)), if_pos (rfl : w_LESS_THAN_EQUAL = w_LESS_THAN_EQUAL)]
    rw [r72]
    show G T71 (mkF m 213 #[.val (.int p0), .val (.ref b1), .val (.int 5), .val (.int 1)] [(.int 1)])
    refine step (fun t k => XS.iloadN X71.here hx rfl (hb hby at_213) rfl k) ?_
    show G T71 (mkF m 214 #[.val (.int p0), .val (.ref b1), .val (.int 5), .val (.int 1)] [(.int 1), (.int 1)])
    refine step (fun t k => XS.icmpNo X71.here hx rfl (hb hby at_214) rfl (teq (by decide : (1 : Int32) = (1 : Int32))).2 k) ?_
    show G T71 (mkF m 217 #[.val (.int p0), .val (.ref b1), .val (.int 5), .val (.int 1)] [])
    refine step (fun t k => XS.iconst X71.here hx rfl (hb hby at_217) k) ?_
    show G T71 (mkF m 218 #[.val (.int p0), .val (.ref b1), .val (.int 5), .val (.int 1)] [(.int 1)])
    refine step (fun t k => XS.goto X71.here hx rfl (pc0 := 218) (pc' := 222) rfl (hb hby at_218) (by decide) (by decide) k) ?_
    show G T71 (mkF m 222 #[.val (.int p0), .val (.ref b1), .val (.int 5), .val (.int 1)] [(.int 1)])
    exact ret (v := some (.int 1)) X71 (fun h => by rw [Bd.returns] at h; cases h) (fun fs hr => retN X71 hx (t := .boolean) Bd.returns (by simp) (hb hby at_222) hr) e71 ⟨rfl, N71⟩ (by decide) (by decide)
  · rw [hk]
    show G T53 (mkF m 189 #[.val (.int p0), .val (.ref b1), .unset, .unset] [(.int 6)])
    refine step (fun t k => XS.istoreN X53.here hx rfl (hb hby at_189) rfl (l' := #[.val (.int p0), .val (.ref b1), .val (.int 6), .unset]) rfl k) ?_
    show G T53 (mkF m 190 #[.val (.int p0), .val (.ref b1), .val (.int 6), .unset] [])
    refine step (fun t k => XS.iloadN X53.here hx rfl (hb hby at_190) rfl k) ?_
    show G T53 (mkF m 191 #[.val (.int p0), .val (.ref b1), .val (.int 6), .unset] [(.int 6)])
    refine step (fun t k => XS.iconst X53.here hx rfl (hb hby at_191) k) ?_
    show G T53 (mkF m 192 #[.val (.int p0), .val (.ref b1), .val (.int 6), .unset] [(.int 2), (.int 6)])
    refine step (fun t k => XS.icmpNo X53.here hx rfl (hb hby at_192) rfl (flt (by decide : ¬ ((6 : Int32) < (2 : Int32)))).1 k) ?_
    show G T53 (mkF m 195 #[.val (.int p0), .val (.ref b1), .val (.int 6), .unset] [])
    refine step (fun t k => XS.iloadN X53.here hx rfl (hb hby at_195) rfl k) ?_
    show G T53 (mkF m 196 #[.val (.int p0), .val (.ref b1), .val (.int 6), .unset] [(.int 6)])
    refine step (fun t k => XS.bipush X53.here hx rfl (hb hby at_196) k) ?_
    show G T53 (mkF m 198 #[.val (.int p0), .val (.ref b1), .val (.int 6), .unset] [(.int 8), (.int 6)])
    refine step (fun t k => XS.icmpNo X53.here hx rfl (hb hby at_198) rfl (flt (by decide : ¬ ((8 : Int32) < (6 : Int32)))).2.2.1 k) ?_
    show G T53 (mkF m 201 #[.val (.int p0), .val (.ref b1), .val (.int 6), .unset] [])
    refine step (fun t k => XS.iconst X53.here hx rfl (hb hby at_201) k) ?_
    show G T53 (mkF m 202 #[.val (.int p0), .val (.ref b1), .val (.int 6), .unset] [(.int 1)])
    refine step (fun t k => XS.goto X53.here hx rfl (pc0 := 202) (pc' := 206) rfl (hb hby at_202) (by decide) (by decide) k) ?_
    show G T53 (mkF m 206 #[.val (.int p0), .val (.ref b1), .val (.int 6), .unset] [(.int 1)])
    refine step (fun t k => XS.istoreN X53.here hx rfl (hb hby at_206) rfl (l' := #[.val (.int p0), .val (.ref b1), .val (.int 6), .val (.int 1)]) rfl k) ?_
    show G T53 (mkF m 207 #[.val (.int p0), .val (.ref b1), .val (.int 6), .val (.int 1)] [])
    refine step (fun t k => XS.aloadN X53.here hx rfl (hb hby at_207) rfl rfl k) ?_
    show G T53 (mkF m 208 #[.val (.int p0), .val (.ref b1), .val (.int 6), .val (.int 1)] [(.ref b1)])
    refine step (fun t k => XS.iloadN X53.here hx rfl (hb hby at_208) rfl k) ?_
    show G T53 (mkF m 209 #[.val (.int p0), .val (.ref b1), .val (.int 6), .val (.int 1)] [(.int 6), (.ref b1)])
    have q73 := own_ldR X53 hx hZ e53 V53 (j := (6 : Int32)) (v := (.ref w_AFTER)) (by decide) (own_at (i := 6) rfl rfl) rfl (g := (mkF m 209 #[.val (.int p0), .val (.ref b1), .val (.int 6), .val (.int 1)] [(.int 6), (.ref b1)])) rfl rfl (hb hby at_209)
    refine step q73 ?_
    show G T53 (mkF m 210 #[.val (.int p0), .val (.ref b1), .val (.int 6), .val (.int 1)] [(.ref w_AFTER)])
    have hK74 := (backOf (R := room_1) (p := p) (e := e) (below := below) (s := s) (args := #[(.int p0)]) (len := 3) (W := 0) (rm_ord l Z a0 hw [] w_EQUALS w_NOT w_GREATER_THAN w_GREATER_THAN_EQUAL w_LESS_THAN w_LESS_THAN_EQUAL w_AFTER w_BEFORE w_BETWEEN w_IN w_NOT_IN w_IS_NULL w_IS_NOT_NULL w_TRUE w_FALSE w_EXISTS w_STARTING_WITH w_ENDING_WITH w_CONTAINING w_NOT_CONTAINING w_LIKE w_NOT_LIKE w_REGEX w_NEAR w_WITHIN w_IGNORE_CASE w_AFTER h53 n0 (own_old_le O53) ST O53) hZ (ww61 hw) (ww3 hw) (by decide) (by decide))
    obtain ⟨cq74, kq74, q74a, q74b, q74c⟩ := isOf hZ e53 (Exa.ext O53.2 ST.k13)
    obtain ⟨_, _, ⟨T74, L74, k74, n74⟩, -, X74, ⟨Lc74, hQ74, l74, y74, z74⟩, st74⟩ := X53.virtualBack hx (y := y_0) (z := y_0) hown (mvT hZ (ww57 hw)) (mvT hZ (ww58 hw)) (notFace_of_selects (args := #[]) (mvT hZ (ww60 hw))) (mvT hZ (ww60 hw)) (mvT hZ (ww59 hw)) (by decide) hK74 q74a q74c (g := (mkF m 210 #[.val (.int p0), .val (.ref b1), .val (.int 6), .val (.int 1)] [(.ref w_AFTER)])) rfl (by rw [hml]; rfl) (Steps.refl _) (argsL := []) (rest := []) (lenOf pd_0 rfl) rfl (by show 2 * 0 + _ ≤ _; exact Nat.le_of_eq rfl) (hb hby at_210) (fun _ _ => ⟨rfl, e53, (by decide : 1 + 0 ≤ _), (by decide : 26 + 0 ≤ _)⟩)
    dsimp only [Pt.U, Pt.locs, Pt.cells, Pt.slots] at X74 l74 y74 z74 st74 hQ74
    subst l74 y74 z74
    obtain ⟨rfl, N74q, e74⟩ := hQ74
    have N74 := Fr.app N53 N74q
    obtain ⟨lc74, X74, N74⟩ := own_gen X74 N74
    refine step (fun t k => st74.trans k) ?_
    show G T74 (mkF m 213 #[.val (.int p0), .val (.ref b1), .val (.int 6), .val (.int 1)] [(.int (f_ord w_EQUALS w_NOT w_GREATER_THAN w_GREATER_THAN_EQUAL w_LESS_THAN w_LESS_THAN_EQUAL w_AFTER w_BEFORE w_BETWEEN w_IN w_NOT_IN w_IS_NULL w_IS_NOT_NULL w_TRUE w_FALSE w_EXISTS w_STARTING_WITH w_ENDING_WITH w_CONTAINING w_NOT_CONTAINING w_LIKE w_NOT_LIKE w_REGEX w_NEAR w_WITHIN w_IGNORE_CASE w_AFTER))])
    have r75 : (f_ord w_EQUALS w_NOT w_GREATER_THAN w_GREATER_THAN_EQUAL w_LESS_THAN w_LESS_THAN_EQUAL w_AFTER w_BEFORE w_BETWEEN w_IN w_NOT_IN w_IS_NULL w_IS_NOT_NULL w_TRUE w_FALSE w_EXISTS w_STARTING_WITH w_ENDING_WITH w_CONTAINING w_NOT_CONTAINING w_LIKE w_NOT_LIKE w_REGEX w_NEAR w_WITHIN w_IGNORE_CASE w_AFTER) = (1 : Int32) := by
      unfold f_ord
      rw [if_neg ((Fld.ne ST.k57 ST.k53 (fun q => absurd (Value.int.inj q) (by decide))) : ¬ (w_AFTER = w_GREATER_THAN)), if_neg ((Fld.ne ST.k57 ST.k54 (fun q => absurd (Value.int.inj q) (by decide))) : ¬ (w_AFTER = w_GREATER_THAN_EQUAL)), if_neg ((Fld.ne ST.k57 ST.k55 (fun q => absurd (Value.int.inj q) (by decide))) : ¬ (w_AFTER = w_LESS_THAN)), if_neg ((Fld.ne ST.k57 ST.k56 (fun q => absurd (Value.int.inj q) (by decide))) : ¬ (w_AFTER = w_LESS_THAN_EQUAL)), if_pos (rfl : w_AFTER = w_AFTER)]
    rw [r75]
    show G T74 (mkF m 213 #[.val (.int p0), .val (.ref b1), .val (.int 6), .val (.int 1)] [(.int 1)])
    refine step (fun t k => XS.iloadN X74.here hx rfl (hb hby at_213) rfl k) ?_
    show G T74 (mkF m 214 #[.val (.int p0), .val (.ref b1), .val (.int 6), .val (.int 1)] [(.int 1), (.int 1)])
    refine step (fun t k => XS.icmpNo X74.here hx rfl (hb hby at_214) rfl (teq (by decide : (1 : Int32) = (1 : Int32))).2 k) ?_
    show G T74 (mkF m 217 #[.val (.int p0), .val (.ref b1), .val (.int 6), .val (.int 1)] [])
    refine step (fun t k => XS.iconst X74.here hx rfl (hb hby at_217) k) ?_
    show G T74 (mkF m 218 #[.val (.int p0), .val (.ref b1), .val (.int 6), .val (.int 1)] [(.int 1)])
    refine step (fun t k => XS.goto X74.here hx rfl (pc0 := 218) (pc' := 222) rfl (hb hby at_218) (by decide) (by decide) k) ?_
    show G T74 (mkF m 222 #[.val (.int p0), .val (.ref b1), .val (.int 6), .val (.int 1)] [(.int 1)])
    exact ret (v := some (.int 1)) X74 (fun h => by rw [Bd.returns] at h; cases h) (fun fs hr => retN X74 hx (t := .boolean) Bd.returns (by simp) (hb hby at_222) hr) e74 ⟨rfl, N74⟩ (by decide) (by decide)
  · rw [hk]
    show G T53 (mkF m 189 #[.val (.int p0), .val (.ref b1), .unset, .unset] [(.int 7)])
    refine step (fun t k => XS.istoreN X53.here hx rfl (hb hby at_189) rfl (l' := #[.val (.int p0), .val (.ref b1), .val (.int 7), .unset]) rfl k) ?_
    show G T53 (mkF m 190 #[.val (.int p0), .val (.ref b1), .val (.int 7), .unset] [])
    refine step (fun t k => XS.iloadN X53.here hx rfl (hb hby at_190) rfl k) ?_
    show G T53 (mkF m 191 #[.val (.int p0), .val (.ref b1), .val (.int 7), .unset] [(.int 7)])
    refine step (fun t k => XS.iconst X53.here hx rfl (hb hby at_191) k) ?_
    show G T53 (mkF m 192 #[.val (.int p0), .val (.ref b1), .val (.int 7), .unset] [(.int 2), (.int 7)])
    refine step (fun t k => XS.icmpNo X53.here hx rfl (hb hby at_192) rfl (flt (by decide : ¬ ((7 : Int32) < (2 : Int32)))).1 k) ?_
    show G T53 (mkF m 195 #[.val (.int p0), .val (.ref b1), .val (.int 7), .unset] [])
    refine step (fun t k => XS.iloadN X53.here hx rfl (hb hby at_195) rfl k) ?_
    show G T53 (mkF m 196 #[.val (.int p0), .val (.ref b1), .val (.int 7), .unset] [(.int 7)])
    refine step (fun t k => XS.bipush X53.here hx rfl (hb hby at_196) k) ?_
    show G T53 (mkF m 198 #[.val (.int p0), .val (.ref b1), .val (.int 7), .unset] [(.int 8), (.int 7)])
    refine step (fun t k => XS.icmpNo X53.here hx rfl (hb hby at_198) rfl (flt (by decide : ¬ ((8 : Int32) < (7 : Int32)))).2.2.1 k) ?_
    show G T53 (mkF m 201 #[.val (.int p0), .val (.ref b1), .val (.int 7), .unset] [])
    refine step (fun t k => XS.iconst X53.here hx rfl (hb hby at_201) k) ?_
    show G T53 (mkF m 202 #[.val (.int p0), .val (.ref b1), .val (.int 7), .unset] [(.int 1)])
    refine step (fun t k => XS.goto X53.here hx rfl (pc0 := 202) (pc' := 206) rfl (hb hby at_202) (by decide) (by decide) k) ?_
    show G T53 (mkF m 206 #[.val (.int p0), .val (.ref b1), .val (.int 7), .unset] [(.int 1)])
    refine step (fun t k => XS.istoreN X53.here hx rfl (hb hby at_206) rfl (l' := #[.val (.int p0), .val (.ref b1), .val (.int 7), .val (.int 1)]) rfl k) ?_
    show G T53 (mkF m 207 #[.val (.int p0), .val (.ref b1), .val (.int 7), .val (.int 1)] [])
    refine step (fun t k => XS.aloadN X53.here hx rfl (hb hby at_207) rfl rfl k) ?_
    show G T53 (mkF m 208 #[.val (.int p0), .val (.ref b1), .val (.int 7), .val (.int 1)] [(.ref b1)])
    refine step (fun t k => XS.iloadN X53.here hx rfl (hb hby at_208) rfl k) ?_
    show G T53 (mkF m 209 #[.val (.int p0), .val (.ref b1), .val (.int 7), .val (.int 1)] [(.int 7), (.ref b1)])
    have q76 := own_ldR X53 hx hZ e53 V53 (j := (7 : Int32)) (v := (.ref w_BEFORE)) (by decide) (own_at (i := 7) rfl rfl) rfl (g := (mkF m 209 #[.val (.int p0), .val (.ref b1), .val (.int 7), .val (.int 1)] [(.int 7), (.ref b1)])) rfl rfl (hb hby at_209)
    refine step q76 ?_
    show G T53 (mkF m 210 #[.val (.int p0), .val (.ref b1), .val (.int 7), .val (.int 1)] [(.ref w_BEFORE)])
    have hK77 := (backOf (R := room_1) (p := p) (e := e) (below := below) (s := s) (args := #[(.int p0)]) (len := 3) (W := 0) (rm_ord l Z a0 hw [] w_EQUALS w_NOT w_GREATER_THAN w_GREATER_THAN_EQUAL w_LESS_THAN w_LESS_THAN_EQUAL w_AFTER w_BEFORE w_BETWEEN w_IN w_NOT_IN w_IS_NULL w_IS_NOT_NULL w_TRUE w_FALSE w_EXISTS w_STARTING_WITH w_ENDING_WITH w_CONTAINING w_NOT_CONTAINING w_LIKE w_NOT_LIKE w_REGEX w_NEAR w_WITHIN w_IGNORE_CASE w_BEFORE h53 n0 (own_old_le O53) ST O53) hZ (ww61 hw) (ww3 hw) (by decide) (by decide))
    obtain ⟨cq77, kq77, q77a, q77b, q77c⟩ := isOf hZ e53 (Exa.ext O53.2 ST.k15)
    obtain ⟨_, _, ⟨T77, L77, k77, n77⟩, -, X77, ⟨Lc77, hQ77, l77, y77, z77⟩, st77⟩ := X53.virtualBack hx (y := y_0) (z := y_0) hown (mvT hZ (ww57 hw)) (mvT hZ (ww58 hw)) (notFace_of_selects (args := #[]) (mvT hZ (ww60 hw))) (mvT hZ (ww60 hw)) (mvT hZ (ww59 hw)) (by decide) hK77 q77a q77c (g := (mkF m 210 #[.val (.int p0), .val (.ref b1), .val (.int 7), .val (.int 1)] [(.ref w_BEFORE)])) rfl (by rw [hml]; rfl) (Steps.refl _) (argsL := []) (rest := []) (lenOf pd_0 rfl) rfl (by show 2 * 0 + _ ≤ _; exact Nat.le_of_eq rfl) (hb hby at_210) (fun _ _ => ⟨rfl, e53, (by decide : 1 + 0 ≤ _), (by decide : 26 + 0 ≤ _)⟩)
    dsimp only [Pt.U, Pt.locs, Pt.cells, Pt.slots] at X77 l77 y77 z77 st77 hQ77
    subst l77 y77 z77
    obtain ⟨rfl, N77q, e77⟩ := hQ77
    have N77 := Fr.app N53 N77q
    obtain ⟨lc77, X77, N77⟩ := own_gen X77 N77
    refine step (fun t k => st77.trans k) ?_
    show G T77 (mkF m 213 #[.val (.int p0), .val (.ref b1), .val (.int 7), .val (.int 1)] [(.int (f_ord w_EQUALS w_NOT w_GREATER_THAN w_GREATER_THAN_EQUAL w_LESS_THAN w_LESS_THAN_EQUAL w_AFTER w_BEFORE w_BETWEEN w_IN w_NOT_IN w_IS_NULL w_IS_NOT_NULL w_TRUE w_FALSE w_EXISTS w_STARTING_WITH w_ENDING_WITH w_CONTAINING w_NOT_CONTAINING w_LIKE w_NOT_LIKE w_REGEX w_NEAR w_WITHIN w_IGNORE_CASE w_BEFORE))])
    have r78 : (f_ord w_EQUALS w_NOT w_GREATER_THAN w_GREATER_THAN_EQUAL w_LESS_THAN w_LESS_THAN_EQUAL w_AFTER w_BEFORE w_BETWEEN w_IN w_NOT_IN w_IS_NULL w_IS_NOT_NULL w_TRUE w_FALSE w_EXISTS w_STARTING_WITH w_ENDING_WITH w_CONTAINING w_NOT_CONTAINING w_LIKE w_NOT_LIKE w_REGEX w_NEAR w_WITHIN w_IGNORE_CASE w_BEFORE) = (1 : Int32) := by
      unfold f_ord
      rw [if_neg ((Fld.ne ST.k58 ST.k53 (fun q => absurd (Value.int.inj q) (by decide))) : ¬ (w_BEFORE = w_GREATER_THAN)), if_neg ((Fld.ne ST.k58 ST.k54 (fun q => absurd (Value.int.inj q) (by decide))) : ¬ (w_BEFORE = w_GREATER_THAN_EQUAL)), if_neg ((Fld.ne ST.k58 ST.k55 (fun q => absurd (Value.int.inj q) (by decide))) : ¬ (w_BEFORE = w_LESS_THAN)), if_neg ((Fld.ne ST.k58 ST.k56 (fun q => absurd (Value.int.inj q) (by decide))) : ¬ (w_BEFORE = w_LESS_THAN_EQUAL)), if_neg ((Fld.ne ST.k58 ST.k57 (fun q => absurd (Value.int.inj q) (by decide))) : ¬ (w_BEFORE = w_AFTER)), if_pos (rfl : w_BEFORE = w_BEFORE)]
    rw [r78]
    show G T77 (mkF m 213 #[.val (.int p0), .val (.ref b1), .val (.int 7), .val (.int 1)] [(.int 1)])
    refine step (fun t k => XS.iloadN X77.here hx rfl (hb hby at_213) rfl k) ?_
    show G T77 (mkF m 214 #[.val (.int p0), .val (.ref b1), .val (.int 7), .val (.int 1)] [(.int 1), (.int 1)])
    refine step (fun t k => XS.icmpNo X77.here hx rfl (hb hby at_214) rfl (teq (by decide : (1 : Int32) = (1 : Int32))).2 k) ?_
    show G T77 (mkF m 217 #[.val (.int p0), .val (.ref b1), .val (.int 7), .val (.int 1)] [])
    refine step (fun t k => XS.iconst X77.here hx rfl (hb hby at_217) k) ?_
    show G T77 (mkF m 218 #[.val (.int p0), .val (.ref b1), .val (.int 7), .val (.int 1)] [(.int 1)])
    refine step (fun t k => XS.goto X77.here hx rfl (pc0 := 218) (pc' := 222) rfl (hb hby at_218) (by decide) (by decide) k) ?_
    show G T77 (mkF m 222 #[.val (.int p0), .val (.ref b1), .val (.int 7), .val (.int 1)] [(.int 1)])
    exact ret (v := some (.int 1)) X77 (fun h => by rw [Bd.returns] at h; cases h) (fun fs hr => retN X77 hx (t := .boolean) Bd.returns (by simp) (hb hby at_222) hr) e77 ⟨rfl, N77⟩ (by decide) (by decide)
  · rw [hk]
    show G T53 (mkF m 189 #[.val (.int p0), .val (.ref b1), .unset, .unset] [(.int 8)])
    refine step (fun t k => XS.istoreN X53.here hx rfl (hb hby at_189) rfl (l' := #[.val (.int p0), .val (.ref b1), .val (.int 8), .unset]) rfl k) ?_
    show G T53 (mkF m 190 #[.val (.int p0), .val (.ref b1), .val (.int 8), .unset] [])
    refine step (fun t k => XS.iloadN X53.here hx rfl (hb hby at_190) rfl k) ?_
    show G T53 (mkF m 191 #[.val (.int p0), .val (.ref b1), .val (.int 8), .unset] [(.int 8)])
    refine step (fun t k => XS.iconst X53.here hx rfl (hb hby at_191) k) ?_
    show G T53 (mkF m 192 #[.val (.int p0), .val (.ref b1), .val (.int 8), .unset] [(.int 2), (.int 8)])
    refine step (fun t k => XS.icmpNo X53.here hx rfl (hb hby at_192) rfl (flt (by decide : ¬ ((8 : Int32) < (2 : Int32)))).1 k) ?_
    show G T53 (mkF m 195 #[.val (.int p0), .val (.ref b1), .val (.int 8), .unset] [])
    refine step (fun t k => XS.iloadN X53.here hx rfl (hb hby at_195) rfl k) ?_
    show G T53 (mkF m 196 #[.val (.int p0), .val (.ref b1), .val (.int 8), .unset] [(.int 8)])
    refine step (fun t k => XS.bipush X53.here hx rfl (hb hby at_196) k) ?_
    show G T53 (mkF m 198 #[.val (.int p0), .val (.ref b1), .val (.int 8), .unset] [(.int 8), (.int 8)])
    refine step (fun t k => XS.icmpNo X53.here hx rfl (hb hby at_198) rfl (flt (by decide : ¬ ((8 : Int32) < (8 : Int32)))).2.2.1 k) ?_
    show G T53 (mkF m 201 #[.val (.int p0), .val (.ref b1), .val (.int 8), .unset] [])
    refine step (fun t k => XS.iconst X53.here hx rfl (hb hby at_201) k) ?_
    show G T53 (mkF m 202 #[.val (.int p0), .val (.ref b1), .val (.int 8), .unset] [(.int 1)])
    refine step (fun t k => XS.goto X53.here hx rfl (pc0 := 202) (pc' := 206) rfl (hb hby at_202) (by decide) (by decide) k) ?_
    show G T53 (mkF m 206 #[.val (.int p0), .val (.ref b1), .val (.int 8), .unset] [(.int 1)])
    refine step (fun t k => XS.istoreN X53.here hx rfl (hb hby at_206) rfl (l' := #[.val (.int p0), .val (.ref b1), .val (.int 8), .val (.int 1)]) rfl k) ?_
    show G T53 (mkF m 207 #[.val (.int p0), .val (.ref b1), .val (.int 8), .val (.int 1)] [])
    refine step (fun t k => XS.aloadN X53.here hx rfl (hb hby at_207) rfl rfl k) ?_
    show G T53 (mkF m 208 #[.val (.int p0), .val (.ref b1), .val (.int 8), .val (.int 1)] [(.ref b1)])
    refine step (fun t k => XS.iloadN X53.here hx rfl (hb hby at_208) rfl k) ?_
    show G T53 (mkF m 209 #[.val (.int p0), .val (.ref b1), .val (.int 8), .val (.int 1)] [(.int 8), (.ref b1)])
    have q79 := own_ldR X53 hx hZ e53 V53 (j := (8 : Int32)) (v := (.ref w_BETWEEN)) (by decide) (own_at (i := 8) rfl rfl) rfl (g := (mkF m 209 #[.val (.int p0), .val (.ref b1), .val (.int 8), .val (.int 1)] [(.int 8), (.ref b1)])) rfl rfl (hb hby at_209)
    refine step q79 ?_
    show G T53 (mkF m 210 #[.val (.int p0), .val (.ref b1), .val (.int 8), .val (.int 1)] [(.ref w_BETWEEN)])
    have hK80 := (backOf (R := room_1) (p := p) (e := e) (below := below) (s := s) (args := #[(.int p0)]) (len := 3) (W := 0) (rm_ord l Z a0 hw [] w_EQUALS w_NOT w_GREATER_THAN w_GREATER_THAN_EQUAL w_LESS_THAN w_LESS_THAN_EQUAL w_AFTER w_BEFORE w_BETWEEN w_IN w_NOT_IN w_IS_NULL w_IS_NOT_NULL w_TRUE w_FALSE w_EXISTS w_STARTING_WITH w_ENDING_WITH w_CONTAINING w_NOT_CONTAINING w_LIKE w_NOT_LIKE w_REGEX w_NEAR w_WITHIN w_IGNORE_CASE w_BETWEEN h53 n0 (own_old_le O53) ST O53) hZ (ww61 hw) (ww3 hw) (by decide) (by decide))
    obtain ⟨cq80, kq80, q80a, q80b, q80c⟩ := isOf hZ e53 (Exa.ext O53.2 ST.k17)
    obtain ⟨_, _, ⟨T80, L80, k80, n80⟩, -, X80, ⟨Lc80, hQ80, l80, y80, z80⟩, st80⟩ := X53.virtualBack hx (y := y_0) (z := y_0) hown (mvT hZ (ww57 hw)) (mvT hZ (ww58 hw)) (notFace_of_selects (args := #[]) (mvT hZ (ww60 hw))) (mvT hZ (ww60 hw)) (mvT hZ (ww59 hw)) (by decide) hK80 q80a q80c (g := (mkF m 210 #[.val (.int p0), .val (.ref b1), .val (.int 8), .val (.int 1)] [(.ref w_BETWEEN)])) rfl (by rw [hml]; rfl) (Steps.refl _) (argsL := []) (rest := []) (lenOf pd_0 rfl) rfl (by show 2 * 0 + _ ≤ _; exact Nat.le_of_eq rfl) (hb hby at_210) (fun _ _ => ⟨rfl, e53, (by decide : 1 + 0 ≤ _), (by decide : 26 + 0 ≤ _)⟩)
    dsimp only [Pt.U, Pt.locs, Pt.cells, Pt.slots] at X80 l80 y80 z80 st80 hQ80
    subst l80 y80 z80
    obtain ⟨rfl, N80q, e80⟩ := hQ80
    have N80 := Fr.app N53 N80q
    obtain ⟨lc80, X80, N80⟩ := own_gen X80 N80
    refine step (fun t k => st80.trans k) ?_
    show G T80 (mkF m 213 #[.val (.int p0), .val (.ref b1), .val (.int 8), .val (.int 1)] [(.int (f_ord w_EQUALS w_NOT w_GREATER_THAN w_GREATER_THAN_EQUAL w_LESS_THAN w_LESS_THAN_EQUAL w_AFTER w_BEFORE w_BETWEEN w_IN w_NOT_IN w_IS_NULL w_IS_NOT_NULL w_TRUE w_FALSE w_EXISTS w_STARTING_WITH w_ENDING_WITH w_CONTAINING w_NOT_CONTAINING w_LIKE w_NOT_LIKE w_REGEX w_NEAR w_WITHIN w_IGNORE_CASE w_BETWEEN))])
    have r81 : (f_ord w_EQUALS w_NOT w_GREATER_THAN w_GREATER_THAN_EQUAL w_LESS_THAN w_LESS_THAN_EQUAL w_AFTER w_BEFORE w_BETWEEN w_IN w_NOT_IN w_IS_NULL w_IS_NOT_NULL w_TRUE w_FALSE w_EXISTS w_STARTING_WITH w_ENDING_WITH w_CONTAINING w_NOT_CONTAINING w_LIKE w_NOT_LIKE w_REGEX w_NEAR w_WITHIN w_IGNORE_CASE w_BETWEEN) = (1 : Int32) := by
      unfold f_ord
      rw [if_neg ((Fld.ne ST.k59 ST.k53 (fun q => absurd (Value.int.inj q) (by decide))) : ¬ (w_BETWEEN = w_GREATER_THAN)), if_neg ((Fld.ne ST.k59 ST.k54 (fun q => absurd (Value.int.inj q) (by decide))) : ¬ (w_BETWEEN = w_GREATER_THAN_EQUAL)), if_neg ((Fld.ne ST.k59 ST.k55 (fun q => absurd (Value.int.inj q) (by decide))) : ¬ (w_BETWEEN = w_LESS_THAN)), if_neg ((Fld.ne ST.k59 ST.k56 (fun q => absurd (Value.int.inj q) (by decide))) : ¬ (w_BETWEEN = w_LESS_THAN_EQUAL)), if_neg ((Fld.ne ST.k59 ST.k57 (fun q => absurd (Value.int.inj q) (by decide))) : ¬ (w_BETWEEN = w_AFTER)), if_neg ((Fld.ne ST.k59 ST.k58 (fun q => absurd (Value.int.inj q) (by decide))) : ¬ (w_BETWEEN = w_BEFORE)), if_pos (rfl : w_BETWEEN = w_BETWEEN)]
    rw [r81]
    show G T80 (mkF m 213 #[.val (.int p0), .val (.ref b1), .val (.int 8), .val (.int 1)] [(.int 1)])
    refine step (fun t k => XS.iloadN X80.here hx rfl (hb hby at_213) rfl k) ?_
    show G T80 (mkF m 214 #[.val (.int p0), .val (.ref b1), .val (.int 8), .val (.int 1)] [(.int 1), (.int 1)])
    refine step (fun t k => XS.icmpNo X80.here hx rfl (hb hby at_214) rfl (teq (by decide : (1 : Int32) = (1 : Int32))).2 k) ?_
    show G T80 (mkF m 217 #[.val (.int p0), .val (.ref b1), .val (.int 8), .val (.int 1)] [])
    refine step (fun t k => XS.iconst X80.here hx rfl (hb hby at_217) k) ?_
    show G T80 (mkF m 218 #[.val (.int p0), .val (.ref b1), .val (.int 8), .val (.int 1)] [(.int 1)])
    refine step (fun t k => XS.goto X80.here hx rfl (pc0 := 218) (pc' := 222) rfl (hb hby at_218) (by decide) (by decide) k) ?_
    show G T80 (mkF m 222 #[.val (.int p0), .val (.ref b1), .val (.int 8), .val (.int 1)] [(.int 1)])
    exact ret (v := some (.int 1)) X80 (fun h => by rw [Bd.returns] at h; cases h) (fun fs hr => retN X80 hx (t := .boolean) Bd.returns (by simp) (hb hby at_222) hr) e80 ⟨rfl, N80⟩ (by decide) (by decide)
  · rw [hk]
    show G T53 (mkF m 189 #[.val (.int p0), .val (.ref b1), .unset, .unset] [(.int 9)])
    refine step (fun t k => XS.istoreN X53.here hx rfl (hb hby at_189) rfl (l' := #[.val (.int p0), .val (.ref b1), .val (.int 9), .unset]) rfl k) ?_
    show G T53 (mkF m 190 #[.val (.int p0), .val (.ref b1), .val (.int 9), .unset] [])
    refine step (fun t k => XS.iloadN X53.here hx rfl (hb hby at_190) rfl k) ?_
    show G T53 (mkF m 191 #[.val (.int p0), .val (.ref b1), .val (.int 9), .unset] [(.int 9)])
    refine step (fun t k => XS.iconst X53.here hx rfl (hb hby at_191) k) ?_
    show G T53 (mkF m 192 #[.val (.int p0), .val (.ref b1), .val (.int 9), .unset] [(.int 2), (.int 9)])
    refine step (fun t k => XS.icmpNo X53.here hx rfl (hb hby at_192) rfl (flt (by decide : ¬ ((9 : Int32) < (2 : Int32)))).1 k) ?_
    show G T53 (mkF m 195 #[.val (.int p0), .val (.ref b1), .val (.int 9), .unset] [])
    refine step (fun t k => XS.iloadN X53.here hx rfl (hb hby at_195) rfl k) ?_
    show G T53 (mkF m 196 #[.val (.int p0), .val (.ref b1), .val (.int 9), .unset] [(.int 9)])
    refine step (fun t k => XS.bipush X53.here hx rfl (hb hby at_196) k) ?_
    show G T53 (mkF m 198 #[.val (.int p0), .val (.ref b1), .val (.int 9), .unset] [(.int 8), (.int 9)])
    refine step (fun t k => XS.icmpYes X53.here hx rfl (pc0 := 198) (pc' := 205) rfl (hb hby at_198) rfl (tlt (by decide : (8 : Int32) < (9 : Int32))).2.2.1 (by decide) (by decide) k) ?_
    show G T53 (mkF m 205 #[.val (.int p0), .val (.ref b1), .val (.int 9), .unset] [])
    refine step (fun t k => XS.iconst X53.here hx rfl (hb hby at_205) k) ?_
    show G T53 (mkF m 206 #[.val (.int p0), .val (.ref b1), .val (.int 9), .unset] [(.int 0)])
    refine step (fun t k => XS.istoreN X53.here hx rfl (hb hby at_206) rfl (l' := #[.val (.int p0), .val (.ref b1), .val (.int 9), .val (.int 0)]) rfl k) ?_
    show G T53 (mkF m 207 #[.val (.int p0), .val (.ref b1), .val (.int 9), .val (.int 0)] [])
    refine step (fun t k => XS.aloadN X53.here hx rfl (hb hby at_207) rfl rfl k) ?_
    show G T53 (mkF m 208 #[.val (.int p0), .val (.ref b1), .val (.int 9), .val (.int 0)] [(.ref b1)])
    refine step (fun t k => XS.iloadN X53.here hx rfl (hb hby at_208) rfl k) ?_
    show G T53 (mkF m 209 #[.val (.int p0), .val (.ref b1), .val (.int 9), .val (.int 0)] [(.int 9), (.ref b1)])
    have q82 := own_ldR X53 hx hZ e53 V53 (j := (9 : Int32)) (v := (.ref w_IN)) (by decide) (own_at (i := 9) rfl rfl) rfl (g := (mkF m 209 #[.val (.int p0), .val (.ref b1), .val (.int 9), .val (.int 0)] [(.int 9), (.ref b1)])) rfl rfl (hb hby at_209)
    refine step q82 ?_
    show G T53 (mkF m 210 #[.val (.int p0), .val (.ref b1), .val (.int 9), .val (.int 0)] [(.ref w_IN)])
    have hK83 := (backOf (R := room_1) (p := p) (e := e) (below := below) (s := s) (args := #[(.int p0)]) (len := 3) (W := 0) (rm_ord l Z a0 hw [] w_EQUALS w_NOT w_GREATER_THAN w_GREATER_THAN_EQUAL w_LESS_THAN w_LESS_THAN_EQUAL w_AFTER w_BEFORE w_BETWEEN w_IN w_NOT_IN w_IS_NULL w_IS_NOT_NULL w_TRUE w_FALSE w_EXISTS w_STARTING_WITH w_ENDING_WITH w_CONTAINING w_NOT_CONTAINING w_LIKE w_NOT_LIKE w_REGEX w_NEAR w_WITHIN w_IGNORE_CASE w_IN h53 n0 (own_old_le O53) ST O53) hZ (ww61 hw) (ww3 hw) (by decide) (by decide))
    obtain ⟨cq83, kq83, q83a, q83b, q83c⟩ := isOf hZ e53 (Exa.ext O53.2 ST.k19)
    obtain ⟨_, _, ⟨T83, L83, k83, n83⟩, -, X83, ⟨Lc83, hQ83, l83, y83, z83⟩, st83⟩ := X53.virtualBack hx (y := y_0) (z := y_0) hown (mvT hZ (ww57 hw)) (mvT hZ (ww58 hw)) (notFace_of_selects (args := #[]) (mvT hZ (ww60 hw))) (mvT hZ (ww60 hw)) (mvT hZ (ww59 hw)) (by decide) hK83 q83a q83c (g := (mkF m 210 #[.val (.int p0), .val (.ref b1), .val (.int 9), .val (.int 0)] [(.ref w_IN)])) rfl (by rw [hml]; rfl) (Steps.refl _) (argsL := []) (rest := []) (lenOf pd_0 rfl) rfl (by show 2 * 0 + _ ≤ _; exact Nat.le_of_eq rfl) (hb hby at_210) (fun _ _ => ⟨rfl, e53, (by decide : 1 + 0 ≤ _), (by decide : 26 + 0 ≤ _)⟩)
    dsimp only [Pt.U, Pt.locs, Pt.cells, Pt.slots] at X83 l83 y83 z83 st83 hQ83
    subst l83 y83 z83
    obtain ⟨rfl, N83q, e83⟩ := hQ83
    have N83 := Fr.app N53 N83q
    obtain ⟨lc83, X83, N83⟩ := own_gen X83 N83
    refine step (fun t k => st83.trans k) ?_
    show G T83 (mkF m 213 #[.val (.int p0), .val (.ref b1), .val (.int 9), .val (.int 0)] [(.int (f_ord w_EQUALS w_NOT w_GREATER_THAN w_GREATER_THAN_EQUAL w_LESS_THAN w_LESS_THAN_EQUAL w_AFTER w_BEFORE w_BETWEEN w_IN w_NOT_IN w_IS_NULL w_IS_NOT_NULL w_TRUE w_FALSE w_EXISTS w_STARTING_WITH w_ENDING_WITH w_CONTAINING w_NOT_CONTAINING w_LIKE w_NOT_LIKE w_REGEX w_NEAR w_WITHIN w_IGNORE_CASE w_IN))])
    have r84 : (f_ord w_EQUALS w_NOT w_GREATER_THAN w_GREATER_THAN_EQUAL w_LESS_THAN w_LESS_THAN_EQUAL w_AFTER w_BEFORE w_BETWEEN w_IN w_NOT_IN w_IS_NULL w_IS_NOT_NULL w_TRUE w_FALSE w_EXISTS w_STARTING_WITH w_ENDING_WITH w_CONTAINING w_NOT_CONTAINING w_LIKE w_NOT_LIKE w_REGEX w_NEAR w_WITHIN w_IGNORE_CASE w_IN) = (0 : Int32) := by
      unfold f_ord
      rw [if_neg ((Fld.ne ST.k72 ST.k53 (fun q => absurd (Value.int.inj q) (by decide))) : ¬ (w_IN = w_GREATER_THAN)), if_neg ((Fld.ne ST.k72 ST.k54 (fun q => absurd (Value.int.inj q) (by decide))) : ¬ (w_IN = w_GREATER_THAN_EQUAL)), if_neg ((Fld.ne ST.k72 ST.k55 (fun q => absurd (Value.int.inj q) (by decide))) : ¬ (w_IN = w_LESS_THAN)), if_neg ((Fld.ne ST.k72 ST.k56 (fun q => absurd (Value.int.inj q) (by decide))) : ¬ (w_IN = w_LESS_THAN_EQUAL)), if_neg ((Fld.ne ST.k72 ST.k57 (fun q => absurd (Value.int.inj q) (by decide))) : ¬ (w_IN = w_AFTER)), if_neg ((Fld.ne ST.k72 ST.k58 (fun q => absurd (Value.int.inj q) (by decide))) : ¬ (w_IN = w_BEFORE)), if_neg ((Fld.ne ST.k72 ST.k59 (fun q => absurd (Value.int.inj q) (by decide))) : ¬ (w_IN = w_BETWEEN))]
    rw [r84]
    show G T83 (mkF m 213 #[.val (.int p0), .val (.ref b1), .val (.int 9), .val (.int 0)] [(.int 0)])
    refine step (fun t k => XS.iloadN X83.here hx rfl (hb hby at_213) rfl k) ?_
    show G T83 (mkF m 214 #[.val (.int p0), .val (.ref b1), .val (.int 9), .val (.int 0)] [(.int 0), (.int 0)])
    refine step (fun t k => XS.icmpNo X83.here hx rfl (hb hby at_214) rfl (teq (by decide : (0 : Int32) = (0 : Int32))).2 k) ?_
    show G T83 (mkF m 217 #[.val (.int p0), .val (.ref b1), .val (.int 9), .val (.int 0)] [])
    refine step (fun t k => XS.iconst X83.here hx rfl (hb hby at_217) k) ?_
    show G T83 (mkF m 218 #[.val (.int p0), .val (.ref b1), .val (.int 9), .val (.int 0)] [(.int 1)])
    refine step (fun t k => XS.goto X83.here hx rfl (pc0 := 218) (pc' := 222) rfl (hb hby at_218) (by decide) (by decide) k) ?_
    show G T83 (mkF m 222 #[.val (.int p0), .val (.ref b1), .val (.int 9), .val (.int 0)] [(.int 1)])
    exact ret (v := some (.int 1)) X83 (fun h => by rw [Bd.returns] at h; cases h) (fun fs hr => retN X83 hx (t := .boolean) Bd.returns (by simp) (hb hby at_222) hr) e83 ⟨rfl, N83⟩ (by decide) (by decide)
  · rw [hk]
    show G T53 (mkF m 189 #[.val (.int p0), .val (.ref b1), .unset, .unset] [(.int 10)])
    refine step (fun t k => XS.istoreN X53.here hx rfl (hb hby at_189) rfl (l' := #[.val (.int p0), .val (.ref b1), .val (.int 10), .unset]) rfl k) ?_
    show G T53 (mkF m 190 #[.val (.int p0), .val (.ref b1), .val (.int 10), .unset] [])
    refine step (fun t k => XS.iloadN X53.here hx rfl (hb hby at_190) rfl k) ?_
    show G T53 (mkF m 191 #[.val (.int p0), .val (.ref b1), .val (.int 10), .unset] [(.int 10)])
    refine step (fun t k => XS.iconst X53.here hx rfl (hb hby at_191) k) ?_
    show G T53 (mkF m 192 #[.val (.int p0), .val (.ref b1), .val (.int 10), .unset] [(.int 2), (.int 10)])
    refine step (fun t k => XS.icmpNo X53.here hx rfl (hb hby at_192) rfl (flt (by decide : ¬ ((10 : Int32) < (2 : Int32)))).1 k) ?_
    show G T53 (mkF m 195 #[.val (.int p0), .val (.ref b1), .val (.int 10), .unset] [])
    refine step (fun t k => XS.iloadN X53.here hx rfl (hb hby at_195) rfl k) ?_
    show G T53 (mkF m 196 #[.val (.int p0), .val (.ref b1), .val (.int 10), .unset] [(.int 10)])
    refine step (fun t k => XS.bipush X53.here hx rfl (hb hby at_196) k) ?_
    show G T53 (mkF m 198 #[.val (.int p0), .val (.ref b1), .val (.int 10), .unset] [(.int 8), (.int 10)])
    refine step (fun t k => XS.icmpYes X53.here hx rfl (pc0 := 198) (pc' := 205) rfl (hb hby at_198) rfl (tlt (by decide : (8 : Int32) < (10 : Int32))).2.2.1 (by decide) (by decide) k) ?_
    show G T53 (mkF m 205 #[.val (.int p0), .val (.ref b1), .val (.int 10), .unset] [])
    refine step (fun t k => XS.iconst X53.here hx rfl (hb hby at_205) k) ?_
    show G T53 (mkF m 206 #[.val (.int p0), .val (.ref b1), .val (.int 10), .unset] [(.int 0)])
    refine step (fun t k => XS.istoreN X53.here hx rfl (hb hby at_206) rfl (l' := #[.val (.int p0), .val (.ref b1), .val (.int 10), .val (.int 0)]) rfl k) ?_
    show G T53 (mkF m 207 #[.val (.int p0), .val (.ref b1), .val (.int 10), .val (.int 0)] [])
    refine step (fun t k => XS.aloadN X53.here hx rfl (hb hby at_207) rfl rfl k) ?_
    show G T53 (mkF m 208 #[.val (.int p0), .val (.ref b1), .val (.int 10), .val (.int 0)] [(.ref b1)])
    refine step (fun t k => XS.iloadN X53.here hx rfl (hb hby at_208) rfl k) ?_
    show G T53 (mkF m 209 #[.val (.int p0), .val (.ref b1), .val (.int 10), .val (.int 0)] [(.int 10), (.ref b1)])
    have q85 := own_ldR X53 hx hZ e53 V53 (j := (10 : Int32)) (v := (.ref w_NOT_IN)) (by decide) (own_at (i := 10) rfl rfl) rfl (g := (mkF m 209 #[.val (.int p0), .val (.ref b1), .val (.int 10), .val (.int 0)] [(.int 10), (.ref b1)])) rfl rfl (hb hby at_209)
    refine step q85 ?_
    show G T53 (mkF m 210 #[.val (.int p0), .val (.ref b1), .val (.int 10), .val (.int 0)] [(.ref w_NOT_IN)])
    have hK86 := (backOf (R := room_1) (p := p) (e := e) (below := below) (s := s) (args := #[(.int p0)]) (len := 3) (W := 0) (rm_ord l Z a0 hw [] w_EQUALS w_NOT w_GREATER_THAN w_GREATER_THAN_EQUAL w_LESS_THAN w_LESS_THAN_EQUAL w_AFTER w_BEFORE w_BETWEEN w_IN w_NOT_IN w_IS_NULL w_IS_NOT_NULL w_TRUE w_FALSE w_EXISTS w_STARTING_WITH w_ENDING_WITH w_CONTAINING w_NOT_CONTAINING w_LIKE w_NOT_LIKE w_REGEX w_NEAR w_WITHIN w_IGNORE_CASE w_NOT_IN h53 n0 (own_old_le O53) ST O53) hZ (ww61 hw) (ww3 hw) (by decide) (by decide))
    obtain ⟨cq86, kq86, q86a, q86b, q86c⟩ := isOf hZ e53 (Exa.ext O53.2 ST.k21)
    obtain ⟨_, _, ⟨T86, L86, k86, n86⟩, -, X86, ⟨Lc86, hQ86, l86, y86, z86⟩, st86⟩ := X53.virtualBack hx (y := y_0) (z := y_0) hown (mvT hZ (ww57 hw)) (mvT hZ (ww58 hw)) (notFace_of_selects (args := #[]) (mvT hZ (ww60 hw))) (mvT hZ (ww60 hw)) (mvT hZ (ww59 hw)) (by decide) hK86 q86a q86c (g := (mkF m 210 #[.val (.int p0), .val (.ref b1), .val (.int 10), .val (.int 0)] [(.ref w_NOT_IN)])) rfl (by rw [hml]; rfl) (Steps.refl _) (argsL := []) (rest := []) (lenOf pd_0 rfl) rfl (by show 2 * 0 + _ ≤ _; exact Nat.le_of_eq rfl) (hb hby at_210) (fun _ _ => ⟨rfl, e53, (by decide : 1 + 0 ≤ _), (by decide : 26 + 0 ≤ _)⟩)
    dsimp only [Pt.U, Pt.locs, Pt.cells, Pt.slots] at X86 l86 y86 z86 st86 hQ86
    subst l86 y86 z86
    obtain ⟨rfl, N86q, e86⟩ := hQ86
    have N86 := Fr.app N53 N86q
    obtain ⟨lc86, X86, N86⟩ := own_gen X86 N86
    refine step (fun t k => st86.trans k) ?_
    show G T86 (mkF m 213 #[.val (.int p0), .val (.ref b1), .val (.int 10), .val (.int 0)] [(.int (f_ord w_EQUALS w_NOT w_GREATER_THAN w_GREATER_THAN_EQUAL w_LESS_THAN w_LESS_THAN_EQUAL w_AFTER w_BEFORE w_BETWEEN w_IN w_NOT_IN w_IS_NULL w_IS_NOT_NULL w_TRUE w_FALSE w_EXISTS w_STARTING_WITH w_ENDING_WITH w_CONTAINING w_NOT_CONTAINING w_LIKE w_NOT_LIKE w_REGEX w_NEAR w_WITHIN w_IGNORE_CASE w_NOT_IN))])
    have r87 : (f_ord w_EQUALS w_NOT w_GREATER_THAN w_GREATER_THAN_EQUAL w_LESS_THAN w_LESS_THAN_EQUAL w_AFTER w_BEFORE w_BETWEEN w_IN w_NOT_IN w_IS_NULL w_IS_NOT_NULL w_TRUE w_FALSE w_EXISTS w_STARTING_WITH w_ENDING_WITH w_CONTAINING w_NOT_CONTAINING w_LIKE w_NOT_LIKE w_REGEX w_NEAR w_WITHIN w_IGNORE_CASE w_NOT_IN) = (0 : Int32) := by
      unfold f_ord
      rw [if_neg ((Fld.ne ST.k66 ST.k53 (fun q => absurd (Value.int.inj q) (by decide))) : ¬ (w_NOT_IN = w_GREATER_THAN)), if_neg ((Fld.ne ST.k66 ST.k54 (fun q => absurd (Value.int.inj q) (by decide))) : ¬ (w_NOT_IN = w_GREATER_THAN_EQUAL)), if_neg ((Fld.ne ST.k66 ST.k55 (fun q => absurd (Value.int.inj q) (by decide))) : ¬ (w_NOT_IN = w_LESS_THAN)), if_neg ((Fld.ne ST.k66 ST.k56 (fun q => absurd (Value.int.inj q) (by decide))) : ¬ (w_NOT_IN = w_LESS_THAN_EQUAL)), if_neg ((Fld.ne ST.k66 ST.k57 (fun q => absurd (Value.int.inj q) (by decide))) : ¬ (w_NOT_IN = w_AFTER)), if_neg ((Fld.ne ST.k66 ST.k58 (fun q => absurd (Value.int.inj q) (by decide))) : ¬ (w_NOT_IN = w_BEFORE)), if_neg ((Fld.ne ST.k66 ST.k59 (fun q => absurd (Value.int.inj q) (by decide))) : ¬ (w_NOT_IN = w_BETWEEN))]
    rw [r87]
    show G T86 (mkF m 213 #[.val (.int p0), .val (.ref b1), .val (.int 10), .val (.int 0)] [(.int 0)])
    refine step (fun t k => XS.iloadN X86.here hx rfl (hb hby at_213) rfl k) ?_
    show G T86 (mkF m 214 #[.val (.int p0), .val (.ref b1), .val (.int 10), .val (.int 0)] [(.int 0), (.int 0)])
    refine step (fun t k => XS.icmpNo X86.here hx rfl (hb hby at_214) rfl (teq (by decide : (0 : Int32) = (0 : Int32))).2 k) ?_
    show G T86 (mkF m 217 #[.val (.int p0), .val (.ref b1), .val (.int 10), .val (.int 0)] [])
    refine step (fun t k => XS.iconst X86.here hx rfl (hb hby at_217) k) ?_
    show G T86 (mkF m 218 #[.val (.int p0), .val (.ref b1), .val (.int 10), .val (.int 0)] [(.int 1)])
    refine step (fun t k => XS.goto X86.here hx rfl (pc0 := 218) (pc' := 222) rfl (hb hby at_218) (by decide) (by decide) k) ?_
    show G T86 (mkF m 222 #[.val (.int p0), .val (.ref b1), .val (.int 10), .val (.int 0)] [(.int 1)])
    exact ret (v := some (.int 1)) X86 (fun h => by rw [Bd.returns] at h; cases h) (fun fs hr => retN X86 hx (t := .boolean) Bd.returns (by simp) (hb hby at_222) hr) e86 ⟨rfl, N86⟩ (by decide) (by decide)
  · rw [hk]
    show G T53 (mkF m 189 #[.val (.int p0), .val (.ref b1), .unset, .unset] [(.int 11)])
    refine step (fun t k => XS.istoreN X53.here hx rfl (hb hby at_189) rfl (l' := #[.val (.int p0), .val (.ref b1), .val (.int 11), .unset]) rfl k) ?_
    show G T53 (mkF m 190 #[.val (.int p0), .val (.ref b1), .val (.int 11), .unset] [])
    refine step (fun t k => XS.iloadN X53.here hx rfl (hb hby at_190) rfl k) ?_
    show G T53 (mkF m 191 #[.val (.int p0), .val (.ref b1), .val (.int 11), .unset] [(.int 11)])
    refine step (fun t k => XS.iconst X53.here hx rfl (hb hby at_191) k) ?_
    show G T53 (mkF m 192 #[.val (.int p0), .val (.ref b1), .val (.int 11), .unset] [(.int 2), (.int 11)])
    refine step (fun t k => XS.icmpNo X53.here hx rfl (hb hby at_192) rfl (flt (by decide : ¬ ((11 : Int32) < (2 : Int32)))).1 k) ?_
    show G T53 (mkF m 195 #[.val (.int p0), .val (.ref b1), .val (.int 11), .unset] [])
    refine step (fun t k => XS.iloadN X53.here hx rfl (hb hby at_195) rfl k) ?_
    show G T53 (mkF m 196 #[.val (.int p0), .val (.ref b1), .val (.int 11), .unset] [(.int 11)])
    refine step (fun t k => XS.bipush X53.here hx rfl (hb hby at_196) k) ?_
    show G T53 (mkF m 198 #[.val (.int p0), .val (.ref b1), .val (.int 11), .unset] [(.int 8), (.int 11)])
    refine step (fun t k => XS.icmpYes X53.here hx rfl (pc0 := 198) (pc' := 205) rfl (hb hby at_198) rfl (tlt (by decide : (8 : Int32) < (11 : Int32))).2.2.1 (by decide) (by decide) k) ?_
    show G T53 (mkF m 205 #[.val (.int p0), .val (.ref b1), .val (.int 11), .unset] [])
    refine step (fun t k => XS.iconst X53.here hx rfl (hb hby at_205) k) ?_
    show G T53 (mkF m 206 #[.val (.int p0), .val (.ref b1), .val (.int 11), .unset] [(.int 0)])
    refine step (fun t k => XS.istoreN X53.here hx rfl (hb hby at_206) rfl (l' := #[.val (.int p0), .val (.ref b1), .val (.int 11), .val (.int 0)]) rfl k) ?_
    show G T53 (mkF m 207 #[.val (.int p0), .val (.ref b1), .val (.int 11), .val (.int 0)] [])
    refine step (fun t k => XS.aloadN X53.here hx rfl (hb hby at_207) rfl rfl k) ?_
    show G T53 (mkF m 208 #[.val (.int p0), .val (.ref b1), .val (.int 11), .val (.int 0)] [(.ref b1)])
    refine step (fun t k => XS.iloadN X53.here hx rfl (hb hby at_208) rfl k) ?_
    show G T53 (mkF m 209 #[.val (.int p0), .val (.ref b1), .val (.int 11), .val (.int 0)] [(.int 11), (.ref b1)])
    have q88 := own_ldR X53 hx hZ e53 V53 (j := (11 : Int32)) (v := (.ref w_IS_NULL)) (by decide) (own_at (i := 11) rfl rfl) rfl (g := (mkF m 209 #[.val (.int p0), .val (.ref b1), .val (.int 11), .val (.int 0)] [(.int 11), (.ref b1)])) rfl rfl (hb hby at_209)
    refine step q88 ?_
    show G T53 (mkF m 210 #[.val (.int p0), .val (.ref b1), .val (.int 11), .val (.int 0)] [(.ref w_IS_NULL)])
    have hK89 := (backOf (R := room_1) (p := p) (e := e) (below := below) (s := s) (args := #[(.int p0)]) (len := 3) (W := 0) (rm_ord l Z a0 hw [] w_EQUALS w_NOT w_GREATER_THAN w_GREATER_THAN_EQUAL w_LESS_THAN w_LESS_THAN_EQUAL w_AFTER w_BEFORE w_BETWEEN w_IN w_NOT_IN w_IS_NULL w_IS_NOT_NULL w_TRUE w_FALSE w_EXISTS w_STARTING_WITH w_ENDING_WITH w_CONTAINING w_NOT_CONTAINING w_LIKE w_NOT_LIKE w_REGEX w_NEAR w_WITHIN w_IGNORE_CASE w_IS_NULL h53 n0 (own_old_le O53) ST O53) hZ (ww61 hw) (ww3 hw) (by decide) (by decide))
    obtain ⟨cq89, kq89, q89a, q89b, q89c⟩ := isOf hZ e53 (Exa.ext O53.2 ST.k23)
    obtain ⟨_, _, ⟨T89, L89, k89, n89⟩, -, X89, ⟨Lc89, hQ89, l89, y89, z89⟩, st89⟩ := X53.virtualBack hx (y := y_0) (z := y_0) hown (mvT hZ (ww57 hw)) (mvT hZ (ww58 hw)) (notFace_of_selects (args := #[]) (mvT hZ (ww60 hw))) (mvT hZ (ww60 hw)) (mvT hZ (ww59 hw)) (by decide) hK89 q89a q89c (g := (mkF m 210 #[.val (.int p0), .val (.ref b1), .val (.int 11), .val (.int 0)] [(.ref w_IS_NULL)])) rfl (by rw [hml]; rfl) (Steps.refl _) (argsL := []) (rest := []) (lenOf pd_0 rfl) rfl (by show 2 * 0 + _ ≤ _; exact Nat.le_of_eq rfl) (hb hby at_210) (fun _ _ => ⟨rfl, e53, (by decide : 1 + 0 ≤ _), (by decide : 26 + 0 ≤ _)⟩)
    dsimp only [Pt.U, Pt.locs, Pt.cells, Pt.slots] at X89 l89 y89 z89 st89 hQ89
    subst l89 y89 z89
    obtain ⟨rfl, N89q, e89⟩ := hQ89
    have N89 := Fr.app N53 N89q
    obtain ⟨lc89, X89, N89⟩ := own_gen X89 N89
    refine step (fun t k => st89.trans k) ?_
    show G T89 (mkF m 213 #[.val (.int p0), .val (.ref b1), .val (.int 11), .val (.int 0)] [(.int (f_ord w_EQUALS w_NOT w_GREATER_THAN w_GREATER_THAN_EQUAL w_LESS_THAN w_LESS_THAN_EQUAL w_AFTER w_BEFORE w_BETWEEN w_IN w_NOT_IN w_IS_NULL w_IS_NOT_NULL w_TRUE w_FALSE w_EXISTS w_STARTING_WITH w_ENDING_WITH w_CONTAINING w_NOT_CONTAINING w_LIKE w_NOT_LIKE w_REGEX w_NEAR w_WITHIN w_IGNORE_CASE w_IS_NULL))])
    have r90 : (f_ord w_EQUALS w_NOT w_GREATER_THAN w_GREATER_THAN_EQUAL w_LESS_THAN w_LESS_THAN_EQUAL w_AFTER w_BEFORE w_BETWEEN w_IN w_NOT_IN w_IS_NULL w_IS_NOT_NULL w_TRUE w_FALSE w_EXISTS w_STARTING_WITH w_ENDING_WITH w_CONTAINING w_NOT_CONTAINING w_LIKE w_NOT_LIKE w_REGEX w_NEAR w_WITHIN w_IGNORE_CASE w_IS_NULL) = (0 : Int32) := by
      unfold f_ord
      rw [if_neg ((Fld.ne ST.k61 ST.k53 (fun q => absurd (Value.int.inj q) (by decide))) : ¬ (w_IS_NULL = w_GREATER_THAN)), if_neg ((Fld.ne ST.k61 ST.k54 (fun q => absurd (Value.int.inj q) (by decide))) : ¬ (w_IS_NULL = w_GREATER_THAN_EQUAL)), if_neg ((Fld.ne ST.k61 ST.k55 (fun q => absurd (Value.int.inj q) (by decide))) : ¬ (w_IS_NULL = w_LESS_THAN)), if_neg ((Fld.ne ST.k61 ST.k56 (fun q => absurd (Value.int.inj q) (by decide))) : ¬ (w_IS_NULL = w_LESS_THAN_EQUAL)), if_neg ((Fld.ne ST.k61 ST.k57 (fun q => absurd (Value.int.inj q) (by decide))) : ¬ (w_IS_NULL = w_AFTER)), if_neg ((Fld.ne ST.k61 ST.k58 (fun q => absurd (Value.int.inj q) (by decide))) : ¬ (w_IS_NULL = w_BEFORE)), if_neg ((Fld.ne ST.k61 ST.k59 (fun q => absurd (Value.int.inj q) (by decide))) : ¬ (w_IS_NULL = w_BETWEEN))]
    rw [r90]
    show G T89 (mkF m 213 #[.val (.int p0), .val (.ref b1), .val (.int 11), .val (.int 0)] [(.int 0)])
    refine step (fun t k => XS.iloadN X89.here hx rfl (hb hby at_213) rfl k) ?_
    show G T89 (mkF m 214 #[.val (.int p0), .val (.ref b1), .val (.int 11), .val (.int 0)] [(.int 0), (.int 0)])
    refine step (fun t k => XS.icmpNo X89.here hx rfl (hb hby at_214) rfl (teq (by decide : (0 : Int32) = (0 : Int32))).2 k) ?_
    show G T89 (mkF m 217 #[.val (.int p0), .val (.ref b1), .val (.int 11), .val (.int 0)] [])
    refine step (fun t k => XS.iconst X89.here hx rfl (hb hby at_217) k) ?_
    show G T89 (mkF m 218 #[.val (.int p0), .val (.ref b1), .val (.int 11), .val (.int 0)] [(.int 1)])
    refine step (fun t k => XS.goto X89.here hx rfl (pc0 := 218) (pc' := 222) rfl (hb hby at_218) (by decide) (by decide) k) ?_
    show G T89 (mkF m 222 #[.val (.int p0), .val (.ref b1), .val (.int 11), .val (.int 0)] [(.int 1)])
    exact ret (v := some (.int 1)) X89 (fun h => by rw [Bd.returns] at h; cases h) (fun fs hr => retN X89 hx (t := .boolean) Bd.returns (by simp) (hb hby at_222) hr) e89 ⟨rfl, N89⟩ (by decide) (by decide)
  · rw [hk]
    show G T53 (mkF m 189 #[.val (.int p0), .val (.ref b1), .unset, .unset] [(.int 12)])
    refine step (fun t k => XS.istoreN X53.here hx rfl (hb hby at_189) rfl (l' := #[.val (.int p0), .val (.ref b1), .val (.int 12), .unset]) rfl k) ?_
    show G T53 (mkF m 190 #[.val (.int p0), .val (.ref b1), .val (.int 12), .unset] [])
    refine step (fun t k => XS.iloadN X53.here hx rfl (hb hby at_190) rfl k) ?_
    show G T53 (mkF m 191 #[.val (.int p0), .val (.ref b1), .val (.int 12), .unset] [(.int 12)])
    refine step (fun t k => XS.iconst X53.here hx rfl (hb hby at_191) k) ?_
    show G T53 (mkF m 192 #[.val (.int p0), .val (.ref b1), .val (.int 12), .unset] [(.int 2), (.int 12)])
    refine step (fun t k => XS.icmpNo X53.here hx rfl (hb hby at_192) rfl (flt (by decide : ¬ ((12 : Int32) < (2 : Int32)))).1 k) ?_
    show G T53 (mkF m 195 #[.val (.int p0), .val (.ref b1), .val (.int 12), .unset] [])
    refine step (fun t k => XS.iloadN X53.here hx rfl (hb hby at_195) rfl k) ?_
    show G T53 (mkF m 196 #[.val (.int p0), .val (.ref b1), .val (.int 12), .unset] [(.int 12)])
    refine step (fun t k => XS.bipush X53.here hx rfl (hb hby at_196) k) ?_
    show G T53 (mkF m 198 #[.val (.int p0), .val (.ref b1), .val (.int 12), .unset] [(.int 8), (.int 12)])
    refine step (fun t k => XS.icmpYes X53.here hx rfl (pc0 := 198) (pc' := 205) rfl (hb hby at_198) rfl (tlt (by decide : (8 : Int32) < (12 : Int32))).2.2.1 (by decide) (by decide) k) ?_
    show G T53 (mkF m 205 #[.val (.int p0), .val (.ref b1), .val (.int 12), .unset] [])
    refine step (fun t k => XS.iconst X53.here hx rfl (hb hby at_205) k) ?_
    show G T53 (mkF m 206 #[.val (.int p0), .val (.ref b1), .val (.int 12), .unset] [(.int 0)])
    refine step (fun t k => XS.istoreN X53.here hx rfl (hb hby at_206) rfl (l' := #[.val (.int p0), .val (.ref b1), .val (.int 12), .val (.int 0)]) rfl k) ?_
    show G T53 (mkF m 207 #[.val (.int p0), .val (.ref b1), .val (.int 12), .val (.int 0)] [])
    refine step (fun t k => XS.aloadN X53.here hx rfl (hb hby at_207) rfl rfl k) ?_
    show G T53 (mkF m 208 #[.val (.int p0), .val (.ref b1), .val (.int 12), .val (.int 0)] [(.ref b1)])
    refine step (fun t k => XS.iloadN X53.here hx rfl (hb hby at_208) rfl k) ?_
    show G T53 (mkF m 209 #[.val (.int p0), .val (.ref b1), .val (.int 12), .val (.int 0)] [(.int 12), (.ref b1)])
    have q91 := own_ldR X53 hx hZ e53 V53 (j := (12 : Int32)) (v := (.ref w_IS_NOT_NULL)) (by decide) (own_at (i := 12) rfl rfl) rfl (g := (mkF m 209 #[.val (.int p0), .val (.ref b1), .val (.int 12), .val (.int 0)] [(.int 12), (.ref b1)])) rfl rfl (hb hby at_209)
    refine step q91 ?_
    show G T53 (mkF m 210 #[.val (.int p0), .val (.ref b1), .val (.int 12), .val (.int 0)] [(.ref w_IS_NOT_NULL)])
    have hK92 := (backOf (R := room_1) (p := p) (e := e) (below := below) (s := s) (args := #[(.int p0)]) (len := 3) (W := 0) (rm_ord l Z a0 hw [] w_EQUALS w_NOT w_GREATER_THAN w_GREATER_THAN_EQUAL w_LESS_THAN w_LESS_THAN_EQUAL w_AFTER w_BEFORE w_BETWEEN w_IN w_NOT_IN w_IS_NULL w_IS_NOT_NULL w_TRUE w_FALSE w_EXISTS w_STARTING_WITH w_ENDING_WITH w_CONTAINING w_NOT_CONTAINING w_LIKE w_NOT_LIKE w_REGEX w_NEAR w_WITHIN w_IGNORE_CASE w_IS_NOT_NULL h53 n0 (own_old_le O53) ST O53) hZ (ww61 hw) (ww3 hw) (by decide) (by decide))
    obtain ⟨cq92, kq92, q92a, q92b, q92c⟩ := isOf hZ e53 (Exa.ext O53.2 ST.k25)
    obtain ⟨_, _, ⟨T92, L92, k92, n92⟩, -, X92, ⟨Lc92, hQ92, l92, y92, z92⟩, st92⟩ := X53.virtualBack hx (y := y_0) (z := y_0) hown (mvT hZ (ww57 hw)) (mvT hZ (ww58 hw)) (notFace_of_selects (args := #[]) (mvT hZ (ww60 hw))) (mvT hZ (ww60 hw)) (mvT hZ (ww59 hw)) (by decide) hK92 q92a q92c (g := (mkF m 210 #[.val (.int p0), .val (.ref b1), .val (.int 12), .val (.int 0)] [(.ref w_IS_NOT_NULL)])) rfl (by rw [hml]; rfl) (Steps.refl _) (argsL := []) (rest := []) (lenOf pd_0 rfl) rfl (by show 2 * 0 + _ ≤ _; exact Nat.le_of_eq rfl) (hb hby at_210) (fun _ _ => ⟨rfl, e53, (by decide : 1 + 0 ≤ _), (by decide : 26 + 0 ≤ _)⟩)
    dsimp only [Pt.U, Pt.locs, Pt.cells, Pt.slots] at X92 l92 y92 z92 st92 hQ92
    subst l92 y92 z92
    obtain ⟨rfl, N92q, e92⟩ := hQ92
    have N92 := Fr.app N53 N92q
    obtain ⟨lc92, X92, N92⟩ := own_gen X92 N92
    refine step (fun t k => st92.trans k) ?_
    show G T92 (mkF m 213 #[.val (.int p0), .val (.ref b1), .val (.int 12), .val (.int 0)] [(.int (f_ord w_EQUALS w_NOT w_GREATER_THAN w_GREATER_THAN_EQUAL w_LESS_THAN w_LESS_THAN_EQUAL w_AFTER w_BEFORE w_BETWEEN w_IN w_NOT_IN w_IS_NULL w_IS_NOT_NULL w_TRUE w_FALSE w_EXISTS w_STARTING_WITH w_ENDING_WITH w_CONTAINING w_NOT_CONTAINING w_LIKE w_NOT_LIKE w_REGEX w_NEAR w_WITHIN w_IGNORE_CASE w_IS_NOT_NULL))])
    have r93 : (f_ord w_EQUALS w_NOT w_GREATER_THAN w_GREATER_THAN_EQUAL w_LESS_THAN w_LESS_THAN_EQUAL w_AFTER w_BEFORE w_BETWEEN w_IN w_NOT_IN w_IS_NULL w_IS_NOT_NULL w_TRUE w_FALSE w_EXISTS w_STARTING_WITH w_ENDING_WITH w_CONTAINING w_NOT_CONTAINING w_LIKE w_NOT_LIKE w_REGEX w_NEAR w_WITHIN w_IGNORE_CASE w_IS_NOT_NULL) = (0 : Int32) := by
      unfold f_ord
      rw [if_neg ((Fld.ne ST.k69 ST.k53 (fun q => absurd (Value.int.inj q) (by decide))) : ¬ (w_IS_NOT_NULL = w_GREATER_THAN)), if_neg ((Fld.ne ST.k69 ST.k54 (fun q => absurd (Value.int.inj q) (by decide))) : ¬ (w_IS_NOT_NULL = w_GREATER_THAN_EQUAL)), if_neg ((Fld.ne ST.k69 ST.k55 (fun q => absurd (Value.int.inj q) (by decide))) : ¬ (w_IS_NOT_NULL = w_LESS_THAN)), if_neg ((Fld.ne ST.k69 ST.k56 (fun q => absurd (Value.int.inj q) (by decide))) : ¬ (w_IS_NOT_NULL = w_LESS_THAN_EQUAL)), if_neg ((Fld.ne ST.k69 ST.k57 (fun q => absurd (Value.int.inj q) (by decide))) : ¬ (w_IS_NOT_NULL = w_AFTER)), if_neg ((Fld.ne ST.k69 ST.k58 (fun q => absurd (Value.int.inj q) (by decide))) : ¬ (w_IS_NOT_NULL = w_BEFORE)), if_neg ((Fld.ne ST.k69 ST.k59 (fun q => absurd (Value.int.inj q) (by decide))) : ¬ (w_IS_NOT_NULL = w_BETWEEN))]
    rw [r93]
    show G T92 (mkF m 213 #[.val (.int p0), .val (.ref b1), .val (.int 12), .val (.int 0)] [(.int 0)])
    refine step (fun t k => XS.iloadN X92.here hx rfl (hb hby at_213) rfl k) ?_
    show G T92 (mkF m 214 #[.val (.int p0), .val (.ref b1), .val (.int 12), .val (.int 0)] [(.int 0), (.int 0)])
    refine step (fun t k => XS.icmpNo X92.here hx rfl (hb hby at_214) rfl (teq (by decide : (0 : Int32) = (0 : Int32))).2 k) ?_
    show G T92 (mkF m 217 #[.val (.int p0), .val (.ref b1), .val (.int 12), .val (.int 0)] [])
    refine step (fun t k => XS.iconst X92.here hx rfl (hb hby at_217) k) ?_
    show G T92 (mkF m 218 #[.val (.int p0), .val (.ref b1), .val (.int 12), .val (.int 0)] [(.int 1)])
    refine step (fun t k => XS.goto X92.here hx rfl (pc0 := 218) (pc' := 222) rfl (hb hby at_218) (by decide) (by decide) k) ?_
    show G T92 (mkF m 222 #[.val (.int p0), .val (.ref b1), .val (.int 12), .val (.int 0)] [(.int 1)])
    exact ret (v := some (.int 1)) X92 (fun h => by rw [Bd.returns] at h; cases h) (fun fs hr => retN X92 hx (t := .boolean) Bd.returns (by simp) (hb hby at_222) hr) e92 ⟨rfl, N92⟩ (by decide) (by decide)
  · rw [hk]
    show G T53 (mkF m 189 #[.val (.int p0), .val (.ref b1), .unset, .unset] [(.int 13)])
    refine step (fun t k => XS.istoreN X53.here hx rfl (hb hby at_189) rfl (l' := #[.val (.int p0), .val (.ref b1), .val (.int 13), .unset]) rfl k) ?_
    show G T53 (mkF m 190 #[.val (.int p0), .val (.ref b1), .val (.int 13), .unset] [])
    refine step (fun t k => XS.iloadN X53.here hx rfl (hb hby at_190) rfl k) ?_
    show G T53 (mkF m 191 #[.val (.int p0), .val (.ref b1), .val (.int 13), .unset] [(.int 13)])
    refine step (fun t k => XS.iconst X53.here hx rfl (hb hby at_191) k) ?_
    show G T53 (mkF m 192 #[.val (.int p0), .val (.ref b1), .val (.int 13), .unset] [(.int 2), (.int 13)])
    refine step (fun t k => XS.icmpNo X53.here hx rfl (hb hby at_192) rfl (flt (by decide : ¬ ((13 : Int32) < (2 : Int32)))).1 k) ?_
    show G T53 (mkF m 195 #[.val (.int p0), .val (.ref b1), .val (.int 13), .unset] [])
    refine step (fun t k => XS.iloadN X53.here hx rfl (hb hby at_195) rfl k) ?_
    show G T53 (mkF m 196 #[.val (.int p0), .val (.ref b1), .val (.int 13), .unset] [(.int 13)])
    refine step (fun t k => XS.bipush X53.here hx rfl (hb hby at_196) k) ?_
    show G T53 (mkF m 198 #[.val (.int p0), .val (.ref b1), .val (.int 13), .unset] [(.int 8), (.int 13)])
    refine step (fun t k => XS.icmpYes X53.here hx rfl (pc0 := 198) (pc' := 205) rfl (hb hby at_198) rfl (tlt (by decide : (8 : Int32) < (13 : Int32))).2.2.1 (by decide) (by decide) k) ?_
    show G T53 (mkF m 205 #[.val (.int p0), .val (.ref b1), .val (.int 13), .unset] [])
    refine step (fun t k => XS.iconst X53.here hx rfl (hb hby at_205) k) ?_
    show G T53 (mkF m 206 #[.val (.int p0), .val (.ref b1), .val (.int 13), .unset] [(.int 0)])
    refine step (fun t k => XS.istoreN X53.here hx rfl (hb hby at_206) rfl (l' := #[.val (.int p0), .val (.ref b1), .val (.int 13), .val (.int 0)]) rfl k) ?_
    show G T53 (mkF m 207 #[.val (.int p0), .val (.ref b1), .val (.int 13), .val (.int 0)] [])
    refine step (fun t k => XS.aloadN X53.here hx rfl (hb hby at_207) rfl rfl k) ?_
    show G T53 (mkF m 208 #[.val (.int p0), .val (.ref b1), .val (.int 13), .val (.int 0)] [(.ref b1)])
    refine step (fun t k => XS.iloadN X53.here hx rfl (hb hby at_208) rfl k) ?_
    show G T53 (mkF m 209 #[.val (.int p0), .val (.ref b1), .val (.int 13), .val (.int 0)] [(.int 13), (.ref b1)])
    have q94 := own_ldR X53 hx hZ e53 V53 (j := (13 : Int32)) (v := (.ref w_TRUE)) (by decide) (own_at (i := 13) rfl rfl) rfl (g := (mkF m 209 #[.val (.int p0), .val (.ref b1), .val (.int 13), .val (.int 0)] [(.int 13), (.ref b1)])) rfl rfl (hb hby at_209)
    refine step q94 ?_
    show G T53 (mkF m 210 #[.val (.int p0), .val (.ref b1), .val (.int 13), .val (.int 0)] [(.ref w_TRUE)])
    have hK95 := (backOf (R := room_1) (p := p) (e := e) (below := below) (s := s) (args := #[(.int p0)]) (len := 3) (W := 0) (rm_ord l Z a0 hw [] w_EQUALS w_NOT w_GREATER_THAN w_GREATER_THAN_EQUAL w_LESS_THAN w_LESS_THAN_EQUAL w_AFTER w_BEFORE w_BETWEEN w_IN w_NOT_IN w_IS_NULL w_IS_NOT_NULL w_TRUE w_FALSE w_EXISTS w_STARTING_WITH w_ENDING_WITH w_CONTAINING w_NOT_CONTAINING w_LIKE w_NOT_LIKE w_REGEX w_NEAR w_WITHIN w_IGNORE_CASE w_TRUE h53 n0 (own_old_le O53) ST O53) hZ (ww61 hw) (ww3 hw) (by decide) (by decide))
    obtain ⟨cq95, kq95, q95a, q95b, q95c⟩ := isOf hZ e53 (Exa.ext O53.2 ST.k27)
    obtain ⟨_, _, ⟨T95, L95, k95, n95⟩, -, X95, ⟨Lc95, hQ95, l95, y95, z95⟩, st95⟩ := X53.virtualBack hx (y := y_0) (z := y_0) hown (mvT hZ (ww57 hw)) (mvT hZ (ww58 hw)) (notFace_of_selects (args := #[]) (mvT hZ (ww60 hw))) (mvT hZ (ww60 hw)) (mvT hZ (ww59 hw)) (by decide) hK95 q95a q95c (g := (mkF m 210 #[.val (.int p0), .val (.ref b1), .val (.int 13), .val (.int 0)] [(.ref w_TRUE)])) rfl (by rw [hml]; rfl) (Steps.refl _) (argsL := []) (rest := []) (lenOf pd_0 rfl) rfl (by show 2 * 0 + _ ≤ _; exact Nat.le_of_eq rfl) (hb hby at_210) (fun _ _ => ⟨rfl, e53, (by decide : 1 + 0 ≤ _), (by decide : 26 + 0 ≤ _)⟩)
    dsimp only [Pt.U, Pt.locs, Pt.cells, Pt.slots] at X95 l95 y95 z95 st95 hQ95
    subst l95 y95 z95
    obtain ⟨rfl, N95q, e95⟩ := hQ95
    have N95 := Fr.app N53 N95q
    obtain ⟨lc95, X95, N95⟩ := own_gen X95 N95
    refine step (fun t k => st95.trans k) ?_
    show G T95 (mkF m 213 #[.val (.int p0), .val (.ref b1), .val (.int 13), .val (.int 0)] [(.int (f_ord w_EQUALS w_NOT w_GREATER_THAN w_GREATER_THAN_EQUAL w_LESS_THAN w_LESS_THAN_EQUAL w_AFTER w_BEFORE w_BETWEEN w_IN w_NOT_IN w_IS_NULL w_IS_NOT_NULL w_TRUE w_FALSE w_EXISTS w_STARTING_WITH w_ENDING_WITH w_CONTAINING w_NOT_CONTAINING w_LIKE w_NOT_LIKE w_REGEX w_NEAR w_WITHIN w_IGNORE_CASE w_TRUE))])
    have r96 : (f_ord w_EQUALS w_NOT w_GREATER_THAN w_GREATER_THAN_EQUAL w_LESS_THAN w_LESS_THAN_EQUAL w_AFTER w_BEFORE w_BETWEEN w_IN w_NOT_IN w_IS_NULL w_IS_NOT_NULL w_TRUE w_FALSE w_EXISTS w_STARTING_WITH w_ENDING_WITH w_CONTAINING w_NOT_CONTAINING w_LIKE w_NOT_LIKE w_REGEX w_NEAR w_WITHIN w_IGNORE_CASE w_TRUE) = (0 : Int32) := by
      unfold f_ord
      rw [if_neg ((Fld.ne ST.k68 ST.k53 (fun q => absurd (Value.int.inj q) (by decide))) : ¬ (w_TRUE = w_GREATER_THAN)), if_neg ((Fld.ne ST.k68 ST.k54 (fun q => absurd (Value.int.inj q) (by decide))) : ¬ (w_TRUE = w_GREATER_THAN_EQUAL)), if_neg ((Fld.ne ST.k68 ST.k55 (fun q => absurd (Value.int.inj q) (by decide))) : ¬ (w_TRUE = w_LESS_THAN)), if_neg ((Fld.ne ST.k68 ST.k56 (fun q => absurd (Value.int.inj q) (by decide))) : ¬ (w_TRUE = w_LESS_THAN_EQUAL)), if_neg ((Fld.ne ST.k68 ST.k57 (fun q => absurd (Value.int.inj q) (by decide))) : ¬ (w_TRUE = w_AFTER)), if_neg ((Fld.ne ST.k68 ST.k58 (fun q => absurd (Value.int.inj q) (by decide))) : ¬ (w_TRUE = w_BEFORE)), if_neg ((Fld.ne ST.k68 ST.k59 (fun q => absurd (Value.int.inj q) (by decide))) : ¬ (w_TRUE = w_BETWEEN))]
    rw [r96]
    show G T95 (mkF m 213 #[.val (.int p0), .val (.ref b1), .val (.int 13), .val (.int 0)] [(.int 0)])
    refine step (fun t k => XS.iloadN X95.here hx rfl (hb hby at_213) rfl k) ?_
    show G T95 (mkF m 214 #[.val (.int p0), .val (.ref b1), .val (.int 13), .val (.int 0)] [(.int 0), (.int 0)])
    refine step (fun t k => XS.icmpNo X95.here hx rfl (hb hby at_214) rfl (teq (by decide : (0 : Int32) = (0 : Int32))).2 k) ?_
    show G T95 (mkF m 217 #[.val (.int p0), .val (.ref b1), .val (.int 13), .val (.int 0)] [])
    refine step (fun t k => XS.iconst X95.here hx rfl (hb hby at_217) k) ?_
    show G T95 (mkF m 218 #[.val (.int p0), .val (.ref b1), .val (.int 13), .val (.int 0)] [(.int 1)])
    refine step (fun t k => XS.goto X95.here hx rfl (pc0 := 218) (pc' := 222) rfl (hb hby at_218) (by decide) (by decide) k) ?_
    show G T95 (mkF m 222 #[.val (.int p0), .val (.ref b1), .val (.int 13), .val (.int 0)] [(.int 1)])
    exact ret (v := some (.int 1)) X95 (fun h => by rw [Bd.returns] at h; cases h) (fun fs hr => retN X95 hx (t := .boolean) Bd.returns (by simp) (hb hby at_222) hr) e95 ⟨rfl, N95⟩ (by decide) (by decide)
  · rw [hk]
    show G T53 (mkF m 189 #[.val (.int p0), .val (.ref b1), .unset, .unset] [(.int 14)])
    refine step (fun t k => XS.istoreN X53.here hx rfl (hb hby at_189) rfl (l' := #[.val (.int p0), .val (.ref b1), .val (.int 14), .unset]) rfl k) ?_
    show G T53 (mkF m 190 #[.val (.int p0), .val (.ref b1), .val (.int 14), .unset] [])
    refine step (fun t k => XS.iloadN X53.here hx rfl (hb hby at_190) rfl k) ?_
    show G T53 (mkF m 191 #[.val (.int p0), .val (.ref b1), .val (.int 14), .unset] [(.int 14)])
    refine step (fun t k => XS.iconst X53.here hx rfl (hb hby at_191) k) ?_
    show G T53 (mkF m 192 #[.val (.int p0), .val (.ref b1), .val (.int 14), .unset] [(.int 2), (.int 14)])
    refine step (fun t k => XS.icmpNo X53.here hx rfl (hb hby at_192) rfl (flt (by decide : ¬ ((14 : Int32) < (2 : Int32)))).1 k) ?_
    show G T53 (mkF m 195 #[.val (.int p0), .val (.ref b1), .val (.int 14), .unset] [])
    refine step (fun t k => XS.iloadN X53.here hx rfl (hb hby at_195) rfl k) ?_
    show G T53 (mkF m 196 #[.val (.int p0), .val (.ref b1), .val (.int 14), .unset] [(.int 14)])
    refine step (fun t k => XS.bipush X53.here hx rfl (hb hby at_196) k) ?_
    show G T53 (mkF m 198 #[.val (.int p0), .val (.ref b1), .val (.int 14), .unset] [(.int 8), (.int 14)])
    refine step (fun t k => XS.icmpYes X53.here hx rfl (pc0 := 198) (pc' := 205) rfl (hb hby at_198) rfl (tlt (by decide : (8 : Int32) < (14 : Int32))).2.2.1 (by decide) (by decide) k) ?_
    show G T53 (mkF m 205 #[.val (.int p0), .val (.ref b1), .val (.int 14), .unset] [])
    refine step (fun t k => XS.iconst X53.here hx rfl (hb hby at_205) k) ?_
    show G T53 (mkF m 206 #[.val (.int p0), .val (.ref b1), .val (.int 14), .unset] [(.int 0)])
    refine step (fun t k => XS.istoreN X53.here hx rfl (hb hby at_206) rfl (l' := #[.val (.int p0), .val (.ref b1), .val (.int 14), .val (.int 0)]) rfl k) ?_
    show G T53 (mkF m 207 #[.val (.int p0), .val (.ref b1), .val (.int 14), .val (.int 0)] [])
    refine step (fun t k => XS.aloadN X53.here hx rfl (hb hby at_207) rfl rfl k) ?_
    show G T53 (mkF m 208 #[.val (.int p0), .val (.ref b1), .val (.int 14), .val (.int 0)] [(.ref b1)])
    refine step (fun t k => XS.iloadN X53.here hx rfl (hb hby at_208) rfl k) ?_
    show G T53 (mkF m 209 #[.val (.int p0), .val (.ref b1), .val (.int 14), .val (.int 0)] [(.int 14), (.ref b1)])
    have q97 := own_ldR X53 hx hZ e53 V53 (j := (14 : Int32)) (v := (.ref w_FALSE)) (by decide) (own_at (i := 14) rfl rfl) rfl (g := (mkF m 209 #[.val (.int p0), .val (.ref b1), .val (.int 14), .val (.int 0)] [(.int 14), (.ref b1)])) rfl rfl (hb hby at_209)
    refine step q97 ?_
    show G T53 (mkF m 210 #[.val (.int p0), .val (.ref b1), .val (.int 14), .val (.int 0)] [(.ref w_FALSE)])
    have hK98 := (backOf (R := room_1) (p := p) (e := e) (below := below) (s := s) (args := #[(.int p0)]) (len := 3) (W := 0) (rm_ord l Z a0 hw [] w_EQUALS w_NOT w_GREATER_THAN w_GREATER_THAN_EQUAL w_LESS_THAN w_LESS_THAN_EQUAL w_AFTER w_BEFORE w_BETWEEN w_IN w_NOT_IN w_IS_NULL w_IS_NOT_NULL w_TRUE w_FALSE w_EXISTS w_STARTING_WITH w_ENDING_WITH w_CONTAINING w_NOT_CONTAINING w_LIKE w_NOT_LIKE w_REGEX w_NEAR w_WITHIN w_IGNORE_CASE w_FALSE h53 n0 (own_old_le O53) ST O53) hZ (ww61 hw) (ww3 hw) (by decide) (by decide))
    obtain ⟨cq98, kq98, q98a, q98b, q98c⟩ := isOf hZ e53 (Exa.ext O53.2 ST.k29)
    obtain ⟨_, _, ⟨T98, L98, k98, n98⟩, -, X98, ⟨Lc98, hQ98, l98, y98, z98⟩, st98⟩ := X53.virtualBack hx (y := y_0) (z := y_0) hown (mvT hZ (ww57 hw)) (mvT hZ (ww58 hw)) (notFace_of_selects (args := #[]) (mvT hZ (ww60 hw))) (mvT hZ (ww60 hw)) (mvT hZ (ww59 hw)) (by decide) hK98 q98a q98c (g := (mkF m 210 #[.val (.int p0), .val (.ref b1), .val (.int 14), .val (.int 0)] [(.ref w_FALSE)])) rfl (by rw [hml]; rfl) (Steps.refl _) (argsL := []) (rest := []) (lenOf pd_0 rfl) rfl (by show 2 * 0 + _ ≤ _; exact Nat.le_of_eq rfl) (hb hby at_210) (fun _ _ => ⟨rfl, e53, (by decide : 1 + 0 ≤ _), (by decide : 26 + 0 ≤ _)⟩)
    dsimp only [Pt.U, Pt.locs, Pt.cells, Pt.slots] at X98 l98 y98 z98 st98 hQ98
    subst l98 y98 z98
    obtain ⟨rfl, N98q, e98⟩ := hQ98
    have N98 := Fr.app N53 N98q
    obtain ⟨lc98, X98, N98⟩ := own_gen X98 N98
    refine step (fun t k => st98.trans k) ?_
    show G T98 (mkF m 213 #[.val (.int p0), .val (.ref b1), .val (.int 14), .val (.int 0)] [(.int (f_ord w_EQUALS w_NOT w_GREATER_THAN w_GREATER_THAN_EQUAL w_LESS_THAN w_LESS_THAN_EQUAL w_AFTER w_BEFORE w_BETWEEN w_IN w_NOT_IN w_IS_NULL w_IS_NOT_NULL w_TRUE w_FALSE w_EXISTS w_STARTING_WITH w_ENDING_WITH w_CONTAINING w_NOT_CONTAINING w_LIKE w_NOT_LIKE w_REGEX w_NEAR w_WITHIN w_IGNORE_CASE w_FALSE))])
    have r99 : (f_ord w_EQUALS w_NOT w_GREATER_THAN w_GREATER_THAN_EQUAL w_LESS_THAN w_LESS_THAN_EQUAL w_AFTER w_BEFORE w_BETWEEN w_IN w_NOT_IN w_IS_NULL w_IS_NOT_NULL w_TRUE w_FALSE w_EXISTS w_STARTING_WITH w_ENDING_WITH w_CONTAINING w_NOT_CONTAINING w_LIKE w_NOT_LIKE w_REGEX w_NEAR w_WITHIN w_IGNORE_CASE w_FALSE) = (0 : Int32) := by
      unfold f_ord
      rw [if_neg ((Fld.ne ST.k62 ST.k53 (fun q => absurd (Value.int.inj q) (by decide))) : ¬ (w_FALSE = w_GREATER_THAN)), if_neg ((Fld.ne ST.k62 ST.k54 (fun q => absurd (Value.int.inj q) (by decide))) : ¬ (w_FALSE = w_GREATER_THAN_EQUAL)), if_neg ((Fld.ne ST.k62 ST.k55 (fun q => absurd (Value.int.inj q) (by decide))) : ¬ (w_FALSE = w_LESS_THAN)), if_neg ((Fld.ne ST.k62 ST.k56 (fun q => absurd (Value.int.inj q) (by decide))) : ¬ (w_FALSE = w_LESS_THAN_EQUAL)), if_neg ((Fld.ne ST.k62 ST.k57 (fun q => absurd (Value.int.inj q) (by decide))) : ¬ (w_FALSE = w_AFTER)), if_neg ((Fld.ne ST.k62 ST.k58 (fun q => absurd (Value.int.inj q) (by decide))) : ¬ (w_FALSE = w_BEFORE)), if_neg ((Fld.ne ST.k62 ST.k59 (fun q => absurd (Value.int.inj q) (by decide))) : ¬ (w_FALSE = w_BETWEEN))]
    rw [r99]
    show G T98 (mkF m 213 #[.val (.int p0), .val (.ref b1), .val (.int 14), .val (.int 0)] [(.int 0)])
    refine step (fun t k => XS.iloadN X98.here hx rfl (hb hby at_213) rfl k) ?_
    show G T98 (mkF m 214 #[.val (.int p0), .val (.ref b1), .val (.int 14), .val (.int 0)] [(.int 0), (.int 0)])
    refine step (fun t k => XS.icmpNo X98.here hx rfl (hb hby at_214) rfl (teq (by decide : (0 : Int32) = (0 : Int32))).2 k) ?_
    show G T98 (mkF m 217 #[.val (.int p0), .val (.ref b1), .val (.int 14), .val (.int 0)] [])
    refine step (fun t k => XS.iconst X98.here hx rfl (hb hby at_217) k) ?_
    show G T98 (mkF m 218 #[.val (.int p0), .val (.ref b1), .val (.int 14), .val (.int 0)] [(.int 1)])
    refine step (fun t k => XS.goto X98.here hx rfl (pc0 := 218) (pc' := 222) rfl (hb hby at_218) (by decide) (by decide) k) ?_
    show G T98 (mkF m 222 #[.val (.int p0), .val (.ref b1), .val (.int 14), .val (.int 0)] [(.int 1)])
    exact ret (v := some (.int 1)) X98 (fun h => by rw [Bd.returns] at h; cases h) (fun fs hr => retN X98 hx (t := .boolean) Bd.returns (by simp) (hb hby at_222) hr) e98 ⟨rfl, N98⟩ (by decide) (by decide)
  · rw [hk]
    show G T53 (mkF m 189 #[.val (.int p0), .val (.ref b1), .unset, .unset] [(.int 15)])
    refine step (fun t k => XS.istoreN X53.here hx rfl (hb hby at_189) rfl (l' := #[.val (.int p0), .val (.ref b1), .val (.int 15), .unset]) rfl k) ?_
    show G T53 (mkF m 190 #[.val (.int p0), .val (.ref b1), .val (.int 15), .unset] [])
    refine step (fun t k => XS.iloadN X53.here hx rfl (hb hby at_190) rfl k) ?_
    show G T53 (mkF m 191 #[.val (.int p0), .val (.ref b1), .val (.int 15), .unset] [(.int 15)])
    refine step (fun t k => XS.iconst X53.here hx rfl (hb hby at_191) k) ?_
    show G T53 (mkF m 192 #[.val (.int p0), .val (.ref b1), .val (.int 15), .unset] [(.int 2), (.int 15)])
    refine step (fun t k => XS.icmpNo X53.here hx rfl (hb hby at_192) rfl (flt (by decide : ¬ ((15 : Int32) < (2 : Int32)))).1 k) ?_
    show G T53 (mkF m 195 #[.val (.int p0), .val (.ref b1), .val (.int 15), .unset] [])
    refine step (fun t k => XS.iloadN X53.here hx rfl (hb hby at_195) rfl k) ?_
    show G T53 (mkF m 196 #[.val (.int p0), .val (.ref b1), .val (.int 15), .unset] [(.int 15)])
    refine step (fun t k => XS.bipush X53.here hx rfl (hb hby at_196) k) ?_
    show G T53 (mkF m 198 #[.val (.int p0), .val (.ref b1), .val (.int 15), .unset] [(.int 8), (.int 15)])
    refine step (fun t k => XS.icmpYes X53.here hx rfl (pc0 := 198) (pc' := 205) rfl (hb hby at_198) rfl (tlt (by decide : (8 : Int32) < (15 : Int32))).2.2.1 (by decide) (by decide) k) ?_
    show G T53 (mkF m 205 #[.val (.int p0), .val (.ref b1), .val (.int 15), .unset] [])
    refine step (fun t k => XS.iconst X53.here hx rfl (hb hby at_205) k) ?_
    show G T53 (mkF m 206 #[.val (.int p0), .val (.ref b1), .val (.int 15), .unset] [(.int 0)])
    refine step (fun t k => XS.istoreN X53.here hx rfl (hb hby at_206) rfl (l' := #[.val (.int p0), .val (.ref b1), .val (.int 15), .val (.int 0)]) rfl k) ?_
    show G T53 (mkF m 207 #[.val (.int p0), .val (.ref b1), .val (.int 15), .val (.int 0)] [])
    refine step (fun t k => XS.aloadN X53.here hx rfl (hb hby at_207) rfl rfl k) ?_
    show G T53 (mkF m 208 #[.val (.int p0), .val (.ref b1), .val (.int 15), .val (.int 0)] [(.ref b1)])
    refine step (fun t k => XS.iloadN X53.here hx rfl (hb hby at_208) rfl k) ?_
    show G T53 (mkF m 209 #[.val (.int p0), .val (.ref b1), .val (.int 15), .val (.int 0)] [(.int 15), (.ref b1)])
    have q100 := own_ldR X53 hx hZ e53 V53 (j := (15 : Int32)) (v := (.ref w_EXISTS)) (by decide) (own_at (i := 15) rfl rfl) rfl (g := (mkF m 209 #[.val (.int p0), .val (.ref b1), .val (.int 15), .val (.int 0)] [(.int 15), (.ref b1)])) rfl rfl (hb hby at_209)
    refine step q100 ?_
    show G T53 (mkF m 210 #[.val (.int p0), .val (.ref b1), .val (.int 15), .val (.int 0)] [(.ref w_EXISTS)])
    have hK101 := (backOf (R := room_1) (p := p) (e := e) (below := below) (s := s) (args := #[(.int p0)]) (len := 3) (W := 0) (rm_ord l Z a0 hw [] w_EQUALS w_NOT w_GREATER_THAN w_GREATER_THAN_EQUAL w_LESS_THAN w_LESS_THAN_EQUAL w_AFTER w_BEFORE w_BETWEEN w_IN w_NOT_IN w_IS_NULL w_IS_NOT_NULL w_TRUE w_FALSE w_EXISTS w_STARTING_WITH w_ENDING_WITH w_CONTAINING w_NOT_CONTAINING w_LIKE w_NOT_LIKE w_REGEX w_NEAR w_WITHIN w_IGNORE_CASE w_EXISTS h53 n0 (own_old_le O53) ST O53) hZ (ww61 hw) (ww3 hw) (by decide) (by decide))
    obtain ⟨cq101, kq101, q101a, q101b, q101c⟩ := isOf hZ e53 (Exa.ext O53.2 ST.k31)
    obtain ⟨_, _, ⟨T101, L101, k101, n101⟩, -, X101, ⟨Lc101, hQ101, l101, y101, z101⟩, st101⟩ := X53.virtualBack hx (y := y_0) (z := y_0) hown (mvT hZ (ww57 hw)) (mvT hZ (ww58 hw)) (notFace_of_selects (args := #[]) (mvT hZ (ww60 hw))) (mvT hZ (ww60 hw)) (mvT hZ (ww59 hw)) (by decide) hK101 q101a q101c (g := (mkF m 210 #[.val (.int p0), .val (.ref b1), .val (.int 15), .val (.int 0)] [(.ref w_EXISTS)])) rfl (by rw [hml]; rfl) (Steps.refl _) (argsL := []) (rest := []) (lenOf pd_0 rfl) rfl (by show 2 * 0 + _ ≤ _; exact Nat.le_of_eq rfl) (hb hby at_210) (fun _ _ => ⟨rfl, e53, (by decide : 1 + 0 ≤ _), (by decide : 26 + 0 ≤ _)⟩)
    dsimp only [Pt.U, Pt.locs, Pt.cells, Pt.slots] at X101 l101 y101 z101 st101 hQ101
    subst l101 y101 z101
    obtain ⟨rfl, N101q, e101⟩ := hQ101
    have N101 := Fr.app N53 N101q
    obtain ⟨lc101, X101, N101⟩ := own_gen X101 N101
    refine step (fun t k => st101.trans k) ?_
    show G T101 (mkF m 213 #[.val (.int p0), .val (.ref b1), .val (.int 15), .val (.int 0)] [(.int (f_ord w_EQUALS w_NOT w_GREATER_THAN w_GREATER_THAN_EQUAL w_LESS_THAN w_LESS_THAN_EQUAL w_AFTER w_BEFORE w_BETWEEN w_IN w_NOT_IN w_IS_NULL w_IS_NOT_NULL w_TRUE w_FALSE w_EXISTS w_STARTING_WITH w_ENDING_WITH w_CONTAINING w_NOT_CONTAINING w_LIKE w_NOT_LIKE w_REGEX w_NEAR w_WITHIN w_IGNORE_CASE w_EXISTS))])
    have r102 : (f_ord w_EQUALS w_NOT w_GREATER_THAN w_GREATER_THAN_EQUAL w_LESS_THAN w_LESS_THAN_EQUAL w_AFTER w_BEFORE w_BETWEEN w_IN w_NOT_IN w_IS_NULL w_IS_NOT_NULL w_TRUE w_FALSE w_EXISTS w_STARTING_WITH w_ENDING_WITH w_CONTAINING w_NOT_CONTAINING w_LIKE w_NOT_LIKE w_REGEX w_NEAR w_WITHIN w_IGNORE_CASE w_EXISTS) = (0 : Int32) := by
      unfold f_ord
      rw [if_neg ((Fld.ne ST.k64 ST.k53 (fun q => absurd (Value.int.inj q) (by decide))) : ¬ (w_EXISTS = w_GREATER_THAN)), if_neg ((Fld.ne ST.k64 ST.k54 (fun q => absurd (Value.int.inj q) (by decide))) : ¬ (w_EXISTS = w_GREATER_THAN_EQUAL)), if_neg ((Fld.ne ST.k64 ST.k55 (fun q => absurd (Value.int.inj q) (by decide))) : ¬ (w_EXISTS = w_LESS_THAN)), if_neg ((Fld.ne ST.k64 ST.k56 (fun q => absurd (Value.int.inj q) (by decide))) : ¬ (w_EXISTS = w_LESS_THAN_EQUAL)), if_neg ((Fld.ne ST.k64 ST.k57 (fun q => absurd (Value.int.inj q) (by decide))) : ¬ (w_EXISTS = w_AFTER)), if_neg ((Fld.ne ST.k64 ST.k58 (fun q => absurd (Value.int.inj q) (by decide))) : ¬ (w_EXISTS = w_BEFORE)), if_neg ((Fld.ne ST.k64 ST.k59 (fun q => absurd (Value.int.inj q) (by decide))) : ¬ (w_EXISTS = w_BETWEEN))]
    rw [r102]
    show G T101 (mkF m 213 #[.val (.int p0), .val (.ref b1), .val (.int 15), .val (.int 0)] [(.int 0)])
    refine step (fun t k => XS.iloadN X101.here hx rfl (hb hby at_213) rfl k) ?_
    show G T101 (mkF m 214 #[.val (.int p0), .val (.ref b1), .val (.int 15), .val (.int 0)] [(.int 0), (.int 0)])
    refine step (fun t k => XS.icmpNo X101.here hx rfl (hb hby at_214) rfl (teq (by decide : (0 : Int32) = (0 : Int32))).2 k) ?_
    show G T101 (mkF m 217 #[.val (.int p0), .val (.ref b1), .val (.int 15), .val (.int 0)] [])
    refine step (fun t k => XS.iconst X101.here hx rfl (hb hby at_217) k) ?_
    show G T101 (mkF m 218 #[.val (.int p0), .val (.ref b1), .val (.int 15), .val (.int 0)] [(.int 1)])
    refine step (fun t k => XS.goto X101.here hx rfl (pc0 := 218) (pc' := 222) rfl (hb hby at_218) (by decide) (by decide) k) ?_
    show G T101 (mkF m 222 #[.val (.int p0), .val (.ref b1), .val (.int 15), .val (.int 0)] [(.int 1)])
    exact ret (v := some (.int 1)) X101 (fun h => by rw [Bd.returns] at h; cases h) (fun fs hr => retN X101 hx (t := .boolean) Bd.returns (by simp) (hb hby at_222) hr) e101 ⟨rfl, N101⟩ (by decide) (by decide)
  · rw [hk]
    show G T53 (mkF m 189 #[.val (.int p0), .val (.ref b1), .unset, .unset] [(.int 16)])
    refine step (fun t k => XS.istoreN X53.here hx rfl (hb hby at_189) rfl (l' := #[.val (.int p0), .val (.ref b1), .val (.int 16), .unset]) rfl k) ?_
    show G T53 (mkF m 190 #[.val (.int p0), .val (.ref b1), .val (.int 16), .unset] [])
    refine step (fun t k => XS.iloadN X53.here hx rfl (hb hby at_190) rfl k) ?_
    show G T53 (mkF m 191 #[.val (.int p0), .val (.ref b1), .val (.int 16), .unset] [(.int 16)])
    refine step (fun t k => XS.iconst X53.here hx rfl (hb hby at_191) k) ?_
    show G T53 (mkF m 192 #[.val (.int p0), .val (.ref b1), .val (.int 16), .unset] [(.int 2), (.int 16)])
    refine step (fun t k => XS.icmpNo X53.here hx rfl (hb hby at_192) rfl (flt (by decide : ¬ ((16 : Int32) < (2 : Int32)))).1 k) ?_
    show G T53 (mkF m 195 #[.val (.int p0), .val (.ref b1), .val (.int 16), .unset] [])
    refine step (fun t k => XS.iloadN X53.here hx rfl (hb hby at_195) rfl k) ?_
    show G T53 (mkF m 196 #[.val (.int p0), .val (.ref b1), .val (.int 16), .unset] [(.int 16)])
    refine step (fun t k => XS.bipush X53.here hx rfl (hb hby at_196) k) ?_
    show G T53 (mkF m 198 #[.val (.int p0), .val (.ref b1), .val (.int 16), .unset] [(.int 8), (.int 16)])
    refine step (fun t k => XS.icmpYes X53.here hx rfl (pc0 := 198) (pc' := 205) rfl (hb hby at_198) rfl (tlt (by decide : (8 : Int32) < (16 : Int32))).2.2.1 (by decide) (by decide) k) ?_
    show G T53 (mkF m 205 #[.val (.int p0), .val (.ref b1), .val (.int 16), .unset] [])
    refine step (fun t k => XS.iconst X53.here hx rfl (hb hby at_205) k) ?_
    show G T53 (mkF m 206 #[.val (.int p0), .val (.ref b1), .val (.int 16), .unset] [(.int 0)])
    refine step (fun t k => XS.istoreN X53.here hx rfl (hb hby at_206) rfl (l' := #[.val (.int p0), .val (.ref b1), .val (.int 16), .val (.int 0)]) rfl k) ?_
    show G T53 (mkF m 207 #[.val (.int p0), .val (.ref b1), .val (.int 16), .val (.int 0)] [])
    refine step (fun t k => XS.aloadN X53.here hx rfl (hb hby at_207) rfl rfl k) ?_
    show G T53 (mkF m 208 #[.val (.int p0), .val (.ref b1), .val (.int 16), .val (.int 0)] [(.ref b1)])
    refine step (fun t k => XS.iloadN X53.here hx rfl (hb hby at_208) rfl k) ?_
    show G T53 (mkF m 209 #[.val (.int p0), .val (.ref b1), .val (.int 16), .val (.int 0)] [(.int 16), (.ref b1)])
    have q103 := own_ldR X53 hx hZ e53 V53 (j := (16 : Int32)) (v := (.ref w_STARTING_WITH)) (by decide) (own_at (i := 16) rfl rfl) rfl (g := (mkF m 209 #[.val (.int p0), .val (.ref b1), .val (.int 16), .val (.int 0)] [(.int 16), (.ref b1)])) rfl rfl (hb hby at_209)
    refine step q103 ?_
    show G T53 (mkF m 210 #[.val (.int p0), .val (.ref b1), .val (.int 16), .val (.int 0)] [(.ref w_STARTING_WITH)])
    have hK104 := (backOf (R := room_1) (p := p) (e := e) (below := below) (s := s) (args := #[(.int p0)]) (len := 3) (W := 0) (rm_ord l Z a0 hw [] w_EQUALS w_NOT w_GREATER_THAN w_GREATER_THAN_EQUAL w_LESS_THAN w_LESS_THAN_EQUAL w_AFTER w_BEFORE w_BETWEEN w_IN w_NOT_IN w_IS_NULL w_IS_NOT_NULL w_TRUE w_FALSE w_EXISTS w_STARTING_WITH w_ENDING_WITH w_CONTAINING w_NOT_CONTAINING w_LIKE w_NOT_LIKE w_REGEX w_NEAR w_WITHIN w_IGNORE_CASE w_STARTING_WITH h53 n0 (own_old_le O53) ST O53) hZ (ww61 hw) (ww3 hw) (by decide) (by decide))
    obtain ⟨cq104, kq104, q104a, q104b, q104c⟩ := isOf hZ e53 (Exa.ext O53.2 ST.k33)
    obtain ⟨_, _, ⟨T104, L104, k104, n104⟩, -, X104, ⟨Lc104, hQ104, l104, y104, z104⟩, st104⟩ := X53.virtualBack hx (y := y_0) (z := y_0) hown (mvT hZ (ww57 hw)) (mvT hZ (ww58 hw)) (notFace_of_selects (args := #[]) (mvT hZ (ww60 hw))) (mvT hZ (ww60 hw)) (mvT hZ (ww59 hw)) (by decide) hK104 q104a q104c (g := (mkF m 210 #[.val (.int p0), .val (.ref b1), .val (.int 16), .val (.int 0)] [(.ref w_STARTING_WITH)])) rfl (by rw [hml]; rfl) (Steps.refl _) (argsL := []) (rest := []) (lenOf pd_0 rfl) rfl (by show 2 * 0 + _ ≤ _; exact Nat.le_of_eq rfl) (hb hby at_210) (fun _ _ => ⟨rfl, e53, (by decide : 1 + 0 ≤ _), (by decide : 26 + 0 ≤ _)⟩)
    dsimp only [Pt.U, Pt.locs, Pt.cells, Pt.slots] at X104 l104 y104 z104 st104 hQ104
    subst l104 y104 z104
    obtain ⟨rfl, N104q, e104⟩ := hQ104
    have N104 := Fr.app N53 N104q
    obtain ⟨lc104, X104, N104⟩ := own_gen X104 N104
    refine step (fun t k => st104.trans k) ?_
    show G T104 (mkF m 213 #[.val (.int p0), .val (.ref b1), .val (.int 16), .val (.int 0)] [(.int (f_ord w_EQUALS w_NOT w_GREATER_THAN w_GREATER_THAN_EQUAL w_LESS_THAN w_LESS_THAN_EQUAL w_AFTER w_BEFORE w_BETWEEN w_IN w_NOT_IN w_IS_NULL w_IS_NOT_NULL w_TRUE w_FALSE w_EXISTS w_STARTING_WITH w_ENDING_WITH w_CONTAINING w_NOT_CONTAINING w_LIKE w_NOT_LIKE w_REGEX w_NEAR w_WITHIN w_IGNORE_CASE w_STARTING_WITH))])
    have r105 : (f_ord w_EQUALS w_NOT w_GREATER_THAN w_GREATER_THAN_EQUAL w_LESS_THAN w_LESS_THAN_EQUAL w_AFTER w_BEFORE w_BETWEEN w_IN w_NOT_IN w_IS_NULL w_IS_NOT_NULL w_TRUE w_FALSE w_EXISTS w_STARTING_WITH w_ENDING_WITH w_CONTAINING w_NOT_CONTAINING w_LIKE w_NOT_LIKE w_REGEX w_NEAR w_WITHIN w_IGNORE_CASE w_STARTING_WITH) = (0 : Int32) := by
      unfold f_ord
      rw [if_neg ((Fld.ne ST.k65 ST.k53 (fun q => absurd (Value.int.inj q) (by decide))) : ¬ (w_STARTING_WITH = w_GREATER_THAN)), if_neg ((Fld.ne ST.k65 ST.k54 (fun q => absurd (Value.int.inj q) (by decide))) : ¬ (w_STARTING_WITH = w_GREATER_THAN_EQUAL)), if_neg ((Fld.ne ST.k65 ST.k55 (fun q => absurd (Value.int.inj q) (by decide))) : ¬ (w_STARTING_WITH = w_LESS_THAN)), if_neg ((Fld.ne ST.k65 ST.k56 (fun q => absurd (Value.int.inj q) (by decide))) : ¬ (w_STARTING_WITH = w_LESS_THAN_EQUAL)), if_neg ((Fld.ne ST.k65 ST.k57 (fun q => absurd (Value.int.inj q) (by decide))) : ¬ (w_STARTING_WITH = w_AFTER)), if_neg ((Fld.ne ST.k65 ST.k58 (fun q => absurd (Value.int.inj q) (by decide))) : ¬ (w_STARTING_WITH = w_BEFORE)), if_neg ((Fld.ne ST.k65 ST.k59 (fun q => absurd (Value.int.inj q) (by decide))) : ¬ (w_STARTING_WITH = w_BETWEEN))]
    rw [r105]
    show G T104 (mkF m 213 #[.val (.int p0), .val (.ref b1), .val (.int 16), .val (.int 0)] [(.int 0)])
    refine step (fun t k => XS.iloadN X104.here hx rfl (hb hby at_213) rfl k) ?_
    show G T104 (mkF m 214 #[.val (.int p0), .val (.ref b1), .val (.int 16), .val (.int 0)] [(.int 0), (.int 0)])
    refine step (fun t k => XS.icmpNo X104.here hx rfl (hb hby at_214) rfl (teq (by decide : (0 : Int32) = (0 : Int32))).2 k) ?_
    show G T104 (mkF m 217 #[.val (.int p0), .val (.ref b1), .val (.int 16), .val (.int 0)] [])
    refine step (fun t k => XS.iconst X104.here hx rfl (hb hby at_217) k) ?_
    show G T104 (mkF m 218 #[.val (.int p0), .val (.ref b1), .val (.int 16), .val (.int 0)] [(.int 1)])
    refine step (fun t k => XS.goto X104.here hx rfl (pc0 := 218) (pc' := 222) rfl (hb hby at_218) (by decide) (by decide) k) ?_
    show G T104 (mkF m 222 #[.val (.int p0), .val (.ref b1), .val (.int 16), .val (.int 0)] [(.int 1)])
    exact ret (v := some (.int 1)) X104 (fun h => by rw [Bd.returns] at h; cases h) (fun fs hr => retN X104 hx (t := .boolean) Bd.returns (by simp) (hb hby at_222) hr) e104 ⟨rfl, N104⟩ (by decide) (by decide)
  · rw [hk]
    show G T53 (mkF m 189 #[.val (.int p0), .val (.ref b1), .unset, .unset] [(.int 17)])
    refine step (fun t k => XS.istoreN X53.here hx rfl (hb hby at_189) rfl (l' := #[.val (.int p0), .val (.ref b1), .val (.int 17), .unset]) rfl k) ?_
    show G T53 (mkF m 190 #[.val (.int p0), .val (.ref b1), .val (.int 17), .unset] [])
    refine step (fun t k => XS.iloadN X53.here hx rfl (hb hby at_190) rfl k) ?_
    show G T53 (mkF m 191 #[.val (.int p0), .val (.ref b1), .val (.int 17), .unset] [(.int 17)])
    refine step (fun t k => XS.iconst X53.here hx rfl (hb hby at_191) k) ?_
    show G T53 (mkF m 192 #[.val (.int p0), .val (.ref b1), .val (.int 17), .unset] [(.int 2), (.int 17)])
    refine step (fun t k => XS.icmpNo X53.here hx rfl (hb hby at_192) rfl (flt (by decide : ¬ ((17 : Int32) < (2 : Int32)))).1 k) ?_
    show G T53 (mkF m 195 #[.val (.int p0), .val (.ref b1), .val (.int 17), .unset] [])
    refine step (fun t k => XS.iloadN X53.here hx rfl (hb hby at_195) rfl k) ?_
    show G T53 (mkF m 196 #[.val (.int p0), .val (.ref b1), .val (.int 17), .unset] [(.int 17)])
    refine step (fun t k => XS.bipush X53.here hx rfl (hb hby at_196) k) ?_
    show G T53 (mkF m 198 #[.val (.int p0), .val (.ref b1), .val (.int 17), .unset] [(.int 8), (.int 17)])
    refine step (fun t k => XS.icmpYes X53.here hx rfl (pc0 := 198) (pc' := 205) rfl (hb hby at_198) rfl (tlt (by decide : (8 : Int32) < (17 : Int32))).2.2.1 (by decide) (by decide) k) ?_
    show G T53 (mkF m 205 #[.val (.int p0), .val (.ref b1), .val (.int 17), .unset] [])
    refine step (fun t k => XS.iconst X53.here hx rfl (hb hby at_205) k) ?_
    show G T53 (mkF m 206 #[.val (.int p0), .val (.ref b1), .val (.int 17), .unset] [(.int 0)])
    refine step (fun t k => XS.istoreN X53.here hx rfl (hb hby at_206) rfl (l' := #[.val (.int p0), .val (.ref b1), .val (.int 17), .val (.int 0)]) rfl k) ?_
    show G T53 (mkF m 207 #[.val (.int p0), .val (.ref b1), .val (.int 17), .val (.int 0)] [])
    refine step (fun t k => XS.aloadN X53.here hx rfl (hb hby at_207) rfl rfl k) ?_
    show G T53 (mkF m 208 #[.val (.int p0), .val (.ref b1), .val (.int 17), .val (.int 0)] [(.ref b1)])
    refine step (fun t k => XS.iloadN X53.here hx rfl (hb hby at_208) rfl k) ?_
    show G T53 (mkF m 209 #[.val (.int p0), .val (.ref b1), .val (.int 17), .val (.int 0)] [(.int 17), (.ref b1)])
    have q106 := own_ldR X53 hx hZ e53 V53 (j := (17 : Int32)) (v := (.ref w_ENDING_WITH)) (by decide) (own_at (i := 17) rfl rfl) rfl (g := (mkF m 209 #[.val (.int p0), .val (.ref b1), .val (.int 17), .val (.int 0)] [(.int 17), (.ref b1)])) rfl rfl (hb hby at_209)
    refine step q106 ?_
    show G T53 (mkF m 210 #[.val (.int p0), .val (.ref b1), .val (.int 17), .val (.int 0)] [(.ref w_ENDING_WITH)])
    have hK107 := (backOf (R := room_1) (p := p) (e := e) (below := below) (s := s) (args := #[(.int p0)]) (len := 3) (W := 0) (rm_ord l Z a0 hw [] w_EQUALS w_NOT w_GREATER_THAN w_GREATER_THAN_EQUAL w_LESS_THAN w_LESS_THAN_EQUAL w_AFTER w_BEFORE w_BETWEEN w_IN w_NOT_IN w_IS_NULL w_IS_NOT_NULL w_TRUE w_FALSE w_EXISTS w_STARTING_WITH w_ENDING_WITH w_CONTAINING w_NOT_CONTAINING w_LIKE w_NOT_LIKE w_REGEX w_NEAR w_WITHIN w_IGNORE_CASE w_ENDING_WITH h53 n0 (own_old_le O53) ST O53) hZ (ww61 hw) (ww3 hw) (by decide) (by decide))
    obtain ⟨cq107, kq107, q107a, q107b, q107c⟩ := isOf hZ e53 (Exa.ext O53.2 ST.k35)
    obtain ⟨_, _, ⟨T107, L107, k107, n107⟩, -, X107, ⟨Lc107, hQ107, l107, y107, z107⟩, st107⟩ := X53.virtualBack hx (y := y_0) (z := y_0) hown (mvT hZ (ww57 hw)) (mvT hZ (ww58 hw)) (notFace_of_selects (args := #[]) (mvT hZ (ww60 hw))) (mvT hZ (ww60 hw)) (mvT hZ (ww59 hw)) (by decide) hK107 q107a q107c (g := (mkF m 210 #[.val (.int p0), .val (.ref b1), .val (.int 17), .val (.int 0)] [(.ref w_ENDING_WITH)])) rfl (by rw [hml]; rfl) (Steps.refl _) (argsL := []) (rest := []) (lenOf pd_0 rfl) rfl (by show 2 * 0 + _ ≤ _; exact Nat.le_of_eq rfl) (hb hby at_210) (fun _ _ => ⟨rfl, e53, (by decide : 1 + 0 ≤ _), (by decide : 26 + 0 ≤ _)⟩)
    dsimp only [Pt.U, Pt.locs, Pt.cells, Pt.slots] at X107 l107 y107 z107 st107 hQ107
    subst l107 y107 z107
    obtain ⟨rfl, N107q, e107⟩ := hQ107
    have N107 := Fr.app N53 N107q
    obtain ⟨lc107, X107, N107⟩ := own_gen X107 N107
    refine step (fun t k => st107.trans k) ?_
    show G T107 (mkF m 213 #[.val (.int p0), .val (.ref b1), .val (.int 17), .val (.int 0)] [(.int (f_ord w_EQUALS w_NOT w_GREATER_THAN w_GREATER_THAN_EQUAL w_LESS_THAN w_LESS_THAN_EQUAL w_AFTER w_BEFORE w_BETWEEN w_IN w_NOT_IN w_IS_NULL w_IS_NOT_NULL w_TRUE w_FALSE w_EXISTS w_STARTING_WITH w_ENDING_WITH w_CONTAINING w_NOT_CONTAINING w_LIKE w_NOT_LIKE w_REGEX w_NEAR w_WITHIN w_IGNORE_CASE w_ENDING_WITH))])
    have r108 : (f_ord w_EQUALS w_NOT w_GREATER_THAN w_GREATER_THAN_EQUAL w_LESS_THAN w_LESS_THAN_EQUAL w_AFTER w_BEFORE w_BETWEEN w_IN w_NOT_IN w_IS_NULL w_IS_NOT_NULL w_TRUE w_FALSE w_EXISTS w_STARTING_WITH w_ENDING_WITH w_CONTAINING w_NOT_CONTAINING w_LIKE w_NOT_LIKE w_REGEX w_NEAR w_WITHIN w_IGNORE_CASE w_ENDING_WITH) = (0 : Int32) := by
      unfold f_ord
      rw [if_neg ((Fld.ne ST.k74 ST.k53 (fun q => absurd (Value.int.inj q) (by decide))) : ¬ (w_ENDING_WITH = w_GREATER_THAN)), if_neg ((Fld.ne ST.k74 ST.k54 (fun q => absurd (Value.int.inj q) (by decide))) : ¬ (w_ENDING_WITH = w_GREATER_THAN_EQUAL)), if_neg ((Fld.ne ST.k74 ST.k55 (fun q => absurd (Value.int.inj q) (by decide))) : ¬ (w_ENDING_WITH = w_LESS_THAN)), if_neg ((Fld.ne ST.k74 ST.k56 (fun q => absurd (Value.int.inj q) (by decide))) : ¬ (w_ENDING_WITH = w_LESS_THAN_EQUAL)), if_neg ((Fld.ne ST.k74 ST.k57 (fun q => absurd (Value.int.inj q) (by decide))) : ¬ (w_ENDING_WITH = w_AFTER)), if_neg ((Fld.ne ST.k74 ST.k58 (fun q => absurd (Value.int.inj q) (by decide))) : ¬ (w_ENDING_WITH = w_BEFORE)), if_neg ((Fld.ne ST.k74 ST.k59 (fun q => absurd (Value.int.inj q) (by decide))) : ¬ (w_ENDING_WITH = w_BETWEEN))]
    rw [r108]
    show G T107 (mkF m 213 #[.val (.int p0), .val (.ref b1), .val (.int 17), .val (.int 0)] [(.int 0)])
    refine step (fun t k => XS.iloadN X107.here hx rfl (hb hby at_213) rfl k) ?_
    show G T107 (mkF m 214 #[.val (.int p0), .val (.ref b1), .val (.int 17), .val (.int 0)] [(.int 0), (.int 0)])
    refine step (fun t k => XS.icmpNo X107.here hx rfl (hb hby at_214) rfl (teq (by decide : (0 : Int32) = (0 : Int32))).2 k) ?_
    show G T107 (mkF m 217 #[.val (.int p0), .val (.ref b1), .val (.int 17), .val (.int 0)] [])
    refine step (fun t k => XS.iconst X107.here hx rfl (hb hby at_217) k) ?_
    show G T107 (mkF m 218 #[.val (.int p0), .val (.ref b1), .val (.int 17), .val (.int 0)] [(.int 1)])
    refine step (fun t k => XS.goto X107.here hx rfl (pc0 := 218) (pc' := 222) rfl (hb hby at_218) (by decide) (by decide) k) ?_
    show G T107 (mkF m 222 #[.val (.int p0), .val (.ref b1), .val (.int 17), .val (.int 0)] [(.int 1)])
    exact ret (v := some (.int 1)) X107 (fun h => by rw [Bd.returns] at h; cases h) (fun fs hr => retN X107 hx (t := .boolean) Bd.returns (by simp) (hb hby at_222) hr) e107 ⟨rfl, N107⟩ (by decide) (by decide)
  · rw [hk]
    show G T53 (mkF m 189 #[.val (.int p0), .val (.ref b1), .unset, .unset] [(.int 18)])
    refine step (fun t k => XS.istoreN X53.here hx rfl (hb hby at_189) rfl (l' := #[.val (.int p0), .val (.ref b1), .val (.int 18), .unset]) rfl k) ?_
    show G T53 (mkF m 190 #[.val (.int p0), .val (.ref b1), .val (.int 18), .unset] [])
    refine step (fun t k => XS.iloadN X53.here hx rfl (hb hby at_190) rfl k) ?_
    show G T53 (mkF m 191 #[.val (.int p0), .val (.ref b1), .val (.int 18), .unset] [(.int 18)])
    refine step (fun t k => XS.iconst X53.here hx rfl (hb hby at_191) k) ?_
    show G T53 (mkF m 192 #[.val (.int p0), .val (.ref b1), .val (.int 18), .unset] [(.int 2), (.int 18)])
    refine step (fun t k => XS.icmpNo X53.here hx rfl (hb hby at_192) rfl (flt (by decide : ¬ ((18 : Int32) < (2 : Int32)))).1 k) ?_
    show G T53 (mkF m 195 #[.val (.int p0), .val (.ref b1), .val (.int 18), .unset] [])
    refine step (fun t k => XS.iloadN X53.here hx rfl (hb hby at_195) rfl k) ?_
    show G T53 (mkF m 196 #[.val (.int p0), .val (.ref b1), .val (.int 18), .unset] [(.int 18)])
    refine step (fun t k => XS.bipush X53.here hx rfl (hb hby at_196) k) ?_
    show G T53 (mkF m 198 #[.val (.int p0), .val (.ref b1), .val (.int 18), .unset] [(.int 8), (.int 18)])
    refine step (fun t k => XS.icmpYes X53.here hx rfl (pc0 := 198) (pc' := 205) rfl (hb hby at_198) rfl (tlt (by decide : (8 : Int32) < (18 : Int32))).2.2.1 (by decide) (by decide) k) ?_
    show G T53 (mkF m 205 #[.val (.int p0), .val (.ref b1), .val (.int 18), .unset] [])
    refine step (fun t k => XS.iconst X53.here hx rfl (hb hby at_205) k) ?_
    show G T53 (mkF m 206 #[.val (.int p0), .val (.ref b1), .val (.int 18), .unset] [(.int 0)])
    refine step (fun t k => XS.istoreN X53.here hx rfl (hb hby at_206) rfl (l' := #[.val (.int p0), .val (.ref b1), .val (.int 18), .val (.int 0)]) rfl k) ?_
    show G T53 (mkF m 207 #[.val (.int p0), .val (.ref b1), .val (.int 18), .val (.int 0)] [])
    refine step (fun t k => XS.aloadN X53.here hx rfl (hb hby at_207) rfl rfl k) ?_
    show G T53 (mkF m 208 #[.val (.int p0), .val (.ref b1), .val (.int 18), .val (.int 0)] [(.ref b1)])
    refine step (fun t k => XS.iloadN X53.here hx rfl (hb hby at_208) rfl k) ?_
    show G T53 (mkF m 209 #[.val (.int p0), .val (.ref b1), .val (.int 18), .val (.int 0)] [(.int 18), (.ref b1)])
    have q109 := own_ldR X53 hx hZ e53 V53 (j := (18 : Int32)) (v := (.ref w_CONTAINING)) (by decide) (own_at (i := 18) rfl rfl) rfl (g := (mkF m 209 #[.val (.int p0), .val (.ref b1), .val (.int 18), .val (.int 0)] [(.int 18), (.ref b1)])) rfl rfl (hb hby at_209)
    refine step q109 ?_
    show G T53 (mkF m 210 #[.val (.int p0), .val (.ref b1), .val (.int 18), .val (.int 0)] [(.ref w_CONTAINING)])
    have hK110 := (backOf (R := room_1) (p := p) (e := e) (below := below) (s := s) (args := #[(.int p0)]) (len := 3) (W := 0) (rm_ord l Z a0 hw [] w_EQUALS w_NOT w_GREATER_THAN w_GREATER_THAN_EQUAL w_LESS_THAN w_LESS_THAN_EQUAL w_AFTER w_BEFORE w_BETWEEN w_IN w_NOT_IN w_IS_NULL w_IS_NOT_NULL w_TRUE w_FALSE w_EXISTS w_STARTING_WITH w_ENDING_WITH w_CONTAINING w_NOT_CONTAINING w_LIKE w_NOT_LIKE w_REGEX w_NEAR w_WITHIN w_IGNORE_CASE w_CONTAINING h53 n0 (own_old_le O53) ST O53) hZ (ww61 hw) (ww3 hw) (by decide) (by decide))
    obtain ⟨cq110, kq110, q110a, q110b, q110c⟩ := isOf hZ e53 (Exa.ext O53.2 ST.k37)
    obtain ⟨_, _, ⟨T110, L110, k110, n110⟩, -, X110, ⟨Lc110, hQ110, l110, y110, z110⟩, st110⟩ := X53.virtualBack hx (y := y_0) (z := y_0) hown (mvT hZ (ww57 hw)) (mvT hZ (ww58 hw)) (notFace_of_selects (args := #[]) (mvT hZ (ww60 hw))) (mvT hZ (ww60 hw)) (mvT hZ (ww59 hw)) (by decide) hK110 q110a q110c (g := (mkF m 210 #[.val (.int p0), .val (.ref b1), .val (.int 18), .val (.int 0)] [(.ref w_CONTAINING)])) rfl (by rw [hml]; rfl) (Steps.refl _) (argsL := []) (rest := []) (lenOf pd_0 rfl) rfl (by show 2 * 0 + _ ≤ _; exact Nat.le_of_eq rfl) (hb hby at_210) (fun _ _ => ⟨rfl, e53, (by decide : 1 + 0 ≤ _), (by decide : 26 + 0 ≤ _)⟩)
    dsimp only [Pt.U, Pt.locs, Pt.cells, Pt.slots] at X110 l110 y110 z110 st110 hQ110
    subst l110 y110 z110
    obtain ⟨rfl, N110q, e110⟩ := hQ110
    have N110 := Fr.app N53 N110q
    obtain ⟨lc110, X110, N110⟩ := own_gen X110 N110
    refine step (fun t k => st110.trans k) ?_
    show G T110 (mkF m 213 #[.val (.int p0), .val (.ref b1), .val (.int 18), .val (.int 0)] [(.int (f_ord w_EQUALS w_NOT w_GREATER_THAN w_GREATER_THAN_EQUAL w_LESS_THAN w_LESS_THAN_EQUAL w_AFTER w_BEFORE w_BETWEEN w_IN w_NOT_IN w_IS_NULL w_IS_NOT_NULL w_TRUE w_FALSE w_EXISTS w_STARTING_WITH w_ENDING_WITH w_CONTAINING w_NOT_CONTAINING w_LIKE w_NOT_LIKE w_REGEX w_NEAR w_WITHIN w_IGNORE_CASE w_CONTAINING))])
    have r111 : (f_ord w_EQUALS w_NOT w_GREATER_THAN w_GREATER_THAN_EQUAL w_LESS_THAN w_LESS_THAN_EQUAL w_AFTER w_BEFORE w_BETWEEN w_IN w_NOT_IN w_IS_NULL w_IS_NOT_NULL w_TRUE w_FALSE w_EXISTS w_STARTING_WITH w_ENDING_WITH w_CONTAINING w_NOT_CONTAINING w_LIKE w_NOT_LIKE w_REGEX w_NEAR w_WITHIN w_IGNORE_CASE w_CONTAINING) = (0 : Int32) := by
      unfold f_ord
      rw [if_neg ((Fld.ne ST.k71 ST.k53 (fun q => absurd (Value.int.inj q) (by decide))) : ¬ (w_CONTAINING = w_GREATER_THAN)), if_neg ((Fld.ne ST.k71 ST.k54 (fun q => absurd (Value.int.inj q) (by decide))) : ¬ (w_CONTAINING = w_GREATER_THAN_EQUAL)), if_neg ((Fld.ne ST.k71 ST.k55 (fun q => absurd (Value.int.inj q) (by decide))) : ¬ (w_CONTAINING = w_LESS_THAN)), if_neg ((Fld.ne ST.k71 ST.k56 (fun q => absurd (Value.int.inj q) (by decide))) : ¬ (w_CONTAINING = w_LESS_THAN_EQUAL)), if_neg ((Fld.ne ST.k71 ST.k57 (fun q => absurd (Value.int.inj q) (by decide))) : ¬ (w_CONTAINING = w_AFTER)), if_neg ((Fld.ne ST.k71 ST.k58 (fun q => absurd (Value.int.inj q) (by decide))) : ¬ (w_CONTAINING = w_BEFORE)), if_neg ((Fld.ne ST.k71 ST.k59 (fun q => absurd (Value.int.inj q) (by decide))) : ¬ (w_CONTAINING = w_BETWEEN))]
    rw [r111]
    show G T110 (mkF m 213 #[.val (.int p0), .val (.ref b1), .val (.int 18), .val (.int 0)] [(.int 0)])
    refine step (fun t k => XS.iloadN X110.here hx rfl (hb hby at_213) rfl k) ?_
    show G T110 (mkF m 214 #[.val (.int p0), .val (.ref b1), .val (.int 18), .val (.int 0)] [(.int 0), (.int 0)])
    refine step (fun t k => XS.icmpNo X110.here hx rfl (hb hby at_214) rfl (teq (by decide : (0 : Int32) = (0 : Int32))).2 k) ?_
    show G T110 (mkF m 217 #[.val (.int p0), .val (.ref b1), .val (.int 18), .val (.int 0)] [])
    refine step (fun t k => XS.iconst X110.here hx rfl (hb hby at_217) k) ?_
    show G T110 (mkF m 218 #[.val (.int p0), .val (.ref b1), .val (.int 18), .val (.int 0)] [(.int 1)])
    refine step (fun t k => XS.goto X110.here hx rfl (pc0 := 218) (pc' := 222) rfl (hb hby at_218) (by decide) (by decide) k) ?_
    show G T110 (mkF m 222 #[.val (.int p0), .val (.ref b1), .val (.int 18), .val (.int 0)] [(.int 1)])
    exact ret (v := some (.int 1)) X110 (fun h => by rw [Bd.returns] at h; cases h) (fun fs hr => retN X110 hx (t := .boolean) Bd.returns (by simp) (hb hby at_222) hr) e110 ⟨rfl, N110⟩ (by decide) (by decide)
  · rw [hk]
    show G T53 (mkF m 189 #[.val (.int p0), .val (.ref b1), .unset, .unset] [(.int 19)])
    refine step (fun t k => XS.istoreN X53.here hx rfl (hb hby at_189) rfl (l' := #[.val (.int p0), .val (.ref b1), .val (.int 19), .unset]) rfl k) ?_
    show G T53 (mkF m 190 #[.val (.int p0), .val (.ref b1), .val (.int 19), .unset] [])
    refine step (fun t k => XS.iloadN X53.here hx rfl (hb hby at_190) rfl k) ?_
    show G T53 (mkF m 191 #[.val (.int p0), .val (.ref b1), .val (.int 19), .unset] [(.int 19)])
    refine step (fun t k => XS.iconst X53.here hx rfl (hb hby at_191) k) ?_
    show G T53 (mkF m 192 #[.val (.int p0), .val (.ref b1), .val (.int 19), .unset] [(.int 2), (.int 19)])
    refine step (fun t k => XS.icmpNo X53.here hx rfl (hb hby at_192) rfl (flt (by decide : ¬ ((19 : Int32) < (2 : Int32)))).1 k) ?_
    show G T53 (mkF m 195 #[.val (.int p0), .val (.ref b1), .val (.int 19), .unset] [])
    refine step (fun t k => XS.iloadN X53.here hx rfl (hb hby at_195) rfl k) ?_
    show G T53 (mkF m 196 #[.val (.int p0), .val (.ref b1), .val (.int 19), .unset] [(.int 19)])
    refine step (fun t k => XS.bipush X53.here hx rfl (hb hby at_196) k) ?_
    show G T53 (mkF m 198 #[.val (.int p0), .val (.ref b1), .val (.int 19), .unset] [(.int 8), (.int 19)])
    refine step (fun t k => XS.icmpYes X53.here hx rfl (pc0 := 198) (pc' := 205) rfl (hb hby at_198) rfl (tlt (by decide : (8 : Int32) < (19 : Int32))).2.2.1 (by decide) (by decide) k) ?_
    show G T53 (mkF m 205 #[.val (.int p0), .val (.ref b1), .val (.int 19), .unset] [])
    refine step (fun t k => XS.iconst X53.here hx rfl (hb hby at_205) k) ?_
    show G T53 (mkF m 206 #[.val (.int p0), .val (.ref b1), .val (.int 19), .unset] [(.int 0)])
    refine step (fun t k => XS.istoreN X53.here hx rfl (hb hby at_206) rfl (l' := #[.val (.int p0), .val (.ref b1), .val (.int 19), .val (.int 0)]) rfl k) ?_
    show G T53 (mkF m 207 #[.val (.int p0), .val (.ref b1), .val (.int 19), .val (.int 0)] [])
    refine step (fun t k => XS.aloadN X53.here hx rfl (hb hby at_207) rfl rfl k) ?_
    show G T53 (mkF m 208 #[.val (.int p0), .val (.ref b1), .val (.int 19), .val (.int 0)] [(.ref b1)])
    refine step (fun t k => XS.iloadN X53.here hx rfl (hb hby at_208) rfl k) ?_
    show G T53 (mkF m 209 #[.val (.int p0), .val (.ref b1), .val (.int 19), .val (.int 0)] [(.int 19), (.ref b1)])
    have q112 := own_ldR X53 hx hZ e53 V53 (j := (19 : Int32)) (v := (.ref w_NOT_CONTAINING)) (by decide) (own_at (i := 19) rfl rfl) rfl (g := (mkF m 209 #[.val (.int p0), .val (.ref b1), .val (.int 19), .val (.int 0)] [(.int 19), (.ref b1)])) rfl rfl (hb hby at_209)
    refine step q112 ?_
    show G T53 (mkF m 210 #[.val (.int p0), .val (.ref b1), .val (.int 19), .val (.int 0)] [(.ref w_NOT_CONTAINING)])
    have hK113 := (backOf (R := room_1) (p := p) (e := e) (below := below) (s := s) (args := #[(.int p0)]) (len := 3) (W := 0) (rm_ord l Z a0 hw [] w_EQUALS w_NOT w_GREATER_THAN w_GREATER_THAN_EQUAL w_LESS_THAN w_LESS_THAN_EQUAL w_AFTER w_BEFORE w_BETWEEN w_IN w_NOT_IN w_IS_NULL w_IS_NOT_NULL w_TRUE w_FALSE w_EXISTS w_STARTING_WITH w_ENDING_WITH w_CONTAINING w_NOT_CONTAINING w_LIKE w_NOT_LIKE w_REGEX w_NEAR w_WITHIN w_IGNORE_CASE w_NOT_CONTAINING h53 n0 (own_old_le O53) ST O53) hZ (ww61 hw) (ww3 hw) (by decide) (by decide))
    obtain ⟨cq113, kq113, q113a, q113b, q113c⟩ := isOf hZ e53 (Exa.ext O53.2 ST.k39)
    obtain ⟨_, _, ⟨T113, L113, k113, n113⟩, -, X113, ⟨Lc113, hQ113, l113, y113, z113⟩, st113⟩ := X53.virtualBack hx (y := y_0) (z := y_0) hown (mvT hZ (ww57 hw)) (mvT hZ (ww58 hw)) (notFace_of_selects (args := #[]) (mvT hZ (ww60 hw))) (mvT hZ (ww60 hw)) (mvT hZ (ww59 hw)) (by decide) hK113 q113a q113c (g := (mkF m 210 #[.val (.int p0), .val (.ref b1), .val (.int 19), .val (.int 0)] [(.ref w_NOT_CONTAINING)])) rfl (by rw [hml]; rfl) (Steps.refl _) (argsL := []) (rest := []) (lenOf pd_0 rfl) rfl (by show 2 * 0 + _ ≤ _; exact Nat.le_of_eq rfl) (hb hby at_210) (fun _ _ => ⟨rfl, e53, (by decide : 1 + 0 ≤ _), (by decide : 26 + 0 ≤ _)⟩)
    dsimp only [Pt.U, Pt.locs, Pt.cells, Pt.slots] at X113 l113 y113 z113 st113 hQ113
    subst l113 y113 z113
    obtain ⟨rfl, N113q, e113⟩ := hQ113
    have N113 := Fr.app N53 N113q
    obtain ⟨lc113, X113, N113⟩ := own_gen X113 N113
    refine step (fun t k => st113.trans k) ?_
    show G T113 (mkF m 213 #[.val (.int p0), .val (.ref b1), .val (.int 19), .val (.int 0)] [(.int (f_ord w_EQUALS w_NOT w_GREATER_THAN w_GREATER_THAN_EQUAL w_LESS_THAN w_LESS_THAN_EQUAL w_AFTER w_BEFORE w_BETWEEN w_IN w_NOT_IN w_IS_NULL w_IS_NOT_NULL w_TRUE w_FALSE w_EXISTS w_STARTING_WITH w_ENDING_WITH w_CONTAINING w_NOT_CONTAINING w_LIKE w_NOT_LIKE w_REGEX w_NEAR w_WITHIN w_IGNORE_CASE w_NOT_CONTAINING))])
    have r114 : (f_ord w_EQUALS w_NOT w_GREATER_THAN w_GREATER_THAN_EQUAL w_LESS_THAN w_LESS_THAN_EQUAL w_AFTER w_BEFORE w_BETWEEN w_IN w_NOT_IN w_IS_NULL w_IS_NOT_NULL w_TRUE w_FALSE w_EXISTS w_STARTING_WITH w_ENDING_WITH w_CONTAINING w_NOT_CONTAINING w_LIKE w_NOT_LIKE w_REGEX w_NEAR w_WITHIN w_IGNORE_CASE w_NOT_CONTAINING) = (0 : Int32) := by
      unfold f_ord
      rw [if_neg ((Fld.ne ST.k70 ST.k53 (fun q => absurd (Value.int.inj q) (by decide))) : ¬ (w_NOT_CONTAINING = w_GREATER_THAN)), if_neg ((Fld.ne ST.k70 ST.k54 (fun q => absurd (Value.int.inj q) (by decide))) : ¬ (w_NOT_CONTAINING = w_GREATER_THAN_EQUAL)), if_neg ((Fld.ne ST.k70 ST.k55 (fun q => absurd (Value.int.inj q) (by decide))) : ¬ (w_NOT_CONTAINING = w_LESS_THAN)), if_neg ((Fld.ne ST.k70 ST.k56 (fun q => absurd (Value.int.inj q) (by decide))) : ¬ (w_NOT_CONTAINING = w_LESS_THAN_EQUAL)), if_neg ((Fld.ne ST.k70 ST.k57 (fun q => absurd (Value.int.inj q) (by decide))) : ¬ (w_NOT_CONTAINING = w_AFTER)), if_neg ((Fld.ne ST.k70 ST.k58 (fun q => absurd (Value.int.inj q) (by decide))) : ¬ (w_NOT_CONTAINING = w_BEFORE)), if_neg ((Fld.ne ST.k70 ST.k59 (fun q => absurd (Value.int.inj q) (by decide))) : ¬ (w_NOT_CONTAINING = w_BETWEEN))]
    rw [r114]
    show G T113 (mkF m 213 #[.val (.int p0), .val (.ref b1), .val (.int 19), .val (.int 0)] [(.int 0)])
    refine step (fun t k => XS.iloadN X113.here hx rfl (hb hby at_213) rfl k) ?_
    show G T113 (mkF m 214 #[.val (.int p0), .val (.ref b1), .val (.int 19), .val (.int 0)] [(.int 0), (.int 0)])
    refine step (fun t k => XS.icmpNo X113.here hx rfl (hb hby at_214) rfl (teq (by decide : (0 : Int32) = (0 : Int32))).2 k) ?_
    show G T113 (mkF m 217 #[.val (.int p0), .val (.ref b1), .val (.int 19), .val (.int 0)] [])
    refine step (fun t k => XS.iconst X113.here hx rfl (hb hby at_217) k) ?_
    show G T113 (mkF m 218 #[.val (.int p0), .val (.ref b1), .val (.int 19), .val (.int 0)] [(.int 1)])
    refine step (fun t k => XS.goto X113.here hx rfl (pc0 := 218) (pc' := 222) rfl (hb hby at_218) (by decide) (by decide) k) ?_
    show G T113 (mkF m 222 #[.val (.int p0), .val (.ref b1), .val (.int 19), .val (.int 0)] [(.int 1)])
    exact ret (v := some (.int 1)) X113 (fun h => by rw [Bd.returns] at h; cases h) (fun fs hr => retN X113 hx (t := .boolean) Bd.returns (by simp) (hb hby at_222) hr) e113 ⟨rfl, N113⟩ (by decide) (by decide)
  · rw [hk]
    show G T53 (mkF m 189 #[.val (.int p0), .val (.ref b1), .unset, .unset] [(.int 20)])
    refine step (fun t k => XS.istoreN X53.here hx rfl (hb hby at_189) rfl (l' := #[.val (.int p0), .val (.ref b1), .val (.int 20), .unset]) rfl k) ?_
    show G T53 (mkF m 190 #[.val (.int p0), .val (.ref b1), .val (.int 20), .unset] [])
    refine step (fun t k => XS.iloadN X53.here hx rfl (hb hby at_190) rfl k) ?_
    show G T53 (mkF m 191 #[.val (.int p0), .val (.ref b1), .val (.int 20), .unset] [(.int 20)])
    refine step (fun t k => XS.iconst X53.here hx rfl (hb hby at_191) k) ?_
    show G T53 (mkF m 192 #[.val (.int p0), .val (.ref b1), .val (.int 20), .unset] [(.int 2), (.int 20)])
    refine step (fun t k => XS.icmpNo X53.here hx rfl (hb hby at_192) rfl (flt (by decide : ¬ ((20 : Int32) < (2 : Int32)))).1 k) ?_
    show G T53 (mkF m 195 #[.val (.int p0), .val (.ref b1), .val (.int 20), .unset] [])
    refine step (fun t k => XS.iloadN X53.here hx rfl (hb hby at_195) rfl k) ?_
    show G T53 (mkF m 196 #[.val (.int p0), .val (.ref b1), .val (.int 20), .unset] [(.int 20)])
    refine step (fun t k => XS.bipush X53.here hx rfl (hb hby at_196) k) ?_
    show G T53 (mkF m 198 #[.val (.int p0), .val (.ref b1), .val (.int 20), .unset] [(.int 8), (.int 20)])
    refine step (fun t k => XS.icmpYes X53.here hx rfl (pc0 := 198) (pc' := 205) rfl (hb hby at_198) rfl (tlt (by decide : (8 : Int32) < (20 : Int32))).2.2.1 (by decide) (by decide) k) ?_
    show G T53 (mkF m 205 #[.val (.int p0), .val (.ref b1), .val (.int 20), .unset] [])
    refine step (fun t k => XS.iconst X53.here hx rfl (hb hby at_205) k) ?_
    show G T53 (mkF m 206 #[.val (.int p0), .val (.ref b1), .val (.int 20), .unset] [(.int 0)])
    refine step (fun t k => XS.istoreN X53.here hx rfl (hb hby at_206) rfl (l' := #[.val (.int p0), .val (.ref b1), .val (.int 20), .val (.int 0)]) rfl k) ?_
    show G T53 (mkF m 207 #[.val (.int p0), .val (.ref b1), .val (.int 20), .val (.int 0)] [])
    refine step (fun t k => XS.aloadN X53.here hx rfl (hb hby at_207) rfl rfl k) ?_
    show G T53 (mkF m 208 #[.val (.int p0), .val (.ref b1), .val (.int 20), .val (.int 0)] [(.ref b1)])
    refine step (fun t k => XS.iloadN X53.here hx rfl (hb hby at_208) rfl k) ?_
    show G T53 (mkF m 209 #[.val (.int p0), .val (.ref b1), .val (.int 20), .val (.int 0)] [(.int 20), (.ref b1)])
    have q115 := own_ldR X53 hx hZ e53 V53 (j := (20 : Int32)) (v := (.ref w_LIKE)) (by decide) (own_at (i := 20) rfl rfl) rfl (g := (mkF m 209 #[.val (.int p0), .val (.ref b1), .val (.int 20), .val (.int 0)] [(.int 20), (.ref b1)])) rfl rfl (hb hby at_209)
    refine step q115 ?_
    show G T53 (mkF m 210 #[.val (.int p0), .val (.ref b1), .val (.int 20), .val (.int 0)] [(.ref w_LIKE)])
    have hK116 := (backOf (R := room_1) (p := p) (e := e) (below := below) (s := s) (args := #[(.int p0)]) (len := 3) (W := 0) (rm_ord l Z a0 hw [] w_EQUALS w_NOT w_GREATER_THAN w_GREATER_THAN_EQUAL w_LESS_THAN w_LESS_THAN_EQUAL w_AFTER w_BEFORE w_BETWEEN w_IN w_NOT_IN w_IS_NULL w_IS_NOT_NULL w_TRUE w_FALSE w_EXISTS w_STARTING_WITH w_ENDING_WITH w_CONTAINING w_NOT_CONTAINING w_LIKE w_NOT_LIKE w_REGEX w_NEAR w_WITHIN w_IGNORE_CASE w_LIKE h53 n0 (own_old_le O53) ST O53) hZ (ww61 hw) (ww3 hw) (by decide) (by decide))
    obtain ⟨cq116, kq116, q116a, q116b, q116c⟩ := isOf hZ e53 (Exa.ext O53.2 ST.k41)
    obtain ⟨_, _, ⟨T116, L116, k116, n116⟩, -, X116, ⟨Lc116, hQ116, l116, y116, z116⟩, st116⟩ := X53.virtualBack hx (y := y_0) (z := y_0) hown (mvT hZ (ww57 hw)) (mvT hZ (ww58 hw)) (notFace_of_selects (args := #[]) (mvT hZ (ww60 hw))) (mvT hZ (ww60 hw)) (mvT hZ (ww59 hw)) (by decide) hK116 q116a q116c (g := (mkF m 210 #[.val (.int p0), .val (.ref b1), .val (.int 20), .val (.int 0)] [(.ref w_LIKE)])) rfl (by rw [hml]; rfl) (Steps.refl _) (argsL := []) (rest := []) (lenOf pd_0 rfl) rfl (by show 2 * 0 + _ ≤ _; exact Nat.le_of_eq rfl) (hb hby at_210) (fun _ _ => ⟨rfl, e53, (by decide : 1 + 0 ≤ _), (by decide : 26 + 0 ≤ _)⟩)
    dsimp only [Pt.U, Pt.locs, Pt.cells, Pt.slots] at X116 l116 y116 z116 st116 hQ116
    subst l116 y116 z116
    obtain ⟨rfl, N116q, e116⟩ := hQ116
    have N116 := Fr.app N53 N116q
    obtain ⟨lc116, X116, N116⟩ := own_gen X116 N116
    refine step (fun t k => st116.trans k) ?_
    show G T116 (mkF m 213 #[.val (.int p0), .val (.ref b1), .val (.int 20), .val (.int 0)] [(.int (f_ord w_EQUALS w_NOT w_GREATER_THAN w_GREATER_THAN_EQUAL w_LESS_THAN w_LESS_THAN_EQUAL w_AFTER w_BEFORE w_BETWEEN w_IN w_NOT_IN w_IS_NULL w_IS_NOT_NULL w_TRUE w_FALSE w_EXISTS w_STARTING_WITH w_ENDING_WITH w_CONTAINING w_NOT_CONTAINING w_LIKE w_NOT_LIKE w_REGEX w_NEAR w_WITHIN w_IGNORE_CASE w_LIKE))])
    have r117 : (f_ord w_EQUALS w_NOT w_GREATER_THAN w_GREATER_THAN_EQUAL w_LESS_THAN w_LESS_THAN_EQUAL w_AFTER w_BEFORE w_BETWEEN w_IN w_NOT_IN w_IS_NULL w_IS_NOT_NULL w_TRUE w_FALSE w_EXISTS w_STARTING_WITH w_ENDING_WITH w_CONTAINING w_NOT_CONTAINING w_LIKE w_NOT_LIKE w_REGEX w_NEAR w_WITHIN w_IGNORE_CASE w_LIKE) = (0 : Int32) := by
      unfold f_ord
      rw [if_neg ((Fld.ne ST.k75 ST.k53 (fun q => absurd (Value.int.inj q) (by decide))) : ¬ (w_LIKE = w_GREATER_THAN)), if_neg ((Fld.ne ST.k75 ST.k54 (fun q => absurd (Value.int.inj q) (by decide))) : ¬ (w_LIKE = w_GREATER_THAN_EQUAL)), if_neg ((Fld.ne ST.k75 ST.k55 (fun q => absurd (Value.int.inj q) (by decide))) : ¬ (w_LIKE = w_LESS_THAN)), if_neg ((Fld.ne ST.k75 ST.k56 (fun q => absurd (Value.int.inj q) (by decide))) : ¬ (w_LIKE = w_LESS_THAN_EQUAL)), if_neg ((Fld.ne ST.k75 ST.k57 (fun q => absurd (Value.int.inj q) (by decide))) : ¬ (w_LIKE = w_AFTER)), if_neg ((Fld.ne ST.k75 ST.k58 (fun q => absurd (Value.int.inj q) (by decide))) : ¬ (w_LIKE = w_BEFORE)), if_neg ((Fld.ne ST.k75 ST.k59 (fun q => absurd (Value.int.inj q) (by decide))) : ¬ (w_LIKE = w_BETWEEN))]
    rw [r117]
    show G T116 (mkF m 213 #[.val (.int p0), .val (.ref b1), .val (.int 20), .val (.int 0)] [(.int 0)])
    refine step (fun t k => XS.iloadN X116.here hx rfl (hb hby at_213) rfl k) ?_
    show G T116 (mkF m 214 #[.val (.int p0), .val (.ref b1), .val (.int 20), .val (.int 0)] [(.int 0), (.int 0)])
    refine step (fun t k => XS.icmpNo X116.here hx rfl (hb hby at_214) rfl (teq (by decide : (0 : Int32) = (0 : Int32))).2 k) ?_
    show G T116 (mkF m 217 #[.val (.int p0), .val (.ref b1), .val (.int 20), .val (.int 0)] [])
    refine step (fun t k => XS.iconst X116.here hx rfl (hb hby at_217) k) ?_
    show G T116 (mkF m 218 #[.val (.int p0), .val (.ref b1), .val (.int 20), .val (.int 0)] [(.int 1)])
    refine step (fun t k => XS.goto X116.here hx rfl (pc0 := 218) (pc' := 222) rfl (hb hby at_218) (by decide) (by decide) k) ?_
    show G T116 (mkF m 222 #[.val (.int p0), .val (.ref b1), .val (.int 20), .val (.int 0)] [(.int 1)])
    exact ret (v := some (.int 1)) X116 (fun h => by rw [Bd.returns] at h; cases h) (fun fs hr => retN X116 hx (t := .boolean) Bd.returns (by simp) (hb hby at_222) hr) e116 ⟨rfl, N116⟩ (by decide) (by decide)
  · rw [hk]
    show G T53 (mkF m 189 #[.val (.int p0), .val (.ref b1), .unset, .unset] [(.int 21)])
    refine step (fun t k => XS.istoreN X53.here hx rfl (hb hby at_189) rfl (l' := #[.val (.int p0), .val (.ref b1), .val (.int 21), .unset]) rfl k) ?_
    show G T53 (mkF m 190 #[.val (.int p0), .val (.ref b1), .val (.int 21), .unset] [])
    refine step (fun t k => XS.iloadN X53.here hx rfl (hb hby at_190) rfl k) ?_
    show G T53 (mkF m 191 #[.val (.int p0), .val (.ref b1), .val (.int 21), .unset] [(.int 21)])
    refine step (fun t k => XS.iconst X53.here hx rfl (hb hby at_191) k) ?_
    show G T53 (mkF m 192 #[.val (.int p0), .val (.ref b1), .val (.int 21), .unset] [(.int 2), (.int 21)])
    refine step (fun t k => XS.icmpNo X53.here hx rfl (hb hby at_192) rfl (flt (by decide : ¬ ((21 : Int32) < (2 : Int32)))).1 k) ?_
    show G T53 (mkF m 195 #[.val (.int p0), .val (.ref b1), .val (.int 21), .unset] [])
    refine step (fun t k => XS.iloadN X53.here hx rfl (hb hby at_195) rfl k) ?_
    show G T53 (mkF m 196 #[.val (.int p0), .val (.ref b1), .val (.int 21), .unset] [(.int 21)])
    refine step (fun t k => XS.bipush X53.here hx rfl (hb hby at_196) k) ?_
    show G T53 (mkF m 198 #[.val (.int p0), .val (.ref b1), .val (.int 21), .unset] [(.int 8), (.int 21)])
    refine step (fun t k => XS.icmpYes X53.here hx rfl (pc0 := 198) (pc' := 205) rfl (hb hby at_198) rfl (tlt (by decide : (8 : Int32) < (21 : Int32))).2.2.1 (by decide) (by decide) k) ?_
    show G T53 (mkF m 205 #[.val (.int p0), .val (.ref b1), .val (.int 21), .unset] [])
    refine step (fun t k => XS.iconst X53.here hx rfl (hb hby at_205) k) ?_
    show G T53 (mkF m 206 #[.val (.int p0), .val (.ref b1), .val (.int 21), .unset] [(.int 0)])
    refine step (fun t k => XS.istoreN X53.here hx rfl (hb hby at_206) rfl (l' := #[.val (.int p0), .val (.ref b1), .val (.int 21), .val (.int 0)]) rfl k) ?_
    show G T53 (mkF m 207 #[.val (.int p0), .val (.ref b1), .val (.int 21), .val (.int 0)] [])
    refine step (fun t k => XS.aloadN X53.here hx rfl (hb hby at_207) rfl rfl k) ?_
    show G T53 (mkF m 208 #[.val (.int p0), .val (.ref b1), .val (.int 21), .val (.int 0)] [(.ref b1)])
    refine step (fun t k => XS.iloadN X53.here hx rfl (hb hby at_208) rfl k) ?_
    show G T53 (mkF m 209 #[.val (.int p0), .val (.ref b1), .val (.int 21), .val (.int 0)] [(.int 21), (.ref b1)])
    have q118 := own_ldR X53 hx hZ e53 V53 (j := (21 : Int32)) (v := (.ref w_NOT_LIKE)) (by decide) (own_at (i := 21) rfl rfl) rfl (g := (mkF m 209 #[.val (.int p0), .val (.ref b1), .val (.int 21), .val (.int 0)] [(.int 21), (.ref b1)])) rfl rfl (hb hby at_209)
    refine step q118 ?_
    show G T53 (mkF m 210 #[.val (.int p0), .val (.ref b1), .val (.int 21), .val (.int 0)] [(.ref w_NOT_LIKE)])
    have hK119 := (backOf (R := room_1) (p := p) (e := e) (below := below) (s := s) (args := #[(.int p0)]) (len := 3) (W := 0) (rm_ord l Z a0 hw [] w_EQUALS w_NOT w_GREATER_THAN w_GREATER_THAN_EQUAL w_LESS_THAN w_LESS_THAN_EQUAL w_AFTER w_BEFORE w_BETWEEN w_IN w_NOT_IN w_IS_NULL w_IS_NOT_NULL w_TRUE w_FALSE w_EXISTS w_STARTING_WITH w_ENDING_WITH w_CONTAINING w_NOT_CONTAINING w_LIKE w_NOT_LIKE w_REGEX w_NEAR w_WITHIN w_IGNORE_CASE w_NOT_LIKE h53 n0 (own_old_le O53) ST O53) hZ (ww61 hw) (ww3 hw) (by decide) (by decide))
    obtain ⟨cq119, kq119, q119a, q119b, q119c⟩ := isOf hZ e53 (Exa.ext O53.2 ST.k43)
    obtain ⟨_, _, ⟨T119, L119, k119, n119⟩, -, X119, ⟨Lc119, hQ119, l119, y119, z119⟩, st119⟩ := X53.virtualBack hx (y := y_0) (z := y_0) hown (mvT hZ (ww57 hw)) (mvT hZ (ww58 hw)) (notFace_of_selects (args := #[]) (mvT hZ (ww60 hw))) (mvT hZ (ww60 hw)) (mvT hZ (ww59 hw)) (by decide) hK119 q119a q119c (g := (mkF m 210 #[.val (.int p0), .val (.ref b1), .val (.int 21), .val (.int 0)] [(.ref w_NOT_LIKE)])) rfl (by rw [hml]; rfl) (Steps.refl _) (argsL := []) (rest := []) (lenOf pd_0 rfl) rfl (by show 2 * 0 + _ ≤ _; exact Nat.le_of_eq rfl) (hb hby at_210) (fun _ _ => ⟨rfl, e53, (by decide : 1 + 0 ≤ _), (by decide : 26 + 0 ≤ _)⟩)
    dsimp only [Pt.U, Pt.locs, Pt.cells, Pt.slots] at X119 l119 y119 z119 st119 hQ119
    subst l119 y119 z119
    obtain ⟨rfl, N119q, e119⟩ := hQ119
    have N119 := Fr.app N53 N119q
    obtain ⟨lc119, X119, N119⟩ := own_gen X119 N119
    refine step (fun t k => st119.trans k) ?_
    show G T119 (mkF m 213 #[.val (.int p0), .val (.ref b1), .val (.int 21), .val (.int 0)] [(.int (f_ord w_EQUALS w_NOT w_GREATER_THAN w_GREATER_THAN_EQUAL w_LESS_THAN w_LESS_THAN_EQUAL w_AFTER w_BEFORE w_BETWEEN w_IN w_NOT_IN w_IS_NULL w_IS_NOT_NULL w_TRUE w_FALSE w_EXISTS w_STARTING_WITH w_ENDING_WITH w_CONTAINING w_NOT_CONTAINING w_LIKE w_NOT_LIKE w_REGEX w_NEAR w_WITHIN w_IGNORE_CASE w_NOT_LIKE))])
    have r120 : (f_ord w_EQUALS w_NOT w_GREATER_THAN w_GREATER_THAN_EQUAL w_LESS_THAN w_LESS_THAN_EQUAL w_AFTER w_BEFORE w_BETWEEN w_IN w_NOT_IN w_IS_NULL w_IS_NOT_NULL w_TRUE w_FALSE w_EXISTS w_STARTING_WITH w_ENDING_WITH w_CONTAINING w_NOT_CONTAINING w_LIKE w_NOT_LIKE w_REGEX w_NEAR w_WITHIN w_IGNORE_CASE w_NOT_LIKE) = (0 : Int32) := by
      unfold f_ord
      rw [if_neg ((Fld.ne ST.k67 ST.k53 (fun q => absurd (Value.int.inj q) (by decide))) : ¬ (w_NOT_LIKE = w_GREATER_THAN)), if_neg ((Fld.ne ST.k67 ST.k54 (fun q => absurd (Value.int.inj q) (by decide))) : ¬ (w_NOT_LIKE = w_GREATER_THAN_EQUAL)), if_neg ((Fld.ne ST.k67 ST.k55 (fun q => absurd (Value.int.inj q) (by decide))) : ¬ (w_NOT_LIKE = w_LESS_THAN)), if_neg ((Fld.ne ST.k67 ST.k56 (fun q => absurd (Value.int.inj q) (by decide))) : ¬ (w_NOT_LIKE = w_LESS_THAN_EQUAL)), if_neg ((Fld.ne ST.k67 ST.k57 (fun q => absurd (Value.int.inj q) (by decide))) : ¬ (w_NOT_LIKE = w_AFTER)), if_neg ((Fld.ne ST.k67 ST.k58 (fun q => absurd (Value.int.inj q) (by decide))) : ¬ (w_NOT_LIKE = w_BEFORE)), if_neg ((Fld.ne ST.k67 ST.k59 (fun q => absurd (Value.int.inj q) (by decide))) : ¬ (w_NOT_LIKE = w_BETWEEN))]
    rw [r120]
    show G T119 (mkF m 213 #[.val (.int p0), .val (.ref b1), .val (.int 21), .val (.int 0)] [(.int 0)])
    refine step (fun t k => XS.iloadN X119.here hx rfl (hb hby at_213) rfl k) ?_
    show G T119 (mkF m 214 #[.val (.int p0), .val (.ref b1), .val (.int 21), .val (.int 0)] [(.int 0), (.int 0)])
    refine step (fun t k => XS.icmpNo X119.here hx rfl (hb hby at_214) rfl (teq (by decide : (0 : Int32) = (0 : Int32))).2 k) ?_
    show G T119 (mkF m 217 #[.val (.int p0), .val (.ref b1), .val (.int 21), .val (.int 0)] [])
    refine step (fun t k => XS.iconst X119.here hx rfl (hb hby at_217) k) ?_
    show G T119 (mkF m 218 #[.val (.int p0), .val (.ref b1), .val (.int 21), .val (.int 0)] [(.int 1)])
    refine step (fun t k => XS.goto X119.here hx rfl (pc0 := 218) (pc' := 222) rfl (hb hby at_218) (by decide) (by decide) k) ?_
    show G T119 (mkF m 222 #[.val (.int p0), .val (.ref b1), .val (.int 21), .val (.int 0)] [(.int 1)])
    exact ret (v := some (.int 1)) X119 (fun h => by rw [Bd.returns] at h; cases h) (fun fs hr => retN X119 hx (t := .boolean) Bd.returns (by simp) (hb hby at_222) hr) e119 ⟨rfl, N119⟩ (by decide) (by decide)
  · rw [hk]
    show G T53 (mkF m 189 #[.val (.int p0), .val (.ref b1), .unset, .unset] [(.int 22)])
    refine step (fun t k => XS.istoreN X53.here hx rfl (hb hby at_189) rfl (l' := #[.val (.int p0), .val (.ref b1), .val (.int 22), .unset]) rfl k) ?_
    show G T53 (mkF m 190 #[.val (.int p0), .val (.ref b1), .val (.int 22), .unset] [])
    refine step (fun t k => XS.iloadN X53.here hx rfl (hb hby at_190) rfl k) ?_
    show G T53 (mkF m 191 #[.val (.int p0), .val (.ref b1), .val (.int 22), .unset] [(.int 22)])
    refine step (fun t k => XS.iconst X53.here hx rfl (hb hby at_191) k) ?_
    show G T53 (mkF m 192 #[.val (.int p0), .val (.ref b1), .val (.int 22), .unset] [(.int 2), (.int 22)])
    refine step (fun t k => XS.icmpNo X53.here hx rfl (hb hby at_192) rfl (flt (by decide : ¬ ((22 : Int32) < (2 : Int32)))).1 k) ?_
    show G T53 (mkF m 195 #[.val (.int p0), .val (.ref b1), .val (.int 22), .unset] [])
    refine step (fun t k => XS.iloadN X53.here hx rfl (hb hby at_195) rfl k) ?_
    show G T53 (mkF m 196 #[.val (.int p0), .val (.ref b1), .val (.int 22), .unset] [(.int 22)])
    refine step (fun t k => XS.bipush X53.here hx rfl (hb hby at_196) k) ?_
    show G T53 (mkF m 198 #[.val (.int p0), .val (.ref b1), .val (.int 22), .unset] [(.int 8), (.int 22)])
    refine step (fun t k => XS.icmpYes X53.here hx rfl (pc0 := 198) (pc' := 205) rfl (hb hby at_198) rfl (tlt (by decide : (8 : Int32) < (22 : Int32))).2.2.1 (by decide) (by decide) k) ?_
    show G T53 (mkF m 205 #[.val (.int p0), .val (.ref b1), .val (.int 22), .unset] [])
    refine step (fun t k => XS.iconst X53.here hx rfl (hb hby at_205) k) ?_
    show G T53 (mkF m 206 #[.val (.int p0), .val (.ref b1), .val (.int 22), .unset] [(.int 0)])
    refine step (fun t k => XS.istoreN X53.here hx rfl (hb hby at_206) rfl (l' := #[.val (.int p0), .val (.ref b1), .val (.int 22), .val (.int 0)]) rfl k) ?_
    show G T53 (mkF m 207 #[.val (.int p0), .val (.ref b1), .val (.int 22), .val (.int 0)] [])
    refine step (fun t k => XS.aloadN X53.here hx rfl (hb hby at_207) rfl rfl k) ?_
    show G T53 (mkF m 208 #[.val (.int p0), .val (.ref b1), .val (.int 22), .val (.int 0)] [(.ref b1)])
    refine step (fun t k => XS.iloadN X53.here hx rfl (hb hby at_208) rfl k) ?_
    show G T53 (mkF m 209 #[.val (.int p0), .val (.ref b1), .val (.int 22), .val (.int 0)] [(.int 22), (.ref b1)])
    have q121 := own_ldR X53 hx hZ e53 V53 (j := (22 : Int32)) (v := (.ref w_REGEX)) (by decide) (own_at (i := 22) rfl rfl) rfl (g := (mkF m 209 #[.val (.int p0), .val (.ref b1), .val (.int 22), .val (.int 0)] [(.int 22), (.ref b1)])) rfl rfl (hb hby at_209)
    refine step q121 ?_
    show G T53 (mkF m 210 #[.val (.int p0), .val (.ref b1), .val (.int 22), .val (.int 0)] [(.ref w_REGEX)])
    have hK122 := (backOf (R := room_1) (p := p) (e := e) (below := below) (s := s) (args := #[(.int p0)]) (len := 3) (W := 0) (rm_ord l Z a0 hw [] w_EQUALS w_NOT w_GREATER_THAN w_GREATER_THAN_EQUAL w_LESS_THAN w_LESS_THAN_EQUAL w_AFTER w_BEFORE w_BETWEEN w_IN w_NOT_IN w_IS_NULL w_IS_NOT_NULL w_TRUE w_FALSE w_EXISTS w_STARTING_WITH w_ENDING_WITH w_CONTAINING w_NOT_CONTAINING w_LIKE w_NOT_LIKE w_REGEX w_NEAR w_WITHIN w_IGNORE_CASE w_REGEX h53 n0 (own_old_le O53) ST O53) hZ (ww61 hw) (ww3 hw) (by decide) (by decide))
    obtain ⟨cq122, kq122, q122a, q122b, q122c⟩ := isOf hZ e53 (Exa.ext O53.2 ST.k45)
    obtain ⟨_, _, ⟨T122, L122, k122, n122⟩, -, X122, ⟨Lc122, hQ122, l122, y122, z122⟩, st122⟩ := X53.virtualBack hx (y := y_0) (z := y_0) hown (mvT hZ (ww57 hw)) (mvT hZ (ww58 hw)) (notFace_of_selects (args := #[]) (mvT hZ (ww60 hw))) (mvT hZ (ww60 hw)) (mvT hZ (ww59 hw)) (by decide) hK122 q122a q122c (g := (mkF m 210 #[.val (.int p0), .val (.ref b1), .val (.int 22), .val (.int 0)] [(.ref w_REGEX)])) rfl (by rw [hml]; rfl) (Steps.refl _) (argsL := []) (rest := []) (lenOf pd_0 rfl) rfl (by show 2 * 0 + _ ≤ _; exact Nat.le_of_eq rfl) (hb hby at_210) (fun _ _ => ⟨rfl, e53, (by decide : 1 + 0 ≤ _), (by decide : 26 + 0 ≤ _)⟩)
    dsimp only [Pt.U, Pt.locs, Pt.cells, Pt.slots] at X122 l122 y122 z122 st122 hQ122
    subst l122 y122 z122
    obtain ⟨rfl, N122q, e122⟩ := hQ122
    have N122 := Fr.app N53 N122q
    obtain ⟨lc122, X122, N122⟩ := own_gen X122 N122
    refine step (fun t k => st122.trans k) ?_
    show G T122 (mkF m 213 #[.val (.int p0), .val (.ref b1), .val (.int 22), .val (.int 0)] [(.int (f_ord w_EQUALS w_NOT w_GREATER_THAN w_GREATER_THAN_EQUAL w_LESS_THAN w_LESS_THAN_EQUAL w_AFTER w_BEFORE w_BETWEEN w_IN w_NOT_IN w_IS_NULL w_IS_NOT_NULL w_TRUE w_FALSE w_EXISTS w_STARTING_WITH w_ENDING_WITH w_CONTAINING w_NOT_CONTAINING w_LIKE w_NOT_LIKE w_REGEX w_NEAR w_WITHIN w_IGNORE_CASE w_REGEX))])
    have r123 : (f_ord w_EQUALS w_NOT w_GREATER_THAN w_GREATER_THAN_EQUAL w_LESS_THAN w_LESS_THAN_EQUAL w_AFTER w_BEFORE w_BETWEEN w_IN w_NOT_IN w_IS_NULL w_IS_NOT_NULL w_TRUE w_FALSE w_EXISTS w_STARTING_WITH w_ENDING_WITH w_CONTAINING w_NOT_CONTAINING w_LIKE w_NOT_LIKE w_REGEX w_NEAR w_WITHIN w_IGNORE_CASE w_REGEX) = (0 : Int32) := by
      unfold f_ord
      rw [if_neg ((Fld.ne ST.k60 ST.k53 (fun q => absurd (Value.int.inj q) (by decide))) : ¬ (w_REGEX = w_GREATER_THAN)), if_neg ((Fld.ne ST.k60 ST.k54 (fun q => absurd (Value.int.inj q) (by decide))) : ¬ (w_REGEX = w_GREATER_THAN_EQUAL)), if_neg ((Fld.ne ST.k60 ST.k55 (fun q => absurd (Value.int.inj q) (by decide))) : ¬ (w_REGEX = w_LESS_THAN)), if_neg ((Fld.ne ST.k60 ST.k56 (fun q => absurd (Value.int.inj q) (by decide))) : ¬ (w_REGEX = w_LESS_THAN_EQUAL)), if_neg ((Fld.ne ST.k60 ST.k57 (fun q => absurd (Value.int.inj q) (by decide))) : ¬ (w_REGEX = w_AFTER)), if_neg ((Fld.ne ST.k60 ST.k58 (fun q => absurd (Value.int.inj q) (by decide))) : ¬ (w_REGEX = w_BEFORE)), if_neg ((Fld.ne ST.k60 ST.k59 (fun q => absurd (Value.int.inj q) (by decide))) : ¬ (w_REGEX = w_BETWEEN))]
    rw [r123]
    show G T122 (mkF m 213 #[.val (.int p0), .val (.ref b1), .val (.int 22), .val (.int 0)] [(.int 0)])
    refine step (fun t k => XS.iloadN X122.here hx rfl (hb hby at_213) rfl k) ?_
    show G T122 (mkF m 214 #[.val (.int p0), .val (.ref b1), .val (.int 22), .val (.int 0)] [(.int 0), (.int 0)])
    refine step (fun t k => XS.icmpNo X122.here hx rfl (hb hby at_214) rfl (teq (by decide : (0 : Int32) = (0 : Int32))).2 k) ?_
    show G T122 (mkF m 217 #[.val (.int p0), .val (.ref b1), .val (.int 22), .val (.int 0)] [])
    refine step (fun t k => XS.iconst X122.here hx rfl (hb hby at_217) k) ?_
    show G T122 (mkF m 218 #[.val (.int p0), .val (.ref b1), .val (.int 22), .val (.int 0)] [(.int 1)])
    refine step (fun t k => XS.goto X122.here hx rfl (pc0 := 218) (pc' := 222) rfl (hb hby at_218) (by decide) (by decide) k) ?_
    show G T122 (mkF m 222 #[.val (.int p0), .val (.ref b1), .val (.int 22), .val (.int 0)] [(.int 1)])
    exact ret (v := some (.int 1)) X122 (fun h => by rw [Bd.returns] at h; cases h) (fun fs hr => retN X122 hx (t := .boolean) Bd.returns (by simp) (hb hby at_222) hr) e122 ⟨rfl, N122⟩ (by decide) (by decide)
  · rw [hk]
    show G T53 (mkF m 189 #[.val (.int p0), .val (.ref b1), .unset, .unset] [(.int 23)])
    refine step (fun t k => XS.istoreN X53.here hx rfl (hb hby at_189) rfl (l' := #[.val (.int p0), .val (.ref b1), .val (.int 23), .unset]) rfl k) ?_
    show G T53 (mkF m 190 #[.val (.int p0), .val (.ref b1), .val (.int 23), .unset] [])
    refine step (fun t k => XS.iloadN X53.here hx rfl (hb hby at_190) rfl k) ?_
    show G T53 (mkF m 191 #[.val (.int p0), .val (.ref b1), .val (.int 23), .unset] [(.int 23)])
    refine step (fun t k => XS.iconst X53.here hx rfl (hb hby at_191) k) ?_
    show G T53 (mkF m 192 #[.val (.int p0), .val (.ref b1), .val (.int 23), .unset] [(.int 2), (.int 23)])
    refine step (fun t k => XS.icmpNo X53.here hx rfl (hb hby at_192) rfl (flt (by decide : ¬ ((23 : Int32) < (2 : Int32)))).1 k) ?_
    show G T53 (mkF m 195 #[.val (.int p0), .val (.ref b1), .val (.int 23), .unset] [])
    refine step (fun t k => XS.iloadN X53.here hx rfl (hb hby at_195) rfl k) ?_
    show G T53 (mkF m 196 #[.val (.int p0), .val (.ref b1), .val (.int 23), .unset] [(.int 23)])
    refine step (fun t k => XS.bipush X53.here hx rfl (hb hby at_196) k) ?_
    show G T53 (mkF m 198 #[.val (.int p0), .val (.ref b1), .val (.int 23), .unset] [(.int 8), (.int 23)])
    refine step (fun t k => XS.icmpYes X53.here hx rfl (pc0 := 198) (pc' := 205) rfl (hb hby at_198) rfl (tlt (by decide : (8 : Int32) < (23 : Int32))).2.2.1 (by decide) (by decide) k) ?_
    show G T53 (mkF m 205 #[.val (.int p0), .val (.ref b1), .val (.int 23), .unset] [])
    refine step (fun t k => XS.iconst X53.here hx rfl (hb hby at_205) k) ?_
    show G T53 (mkF m 206 #[.val (.int p0), .val (.ref b1), .val (.int 23), .unset] [(.int 0)])
    refine step (fun t k => XS.istoreN X53.here hx rfl (hb hby at_206) rfl (l' := #[.val (.int p0), .val (.ref b1), .val (.int 23), .val (.int 0)]) rfl k) ?_
    show G T53 (mkF m 207 #[.val (.int p0), .val (.ref b1), .val (.int 23), .val (.int 0)] [])
    refine step (fun t k => XS.aloadN X53.here hx rfl (hb hby at_207) rfl rfl k) ?_
    show G T53 (mkF m 208 #[.val (.int p0), .val (.ref b1), .val (.int 23), .val (.int 0)] [(.ref b1)])
    refine step (fun t k => XS.iloadN X53.here hx rfl (hb hby at_208) rfl k) ?_
    show G T53 (mkF m 209 #[.val (.int p0), .val (.ref b1), .val (.int 23), .val (.int 0)] [(.int 23), (.ref b1)])
    have q124 := own_ldR X53 hx hZ e53 V53 (j := (23 : Int32)) (v := (.ref w_NEAR)) (by decide) (own_at (i := 23) rfl rfl) rfl (g := (mkF m 209 #[.val (.int p0), .val (.ref b1), .val (.int 23), .val (.int 0)] [(.int 23), (.ref b1)])) rfl rfl (hb hby at_209)
    refine step q124 ?_
    show G T53 (mkF m 210 #[.val (.int p0), .val (.ref b1), .val (.int 23), .val (.int 0)] [(.ref w_NEAR)])
    have hK125 := (backOf (R := room_1) (p := p) (e := e) (below := below) (s := s) (args := #[(.int p0)]) (len := 3) (W := 0) (rm_ord l Z a0 hw [] w_EQUALS w_NOT w_GREATER_THAN w_GREATER_THAN_EQUAL w_LESS_THAN w_LESS_THAN_EQUAL w_AFTER w_BEFORE w_BETWEEN w_IN w_NOT_IN w_IS_NULL w_IS_NOT_NULL w_TRUE w_FALSE w_EXISTS w_STARTING_WITH w_ENDING_WITH w_CONTAINING w_NOT_CONTAINING w_LIKE w_NOT_LIKE w_REGEX w_NEAR w_WITHIN w_IGNORE_CASE w_NEAR h53 n0 (own_old_le O53) ST O53) hZ (ww61 hw) (ww3 hw) (by decide) (by decide))
    obtain ⟨cq125, kq125, q125a, q125b, q125c⟩ := isOf hZ e53 (Exa.ext O53.2 ST.k47)
    obtain ⟨_, _, ⟨T125, L125, k125, n125⟩, -, X125, ⟨Lc125, hQ125, l125, y125, z125⟩, st125⟩ := X53.virtualBack hx (y := y_0) (z := y_0) hown (mvT hZ (ww57 hw)) (mvT hZ (ww58 hw)) (notFace_of_selects (args := #[]) (mvT hZ (ww60 hw))) (mvT hZ (ww60 hw)) (mvT hZ (ww59 hw)) (by decide) hK125 q125a q125c (g := (mkF m 210 #[.val (.int p0), .val (.ref b1), .val (.int 23), .val (.int 0)] [(.ref w_NEAR)])) rfl (by rw [hml]; rfl) (Steps.refl _) (argsL := []) (rest := []) (lenOf pd_0 rfl) rfl (by show 2 * 0 + _ ≤ _; exact Nat.le_of_eq rfl) (hb hby at_210) (fun _ _ => ⟨rfl, e53, (by decide : 1 + 0 ≤ _), (by decide : 26 + 0 ≤ _)⟩)
    dsimp only [Pt.U, Pt.locs, Pt.cells, Pt.slots] at X125 l125 y125 z125 st125 hQ125
    subst l125 y125 z125
    obtain ⟨rfl, N125q, e125⟩ := hQ125
    have N125 := Fr.app N53 N125q
    obtain ⟨lc125, X125, N125⟩ := own_gen X125 N125
    refine step (fun t k => st125.trans k) ?_
    show G T125 (mkF m 213 #[.val (.int p0), .val (.ref b1), .val (.int 23), .val (.int 0)] [(.int (f_ord w_EQUALS w_NOT w_GREATER_THAN w_GREATER_THAN_EQUAL w_LESS_THAN w_LESS_THAN_EQUAL w_AFTER w_BEFORE w_BETWEEN w_IN w_NOT_IN w_IS_NULL w_IS_NOT_NULL w_TRUE w_FALSE w_EXISTS w_STARTING_WITH w_ENDING_WITH w_CONTAINING w_NOT_CONTAINING w_LIKE w_NOT_LIKE w_REGEX w_NEAR w_WITHIN w_IGNORE_CASE w_NEAR))])
    have r126 : (f_ord w_EQUALS w_NOT w_GREATER_THAN w_GREATER_THAN_EQUAL w_LESS_THAN w_LESS_THAN_EQUAL w_AFTER w_BEFORE w_BETWEEN w_IN w_NOT_IN w_IS_NULL w_IS_NOT_NULL w_TRUE w_FALSE w_EXISTS w_STARTING_WITH w_ENDING_WITH w_CONTAINING w_NOT_CONTAINING w_LIKE w_NOT_LIKE w_REGEX w_NEAR w_WITHIN w_IGNORE_CASE w_NEAR) = (0 : Int32) := by
      unfold f_ord
      rw [if_neg ((Fld.ne ST.k76 ST.k53 (fun q => absurd (Value.int.inj q) (by decide))) : ¬ (w_NEAR = w_GREATER_THAN)), if_neg ((Fld.ne ST.k76 ST.k54 (fun q => absurd (Value.int.inj q) (by decide))) : ¬ (w_NEAR = w_GREATER_THAN_EQUAL)), if_neg ((Fld.ne ST.k76 ST.k55 (fun q => absurd (Value.int.inj q) (by decide))) : ¬ (w_NEAR = w_LESS_THAN)), if_neg ((Fld.ne ST.k76 ST.k56 (fun q => absurd (Value.int.inj q) (by decide))) : ¬ (w_NEAR = w_LESS_THAN_EQUAL)), if_neg ((Fld.ne ST.k76 ST.k57 (fun q => absurd (Value.int.inj q) (by decide))) : ¬ (w_NEAR = w_AFTER)), if_neg ((Fld.ne ST.k76 ST.k58 (fun q => absurd (Value.int.inj q) (by decide))) : ¬ (w_NEAR = w_BEFORE)), if_neg ((Fld.ne ST.k76 ST.k59 (fun q => absurd (Value.int.inj q) (by decide))) : ¬ (w_NEAR = w_BETWEEN))]
    rw [r126]
    show G T125 (mkF m 213 #[.val (.int p0), .val (.ref b1), .val (.int 23), .val (.int 0)] [(.int 0)])
    refine step (fun t k => XS.iloadN X125.here hx rfl (hb hby at_213) rfl k) ?_
    show G T125 (mkF m 214 #[.val (.int p0), .val (.ref b1), .val (.int 23), .val (.int 0)] [(.int 0), (.int 0)])
    refine step (fun t k => XS.icmpNo X125.here hx rfl (hb hby at_214) rfl (teq (by decide : (0 : Int32) = (0 : Int32))).2 k) ?_
    show G T125 (mkF m 217 #[.val (.int p0), .val (.ref b1), .val (.int 23), .val (.int 0)] [])
    refine step (fun t k => XS.iconst X125.here hx rfl (hb hby at_217) k) ?_
    show G T125 (mkF m 218 #[.val (.int p0), .val (.ref b1), .val (.int 23), .val (.int 0)] [(.int 1)])
    refine step (fun t k => XS.goto X125.here hx rfl (pc0 := 218) (pc' := 222) rfl (hb hby at_218) (by decide) (by decide) k) ?_
    show G T125 (mkF m 222 #[.val (.int p0), .val (.ref b1), .val (.int 23), .val (.int 0)] [(.int 1)])
    exact ret (v := some (.int 1)) X125 (fun h => by rw [Bd.returns] at h; cases h) (fun fs hr => retN X125 hx (t := .boolean) Bd.returns (by simp) (hb hby at_222) hr) e125 ⟨rfl, N125⟩ (by decide) (by decide)
  · rw [hk]
    show G T53 (mkF m 189 #[.val (.int p0), .val (.ref b1), .unset, .unset] [(.int 24)])
    refine step (fun t k => XS.istoreN X53.here hx rfl (hb hby at_189) rfl (l' := #[.val (.int p0), .val (.ref b1), .val (.int 24), .unset]) rfl k) ?_
    show G T53 (mkF m 190 #[.val (.int p0), .val (.ref b1), .val (.int 24), .unset] [])
    refine step (fun t k => XS.iloadN X53.here hx rfl (hb hby at_190) rfl k) ?_
    show G T53 (mkF m 191 #[.val (.int p0), .val (.ref b1), .val (.int 24), .unset] [(.int 24)])
    refine step (fun t k => XS.iconst X53.here hx rfl (hb hby at_191) k) ?_
    show G T53 (mkF m 192 #[.val (.int p0), .val (.ref b1), .val (.int 24), .unset] [(.int 2), (.int 24)])
    refine step (fun t k => XS.icmpNo X53.here hx rfl (hb hby at_192) rfl (flt (by decide : ¬ ((24 : Int32) < (2 : Int32)))).1 k) ?_
    show G T53 (mkF m 195 #[.val (.int p0), .val (.ref b1), .val (.int 24), .unset] [])
    refine step (fun t k => XS.iloadN X53.here hx rfl (hb hby at_195) rfl k) ?_
    show G T53 (mkF m 196 #[.val (.int p0), .val (.ref b1), .val (.int 24), .unset] [(.int 24)])
    refine step (fun t k => XS.bipush X53.here hx rfl (hb hby at_196) k) ?_
    show G T53 (mkF m 198 #[.val (.int p0), .val (.ref b1), .val (.int 24), .unset] [(.int 8), (.int 24)])
    refine step (fun t k => XS.icmpYes X53.here hx rfl (pc0 := 198) (pc' := 205) rfl (hb hby at_198) rfl (tlt (by decide : (8 : Int32) < (24 : Int32))).2.2.1 (by decide) (by decide) k) ?_
    show G T53 (mkF m 205 #[.val (.int p0), .val (.ref b1), .val (.int 24), .unset] [])
    refine step (fun t k => XS.iconst X53.here hx rfl (hb hby at_205) k) ?_
    show G T53 (mkF m 206 #[.val (.int p0), .val (.ref b1), .val (.int 24), .unset] [(.int 0)])
    refine step (fun t k => XS.istoreN X53.here hx rfl (hb hby at_206) rfl (l' := #[.val (.int p0), .val (.ref b1), .val (.int 24), .val (.int 0)]) rfl k) ?_
    show G T53 (mkF m 207 #[.val (.int p0), .val (.ref b1), .val (.int 24), .val (.int 0)] [])
    refine step (fun t k => XS.aloadN X53.here hx rfl (hb hby at_207) rfl rfl k) ?_
    show G T53 (mkF m 208 #[.val (.int p0), .val (.ref b1), .val (.int 24), .val (.int 0)] [(.ref b1)])
    refine step (fun t k => XS.iloadN X53.here hx rfl (hb hby at_208) rfl k) ?_
    show G T53 (mkF m 209 #[.val (.int p0), .val (.ref b1), .val (.int 24), .val (.int 0)] [(.int 24), (.ref b1)])
    have q127 := own_ldR X53 hx hZ e53 V53 (j := (24 : Int32)) (v := (.ref w_WITHIN)) (by decide) (own_at (i := 24) rfl rfl) rfl (g := (mkF m 209 #[.val (.int p0), .val (.ref b1), .val (.int 24), .val (.int 0)] [(.int 24), (.ref b1)])) rfl rfl (hb hby at_209)
    refine step q127 ?_
    show G T53 (mkF m 210 #[.val (.int p0), .val (.ref b1), .val (.int 24), .val (.int 0)] [(.ref w_WITHIN)])
    have hK128 := (backOf (R := room_1) (p := p) (e := e) (below := below) (s := s) (args := #[(.int p0)]) (len := 3) (W := 0) (rm_ord l Z a0 hw [] w_EQUALS w_NOT w_GREATER_THAN w_GREATER_THAN_EQUAL w_LESS_THAN w_LESS_THAN_EQUAL w_AFTER w_BEFORE w_BETWEEN w_IN w_NOT_IN w_IS_NULL w_IS_NOT_NULL w_TRUE w_FALSE w_EXISTS w_STARTING_WITH w_ENDING_WITH w_CONTAINING w_NOT_CONTAINING w_LIKE w_NOT_LIKE w_REGEX w_NEAR w_WITHIN w_IGNORE_CASE w_WITHIN h53 n0 (own_old_le O53) ST O53) hZ (ww61 hw) (ww3 hw) (by decide) (by decide))
    obtain ⟨cq128, kq128, q128a, q128b, q128c⟩ := isOf hZ e53 (Exa.ext O53.2 ST.k49)
    obtain ⟨_, _, ⟨T128, L128, k128, n128⟩, -, X128, ⟨Lc128, hQ128, l128, y128, z128⟩, st128⟩ := X53.virtualBack hx (y := y_0) (z := y_0) hown (mvT hZ (ww57 hw)) (mvT hZ (ww58 hw)) (notFace_of_selects (args := #[]) (mvT hZ (ww60 hw))) (mvT hZ (ww60 hw)) (mvT hZ (ww59 hw)) (by decide) hK128 q128a q128c (g := (mkF m 210 #[.val (.int p0), .val (.ref b1), .val (.int 24), .val (.int 0)] [(.ref w_WITHIN)])) rfl (by rw [hml]; rfl) (Steps.refl _) (argsL := []) (rest := []) (lenOf pd_0 rfl) rfl (by show 2 * 0 + _ ≤ _; exact Nat.le_of_eq rfl) (hb hby at_210) (fun _ _ => ⟨rfl, e53, (by decide : 1 + 0 ≤ _), (by decide : 26 + 0 ≤ _)⟩)
    dsimp only [Pt.U, Pt.locs, Pt.cells, Pt.slots] at X128 l128 y128 z128 st128 hQ128
    subst l128 y128 z128
    obtain ⟨rfl, N128q, e128⟩ := hQ128
    have N128 := Fr.app N53 N128q
    obtain ⟨lc128, X128, N128⟩ := own_gen X128 N128
    refine step (fun t k => st128.trans k) ?_
    show G T128 (mkF m 213 #[.val (.int p0), .val (.ref b1), .val (.int 24), .val (.int 0)] [(.int (f_ord w_EQUALS w_NOT w_GREATER_THAN w_GREATER_THAN_EQUAL w_LESS_THAN w_LESS_THAN_EQUAL w_AFTER w_BEFORE w_BETWEEN w_IN w_NOT_IN w_IS_NULL w_IS_NOT_NULL w_TRUE w_FALSE w_EXISTS w_STARTING_WITH w_ENDING_WITH w_CONTAINING w_NOT_CONTAINING w_LIKE w_NOT_LIKE w_REGEX w_NEAR w_WITHIN w_IGNORE_CASE w_WITHIN))])
    have r129 : (f_ord w_EQUALS w_NOT w_GREATER_THAN w_GREATER_THAN_EQUAL w_LESS_THAN w_LESS_THAN_EQUAL w_AFTER w_BEFORE w_BETWEEN w_IN w_NOT_IN w_IS_NULL w_IS_NOT_NULL w_TRUE w_FALSE w_EXISTS w_STARTING_WITH w_ENDING_WITH w_CONTAINING w_NOT_CONTAINING w_LIKE w_NOT_LIKE w_REGEX w_NEAR w_WITHIN w_IGNORE_CASE w_WITHIN) = (0 : Int32) := by
      unfold f_ord
      rw [if_neg ((Fld.ne ST.k77 ST.k53 (fun q => absurd (Value.int.inj q) (by decide))) : ¬ (w_WITHIN = w_GREATER_THAN)), if_neg ((Fld.ne ST.k77 ST.k54 (fun q => absurd (Value.int.inj q) (by decide))) : ¬ (w_WITHIN = w_GREATER_THAN_EQUAL)), if_neg ((Fld.ne ST.k77 ST.k55 (fun q => absurd (Value.int.inj q) (by decide))) : ¬ (w_WITHIN = w_LESS_THAN)), if_neg ((Fld.ne ST.k77 ST.k56 (fun q => absurd (Value.int.inj q) (by decide))) : ¬ (w_WITHIN = w_LESS_THAN_EQUAL)), if_neg ((Fld.ne ST.k77 ST.k57 (fun q => absurd (Value.int.inj q) (by decide))) : ¬ (w_WITHIN = w_AFTER)), if_neg ((Fld.ne ST.k77 ST.k58 (fun q => absurd (Value.int.inj q) (by decide))) : ¬ (w_WITHIN = w_BEFORE)), if_neg ((Fld.ne ST.k77 ST.k59 (fun q => absurd (Value.int.inj q) (by decide))) : ¬ (w_WITHIN = w_BETWEEN))]
    rw [r129]
    show G T128 (mkF m 213 #[.val (.int p0), .val (.ref b1), .val (.int 24), .val (.int 0)] [(.int 0)])
    refine step (fun t k => XS.iloadN X128.here hx rfl (hb hby at_213) rfl k) ?_
    show G T128 (mkF m 214 #[.val (.int p0), .val (.ref b1), .val (.int 24), .val (.int 0)] [(.int 0), (.int 0)])
    refine step (fun t k => XS.icmpNo X128.here hx rfl (hb hby at_214) rfl (teq (by decide : (0 : Int32) = (0 : Int32))).2 k) ?_
    show G T128 (mkF m 217 #[.val (.int p0), .val (.ref b1), .val (.int 24), .val (.int 0)] [])
    refine step (fun t k => XS.iconst X128.here hx rfl (hb hby at_217) k) ?_
    show G T128 (mkF m 218 #[.val (.int p0), .val (.ref b1), .val (.int 24), .val (.int 0)] [(.int 1)])
    refine step (fun t k => XS.goto X128.here hx rfl (pc0 := 218) (pc' := 222) rfl (hb hby at_218) (by decide) (by decide) k) ?_
    show G T128 (mkF m 222 #[.val (.int p0), .val (.ref b1), .val (.int 24), .val (.int 0)] [(.int 1)])
    exact ret (v := some (.int 1)) X128 (fun h => by rw [Bd.returns] at h; cases h) (fun fs hr => retN X128 hx (t := .boolean) Bd.returns (by simp) (hb hby at_222) hr) e128 ⟨rfl, N128⟩ (by decide) (by decide)
  · rw [hk]
    show G T53 (mkF m 189 #[.val (.int p0), .val (.ref b1), .unset, .unset] [(.int 25)])
    refine step (fun t k => XS.istoreN X53.here hx rfl (hb hby at_189) rfl (l' := #[.val (.int p0), .val (.ref b1), .val (.int 25), .unset]) rfl k) ?_
    show G T53 (mkF m 190 #[.val (.int p0), .val (.ref b1), .val (.int 25), .unset] [])
    refine step (fun t k => XS.iloadN X53.here hx rfl (hb hby at_190) rfl k) ?_
    show G T53 (mkF m 191 #[.val (.int p0), .val (.ref b1), .val (.int 25), .unset] [(.int 25)])
    refine step (fun t k => XS.iconst X53.here hx rfl (hb hby at_191) k) ?_
    show G T53 (mkF m 192 #[.val (.int p0), .val (.ref b1), .val (.int 25), .unset] [(.int 2), (.int 25)])
    refine step (fun t k => XS.icmpNo X53.here hx rfl (hb hby at_192) rfl (flt (by decide : ¬ ((25 : Int32) < (2 : Int32)))).1 k) ?_
    show G T53 (mkF m 195 #[.val (.int p0), .val (.ref b1), .val (.int 25), .unset] [])
    refine step (fun t k => XS.iloadN X53.here hx rfl (hb hby at_195) rfl k) ?_
    show G T53 (mkF m 196 #[.val (.int p0), .val (.ref b1), .val (.int 25), .unset] [(.int 25)])
    refine step (fun t k => XS.bipush X53.here hx rfl (hb hby at_196) k) ?_
    show G T53 (mkF m 198 #[.val (.int p0), .val (.ref b1), .val (.int 25), .unset] [(.int 8), (.int 25)])
    refine step (fun t k => XS.icmpYes X53.here hx rfl (pc0 := 198) (pc' := 205) rfl (hb hby at_198) rfl (tlt (by decide : (8 : Int32) < (25 : Int32))).2.2.1 (by decide) (by decide) k) ?_
    show G T53 (mkF m 205 #[.val (.int p0), .val (.ref b1), .val (.int 25), .unset] [])
    refine step (fun t k => XS.iconst X53.here hx rfl (hb hby at_205) k) ?_
    show G T53 (mkF m 206 #[.val (.int p0), .val (.ref b1), .val (.int 25), .unset] [(.int 0)])
    refine step (fun t k => XS.istoreN X53.here hx rfl (hb hby at_206) rfl (l' := #[.val (.int p0), .val (.ref b1), .val (.int 25), .val (.int 0)]) rfl k) ?_
    show G T53 (mkF m 207 #[.val (.int p0), .val (.ref b1), .val (.int 25), .val (.int 0)] [])
    refine step (fun t k => XS.aloadN X53.here hx rfl (hb hby at_207) rfl rfl k) ?_
    show G T53 (mkF m 208 #[.val (.int p0), .val (.ref b1), .val (.int 25), .val (.int 0)] [(.ref b1)])
    refine step (fun t k => XS.iloadN X53.here hx rfl (hb hby at_208) rfl k) ?_
    show G T53 (mkF m 209 #[.val (.int p0), .val (.ref b1), .val (.int 25), .val (.int 0)] [(.int 25), (.ref b1)])
    have q130 := own_ldR X53 hx hZ e53 V53 (j := (25 : Int32)) (v := (.ref w_IGNORE_CASE)) (by decide) (own_at (i := 25) rfl rfl) rfl (g := (mkF m 209 #[.val (.int p0), .val (.ref b1), .val (.int 25), .val (.int 0)] [(.int 25), (.ref b1)])) rfl rfl (hb hby at_209)
    refine step q130 ?_
    show G T53 (mkF m 210 #[.val (.int p0), .val (.ref b1), .val (.int 25), .val (.int 0)] [(.ref w_IGNORE_CASE)])
    have hK131 := (backOf (R := room_1) (p := p) (e := e) (below := below) (s := s) (args := #[(.int p0)]) (len := 3) (W := 0) (rm_ord l Z a0 hw [] w_EQUALS w_NOT w_GREATER_THAN w_GREATER_THAN_EQUAL w_LESS_THAN w_LESS_THAN_EQUAL w_AFTER w_BEFORE w_BETWEEN w_IN w_NOT_IN w_IS_NULL w_IS_NOT_NULL w_TRUE w_FALSE w_EXISTS w_STARTING_WITH w_ENDING_WITH w_CONTAINING w_NOT_CONTAINING w_LIKE w_NOT_LIKE w_REGEX w_NEAR w_WITHIN w_IGNORE_CASE w_IGNORE_CASE h53 n0 (own_old_le O53) ST O53) hZ (ww61 hw) (ww3 hw) (by decide) (by decide))
    obtain ⟨cq131, kq131, q131a, q131b, q131c⟩ := isOf hZ e53 (Exa.ext O53.2 ST.k51)
    obtain ⟨_, _, ⟨T131, L131, k131, n131⟩, -, X131, ⟨Lc131, hQ131, l131, y131, z131⟩, st131⟩ := X53.virtualBack hx (y := y_0) (z := y_0) hown (mvT hZ (ww57 hw)) (mvT hZ (ww58 hw)) (notFace_of_selects (args := #[]) (mvT hZ (ww60 hw))) (mvT hZ (ww60 hw)) (mvT hZ (ww59 hw)) (by decide) hK131 q131a q131c (g := (mkF m 210 #[.val (.int p0), .val (.ref b1), .val (.int 25), .val (.int 0)] [(.ref w_IGNORE_CASE)])) rfl (by rw [hml]; rfl) (Steps.refl _) (argsL := []) (rest := []) (lenOf pd_0 rfl) rfl (by show 2 * 0 + _ ≤ _; exact Nat.le_of_eq rfl) (hb hby at_210) (fun _ _ => ⟨rfl, e53, (by decide : 1 + 0 ≤ _), (by decide : 26 + 0 ≤ _)⟩)
    dsimp only [Pt.U, Pt.locs, Pt.cells, Pt.slots] at X131 l131 y131 z131 st131 hQ131
    subst l131 y131 z131
    obtain ⟨rfl, N131q, e131⟩ := hQ131
    have N131 := Fr.app N53 N131q
    obtain ⟨lc131, X131, N131⟩ := own_gen X131 N131
    refine step (fun t k => st131.trans k) ?_
    show G T131 (mkF m 213 #[.val (.int p0), .val (.ref b1), .val (.int 25), .val (.int 0)] [(.int (f_ord w_EQUALS w_NOT w_GREATER_THAN w_GREATER_THAN_EQUAL w_LESS_THAN w_LESS_THAN_EQUAL w_AFTER w_BEFORE w_BETWEEN w_IN w_NOT_IN w_IS_NULL w_IS_NOT_NULL w_TRUE w_FALSE w_EXISTS w_STARTING_WITH w_ENDING_WITH w_CONTAINING w_NOT_CONTAINING w_LIKE w_NOT_LIKE w_REGEX w_NEAR w_WITHIN w_IGNORE_CASE w_IGNORE_CASE))])
    have r132 : (f_ord w_EQUALS w_NOT w_GREATER_THAN w_GREATER_THAN_EQUAL w_LESS_THAN w_LESS_THAN_EQUAL w_AFTER w_BEFORE w_BETWEEN w_IN w_NOT_IN w_IS_NULL w_IS_NOT_NULL w_TRUE w_FALSE w_EXISTS w_STARTING_WITH w_ENDING_WITH w_CONTAINING w_NOT_CONTAINING w_LIKE w_NOT_LIKE w_REGEX w_NEAR w_WITHIN w_IGNORE_CASE w_IGNORE_CASE) = (0 : Int32) := by
      unfold f_ord
      rw [if_neg ((Fld.ne ST.k73 ST.k53 (fun q => absurd (Value.int.inj q) (by decide))) : ¬ (w_IGNORE_CASE = w_GREATER_THAN)), if_neg ((Fld.ne ST.k73 ST.k54 (fun q => absurd (Value.int.inj q) (by decide))) : ¬ (w_IGNORE_CASE = w_GREATER_THAN_EQUAL)), if_neg ((Fld.ne ST.k73 ST.k55 (fun q => absurd (Value.int.inj q) (by decide))) : ¬ (w_IGNORE_CASE = w_LESS_THAN)), if_neg ((Fld.ne ST.k73 ST.k56 (fun q => absurd (Value.int.inj q) (by decide))) : ¬ (w_IGNORE_CASE = w_LESS_THAN_EQUAL)), if_neg ((Fld.ne ST.k73 ST.k57 (fun q => absurd (Value.int.inj q) (by decide))) : ¬ (w_IGNORE_CASE = w_AFTER)), if_neg ((Fld.ne ST.k73 ST.k58 (fun q => absurd (Value.int.inj q) (by decide))) : ¬ (w_IGNORE_CASE = w_BEFORE)), if_neg ((Fld.ne ST.k73 ST.k59 (fun q => absurd (Value.int.inj q) (by decide))) : ¬ (w_IGNORE_CASE = w_BETWEEN))]
    rw [r132]
    show G T131 (mkF m 213 #[.val (.int p0), .val (.ref b1), .val (.int 25), .val (.int 0)] [(.int 0)])
    refine step (fun t k => XS.iloadN X131.here hx rfl (hb hby at_213) rfl k) ?_
    show G T131 (mkF m 214 #[.val (.int p0), .val (.ref b1), .val (.int 25), .val (.int 0)] [(.int 0), (.int 0)])
    refine step (fun t k => XS.icmpNo X131.here hx rfl (hb hby at_214) rfl (teq (by decide : (0 : Int32) = (0 : Int32))).2 k) ?_
    show G T131 (mkF m 217 #[.val (.int p0), .val (.ref b1), .val (.int 25), .val (.int 0)] [])
    refine step (fun t k => XS.iconst X131.here hx rfl (hb hby at_217) k) ?_
    show G T131 (mkF m 218 #[.val (.int p0), .val (.ref b1), .val (.int 25), .val (.int 0)] [(.int 1)])
    refine step (fun t k => XS.goto X131.here hx rfl (pc0 := 218) (pc' := 222) rfl (hb hby at_218) (by decide) (by decide) k) ?_
    show G T131 (mkF m 222 #[.val (.int p0), .val (.ref b1), .val (.int 25), .val (.int 0)] [(.int 1)])
    exact ret (v := some (.int 1)) X131 (fun h => by rw [Bd.returns] at h; cases h) (fun fs hr => retN X131 hx (t := .boolean) Bd.returns (by simp) (hb hby at_222) hr) e131 ⟨rfl, N131⟩ (by decide) (by decide)
set_option maxRecDepth 65536 in
set_option maxHeartbeats 40000000 in
theorem comes_1 {Post : Tables → Env → Array Value → State → Outcome → State → Prop} (hpost : ∀ tb e args s v u, (limb_1_1.after args s (.returned v) u = true ∧ limb_1_2.after args s (.returned v) u = true ∧ True) → FrameEnd s (.returned v) u (Jvm.fieldLocs frame_1_writes args s ++ Jvm.arrayLocs frame_1_arrays args s ++ Jvm.staticLocs frame_1_statics s) 16 128 → Post tb e args s (.returned v) u) :
    ArmFor flags0 classFile x code maxLocals ret World_1 tables_1 room_1 Calls_1 rest_1 Pre_1 Post := by
  intro l hfl _ _ p e ha hc hk s m args below hf hA hF happ hP
  obtain ⟨hcalls, hrest, hpre⟩ := hP
  obtain ⟨-, -, -, hnamed, -, -, -, hat⟩ := (Spec.applies_iff hf).mp happ
  obtain ⟨hg, hn⟩ := and_e (Cond.before_iff.mp (show (Jvm.Cond.and given_1 narrow_1).before args s = true from hpre))
  obtain ⟨g1a, g1b⟩ := and_e hg
  obtain ⟨w0, rfl⟩ : ∃ w0 : Value, args = #[w0] := by
    have hs : args.size = 1 := by simpa [Cond.value, given_1] using g1a
    obtain ⟨L⟩ := args
    match L, hs with
    | [w0], _ => exact ⟨w0, rfl⟩
  have hw := fun d (hd : d ∈ tables_1) => atoms_spec (ws := Jvm.Cond.code x code maxLocals ret :: tables_1) hat d (List.mem_cons_of_mem _ hd)
  have hfit : Fit s := fun {y c} hc i hi => by
    obtain ⟨ha, rfl⟩ := Array.getElem?_eq_some_iff.mp hc
    have q := List.all_eq_true.mp ((Array.all_eq_true_iff_forall_mem.mp hF) _ (Array.getElem_mem ha)) i (List.mem_range.mpr hi)
    simpa [Array.getElem?_eq_getElem hi] using q
  obtain ⟨i0, ei0⟩ := is_v g1b
  obtain rfl : w0 = (.int i0) := Option.some.inj ei0
  obtain ⟨k1a, k1b⟩ := and_e hn
  obtain ⟨k2a, k2b⟩ := and_e k1b
  obtain ⟨k3a, k3b⟩ := and_e k2b
  obtain ⟨k4a, k4b⟩ := and_e k3b
  obtain ⟨k5a, k5b⟩ := and_e k4b
  obtain ⟨k6a, k6b⟩ := and_e k5b
  obtain ⟨k7a, k7b⟩ := and_e k6b
  obtain ⟨k8a, k8b⟩ := and_e k7b
  obtain ⟨k9a, k9b⟩ := and_e k8b
  obtain ⟨k10a, k10b⟩ := and_e k9b
  obtain ⟨k11a, k11b⟩ := and_e k10b
  obtain ⟨k12a, k12b⟩ := and_e k11b
  obtain ⟨k13a, k13b⟩ := and_e k12b
  obtain ⟨k14a, k14b⟩ := and_e k13b
  obtain ⟨k15a, k15b⟩ := and_e k14b
  obtain ⟨k16a, k16b⟩ := and_e k15b
  obtain ⟨k17a, k17b⟩ := and_e k16b
  obtain ⟨k18a, k18b⟩ := and_e k17b
  obtain ⟨k19a, k19b⟩ := and_e k18b
  obtain ⟨k20a, k20b⟩ := and_e k19b
  obtain ⟨k21a, k21b⟩ := and_e k20b
  obtain ⟨k22a, k22b⟩ := and_e k21b
  obtain ⟨k23a, k23b⟩ := and_e k22b
  obtain ⟨k24a, k24b⟩ := and_e k23b
  obtain ⟨k25a, k25b⟩ := and_e k24b
  obtain ⟨k26a, k26b⟩ := and_e k25b
  obtain ⟨k27a, k27b⟩ := and_e k26b
  obtain ⟨k28a, k28b⟩ := and_e k27b
  obtain ⟨k29a, k29b⟩ := and_e k28b
  obtain ⟨k30a, k30b⟩ := and_e k29b
  obtain ⟨k31a, k31b⟩ := and_e k30b
  obtain ⟨k32a, k32b⟩ := and_e k31b
  obtain ⟨k33a, k33b⟩ := and_e k32b
  obtain ⟨k34a, k34b⟩ := and_e k33b
  obtain ⟨k35a, k35b⟩ := and_e k34b
  obtain ⟨k36a, k36b⟩ := and_e k35b
  obtain ⟨k37a, k37b⟩ := and_e k36b
  obtain ⟨k38a, k38b⟩ := and_e k37b
  obtain ⟨k39a, k39b⟩ := and_e k38b
  obtain ⟨k40a, k40b⟩ := and_e k39b
  obtain ⟨k41a, k41b⟩ := and_e k40b
  obtain ⟨k42a, k42b⟩ := and_e k41b
  obtain ⟨k43a, k43b⟩ := and_e k42b
  obtain ⟨k44a, k44b⟩ := and_e k43b
  obtain ⟨k45a, k45b⟩ := and_e k44b
  obtain ⟨k46a, k46b⟩ := and_e k45b
  obtain ⟨k47a, k47b⟩ := and_e k46b
  obtain ⟨k48a, k48b⟩ := and_e k47b
  obtain ⟨k49a, k49b⟩ := and_e k48b
  obtain ⟨k50a, k50b⟩ := and_e k49b
  obtain ⟨k51a, k51b⟩ := and_e k50b
  obtain ⟨w_EQUALS, ev_EQUALS⟩ := exa_v k1a
  obtain ⟨w_NOT, ev_NOT⟩ := exa_v k2a
  obtain ⟨w_GREATER_THAN, ev_GREATER_THAN⟩ := exa_v k3a
  obtain ⟨w_GREATER_THAN_EQUAL, ev_GREATER_THAN_EQUAL⟩ := exa_v k4a
  obtain ⟨w_LESS_THAN, ev_LESS_THAN⟩ := exa_v k5a
  obtain ⟨w_LESS_THAN_EQUAL, ev_LESS_THAN_EQUAL⟩ := exa_v k6a
  obtain ⟨w_AFTER, ev_AFTER⟩ := exa_v k7a
  obtain ⟨w_BEFORE, ev_BEFORE⟩ := exa_v k8a
  obtain ⟨w_BETWEEN, ev_BETWEEN⟩ := exa_v k9a
  obtain ⟨w_IN, ev_IN⟩ := exa_v k10a
  obtain ⟨w_NOT_IN, ev_NOT_IN⟩ := exa_v k11a
  obtain ⟨w_IS_NULL, ev_IS_NULL⟩ := exa_v k12a
  obtain ⟨w_IS_NOT_NULL, ev_IS_NOT_NULL⟩ := exa_v k13a
  obtain ⟨w_TRUE, ev_TRUE⟩ := exa_v k14a
  obtain ⟨w_FALSE, ev_FALSE⟩ := exa_v k15a
  obtain ⟨w_EXISTS, ev_EXISTS⟩ := exa_v k16a
  obtain ⟨w_STARTING_WITH, ev_STARTING_WITH⟩ := exa_v k17a
  obtain ⟨w_ENDING_WITH, ev_ENDING_WITH⟩ := exa_v k18a
  obtain ⟨w_CONTAINING, ev_CONTAINING⟩ := exa_v k19a
  obtain ⟨w_NOT_CONTAINING, ev_NOT_CONTAINING⟩ := exa_v k20a
  obtain ⟨w_LIKE, ev_LIKE⟩ := exa_v k21a
  obtain ⟨w_NOT_LIKE, ev_NOT_LIKE⟩ := exa_v k22a
  obtain ⟨w_REGEX, ev_REGEX⟩ := exa_v k23a
  obtain ⟨w_NEAR, ev_NEAR⟩ := exa_v k24a
  obtain ⟨w_WITHIN, ev_WITHIN⟩ := exa_v k25a
  obtain ⟨w_IGNORE_CASE, ev_IGNORE_CASE⟩ := exa_v k26a
  obtain ⟨n, o, h1, h2, h3, _, L, rfl, ⟨rfl, N⟩, hq⟩ := rm_law l s _ hw tables_1 w_EQUALS w_NOT w_GREATER_THAN w_GREATER_THAN_EQUAL w_LESS_THAN w_LESS_THAN_EQUAL w_AFTER w_BEFORE w_BETWEEN w_IN w_NOT_IN w_IS_NULL w_IS_NOT_NULL w_TRUE w_FALSE w_EXISTS w_STARTING_WITH w_ENDING_WITH w_CONTAINING w_NOT_CONTAINING w_LIKE w_NOT_LIKE w_REGEX w_NEAR w_WITHIN w_IGNORE_CASE i0 s.heap s.heap.size (Nat.le_refl _) ⟨Sta.start ev_EQUALS (Or.inr ⟨(ww3 hw), (ww4 hw)⟩), Exa.start ev_EQUALS k1a, Sta.start ev_NOT (Or.inr ⟨(ww3 hw), (ww7 hw)⟩), Exa.start ev_NOT k2a, Sta.start ev_GREATER_THAN (Or.inr ⟨(ww3 hw), (ww9 hw)⟩), Exa.start ev_GREATER_THAN k3a, Sta.start ev_GREATER_THAN_EQUAL (Or.inr ⟨(ww3 hw), (ww11 hw)⟩), Exa.start ev_GREATER_THAN_EQUAL k4a, Sta.start ev_LESS_THAN (Or.inr ⟨(ww3 hw), (ww13 hw)⟩), Exa.start ev_LESS_THAN k5a, Sta.start ev_LESS_THAN_EQUAL (Or.inr ⟨(ww3 hw), (ww15 hw)⟩), Exa.start ev_LESS_THAN_EQUAL k6a, Sta.start ev_AFTER (Or.inr ⟨(ww3 hw), (ww17 hw)⟩), Exa.start ev_AFTER k7a, Sta.start ev_BEFORE (Or.inr ⟨(ww3 hw), (ww19 hw)⟩), Exa.start ev_BEFORE k8a, Sta.start ev_BETWEEN (Or.inr ⟨(ww3 hw), (ww21 hw)⟩), Exa.start ev_BETWEEN k9a, Sta.start ev_IN (Or.inr ⟨(ww3 hw), (ww23 hw)⟩), Exa.start ev_IN k10a, Sta.start ev_NOT_IN (Or.inr ⟨(ww3 hw), (ww25 hw)⟩), Exa.start ev_NOT_IN k11a, Sta.start ev_IS_NULL (Or.inr ⟨(ww3 hw), (ww27 hw)⟩), Exa.start ev_IS_NULL k12a, Sta.start ev_IS_NOT_NULL (Or.inr ⟨(ww3 hw), (ww29 hw)⟩), Exa.start ev_IS_NOT_NULL k13a, Sta.start ev_TRUE (Or.inr ⟨(ww3 hw), (ww31 hw)⟩), Exa.start ev_TRUE k14a, Sta.start ev_FALSE (Or.inr ⟨(ww3 hw), (ww33 hw)⟩), Exa.start ev_FALSE k15a, Sta.start ev_EXISTS (Or.inr ⟨(ww3 hw), (ww35 hw)⟩), Exa.start ev_EXISTS k16a, Sta.start ev_STARTING_WITH (Or.inr ⟨(ww3 hw), (ww37 hw)⟩), Exa.start ev_STARTING_WITH k17a, Sta.start ev_ENDING_WITH (Or.inr ⟨(ww3 hw), (ww39 hw)⟩), Exa.start ev_ENDING_WITH k18a, Sta.start ev_CONTAINING (Or.inr ⟨(ww3 hw), (ww41 hw)⟩), Exa.start ev_CONTAINING k19a, Sta.start ev_NOT_CONTAINING (Or.inr ⟨(ww3 hw), (ww43 hw)⟩), Exa.start ev_NOT_CONTAINING k20a, Sta.start ev_LIKE (Or.inr ⟨(ww3 hw), (ww45 hw)⟩), Exa.start ev_LIKE k21a, Sta.start ev_NOT_LIKE (Or.inr ⟨(ww3 hw), (ww47 hw)⟩), Exa.start ev_NOT_LIKE k22a, Sta.start ev_REGEX (Or.inr ⟨(ww3 hw), (ww49 hw)⟩), Exa.start ev_REGEX k23a, Sta.start ev_NEAR (Or.inr ⟨(ww3 hw), (ww51 hw)⟩), Exa.start ev_NEAR k24a, Sta.start ev_WITHIN (Or.inr ⟨(ww3 hw), (ww53 hw)⟩), Exa.start ev_WITHIN k25a, Sta.start ev_IGNORE_CASE (Or.inr ⟨(ww3 hw), (ww55 hw)⟩), Exa.start ev_IGNORE_CASE k26a, own_fldI ev_EQUALS k27a, own_fldI ev_GREATER_THAN k28a, own_fldI ev_GREATER_THAN_EQUAL k29a, own_fldI ev_LESS_THAN k30a, own_fldI ev_LESS_THAN_EQUAL k31a, own_fldI ev_AFTER k32a, own_fldI ev_BEFORE k33a, own_fldI ev_BETWEEN k34a, own_fldI ev_REGEX k35a, own_fldI ev_IS_NULL k36a, own_fldI ev_FALSE k37a, own_fldI ev_NOT k38a, own_fldI ev_EXISTS k39a, own_fldI ev_STARTING_WITH k40a, own_fldI ev_NOT_IN k41a, own_fldI ev_NOT_LIKE k42a, own_fldI ev_TRUE k43a, own_fldI ev_IS_NOT_NULL k44a, own_fldI ev_NOT_CONTAINING k45a, own_fldI ev_CONTAINING k46a, own_fldI ev_IN k47a, own_fldI ev_IGNORE_CASE k48a, own_fldI ev_ENDING_WITH k49a, own_fldI ev_LIKE k50a, own_fldI ev_NEAR k51a, own_fldI ev_WITHIN k51b⟩ (Old.start s)  p e ha hc hk s m _ below hf ((Spec.applies_iff_loose hf).mp happ).1 ⟨rfl, State.Warmed39.refl s, rfl⟩ trivial
  refine ⟨n, _, h1, h2, h3, hpost _ _ _ _ _ _ ⟨Cond.after_iff.mpr rfl, Cond.after_iff.mpr (eq_i res_at (Term.int_eval (1)) rfl), trivial⟩ ⟨hq.1, hq.2.1, (hq.2.2.sift fun y hy => Or.inr (N y hy)).mono (by decide) (by decide)⟩⟩
theorem main_1_1 : Claimed_1_1 := comes_1 fun _ _ _ _ _ _ h hF => ⟨h.1, hF⟩
theorem main_1_2 : Claimed_1_2 := comes_1 fun _ _ _ _ _ _ h hF => ⟨h.2.1, hF⟩
end Jvm.Pilot.@@N@@
namespace Jvm.Pilot.@@N@@
open Jvm Jvm.ClassFile Sem Op Lib Jvm.Free Jvm.Stand Jvm.Pilot.@@N@@.Jvm.D
/-! MADE BY PROGRAM (witnessworld.py) out of the Statement's table words and the real class files: 13 classes; the members and pool entries that the words name. The judged class is class 1, her method 1. -/
namespace start1
open Jvm.ClassFile
def u (s : String) : CpInfo := .utf8 (stringToUtf16 s)
/-- a pool by its gaps: so many unusable entries, then the entry; so many at the end -/
def gap : Nat → List CpInfo → List CpInfo
  | 0, r => r
  | n + 1, r => .unusable :: gap n r
def poolList (es : List (Nat × CpInfo)) (last : Nat) : List CpInfo := es.foldr (fun e r => gap e.1 (e.2 :: r)) (gap last [])
def pool (es : List (Nat × CpInfo)) (last : Nat) : Array CpInfo := ⟨poolList es last⟩
def fileOf (pool : Array CpInfo) (this : Nat) (attrs : Array Attribute := #[]) (ms : Array MethodInfo := #[]) (fl : Nat := 33) (sup : Nat := 0) (ifs : Array Nat := #[]) (fds : Array FieldInfo := #[]) : ClassFile where
  minorVersion := 0
  majorVersion := 65
  constantPool := pool
  accessFlags := fl
  thisClass := this
  superClass := sup
  interfaces := ifs
  fields := fds
  methods := ms
  attributes := attrs
def plain (name : String) (sup : Option ClassId) : Class where
  name := name
  kind := .ordinary
  loader := none
  accessFlags := 33
  super := sup
  interfaces := #[]
  cf := none
  fields := #[]
  methods := #[]
  instanceTypes := #[]
  staticTypes := #[]
  resolved := #[]
  callSites := []
  init := .initialized
  statics := none
  mirror := none

def pool0 : Array CpInfo := pool [(5, u "<init>"), (0, u "()V"), (1, .class_ 10), (1, u "java/lang/Object")] 113

def k0m0 : Method := { name := "<init>", desc := "()V", sig := { parameters := [], returnType := none }, accessFlags := 1, code := none }
/-- java/lang/Object -/
def k0 : Class := { plain "java/lang/Object" none with
  accessFlags := 33
  interfaces := #[]
  cf := some (fileOf pool0 8 #[] #[{ accessFlags := 1, nameIndex := 5, descriptorIndex := 6, attributes := #[] }] 33 0 #[] #[])
  fields := #[]
  methods := #[k0m0]
  instanceTypes := #[]
  staticTypes := #[]
  resolved := Array.replicate 124 none
  statics := none }

def pool1 : Array CpInfo := pool [(2, .class_ 4), (1, u "java/lang/Object"), (0, u "<init>"), (0, u "()V"), (0, .class_ 8), (0, u "com/example/imbakan/imbakan/query/Keyword"), (0, .fieldref 7 10), (0, .nameAndType 11 12), (0, u "EQUALS"), (0, u "Lcom/example/imbakan/imbakan/query/Keyword;"), (0, .fieldref 7 14), (0, .nameAndType 15 12), (0, u "NOT"), (0, .fieldref 7 17), (0, .nameAndType 18 12), (0, u "GREATER_THAN"), (0, .fieldref 7 20), (0, .nameAndType 21 12), (0, u "GREATER_THAN_EQUAL"), (0, .fieldref 7 23), (0, .nameAndType 24 12), (0, u "LESS_THAN"), (0, .fieldref 7 26), (0, .nameAndType 27 12), (0, u "LESS_THAN_EQUAL"), (0, .fieldref 7 29), (0, .nameAndType 30 12), (0, u "AFTER"), (0, .fieldref 7 32), (0, .nameAndType 33 12), (0, u "BEFORE"), (0, .fieldref 7 35), (0, .nameAndType 36 12), (0, u "BETWEEN"), (0, .fieldref 7 38), (0, .nameAndType 39 12), (0, u "IN"), (0, .fieldref 7 41), (0, .nameAndType 42 12), (0, u "NOT_IN"), (0, .fieldref 7 44), (0, .nameAndType 45 12), (0, u "IS_NULL"), (0, .fieldref 7 47), (0, .nameAndType 48 12), (0, u "IS_NOT_NULL"), (0, .fieldref 7 50), (0, .nameAndType 51 12), (0, u "TRUE"), (0, .fieldref 7 53), (0, .nameAndType 54 12), (0, u "FALSE"), (0, .fieldref 7 56), (0, .nameAndType 57 12), (0, u "EXISTS"), (0, .fieldref 7 59), (0, .nameAndType 60 12), (0, u "STARTING_WITH"), (0, .fieldref 7 62), (0, .nameAndType 63 12), (0, u "ENDING_WITH"), (0, .fieldref 7 65), (0, .nameAndType 66 12), (0, u "CONTAINING"), (0, .fieldref 7 68), (0, .nameAndType 69 12), (0, u "NOT_CONTAINING"), (0, .fieldref 7 71), (0, .nameAndType 72 12), (0, u "LIKE"), (0, .fieldref 7 74), (0, .nameAndType 75 12), (0, u "NOT_LIKE"), (0, .fieldref 7 77), (0, .nameAndType 78 12), (0, u "REGEX"), (0, .fieldref 7 80), (0, .nameAndType 81 12), (0, u "NEAR"), (0, .fieldref 7 83), (0, .nameAndType 84 12), (0, u "WITHIN"), (0, .fieldref 7 86), (0, .nameAndType 87 12), (0, u "IGNORE_CASE"), (0, .integer 2147483647), (0, .methodref 7 90), (0, .nameAndType 91 92), (0, u "orders"), (0, u "()Z"), (0, .class_ 94), (0, u "com/example/imbakan/imbakan/query/KeywordOrdersPinLaw"), (2, u "law"), (0, u "(I)Z")] 5

def k1m0 : Method := { name := "<init>", desc := "()V", sig := { parameters := [], returnType := none }, accessFlags := 1, code := none }
def k1c1 : Code := { maxStack := 4, maxLocals := 4, code := code, exceptionTable := #[], attributes := #[] }
def k1m1 : Method := { name := "law", desc := "(I)Z", sig := { parameters := [.int], returnType := some .boolean }, accessFlags := 9, code := some k1c1 }
/-- com/example/imbakan/imbakan/query/KeywordOrdersPinLaw -/
def k1 : Class := { plain "com/example/imbakan/imbakan/query/KeywordOrdersPinLaw" (some 0) with
  accessFlags := 49
  interfaces := #[]
  cf := some (fileOf pool1 93 #[] #[{ accessFlags := 1, nameIndex := 5, descriptorIndex := 6, attributes := #[] }, { accessFlags := 9, nameIndex := 97, descriptorIndex := 98, attributes := #[] }] 49 2 #[] #[])
  fields := #[]
  methods := #[k1m0, k1m1]
  instanceTypes := #[]
  staticTypes := #[]
  resolved := Array.replicate 104 none
  statics := none }

def pool2 : Array CpInfo := pool [(1, .class_ 2), (0, u "java/lang/constant/Constable"), (0, .class_ 4), (0, u "java/lang/Object")] 6

/-- java/lang/constant/Constable -/
def k2 : Class := { plain "java/lang/constant/Constable" (some 0) with
  accessFlags := 1537
  interfaces := #[]
  cf := some (fileOf pool2 1 #[] #[] 1537 3 #[] #[])
  fields := #[]
  methods := #[]
  instanceTypes := #[]
  staticTypes := #[]
  resolved := Array.replicate 11 none
  statics := none }

def pool3 : Array CpInfo := pool [(1, .class_ 2), (0, u "java/lang/Comparable"), (0, .class_ 4), (0, u "java/lang/Object")] 7

/-- java/lang/Comparable -/
def k3 : Class := { plain "java/lang/Comparable" (some 0) with
  accessFlags := 1537
  interfaces := #[]
  cf := some (fileOf pool3 1 #[] #[] 1537 3 #[] #[])
  fields := #[]
  methods := #[]
  instanceTypes := #[]
  staticTypes := #[]
  resolved := Array.replicate 12 none
  statics := none }

def pool4 : Array CpInfo := pool [(1, .class_ 2), (0, u "java/io/Serializable"), (0, .class_ 4), (0, u "java/lang/Object")] 2

/-- java/io/Serializable -/
def k4 : Class := { plain "java/io/Serializable" (some 0) with
  accessFlags := 1537
  interfaces := #[]
  cf := some (fileOf pool4 1 #[] #[] 1537 3 #[] #[])
  fields := #[]
  methods := #[]
  instanceTypes := #[]
  staticTypes := #[]
  resolved := Array.replicate 7 none
  statics := none }

def pool5 : Array CpInfo := pool [(2, .class_ 4), (1, u "java/lang/Enum"), (0, u "name"), (0, u "Ljava/lang/String;"), (2, u "ordinal"), (0, u "I"), (1, .class_ 14), (1, u "java/lang/Object"), (4, u "hash"), (86, .class_ 108), (1, u "java/lang/Enum$EnumDesc"), (2, .class_ 112), (0, u "java/lang/constant/Constable"), (0, .class_ 114), (0, u "java/lang/Comparable"), (0, .class_ 116), (0, u "java/io/Serializable")] 87

/-- java/lang/Enum -/
def k5 : Class := { plain "java/lang/Enum" (some 0) with
  accessFlags := 1057
  interfaces := #[2, 3, 4]
  cf := some (fileOf pool5 2 #[.nestMembers #[106]] #[] 1057 12 #[111, 113, 115] #[{ accessFlags := 18, nameIndex := 5, descriptorIndex := 6, attributes := #[] }, { accessFlags := 18, nameIndex := 9, descriptorIndex := 10, attributes := #[] }, { accessFlags := 2, nameIndex := 19, descriptorIndex := 10, attributes := #[] }])
  fields := #[{ name := "name", type := (.object "java/lang/String"), accessFlags := 18, slot := 0, constantValue := 0 }, { name := "ordinal", type := .int, accessFlags := 18, slot := 1, constantValue := 0 }, { name := "hash", type := .int, accessFlags := 2, slot := 2, constantValue := 0 }]
  methods := #[]
  instanceTypes := #[(.object "java/lang/String"), .int, .int]
  staticTypes := #[]
  resolved := Array.replicate 204 none
  statics := none }

def pool6 : Array CpInfo := pool [(1, .class_ 2), (0, u "com/example/imbakan/imbakan/query/Keyword"), (2, u "EQUALS"), (0, u "Lcom/example/imbakan/imbakan/query/Keyword;"), (2, u "NOT"), (0, .fieldref 1 11), (0, .nameAndType 12 6), (0, u "GREATER_THAN"), (0, .fieldref 1 14), (0, .nameAndType 15 6), (0, u "GREATER_THAN_EQUAL"), (0, .fieldref 1 17), (0, .nameAndType 18 6), (0, u "LESS_THAN"), (0, .fieldref 1 20), (0, .nameAndType 21 6), (0, u "LESS_THAN_EQUAL"), (0, .fieldref 1 23), (0, .nameAndType 24 6), (0, u "AFTER"), (0, .fieldref 1 26), (0, .nameAndType 27 6), (0, u "BEFORE"), (0, .fieldref 1 29), (0, .nameAndType 30 6), (0, u "BETWEEN"), (2, u "IN"), (2, u "NOT_IN"), (2, u "IS_NULL"), (2, u "IS_NOT_NULL"), (2, u "TRUE"), (2, u "FALSE"), (2, u "EXISTS"), (2, u "STARTING_WITH"), (2, u "ENDING_WITH"), (2, u "CONTAINING"), (2, u "NOT_CONTAINING"), (2, u "LIKE"), (2, u "NOT_LIKE"), (2, u "REGEX"), (2, u "NEAR"), (2, u "WITHIN"), (2, u "IGNORE_CASE"), (2, u "$VALUES"), (0, u "[Lcom/example/imbakan/imbakan/query/Keyword;"), (6, .class_ 94), (1, u "java/lang/Enum"), (8, u "arguments"), (0, u "Lcom/example/imbakan/imbakan/query/Keyword$Arguments;"), (8, u "spellings"), (0, u "Ljava/util/List;"), (1, .class_ 118), (1, u "com/example/imbakan/imbakan/query/Keyword$Arguments"), (186, u "()Z"), (1, u "orders")] 9

def k6c0 : Code := { maxStack := 2, maxLocals := 1, code := prog_45_method_7_code, exceptionTable := #[], attributes := #[] }
def k6m0 : Method := { name := "orders", desc := "()Z", sig := { parameters := [], returnType := some .boolean }, accessFlags := 0, code := some k6c0 }
/-- com/example/imbakan/imbakan/query/Keyword -/
def k6 : Class := { plain "com/example/imbakan/imbakan/query/Keyword" (some 5) with
  accessFlags := 16433
  interfaces := #[]
  cf := some (fileOf pool6 1 #[.nestMembers #[116]] #[{ accessFlags := 0, nameIndex := 307, descriptorIndex := 305, attributes := #[] }] 16433 92 #[] #[{ accessFlags := 16409, nameIndex := 5, descriptorIndex := 6, attributes := #[] }, { accessFlags := 16409, nameIndex := 9, descriptorIndex := 6, attributes := #[] }, { accessFlags := 16409, nameIndex := 12, descriptorIndex := 6, attributes := #[] }, { accessFlags := 16409, nameIndex := 15, descriptorIndex := 6, attributes := #[] }, { accessFlags := 16409, nameIndex := 18, descriptorIndex := 6, attributes := #[] }, { accessFlags := 16409, nameIndex := 21, descriptorIndex := 6, attributes := #[] }, { accessFlags := 16409, nameIndex := 24, descriptorIndex := 6, attributes := #[] }, { accessFlags := 16409, nameIndex := 27, descriptorIndex := 6, attributes := #[] }, { accessFlags := 16409, nameIndex := 30, descriptorIndex := 6, attributes := #[] }, { accessFlags := 16409, nameIndex := 33, descriptorIndex := 6, attributes := #[] }, { accessFlags := 16409, nameIndex := 36, descriptorIndex := 6, attributes := #[] }, { accessFlags := 16409, nameIndex := 39, descriptorIndex := 6, attributes := #[] }, { accessFlags := 16409, nameIndex := 42, descriptorIndex := 6, attributes := #[] }, { accessFlags := 16409, nameIndex := 45, descriptorIndex := 6, attributes := #[] }, { accessFlags := 16409, nameIndex := 48, descriptorIndex := 6, attributes := #[] }, { accessFlags := 16409, nameIndex := 51, descriptorIndex := 6, attributes := #[] }, { accessFlags := 16409, nameIndex := 54, descriptorIndex := 6, attributes := #[] }, { accessFlags := 16409, nameIndex := 57, descriptorIndex := 6, attributes := #[] }, { accessFlags := 16409, nameIndex := 60, descriptorIndex := 6, attributes := #[] }, { accessFlags := 16409, nameIndex := 63, descriptorIndex := 6, attributes := #[] }, { accessFlags := 16409, nameIndex := 66, descriptorIndex := 6, attributes := #[] }, { accessFlags := 16409, nameIndex := 69, descriptorIndex := 6, attributes := #[] }, { accessFlags := 16409, nameIndex := 72, descriptorIndex := 6, attributes := #[] }, { accessFlags := 16409, nameIndex := 75, descriptorIndex := 6, attributes := #[] }, { accessFlags := 16409, nameIndex := 78, descriptorIndex := 6, attributes := #[] }, { accessFlags := 16409, nameIndex := 81, descriptorIndex := 6, attributes := #[] }, { accessFlags := 18, nameIndex := 103, descriptorIndex := 104, attributes := #[] }, { accessFlags := 18, nameIndex := 113, descriptorIndex := 114, attributes := #[] }, { accessFlags := 4122, nameIndex := 84, descriptorIndex := 85, attributes := #[] }])
  fields := #[{ name := "EQUALS", type := (.object "com/example/imbakan/imbakan/query/Keyword"), accessFlags := 16409, slot := 0, constantValue := 0 }, { name := "NOT", type := (.object "com/example/imbakan/imbakan/query/Keyword"), accessFlags := 16409, slot := 1, constantValue := 0 }, { name := "GREATER_THAN", type := (.object "com/example/imbakan/imbakan/query/Keyword"), accessFlags := 16409, slot := 2, constantValue := 0 }, { name := "GREATER_THAN_EQUAL", type := (.object "com/example/imbakan/imbakan/query/Keyword"), accessFlags := 16409, slot := 3, constantValue := 0 }, { name := "LESS_THAN", type := (.object "com/example/imbakan/imbakan/query/Keyword"), accessFlags := 16409, slot := 4, constantValue := 0 }, { name := "LESS_THAN_EQUAL", type := (.object "com/example/imbakan/imbakan/query/Keyword"), accessFlags := 16409, slot := 5, constantValue := 0 }, { name := "AFTER", type := (.object "com/example/imbakan/imbakan/query/Keyword"), accessFlags := 16409, slot := 6, constantValue := 0 }, { name := "BEFORE", type := (.object "com/example/imbakan/imbakan/query/Keyword"), accessFlags := 16409, slot := 7, constantValue := 0 }, { name := "BETWEEN", type := (.object "com/example/imbakan/imbakan/query/Keyword"), accessFlags := 16409, slot := 8, constantValue := 0 }, { name := "IN", type := (.object "com/example/imbakan/imbakan/query/Keyword"), accessFlags := 16409, slot := 9, constantValue := 0 }, { name := "NOT_IN", type := (.object "com/example/imbakan/imbakan/query/Keyword"), accessFlags := 16409, slot := 10, constantValue := 0 }, { name := "IS_NULL", type := (.object "com/example/imbakan/imbakan/query/Keyword"), accessFlags := 16409, slot := 11, constantValue := 0 }, { name := "IS_NOT_NULL", type := (.object "com/example/imbakan/imbakan/query/Keyword"), accessFlags := 16409, slot := 12, constantValue := 0 }, { name := "TRUE", type := (.object "com/example/imbakan/imbakan/query/Keyword"), accessFlags := 16409, slot := 13, constantValue := 0 }, { name := "FALSE", type := (.object "com/example/imbakan/imbakan/query/Keyword"), accessFlags := 16409, slot := 14, constantValue := 0 }, { name := "EXISTS", type := (.object "com/example/imbakan/imbakan/query/Keyword"), accessFlags := 16409, slot := 15, constantValue := 0 }, { name := "STARTING_WITH", type := (.object "com/example/imbakan/imbakan/query/Keyword"), accessFlags := 16409, slot := 16, constantValue := 0 }, { name := "ENDING_WITH", type := (.object "com/example/imbakan/imbakan/query/Keyword"), accessFlags := 16409, slot := 17, constantValue := 0 }, { name := "CONTAINING", type := (.object "com/example/imbakan/imbakan/query/Keyword"), accessFlags := 16409, slot := 18, constantValue := 0 }, { name := "NOT_CONTAINING", type := (.object "com/example/imbakan/imbakan/query/Keyword"), accessFlags := 16409, slot := 19, constantValue := 0 }, { name := "LIKE", type := (.object "com/example/imbakan/imbakan/query/Keyword"), accessFlags := 16409, slot := 20, constantValue := 0 }, { name := "NOT_LIKE", type := (.object "com/example/imbakan/imbakan/query/Keyword"), accessFlags := 16409, slot := 21, constantValue := 0 }, { name := "REGEX", type := (.object "com/example/imbakan/imbakan/query/Keyword"), accessFlags := 16409, slot := 22, constantValue := 0 }, { name := "NEAR", type := (.object "com/example/imbakan/imbakan/query/Keyword"), accessFlags := 16409, slot := 23, constantValue := 0 }, { name := "WITHIN", type := (.object "com/example/imbakan/imbakan/query/Keyword"), accessFlags := 16409, slot := 24, constantValue := 0 }, { name := "IGNORE_CASE", type := (.object "com/example/imbakan/imbakan/query/Keyword"), accessFlags := 16409, slot := 25, constantValue := 0 }, { name := "arguments", type := (.object "com/example/imbakan/imbakan/query/Keyword$Arguments"), accessFlags := 18, slot := 3, constantValue := 0 }, { name := "spellings", type := (.object "java/util/List"), accessFlags := 18, slot := 4, constantValue := 0 }, { name := "$VALUES", type := (.array (.object "com/example/imbakan/imbakan/query/Keyword")), accessFlags := 4122, slot := 26, constantValue := 0 }]
  methods := #[k6m0]
  instanceTypes := #[(.object "java/lang/String"), .int, .int, (.object "com/example/imbakan/imbakan/query/Keyword$Arguments"), (.object "java/util/List")]
  staticTypes := #[(.object "com/example/imbakan/imbakan/query/Keyword"), (.object "com/example/imbakan/imbakan/query/Keyword"), (.object "com/example/imbakan/imbakan/query/Keyword"), (.object "com/example/imbakan/imbakan/query/Keyword"), (.object "com/example/imbakan/imbakan/query/Keyword"), (.object "com/example/imbakan/imbakan/query/Keyword"), (.object "com/example/imbakan/imbakan/query/Keyword"), (.object "com/example/imbakan/imbakan/query/Keyword"), (.object "com/example/imbakan/imbakan/query/Keyword"), (.object "com/example/imbakan/imbakan/query/Keyword"), (.object "com/example/imbakan/imbakan/query/Keyword"), (.object "com/example/imbakan/imbakan/query/Keyword"), (.object "com/example/imbakan/imbakan/query/Keyword"), (.object "com/example/imbakan/imbakan/query/Keyword"), (.object "com/example/imbakan/imbakan/query/Keyword"), (.object "com/example/imbakan/imbakan/query/Keyword"), (.object "com/example/imbakan/imbakan/query/Keyword"), (.object "com/example/imbakan/imbakan/query/Keyword"), (.object "com/example/imbakan/imbakan/query/Keyword"), (.object "com/example/imbakan/imbakan/query/Keyword"), (.object "com/example/imbakan/imbakan/query/Keyword"), (.object "com/example/imbakan/imbakan/query/Keyword"), (.object "com/example/imbakan/imbakan/query/Keyword"), (.object "com/example/imbakan/imbakan/query/Keyword"), (.object "com/example/imbakan/imbakan/query/Keyword"), (.object "com/example/imbakan/imbakan/query/Keyword"), (.array (.object "com/example/imbakan/imbakan/query/Keyword"))]
  resolved := Array.replicate 317 none
  statics := some 0 }

def pool7 : Array CpInfo := pool [(1, u "java/lang/Cloneable"), (0, .class_ 1), (0, u "java/lang/Object"), (0, .class_ 3)] 3

/-- java/lang/Cloneable -/
def k7 : Class := { plain "java/lang/Cloneable" (some 0) with
  accessFlags := 1537
  interfaces := #[]
  cf := some (fileOf pool7 2 #[] #[] 1537 4 #[] #[])
  fields := #[]
  methods := #[]
  instanceTypes := #[]
  staticTypes := #[]
  resolved := Array.replicate 8 none
  statics := none }

/-- the primitive byte -/
def k8 : Class := { plain "byte" none with kind := .primitive 'B', accessFlags := 0x411 }
/-- [B -/
def k9 : Class := { plain "[B" (some 0) with kind := .array 8 .byte, interfaces := #[7, 4], accessFlags := 1041 }

/-- the primitive int -/
def k10 : Class := { plain "int" none with kind := .primitive 'I', accessFlags := 0x411 }
/-- [I -/
def k11 : Class := { plain "[I" (some 0) with kind := .array 10 .int, interfaces := #[7, 4], accessFlags := 1041 }

/-- [Lcom/example/imbakan/imbakan/query/Keyword; -/
def k12 : Class := { plain "[Lcom/example/imbakan/imbakan/query/Keyword;" (some 0) with kind := .array 6 (.object "com/example/imbakan/imbakan/query/Keyword"), interfaces := #[7, 4], accessFlags := 1041 }

def heap : Heap := #[{ cls := 6, slots := #[.ref 1, .ref 2, .ref 3, .ref 4, .ref 5, .ref 6, .ref 7, .ref 8, .ref 9, .ref 10, .ref 11, .ref 12, .ref 13, .ref 14, .ref 15, .ref 16, .ref 17, .ref 18, .ref 19, .ref 20, .ref 21, .ref 22, .ref 23, .ref 24, .ref 25, .ref 26, .null], vm := .statics 6 },
  { cls := 6, slots := #[.null, .int (0), .int 0, .null, .null], vm := .none },
  { cls := 6, slots := #[.null, .int (1), .int 0, .null, .null], vm := .none },
  { cls := 6, slots := #[.null, .int (2), .int 0, .null, .null], vm := .none },
  { cls := 6, slots := #[.null, .int (3), .int 0, .null, .null], vm := .none },
  { cls := 6, slots := #[.null, .int (4), .int 0, .null, .null], vm := .none },
  { cls := 6, slots := #[.null, .int (5), .int 0, .null, .null], vm := .none },
  { cls := 6, slots := #[.null, .int (6), .int 0, .null, .null], vm := .none },
  { cls := 6, slots := #[.null, .int (7), .int 0, .null, .null], vm := .none },
  { cls := 6, slots := #[.null, .int (8), .int 0, .null, .null], vm := .none },
  { cls := 6, slots := #[.null, .int (9), .int 0, .null, .null], vm := .none },
  { cls := 6, slots := #[.null, .int (10), .int 0, .null, .null], vm := .none },
  { cls := 6, slots := #[.null, .int (11), .int 0, .null, .null], vm := .none },
  { cls := 6, slots := #[.null, .int (12), .int 0, .null, .null], vm := .none },
  { cls := 6, slots := #[.null, .int (13), .int 0, .null, .null], vm := .none },
  { cls := 6, slots := #[.null, .int (14), .int 0, .null, .null], vm := .none },
  { cls := 6, slots := #[.null, .int (15), .int 0, .null, .null], vm := .none },
  { cls := 6, slots := #[.null, .int (16), .int 0, .null, .null], vm := .none },
  { cls := 6, slots := #[.null, .int (17), .int 0, .null, .null], vm := .none },
  { cls := 6, slots := #[.null, .int (18), .int 0, .null, .null], vm := .none },
  { cls := 6, slots := #[.null, .int (19), .int 0, .null, .null], vm := .none },
  { cls := 6, slots := #[.null, .int (20), .int 0, .null, .null], vm := .none },
  { cls := 6, slots := #[.null, .int (21), .int 0, .null, .null], vm := .none },
  { cls := 6, slots := #[.null, .int (22), .int 0, .null, .null], vm := .none },
  { cls := 6, slots := #[.null, .int (23), .int 0, .null, .null], vm := .none },
  { cls := 6, slots := #[.null, .int (24), .int 0, .null, .null], vm := .none },
  { cls := 6, slots := #[.null, .int (25), .int 0, .null, .null], vm := .none }]
def classes : Array Class := #[k0, k1, k2, k3, k4, k5, k6, k7, k8, k9, k10, k11, k12]
def interned : List (Array UInt16 × Addr) := []
def slotsUsed : Nat := 157
def theMethod : MethodId := ⟨1, 1⟩
def args0 : Array Value := #[.int 4]
def aboutOver (below : List Frame) : State where
  vm := { classes := classes, interned := interned.toArray }
  heap := heap
  slotsUsed := slotsUsed
  threads := #[{ frames := .invoking theMethod args0 :: below }]
def below0 : List Frame := [.native { method := ⟨0, 0⟩, args := #[] }]
def about1 : State := aboutOver below0
def p0 : Program := .bare "" "" ""
def e0 : Env := launch0.env 0 0 0
theorem w_frames : about1.frames = Frame.invoking theMethod args0 :: below0 := rfl
set_option maxRecDepth 65536 in
theorem w_args : argsFit about1.vm theMethod args0 = true := by decide +kernel
set_option maxRecDepth 65536 in
theorem w_heap : heapFits about1 = true := by decide +kernel
set_option maxRecDepth 65536 in
theorem w_runnable : about1.curStatus? = some .runnable := by decide +kernel
set_option maxRecDepth 65536 in
theorem w_alone : about1.alone = true := by decide +kernel
set_option maxRecDepth 65536 in
theorem w_named : about1.methodNamed? x = some theMethod := by decide +kernel
set_option maxRecDepth 65536 in
theorem w_hears : about1.hears theMethod below0 = true := by decide +kernel
set_option maxRecDepth 65536 in
theorem w_ripe : about1.ripe theMethod args0 below0 = true := by decide +kernel
theorem w_running : about1.status = .running := rfl
set_option maxRecDepth 65536 in
theorem w_room : about1.hasRoom e0.platform room_1 = true :=
  launch0.hasRoom_least _ room_1 (by decide +kernel) (by decide +kernel) (by decide +kernel) (by decide +kernel) (by decide +kernel) (by decide +kernel)
theorem allAtoms_all (ts : List Jvm.Cond) (a : Array Jvm.Value) (st : Jvm.State) : (allAtoms ts).before a st = ts.all (fun c => c.before a st) := by
  induction ts with
  | nil => rfl
  | cons c t ih =>
    show (Jvm.Cond.and c (allAtoms t)).before a st = _
    rw [Jvm.Cond.before_and, ih, List.all_cons]
def words1 : List Jvm.Cond := Jvm.Cond.code x code maxLocals ret :: tables_1
/-- a 'code' word, met by the world's own term for the bytes: nothing is compared byte by byte -/
theorem code_word {y : MethodName} {bytes : ByteArray} {mx : Nat} {rt : Option FieldType} {a : Array Value} {s : State} {m : MethodId} {meth : Method} {c : Code} (h1 : s.methodNamed? y = some m) (h2 : s.vm.method? m = some meth) (h3 : meth.code = some c) (h4 : c.code = bytes)
    (h5 : (c.maxLocals == mx && c.exceptionTable.isEmpty && decide (c.maxStack ≤ mostOperands) && decide (meth.sig.returnType = rt) && !meth.locks && decide (parseMethodDescriptor y.desc = some meth.sig)) = true) : (Jvm.Cond.code y bytes mx rt).before a s = true := by
  simp only [Bool.and_eq_true, beq_iff_eq, Bool.not_eq_true', decide_eq_true_eq] at h5
  obtain ⟨⟨⟨⟨⟨g1, g2⟩, g3⟩, g4⟩, g5⟩, g6⟩ := h5
  simp [Cond.before, Cond.holds, Cond.value, h1, h2, h3, h4, g1, g2, g3, g4, g5, g6]
def isCode : Jvm.Cond → Bool
  | .code _ _ _ _ => true
  | _ => false
theorem all_split {L : List Jvm.Cond} {P : Jvm.Cond → Bool} (h1 : L.all (fun c => isCode c || P c) = true) (h2 : ∀ c ∈ L.filter isCode, P c = true) : L.all P = true := by
  refine List.all_eq_true.mpr fun c hc => ?_
  have h := List.all_eq_true.mp h1 c hc
  rcases Bool.eq_false_or_eq_true (isCode c) with hi | hi
  · exact h2 c (List.mem_filter.mpr ⟨hc, hi⟩)
  · simpa [hi] using h
set_option maxRecDepth 65536 in
theorem w_c0 : (Jvm.Cond.code x code maxLocals ret).before args0 about1 = true := code_word (m := ⟨1, 1⟩) (meth := k1m1) (c := k1c1) (by decide +kernel) rfl rfl rfl (by decide +kernel)
set_option maxRecDepth 65536 in
theorem w_c1 : (Jvm.Cond.code ({ cls := "com/example/imbakan/imbakan/query/Keyword", name := "orders", desc := "()Z" } : Jvm.MethodName) prog_45_method_7_code (1 : Nat) (Option.some Jvm.ClassFile.FieldType.boolean)).before args0 about1 = true := code_word (m := ⟨6, 0⟩) (meth := k6m0) (c := k6c0) (by decide +kernel) rfl rfl rfl (by decide +kernel)
def codes1 : List Jvm.Cond := [Jvm.Cond.code x code maxLocals ret, Jvm.Cond.code ({ cls := "com/example/imbakan/imbakan/query/Keyword", name := "orders", desc := "()Z" } : Jvm.MethodName) prog_45_method_7_code (1 : Nat) (Option.some Jvm.ClassFile.FieldType.boolean)]
set_option maxRecDepth 65536 in
theorem codes_eq : words1.filter isCode = codes1 := rfl
theorem w_codes : ∀ c ∈ words1.filter isCode, c.before args0 about1 = true := by
  rw [codes_eq]
  intro c hc
  simp only [codes1, List.mem_cons, List.not_mem_nil, or_false] at hc
  rcases hc with rfl | rfl
  · exact w_c0
  · exact w_c1
set_option maxRecDepth 65536 in
theorem w_t1 : (words1.take 24).all (fun c => isCode c || c.before args0 about1) = true := by decide +kernel
set_option maxRecDepth 65536 in
theorem w_t2 : ((words1.drop 24).take 24).all (fun c => isCode c || c.before args0 about1) = true := by decide +kernel
set_option maxRecDepth 65536 in
theorem w_t3 : ((words1.drop 24).drop 24).all (fun c => isCode c || c.before args0 about1) = true := by decide +kernel
theorem w_tables : (allAtoms (Jvm.Cond.code x code maxLocals ret :: tables_1)).before args0 about1 = true := by
  rw [allAtoms_all]
  show words1.all (fun c => c.before args0 about1) = true
  refine all_split ?_ w_codes
  rw [← List.take_append_drop 24 words1, List.all_append, w_t1, ← List.take_append_drop 24 (words1.drop 24), List.all_append, w_t2, w_t3]
  rfl
set_option maxRecDepth 65536 in
theorem w_case : (Jvm.Cond.and given_1 narrow_1).before args0 about1 = true := by decide +kernel
theorem w_applies : (headSpec (Jvm.Cond.code x code maxLocals ret :: tables_1) room_1).applies x e0.platform about1 = true :=
  (Spec.applies_iff w_frames).mpr ⟨w_running, w_runnable, w_alone, w_named, w_hears, w_ripe, w_room, w_tables⟩
theorem atStart : AtStart classFile x code maxLocals ret World_1 tables_1 room_1 Calls_1 rest_1 Pre_1 launch0 p0 e0 about1 theMethod args0 below0 :=
  ⟨lists_1, trivial, launch0.admits_env _ _ _, launch0.least_env, fairChoices_fair.cas, fairChoices_fair.clock, w_frames, w_args, w_heap, w_applies, trivial, trivial, w_case⟩
end start1
theorem witness_1 : WitnessClaimed_1 := ⟨start1.p0, start1.e0, start1.about1, start1.theMethod, start1.args0, start1.below0, start1.atStart⟩
end Jvm.Pilot.@@N@@
