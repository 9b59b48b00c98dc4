import JvmDerived
import JvmDerived.Pilot.@@N@@Statement
import JvmDerived.Pilot.@@N@@Code
set_option linter.unusedVariables false
set_option linter.unusedSimpArgs false
namespace Jvm.RoadKit
open Sem ClassFile Op Lib Jvm.Stand Jvm.Free Jvm.LawKit
section New
variable {p : Program} {l : Launch} {e : Env} {R : Room} {s : State} {m : MethodId} {args : Array Value} {below : List Frame} {meth : Method} {c : Code} {T : State} {locs : List Loc} {cells slots : Nat}
theorem retI (X : Stand p l e R s m args below meth c T locs cells slots) (hx : p.tables.exec = Jvm.exec) {pc : Nat} {Ls : Array Slot} {z : Int32} {rest : List Value} (hret : meth.sig.returnType = some .int) (hd : decode c.code pc = .ok (.ireturn, 1)) {fs : List Frame}
    (hl : ∀ (f : JFrame) (acts : List Action), f.method = m → f.locked = none → f.entered = [] → (doReturn e (T.setTop f) acts (some (.int z))).1 = T.setFrames fs) : Steps p.tables e below (T.setTop (mkF m pc Ls (.int z :: rest))) (T.setFrames fs) :=
  retOut X hx hret rfl (Or.inl ⟨rfl, Or.inl rfl, z, rfl⟩) hd hl
theorem retL (X : Stand p l e R s m args below meth c T locs cells slots) (hx : p.tables.exec = Jvm.exec) {pc : Nat} {Ls : Array Slot} {z : Int64} {rest : List Value} (hret : meth.sig.returnType = some .long) (hd : decode c.code pc = .ok (.lreturn, 1)) {fs : List Frame}
    (hl : ∀ (f : JFrame) (acts : List Action), f.method = m → f.locked = none → f.entered = [] → (doReturn e (T.setTop f) acts (some (.long z))).1 = T.setFrames fs) : Steps p.tables e below (T.setTop (mkF m pc Ls (.long z :: rest))) (T.setFrames fs) :=
  retOut X hx hret rfl (Or.inr (Or.inl ⟨rfl, rfl, z, rfl⟩)) hd hl
theorem own_retD (X : Stand p l e R s m args below meth c T locs cells slots) (hx : p.tables.exec = Jvm.exec) {pc : Nat} {Ls : Array Slot} {z : UInt64} {rest : List Value} (hret : meth.sig.returnType = some .double) (hd : decode c.code pc = .ok (.dreturn, 1)) {fs : List Frame}
    (hl : ∀ (f : JFrame) (acts : List Action), f.method = m → f.locked = none → f.entered = [] → (doReturn e (T.setTop f) acts (some (.double z))).1 = T.setFrames fs) : Steps p.tables e below (T.setTop (mkF m pc Ls (.double z :: rest))) (T.setFrames fs) :=
  retOut X hx hret rfl (Or.inr (Or.inr (Or.inl ⟨rfl, rfl, z, rfl⟩))) hd hl
theorem own_nar {t : FieldType} {w : Value} (ht : t.isReference = true) (hw : w.isRef = true) : narrow t w = w := by
  cases t <;> first | (cases ht; done) | (cases w <;> first | rfl | (cases hw; done))
theorem retA (X : Stand p l e R s m args below meth c T locs cells slots) (hx : p.tables.exec = Jvm.exec) {pc : Nat} {Ls : Array Slot} {w : Value} {t : FieldType} {rest : List Value} (hret : meth.sig.returnType = some t) (ht : t.isReference = true) (hw : w.isRef = true) (hd : decode c.code pc = .ok (.areturn, 1)) {fs : List Frame}
    (hl : ∀ (f : JFrame) (acts : List Action), f.method = m → f.locked = none → f.entered = [] → (doReturn e (T.setTop f) acts (some w)).1 = T.setFrames fs) : Steps p.tables e below (T.setTop (mkF m pc Ls (w :: rest))) (T.setFrames fs) :=
  retOut X hx hret (own_nar ht hw) (Or.inr (Or.inr (Or.inr (Or.inr ⟨rfl, ht, hw⟩)))) hd hl
/-- the rest of a walk, as a predicate on where it stands -/
theorem own_open (K N : Nat) (Q : Option Value → Heap → List Loc → Prop) (hlocks : meth.locks = false) :
    ∃ G : State → JFrame → Prop,
      (∀ {T T' : State} {g g' : JFrame}, (∀ t, Steps p.tables e below (T'.setTop g') t → Steps p.tables e below (T.setTop g) t) → G T' g' → G T g) ∧
      (∀ {T : State} {g : JFrame} {locs : List Loc} {cells slots : Nat} {v : Option Value} {h : Heap}, Stand p l e R s m args below meth c T locs cells slots → (meth.sig.returnType = none → v = none) →
        (∀ fs, (∀ (f : JFrame) (acts : List Action), f.method = m → f.locked = none → f.entered = [] → (doReturn e (T.setTop f) acts v).1 = T.setFrames fs) → Steps p.tables e below (T.setTop g) (T.setFrames fs)) → T.heap = h → Q v h locs → cells ≤ K → slots ≤ N → G T g) ∧
      (∀ {T : State} {g : JFrame}, G T g → ∃ t o, Steps p.tables e below (T.setTop g) t ∧ t.status = .running ∧ Ended t below o ∧ ∃ v L, o = .returned v ∧ Q v t.heap L ∧ FrameEnd s o t L K N) := by
  refine ⟨fun T g => ∃ t o, Steps p.tables e below (T.setTop g) t ∧ t.status = .running ∧ Ended t below o ∧ ∃ v L, o = .returned v ∧ Q v t.heap L ∧ FrameEnd s o t L K N, ?_, ?_, fun h => h⟩
  · intro T T' g g' hs hG
    obtain ⟨t, o, h1, h2⟩ := hG
    exact ⟨t, o, hs t h1, h2⟩
  · intro T g locs cells slots v h X hv hst hT hQ hk hn
    obtain ⟨fs, hr, hrun, hended, hW, hsame⟩ := X.leave hv hlocks
    exact ⟨_, _, hst fs hr, hrun, hended, v, locs, rfl, by show Q v T.heap locs; rw [hT]; exact hQ, ⟨_, rfl⟩, hW, hsame.mono hk hn⟩
theorem own_openW (K N : Nat) (Q : Option Value → Heap → List Loc → Prop) (hlocks : meth.locks = false) :
    ∃ G : State → JFrame → Prop,
      (∀ {T T' : State} {g g' : JFrame}, (∀ t, Steps p.tables e below (T'.setTop g') t → Steps p.tables e below (T.setTop g) t) → G T' g' → G T g) ∧
      (∀ {T : State} {g : JFrame} {locs : List Loc} {cells slots : Nat} {v : Option Value} {h : Heap} {vm0 : Vm} {k0 : Nat}, Stand p l e R (s.setVm vm0) m args below meth c T locs cells slots → s.Since vm0 k0 → k0 ≤ h.size → (meth.sig.returnType = none → v = none) →
        (∀ fs, (∀ (f : JFrame) (acts : List Action), f.method = m → f.locked = none → f.entered = [] → (doReturn e (T.setTop f) acts v).1 = T.setFrames fs) → Steps p.tables e below (T.setTop g) (T.setFrames fs)) → T.heap = h → Q v h locs → cells ≤ K → slots ≤ N → G T g) ∧
      (∀ {T : State} {g : JFrame}, G T g → ∃ t o, Steps p.tables e below (T.setTop g) t ∧ t.status = .running ∧ Ended t below o ∧ ∃ v L, o = .returned v ∧ Q v t.heap L ∧ ReturnedEndW s o t L K N) := by
  refine ⟨fun T g => ∃ t o, Steps p.tables e below (T.setTop g) t ∧ t.status = .running ∧ Ended t below o ∧ ∃ v L, o = .returned v ∧ Q v t.heap L ∧ ReturnedEndW s o t L K N, ?_, ?_, fun h => h⟩
  · intro T T' g g' hs hG
    obtain ⟨t, o, h1, h2⟩ := hG
    exact ⟨t, o, hs t h1, h2⟩
  · intro T g locs cells slots v h vm0 k0 X hS hk0 hv hst hT hQ hk hn
    obtain ⟨fs, hr, hrun, hended, hW⟩ := X.leaveW hS (by rw [hT]; exact hk0) hv hlocks
    exact ⟨_, _, hst fs hr, hrun, hended, v, locs, rfl, by show Q v T.heap locs; rw [hT]; exact hQ, hW.1, hW.2.1, hW.2.2.1, hW.2.2.2.mono hk hn⟩
theorem own_at {j : Int32} {i : Nat} {vs : List Value} {d v : Value} (hj : j.toNatClampNeg = i) (h : vs.getD i d = v) : vs.getD j.toNatClampNeg d = v := hj ▸ h
theorem own_gen {n0 : Nat} (X : Stand p l e R s m args below meth c T locs cells slots) (N : Fr n0 locs) : ∃ lc, Stand p l e R s m args below meth c T lc cells slots ∧ Fr n0 lc := ⟨_, X, N⟩
theorem own_sl (a : Array Slot) : ∃ z, z = a := ⟨_, rfl⟩
theorem own_xlt {x y : Int32} : x < y ↔ x.toInt < y.toInt := Int32.lt_iff_toInt_lt
theorem own_xeq {x y : Int32} : x = y ↔ x.toInt = y.toInt := Int32.toInt_inj.symm
theorem own_xltL {x y : Int64} : x < y ↔ x.toInt < y.toInt := Int64.lt_iff_toInt_lt
theorem own_xeqL {x y : Int64} : x = y ↔ x.toInt = y.toInt := Int64.toInt_inj.symm
theorem own_old_le {Z : State} {n0 : Nat} {h : Heap} (O : Old Z n0 h) : n0 ≤ h.size := O.1 ▸ O.2.1
theorem own_oldne {Z : State} {n0 : Nat} {h : Heap} {a b : Addr} (O : Old Z n0 h) (q : a < Z.heap.size) (r : n0 ≤ b) : a ≠ b := O.ne q r
theorem own_fldI {Z : State} {args : Array Value} {t : Term} {C f d : String} {a : Addr} {k : Int32} (ht : t.eval args Z none [] Z = some (.ref a)) (h : (Cond.eq (.field t C f d) (.int k)).value args Z none Z [] = some true) : Fld Z Z.heap a C f d (.int k) := by
  refine Fld.start ?_
  rw [← fld_at (C := C) (n := f) (dd := d) ht]
  obtain ⟨x, y, h1, h2, h3, h4⟩ := cmp_v (Or.inl h)
  have h5 : y = .int k := Option.some.inj (h2.symm.trans (Term.int_eval k))
  subst h5
  obtain ⟨z, rfl⟩ := h4
  have := gotT (P := z = k) (by simp [Cond.value, h1, h2]) h
  rw [h1, this]
theorem own_fldD {Z : State} {args : Array Value} {t : Term} {C f d : String} {a : Addr} {k : Int64} {b : UInt64} (hb : k.toUInt64 = b) (ht : t.eval args Z none [] Z = some (.ref a)) (h : (Cond.eq (.field t C f d) (.op1 .bitsD (.long k))).value args Z none Z [] = some true) : Fld Z Z.heap a C f d (.double b) := by
  refine Fld.start ?_
  rw [← fld_at (C := C) (n := f) (dd := d) ht]
  obtain ⟨x, y, h1, h2, h3, h4⟩ := cmp_v (Or.inl h)
  have h5 : y = .double k.toUInt64 := Option.some.inj (h2.symm.trans rfl)
  subst h5
  obtain ⟨z, rfl⟩ := h4
  have := gotT (P := z = k.toUInt64) (by simp [Cond.value, h1, h2]) h
  rw [h1, this, hb]
theorem own_dnn {a b : UInt64} (ha : Jvm.Free.Fl.NoNaN64 a) (hb : FP.Core.DFin b) (hz : ¬ FP.Core.DZero b) : Jvm.Free.Fl.NoNaN64 (FP.ddiv a b) := by
  refine Jvm.Free.Fl.val64_no.mpr fun q => ?_
  have q2 := (FP.Core.quotient_nan FP.Core.b64 _ _).mp ((FP.Core.val64_ddiv a b).symm.trans q)
  rcases q2 with h | h | ⟨s, t, h1, h2⟩ | ⟨s, t, q, r, h1, h2⟩
  · exact Jvm.Free.Fl.val64_no.mp ha h
  · exact hb.ne_nan h
  · exact hb.ne_inf t h2
  · exact hz ⟨t, r, h2⟩
theorem own_i2dn (x : Int32) : Jvm.Free.Fl.NoNaN64 (FP.i2d x) := Jvm.Free.Fl.noNaN64_no.mpr (FP.Core.i2d_fin x).notNaN
theorem own_i2dz {x : Int32} (h : x ≠ 0) : ¬ FP.Core.DZero (FP.i2d x) := fun q => FP.Core.i2d_ne_zero h ((FP.Core.zero_bits2 _).mp q)
theorem own_and255 (x : Int32) : ¬ (x &&& (255 : Int32)) < 0 ∧ ¬ (255 : Int32) < (x &&& (255 : Int32)) := by
  have c1 := c_mask x (255 : Int32) 8 (by decide) (by decide)
  have q0 : (0 : Int32).toInt = 0 := by decide
  have q1 : (255 : Int32).toInt = 255 := by decide
  rw [own_xlt, own_xlt]
  omega
theorem own_l255 (x : Int64) : ¬ (x &&& (255 : Int64)).toInt32 < 0 ∧ ¬ (255 : Int32) < (x &&& (255 : Int64)).toInt32 := by
  have c1 := c_maskL x (255 : Int64) 8 (by decide) (by decide)
  have c2 := c_l2i (x &&& (255 : Int64))
  have r := rng32 (x &&& (255 : Int64)).toInt32
  have q0 : (0 : Int32).toInt = 0 := by decide
  have q1 : (255 : Int32).toInt = 255 := by decide
  rw [own_xlt, own_xlt]
  omega
theorem own_i2c {x : Int32} (h : ¬ x < 0 ∧ ¬ (255 : Int32) < x) : x.toUInt32.toUInt16.toUInt32.toInt32 = x := by
  have c1 := c_i2c x
  have q0 : (0 : Int32).toInt = 0 := by decide
  have q1 : (255 : Int32).toInt = 255 := by decide
  rw [own_xlt, own_xlt] at h
  rw [own_xeq]
  omega
theorem own_narc {x : Int32} (h : ¬ x < 0 ∧ ¬ (255 : Int32) < x) : nar .char x = x := own_i2c h
theorem own_nz {Z : State} {args : Array Value} {t : Term} {z : Int32} (ht : t.eval args Z none [] Z = some (.int z)) (h : (Cond.not (Cond.eq t (.int 0))).value args Z none Z [] = some true) : ¬ z = (0 : Int32) :=
  gotF (P := z = (0 : Int32)) (by simp [Cond.value, ht, Term.int_eval]) (not_v h)
theorem own_evI {Z : State} {args : Array Value} {u : Term} {k : Int32} (h : (Cond.eq u (.int k)).value args Z none Z [] = some true) : u.eval args Z none [] Z = some (.int k) := by
  obtain ⟨x, y, h1, h2, h3, h4⟩ := cmp_v (Or.inl h)
  have h5 : y = .int k := Option.some.inj (h2.symm.trans (Term.int_eval k))
  subst h5
  obtain ⟨z, rfl⟩ := h4
  have := gotT (P := z = k) (by simp [Cond.value, h1, h2]) h
  rw [h1, this]
theorem own_slotI {Z : State} {args : Array Value} {t : Term} {a : Addr} {i k : Int32} {cl : Cell} (ht : t.eval args Z none [] Z = some (.ref a)) (hc : Z.heap[a]? = some cl) (h : (Cond.eq (.elem t (.int i)) (.int k)).value args Z none Z [] = some true) : cl.slots[i.toNatClampNeg]? = some (.int k) :=
  (elem_in (own_evI h) ht (Term.int_eval i) hc).2
theorem own_lenI {Z : State} {args : Array Value} {t : Term} {a : Addr} {n : Int32} {cl : Cell} {ty : FieldType} (ht : t.eval args Z none [] Z = some (.ref a)) (A : Arr Z Z.heap a cl ty) (h : (Cond.eq (.length t) (.int n)).value args Z none Z [] = some true) : cl.slots.size < 2 ^ 31 ∧ cl.slots.size.toInt32 = n := by
  have hh := A.fin (Vm.Alike.refl _)
  have q := own_evI h
  simp only [Term.eval, ht, hh, Option.bind_eq_bind, Option.bind_some] at q
  split at q
  · rename_i hlt
    exact ⟨hlt, Value.int.inj (Option.some.inj q)⟩
  · cases q
theorem own_fldN {Z : State} {args : Array Value} {t : Term} {C f d : String} {a : Addr} (ht : t.eval args Z none [] Z = some (.ref a)) (h : (Cond.eq (.field t C f d) .null).value args Z none Z [] = some true) : Fld Z Z.heap a C f d .null := by
  refine Fld.start ?_
  rw [← fld_at (C := C) (n := f) (dd := d) ht]
  exact null_v h
theorem own_selpriv {Z s : State} {a0 args : Array Value} {y : MethodName} {n : Nat} (hZ : Z.Warmed39 s.vm) (wp : (Cond.privateMethod y).before a0 Z = true) (wi : (Cond.instanceMethod y).before a0 Z = true) (wk : (Cond.instantiable y.cls n).before a0 Z = true) (hy : y.cls ≠ "java/lang/invoke/MethodHandle" ∧ y.cls ≠ "java/lang/invoke/VarHandle") : (Cond.selects y.cls y y).before args s = true := by
  obtain ⟨c, k, h1, h2, -, h3, -⟩ := Cond.instantiable_spec (mv (s := s) (args := args) hZ wk)
  exact selects_self_of_private h1 h2 (Bool.or_eq_false_iff.mp h3).1 (Cond.privateMethod_at (mvP hZ wp (args := args))) (mv hZ wi) hy
theorem own_ne_arv {Z : State} {h : Heap} {a b : Addr} {C : String} {a0 : Array Value} {i : Nat} {k : ClassId} {ty : FieldType} {n : Int32} {vs : List Value} {dv : Value} (F : Exa Z h a C) (wi : (Cond.instantiable C i).before a0 Z = true) (V : Arv Z h b k ty n vs dv) : a ≠ b := by
  obtain ⟨cl, A, -⟩ := V
  exact ne_arr F wi A
theorem own_arr_keep {Z : State} {h h' : Heap} {a : Addr} {cl : Cell} {ty : FieldType} {ws : List Addr} (F : Arr Z h a cl ty) (K : Keep h h' ws) (q : a ∉ ws) : Arr Z h' a cl ty := ⟨K.2.1 a cl F.1 q, F.2⟩
section Arrays
variable {Z : State} {h : Heap} {a : Addr} {k : ClassId} {n : Int32} {vs : List Value} {dv : Value} {g : JFrame} {rest : List Value} {j : Int32} {v : Value}
theorem own_len {ty : FieldType} (X : Stand p l e R s m args below meth c T locs cells slots) (hx : p.tables.exec = Jvm.exec) (hZ : Z.Warmed39 s.vm) (eT : T.heap = h) (V : Arv Z h a k ty n vs dv) (hg : g.method = m) (hs : g.stack = .ref a :: rest) (hd : decode c.code g.pc = .ok (.arraylength, 1)) (target : State)
    (hr : Steps p.tables e below (T.setTop { g with pc := g.pc + 1, stack := .int n :: rest }) target) : Steps p.tables e below (T.setTop g) target := by
  obtain ⟨cl, A, -, S, N, -, -⟩ := V
  refine X.arraylength hx (by rw [eT]; exact A.1) (State.isArrayOf_alike hZ.alike A.2.1) hg hs hd target ?_
  rw [len_of S N]; exact hr
theorem own_ldI (X : Stand p l e R s m args below meth c T locs cells slots) (hx : p.tables.exec = Jvm.exec) (hZ : Z.Warmed39 s.vm) (eT : T.heap = h) (V : Arv Z h a k .int n vs dv) (hj : ¬ j < 0 ∧ j < n) (hv : vs.getD j.toNatClampNeg dv = v) (hg : g.method = m) (hs : g.stack = .int j :: .ref a :: rest) (hd : decode c.code g.pc = .ok (.iaload, 1)) (target : State)
    (hr : Steps p.tables e below (T.setTop { g with pc := g.pc + 1, stack := v :: rest }) target) : Steps p.tables e below (T.setTop g) target := by
  obtain ⟨cl, A, -, S, N, H, -⟩ := V
  have hin := inb_of S hj
  exact X.iaload hx (by rw [eT]; exact A.1) (State.isArrayOf_alike hZ.alike A.2.1) A.2.2 hin (H.at hin hv) hg hs hd target hr
theorem own_ldJ (X : Stand p l e R s m args below meth c T locs cells slots) (hx : p.tables.exec = Jvm.exec) (hZ : Z.Warmed39 s.vm) (eT : T.heap = h) (V : Arv Z h a k .long n vs dv) (hj : ¬ j < 0 ∧ j < n) (hv : vs.getD j.toNatClampNeg dv = v) (hg : g.method = m) (hs : g.stack = .int j :: .ref a :: rest) (hd : decode c.code g.pc = .ok (.laload, 1)) (target : State)
    (hr : Steps p.tables e below (T.setTop { g with pc := g.pc + 1, stack := v :: rest }) target) : Steps p.tables e below (T.setTop g) target := by
  obtain ⟨cl, A, -, S, N, H, -⟩ := V
  have hin := inb_of S hj
  exact X.laload hx (by rw [eT]; exact A.1) (State.isArrayOf_alike hZ.alike A.2.1) A.2.2 hin (H.at hin hv) hg hs hd target hr
theorem own_ldC (X : Stand p l e R s m args below meth c T locs cells slots) (hx : p.tables.exec = Jvm.exec) (hZ : Z.Warmed39 s.vm) (eT : T.heap = h) (V : Arv Z h a k .char n vs dv) (hj : ¬ j < 0 ∧ j < n) (hv : vs.getD j.toNatClampNeg dv = v) (hg : g.method = m) (hs : g.stack = .int j :: .ref a :: rest) (hd : decode c.code g.pc = .ok (.caload, 1)) (target : State)
    (hr : Steps p.tables e below (T.setTop { g with pc := g.pc + 1, stack := v :: rest }) target) : Steps p.tables e below (T.setTop g) target := by
  obtain ⟨cl, A, -, S, N, H, -⟩ := V
  have hin := inb_of S hj
  exact X.caload hx (by rw [eT]; exact A.1) (State.isArrayOf_alike hZ.alike A.2.1) A.2.2 hin (H.at hin hv) hg hs hd target hr
theorem own_ldB (X : Stand p l e R s m args below meth c T locs cells slots) (hx : p.tables.exec = Jvm.exec) (hZ : Z.Warmed39 s.vm) (eT : T.heap = h) (V : Arv Z h a k .byte n vs dv) (hj : ¬ j < 0 ∧ j < n) (hv : vs.getD j.toNatClampNeg dv = v) (hg : g.method = m) (hs : g.stack = .int j :: .ref a :: rest) (hd : decode c.code g.pc = .ok (.baload, 1)) (target : State)
    (hr : Steps p.tables e below (T.setTop { g with pc := g.pc + 1, stack := v :: rest }) target) : Steps p.tables e below (T.setTop g) target := by
  obtain ⟨cl, A, -, S, N, H, -⟩ := V
  have hin := inb_of S hj
  exact X.baloadBytes hx (by rw [eT]; exact A.1) (State.isArrayOf_alike hZ.alike A.2.1) A.2.2 hin (H.at hin hv) hg hs hd target hr
theorem own_ldR {ty : FieldType} (X : Stand p l e R s m args below meth c T locs cells slots) (hx : p.tables.exec = Jvm.exec) (hZ : Z.Warmed39 s.vm) (eT : T.heap = h) (V : Arv Z h a k ty n vs dv) (hj : ¬ j < 0 ∧ j < n) (hv : vs.getD j.toNatClampNeg dv = v) (hty : ty.isReference = true) (hg : g.method = m) (hs : g.stack = .int j :: .ref a :: rest) (hd : decode c.code g.pc = .ok (.aaload, 1)) (target : State)
    (hr : Steps p.tables e below (T.setTop { g with pc := g.pc + 1, stack := v :: rest }) target) : Steps p.tables e below (T.setTop g) target := by
  obtain ⟨cl, A, -, S, N, H, -⟩ := V
  have hin := inb_of S hj
  exact X.aaload hx (by rw [eT]; exact A.1) (State.isArrayOf_alike hZ.alike A.2.1) hty A.2.2 hin (H.at hin hv) hg hs hd target hr
theorem own_stI {x : Int32} (X : Stand p l e R s m args below meth c T locs cells slots) (hx : p.tables.exec = Jvm.exec) (hZ : Z.Warmed39 s.vm) (eT : T.heap = h) (V : Arv Z h a k .int n vs dv) (hj : ¬ j < 0 ∧ j < n) {i : Nat} (hji : j.toNatClampNeg = i) (hi : i < vs.length) (hg : g.method = m) (hs : g.stack = .int x :: .int j :: .ref a :: rest) (hd : decode c.code g.pc = .ok (.iastore, 1)) :
    ∃ T' h', Stand p l e R s m args below meth c T' (locs ++ [⟨a, j.toNatClampNeg⟩]) cells slots ∧ T'.heap = h' ∧ Wr h h' a j.toNatClampNeg (.int x) ∧ Arv Z h' a k .int n (vs.set i (.int x)) dv ∧ ∀ target, Steps p.tables e below (T'.setTop { g with pc := g.pc + 1, stack := rest }) target → Steps p.tables e below (T.setTop g) target := by
  obtain ⟨cl, A, q, S, N, H, Gf⟩ := V
  obtain ⟨T', h', X', e', W', st⟩ := stI X hx hZ eT A (inb_of S hj) hg hs hd
  exact ⟨T', h', X', e', W', Arv.set A q S N H Gf rfl W' i hji hi, st⟩
theorem own_stJ {x : Int64} (X : Stand p l e R s m args below meth c T locs cells slots) (hx : p.tables.exec = Jvm.exec) (hZ : Z.Warmed39 s.vm) (eT : T.heap = h) (V : Arv Z h a k .long n vs dv) (hj : ¬ j < 0 ∧ j < n) {i : Nat} (hji : j.toNatClampNeg = i) (hi : i < vs.length) (hg : g.method = m) (hs : g.stack = .long x :: .int j :: .ref a :: rest) (hd : decode c.code g.pc = .ok (.lastore, 1)) :
    ∃ T' h', Stand p l e R s m args below meth c T' (locs ++ [⟨a, j.toNatClampNeg⟩]) cells slots ∧ T'.heap = h' ∧ Wr h h' a j.toNatClampNeg (.long x) ∧ Arv Z h' a k .long n (vs.set i (.long x)) dv ∧ ∀ target, Steps p.tables e below (T'.setTop { g with pc := g.pc + 1, stack := rest }) target → Steps p.tables e below (T.setTop g) target := by
  obtain ⟨cl, A, q, S, N, H, Gf⟩ := V
  obtain ⟨T', h', X', e', W', st⟩ := stJ X hx hZ eT A (inb_of S hj) hg hs hd
  exact ⟨T', h', X', e', W', Arv.set A q S N H Gf rfl W' i hji hi, st⟩
theorem own_stC {x : Int32} (X : Stand p l e R s m args below meth c T locs cells slots) (hx : p.tables.exec = Jvm.exec) (hZ : Z.Warmed39 s.vm) (eT : T.heap = h) (V : Arv Z h a k .char n vs dv) (hj : ¬ j < 0 ∧ j < n) {i : Nat} (hji : j.toNatClampNeg = i) (hi : i < vs.length) (hg : g.method = m) (hs : g.stack = .int x :: .int j :: .ref a :: rest) (hd : decode c.code g.pc = .ok (.castore, 1)) :
    ∃ T' h', Stand p l e R s m args below meth c T' (locs ++ [⟨a, j.toNatClampNeg⟩]) cells slots ∧ T'.heap = h' ∧ Wr h h' a j.toNatClampNeg (.int (nar .char x)) ∧ Arv Z h' a k .char n (vs.set i (.int (nar .char x))) dv ∧ ∀ target, Steps p.tables e below (T'.setTop { g with pc := g.pc + 1, stack := rest }) target → Steps p.tables e below (T.setTop g) target := by
  obtain ⟨cl, A, q, S, N, H, Gf⟩ := V
  obtain ⟨T', h', X', e', W', st⟩ := stC X hx hZ eT A (inb_of S hj) hg hs hd
  exact ⟨T', h', X', e', W', Arv.set A q S N H Gf (fits_nar_char _) W' i hji hi, st⟩
theorem own_stB {x : Int32} (X : Stand p l e R s m args below meth c T locs cells slots) (hx : p.tables.exec = Jvm.exec) (hZ : Z.Warmed39 s.vm) (eT : T.heap = h) (V : Arv Z h a k .byte n vs dv) (hj : ¬ j < 0 ∧ j < n) {i : Nat} (hji : j.toNatClampNeg = i) (hi : i < vs.length) (hg : g.method = m) (hs : g.stack = .int x :: .int j :: .ref a :: rest) (hd : decode c.code g.pc = .ok (.bastore, 1)) :
    ∃ T' h', Stand p l e R s m args below meth c T' (locs ++ [⟨a, j.toNatClampNeg⟩]) cells slots ∧ T'.heap = h' ∧ Wr h h' a j.toNatClampNeg (.int (nar .byte x)) ∧ Arv Z h' a k .byte n (vs.set i (.int (nar .byte x))) dv ∧ ∀ target, Steps p.tables e below (T'.setTop { g with pc := g.pc + 1, stack := rest }) target → Steps p.tables e below (T.setTop g) target := by
  obtain ⟨cl, A, q, S, N, H, Gf⟩ := V
  obtain ⟨T', h', X', e', W', st⟩ := stB X hx hZ eT A (inb_of S hj) hg hs hd
  exact ⟨T', h', X', e', W', Arv.set A q S N H Gf (fits_nar_byte _) W' i hji hi, st⟩
theorem own_stR {K : String} (X : Stand p l e R s m args below meth c T locs cells slots) (hx : p.tables.exec = Jvm.exec) (hZ : Z.Warmed39 s.vm) (eT : T.heap = h) (V : Arv Z h a k (.object K) n vs dv) (hj : ¬ j < 0 ∧ j < n) {i : Nat} (hji : j.toNatClampNeg = i) (hi : i < vs.length) (hS : ∀ {cl : Cell}, Arr Z h a cl (.object K) → cl.cls = k → Sto Z h a v) (hg : g.method = m) (hs : g.stack = v :: .int j :: .ref a :: rest) (hd : decode c.code g.pc = .ok (.aastore, 1)) (hf : fits (.object K) v = true := by rfl) :
    ∃ T' h', Stand p l e R s m args below meth c T' (locs ++ [⟨a, j.toNatClampNeg⟩]) cells slots ∧ T'.heap = h' ∧ Wr h h' a j.toNatClampNeg v ∧ Arv Z h' a k (.object K) n (vs.set i v) dv ∧ ∀ target, Steps p.tables e below (T'.setTop { g with pc := g.pc + 1, stack := rest }) target → Steps p.tables e below (T.setTop g) target := by
  obtain ⟨cl, A, q, S, N, H, Gf⟩ := V
  obtain ⟨T', h', X', e', W', st⟩ := stR X hx hZ eT A (inb_of S hj) rfl (hS A q) hg hs hd
  exact ⟨T', h', X', e', W', Arv.set A q S N H Gf hf W' i hji hi, st⟩
end Arrays
end New
end Jvm.RoadKit
/- laws to paste: Road.backV, Road.eqW, Road.codOf (cut by pick.py; bodies as the Statement names them) -/
namespace Jvm.Pilot.@@N@@
namespace StrChars
open Jvm Sem ClassFile Op Lib Jvm.Stand Jvm.Free.XT Jvm.Free.ALB Jvm.Free.JM Jvm.Free
open Jvm.Lib.Cold (StaticIs)
/-- a char array whose places are chars -/
def Ch (a : Addr) (A : Cell) (U : State) : Prop := Arr .char a A U ∧ Typed .char A
theorem Ch.mv {a : Addr} {A : Cell} {U U' : State} (h : Ch a A U) (hal : U.vm.Alike U'.vm) (hh : U'.heap = U.heap) : Ch a A U' := ⟨h.1.mv hal hh, h.2⟩
theorem Ch.keep {a : Addr} {A : Cell} {U U' : State} (h : Ch a A U) (hal : U.vm.Alike U'.vm) (hk : U'.heap[a]? = some A) : Ch a A U' := ⟨h.1.keep hal hk, h.2⟩
/-- what place i of a char[]'s cell holds -/
def cv (A : Cell) (i : Nat) : Int32 := match A.slots[i]? with | some (.int x) => x | _ => 0
theorem Ch.get {a : Addr} {A : Cell} {U : State} (h : Ch a A U) {i : Nat} (hi : i < A.slots.size) : A.slots[i]? = some (.int (cv A i)) := by
  have e := Array.getElem?_eq_getElem hi
  have f := h.2 i _ e
  unfold cv; rw [e]
  generalize A.slots[i] = v at f
  cases v <;> simp [fits] at f ⊢
/-- the byte that i2b leaves of a char -/
def lo8 (x : Int32) : Int32 := x.toInt8.toInt32
theorem fits_lo8 (y : Int32) : fits .byte (.int (lo8 y)) = true := by
  have h1 := y.toInt8.le_toInt
  have h2 := y.toInt8.toInt_lt
  simp only [lo8, fits, Bool.and_eq_true, decide_eq_true_eq, Int32.le_iff_toInt_le, Int8.toInt_toInt32, show (-128 : Int32).toInt = -128 from by decide, show (127 : Int32).toInt = 127 from by decide]
  omega
/-- A' is A but that each place j of lo .. hi - 1 holds f j -/
def Laid (A A' : Cell) (lo hi : Nat) (f : Nat → Value) : Prop := A'.cls = A.cls ∧ A'.vm = A.vm ∧ A'.slots.size = A.slots.size ∧ ∀ i, A'.slots[i]? = if lo ≤ i ∧ i < hi then some (f i) else A.slots[i]?
theorem Laid.zero (A : Cell) (lo : Nat) (f : Nat → Value) : Laid A A lo (lo + 0) f := ⟨rfl, rfl, rfl, fun i => by rw [if_neg (by omega)]⟩
theorem Laid.step {A Ak : Cell} {lo k : Nat} {f : Nat → Value} {v : Value} (h : Laid A Ak lo k f) (hlo : lo ≤ k) (hk : k < Ak.slots.size) (hv : v = f k) : Laid A (Ak.setSlot k v) lo (k + 1) f := by
  refine ⟨h.1, h.2.1, by simpa [Cell.setSlot] using h.2.2.1, fun i => ?_⟩
  by_cases e : k = i
  · subst e; rw [Cell.slots_setSlot_self v hk, if_pos (by omega), hv]
  · rw [Cell.slots_setSlot_ne v e, h.2.2.2 i]
    by_cases q : lo ≤ i ∧ i < k
    · rw [if_pos q, if_pos (by omega)]
    · rw [if_neg q, if_neg (by omega)]
def U16 : String := "java/lang/StringUTF16"
namespace Cmp5
def yN : MethodName := ⟨"java/lang/StringUTF16", "compress", "([CI[BII)I"⟩
abbrev yB : ByteArray := jdk_52_method_21_code
theorem d0 : decode yB 0 = .ok (.iconst 0, 1) := by decide +kernel
theorem d1 : decode yB 1 = .ok (.istore 5, 2) := by decide +kernel
theorem d3 : decode yB 3 = .ok (.iload 5, 2) := by decide +kernel
theorem d5 : decode yB 5 = .ok (.iload 4, 2) := by decide +kernel
theorem d7 : decode yB 7 = .ok (.if_icmp (.ge) 37, 3) := by decide +kernel
theorem d10 : decode yB 10 = .ok (.aload_n 0, 1) := by decide +kernel
theorem d11 : decode yB 11 = .ok (.iload_n 1, 1) := by decide +kernel
theorem d12 : decode yB 12 = .ok (.caload, 1) := by decide +kernel
theorem d13 : decode yB 13 = .ok (.istore 6, 2) := by decide +kernel
theorem d15 : decode yB 15 = .ok (.iload 6, 2) := by decide +kernel
theorem d17 : decode yB 17 = .ok (.sipush 255, 3) := by decide +kernel
theorem d20 : decode yB 20 = .ok (.if_icmp (.le) 6, 3) := by decide +kernel
theorem d26 : decode yB 26 = .ok (.aload_n 2, 1) := by decide +kernel
theorem d27 : decode yB 27 = .ok (.iload_n 3, 1) := by decide +kernel
theorem d28 : decode yB 28 = .ok (.iload 6, 2) := by decide +kernel
theorem d30 : decode yB 30 = .ok (.i2b, 1) := by decide +kernel
theorem d31 : decode yB 31 = .ok (.bastore, 1) := by decide +kernel
theorem d32 : decode yB 32 = .ok (.iinc 1 1, 3) := by decide +kernel
theorem d35 : decode yB 35 = .ok (.iinc 3 1, 3) := by decide +kernel
theorem d38 : decode yB 38 = .ok (.iinc 5 1, 3) := by decide +kernel
theorem d41 : decode yB 41 = .ok (.goto (-38), 3) := by decide +kernel
theorem d44 : decode yB 44 = .ok (.iload 4, 2) := by decide +kernel
theorem d46 : decode yB 46 = .ok (.ireturn, 1) := by decide +kernel
def site : List Cond := []
def tab : Cond := tabOf yN yB 7 (some .int) site
def P (b : Addr) (A : Cell) (d : Addr) (B : Cell) (o q len : Nat) (args : Array Value) (s : State) : Prop := args = #[.ref b, .int (Int32.ofNat o), .ref d, .int (Int32.ofNat q), .int (Int32.ofNat len)] ∧ Ch b A s ∧ Arr .byte d B s ∧ b ≠ d ∧ o + len ≤ A.slots.size ∧ q + len ≤ B.slots.size ∧ ∀ i, i < len → ¬ 255 < cv A (o + i)
def E (b : Addr) (A : Cell) (d : Addr) (B : Cell) (o q len : Nat) (r : Option Value) (s u : State) : Prop := r = some (.int (Int32.ofNat len)) ∧ ∃ B', Put d B' s u ∧ Laid B B' q (q + len) (fun j => Value.int (lo8 (cv A (o + (j - q)))))
/-- no char of the range above 255: len; the places written hold each char's low byte -/
theorem law (l : Launch) (b : Addr) (A : Cell) (d : Addr) (B : Cell) (o q len : Nat) : Law l yN 5 5 0 0 yB 7 (some .int) site (P b A d B o q len) (E b A d B o q len) (copyLocs d q len) 0 0 := by
  refine Law.of_walk (plainFor_of_name (by decide +kernel)) (by decide +kernel) (by decide +kernel) (by decide) (fun _ _ h => by rw [h.1]; rfl) (fun _ U U' hal hh h => ⟨h.1, h.2.1.mv hal hh, h.2.2.1.mv hal hh, h.2.2.2⟩) (fun r U U' V V' h1 hal h2 h => ⟨h.1, h.2.elim fun B' q => ⟨B', q.1.mv h1 h2, q.2⟩⟩) ?_
  intro p e s m args below meth c s₁ X0 hexec hbytes hml hret hlk hnm hown hh0 W hP
  obtain ⟨rfl, hA, hB, hne, l1, l2, hp⟩ := hP
  have c1 : Steps p.tables e below (s₁.setTop (entryFrame m #[.ref b, .int (Int32.ofNat o), .ref d, .int (Int32.ofNat q), .int (Int32.ofNat len)] 7)) (s₁.setTop (mkF m 0 #[.val (.ref b), .val (.int (Int32.ofNat o)), .val (.ref d), .val (.int (Int32.ofNat q)), .val (.int (Int32.ofNat len)), .unset, .unset] [])) := entry rfl
  have hA0 := hA.1.mv X0.warmed.alike hh0
  have hB0 := hB.mv X0.warmed.alike hh0
  have a31 := hA.1.2.2.2
  have c2 : Steps p.tables e below (s₁.setTop (entryFrame m #[.ref b, .int (Int32.ofNat o), .ref d, .int (Int32.ofNat q), .int (Int32.ofNat len)] 7)) (s₁.setTop (mkF m 3 #[.val (.ref b), .val (.int (Int32.ofNat o)), .val (.ref d), .val (.int (Int32.ofNat q)), .val (.int (Int32.ofNat len)), .val (.int 0), .unset] [])) := c1.trans (by
    refine iconstV X0.here hexec rfl 0 (hb hbytes d0) (by decide) ?_
    refine XS.istore X0.here hexec rfl (hb hbytes d1) rfl rfl ?_
    exact Steps.refl _)
  have loop : ∀ (r i : Nat), i + r = len → ∀ (z : Slot), (z = .unset ∨ ∃ w, z = .val w ∧ w.category = 1) → ∀ (Tl : State) (Bk : Cell), Stand p l e { frames := 0, locals := 0, cells := 0, slots := 0 } s m #[.ref b, .int (Int32.ofNat o), .ref d, .int (Int32.ofNat q), .int (Int32.ofNat len)] below meth c Tl ([] ++ copyLocs d q i) 0 0 → Put d Bk s₁ Tl → Laid B Bk q (q + i) (fun j => Value.int (lo8 (cv A (o + (j - q))))) →
      Steps p.tables e below (s₁.setTop (entryFrame m #[.ref b, .int (Int32.ofNat o), .ref d, .int (Int32.ofNat q), .int (Int32.ofNat len)] 7)) (Tl.setTop (mkF m 3 #[.val (.ref b), .val (.int (Int32.ofNat (o + i))), .val (.ref d), .val (.int (Int32.ofNat (q + i))), .val (.int (Int32.ofNat len)), .val (.int (Int32.ofNat i)), z] [])) → ∃ (T' : State) (B' : Cell) (z' : Slot), Stand p l e { frames := 0, locals := 0, cells := 0, slots := 0 } s m #[.ref b, .int (Int32.ofNat o), .ref d, .int (Int32.ofNat q), .int (Int32.ofNat len)] below meth c T' ([] ++ copyLocs d q len) 0 0 ∧ Put d B' s₁ T' ∧ Laid B B' q (q + len) (fun j => Value.int (lo8 (cv A (o + (j - q))))) ∧
      Steps p.tables e below (s₁.setTop (entryFrame m #[.ref b, .int (Int32.ofNat o), .ref d, .int (Int32.ofNat q), .int (Int32.ofNat len)] 7)) (T'.setTop (mkF m 3 #[.val (.ref b), .val (.int (Int32.ofNat (o + len))), .val (.ref d), .val (.int (Int32.ofNat (q + len))), .val (.int (Int32.ofNat len)), .val (.int (Int32.ofNat len)), z'] [])) := by
    intro r
    induction r with
    | zero =>
      intro i hi z hz Tl Bk Xl pl fl cl
      have hil : i = len := by omega
      rw [hil] at Xl fl cl
      exact ⟨Tl, Bk, z, Xl, pl, fl, cl⟩
    | succ r ih =>
      intro i hi z hz Tl Bk Xl pl fl cl
      have all := X0.warmed.alike.symm.trans Xl.warmed.alike
      have hAl := hA0.keep all (pl.other hne hA0.1)
      have hBk := hB0.like all pl.1 fl.1 fl.2.1 fl.2.2.1
      have hlt : q + i < Bk.slots.size := by rw [fl.2.2.1]; omega
      have c3 : Steps p.tables e below (s₁.setTop (entryFrame m #[.ref b, .int (Int32.ofNat o), .ref d, .int (Int32.ofNat q), .int (Int32.ofNat len)] 7)) (Tl.setTop (mkF m 12 #[.val (.ref b), .val (.int (Int32.ofNat (o + i))), .val (.ref d), .val (.int (Int32.ofNat (q + i))), .val (.int (Int32.ofNat len)), .val (.int (Int32.ofNat i)), z] [.int (Int32.ofNat (o + i)), .ref b])) := cl.trans (by
        refine XS.iload Xl.here hexec rfl (hb hbytes d3) rfl ?_
        refine XS.iload Xl.here hexec rfl (hb hbytes d5) rfl ?_
        refine XS.icmpNo Xl.here hexec rfl (hb hbytes d7) rfl (ii_ge_f (lt32 (by omega) (by omega))) ?_
        refine XS.aloadN Xl.here hexec rfl (hb hbytes d10) rfl rfl ?_
        refine XS.iloadN Xl.here hexec rfl (hb hbytes d11) rfl ?_
        exact Steps.refl _)
      have c4 : Steps p.tables e below (s₁.setTop (entryFrame m #[.ref b, .int (Int32.ofNat o), .ref d, .int (Int32.ofNat q), .int (Int32.ofNat len)] 7)) (Tl.setTop (mkF m 13 #[.val (.ref b), .val (.int (Int32.ofNat (o + i))), .val (.ref d), .val (.int (Int32.ofNat (q + i))), .val (.int (Int32.ofNat len)), .val (.int (Int32.ofNat i)), z] [.int (cv A (o + i))])) := c3.trans (by
        refine Xl.aget hexec hAl rfl (hA.get (i := o + i) (by omega)) rfl rfl (hb hbytes d12) ?_
        exact Steps.refl _)
      have c5 : Steps p.tables e below (s₁.setTop (entryFrame m #[.ref b, .int (Int32.ofNat o), .ref d, .int (Int32.ofNat q), .int (Int32.ofNat len)] 7)) (Tl.setTop (mkF m 15 #[.val (.ref b), .val (.int (Int32.ofNat (o + i))), .val (.ref d), .val (.int (Int32.ofNat (q + i))), .val (.int (Int32.ofNat len)), .val (.int (Int32.ofNat i)), .val (.int (cv A (o + i)))] [])) := c4.trans (by
        refine XS.istoreS Xl.here hexec rfl (hb hbytes d13) rfl rfl hz ?_
        exact Steps.refl _)
      have c6 : Steps p.tables e below (s₁.setTop (entryFrame m #[.ref b, .int (Int32.ofNat o), .ref d, .int (Int32.ofNat q), .int (Int32.ofNat len)] 7)) (Tl.setTop (mkF m 31 #[.val (.ref b), .val (.int (Int32.ofNat (o + i))), .val (.ref d), .val (.int (Int32.ofNat (q + i))), .val (.int (Int32.ofNat len)), .val (.int (Int32.ofNat i)), .val (.int (cv A (o + i)))] [.int (lo8 (cv A (o + i))), .int (Int32.ofNat (q + i)), .ref d])) := c5.trans (by
        refine XS.iload Xl.here hexec rfl (hb hbytes d15) rfl ?_
        refine sipushV Xl.here hexec rfl 255 (hb hbytes d17) (by decide) ?_
        refine XS.icmpYes Xl.here hexec rfl (pc0 := 20) rfl (hb hbytes d20) rfl (ii_le_t (hp i (by omega))) (by decide) rfl ?_
        refine XS.aloadN Xl.here hexec rfl (hb hbytes d26) rfl rfl ?_
        refine XS.iloadN Xl.here hexec rfl (hb hbytes d27) rfl ?_
        refine XS.iload Xl.here hexec rfl (hb hbytes d28) rfl ?_
        refine i2b Xl.here hexec rfl (hb hbytes d30) rfl ?_
        exact Steps.refl _)
      obtain ⟨T7, X7, p7, st7⟩ := Xl.aput hexec hBk rfl hlt rfl (fits_lo8 (cv A (o + i))) (g := (mkF m 31 #[.val (.ref b), .val (.int (Int32.ofNat (o + i))), .val (.ref d), .val (.int (Int32.ofNat (q + i))), .val (.int (Int32.ofNat len)), .val (.int (Int32.ofNat i)), .val (.int (cv A (o + i)))] [.int (lo8 (cv A (o + i))), .int (Int32.ofNat (q + i)), .ref d])) rfl (rest := []) rfl (hb hbytes d31)
      have c8 : Steps p.tables e below (s₁.setTop (entryFrame m #[.ref b, .int (Int32.ofNat o), .ref d, .int (Int32.ofNat q), .int (Int32.ofNat len)] 7)) (T7.setTop (mkF m 32 #[.val (.ref b), .val (.int (Int32.ofNat (o + i))), .val (.ref d), .val (.int (Int32.ofNat (q + i))), .val (.int (Int32.ofNat len)), .val (.int (Int32.ofNat i)), .val (.int (cv A (o + i)))] [])) := c6.trans (st7 _ (Steps.refl _))
      have c9 : Steps p.tables e below (s₁.setTop (entryFrame m #[.ref b, .int (Int32.ofNat o), .ref d, .int (Int32.ofNat q), .int (Int32.ofNat len)] 7)) (T7.setTop (mkF m 3 #[.val (.ref b), .val (.int (Int32.ofNat (o + i) + 1)), .val (.ref d), .val (.int (Int32.ofNat (q + i) + 1)), .val (.int (Int32.ofNat len)), .val (.int (Int32.ofNat i + 1)), .val (.int (cv A (o + i)))] [])) := c8.trans (by
        refine iincV X7.here hexec rfl 1 (hb hbytes d32) (by decide) rfl rfl ?_
        refine iincV X7.here hexec rfl 1 (hb hbytes d35) (by decide) rfl rfl ?_
        refine iincV X7.here hexec rfl 1 (hb hbytes d38) (by decide) rfl rfl ?_
        refine XS.goto X7.here hexec rfl (pc0 := 41) rfl (hb hbytes d41) (by decide) rfl ?_
        exact Steps.refl _)
      have c10 : Steps p.tables e below (s₁.setTop (entryFrame m #[.ref b, .int (Int32.ofNat o), .ref d, .int (Int32.ofNat q), .int (Int32.ofNat len)] 7)) (T7.setTop (mkF m 3 #[.val (.ref b), .val (.int (Int32.ofNat (o + (i + 1)))), .val (.ref d), .val (.int (Int32.ofNat (q + (i + 1)))), .val (.int (Int32.ofNat len)), .val (.int (Int32.ofNat (i + 1))), .val (.int (cv A (o + i)))] [])) := by
        have := c9
        rw [succ32, succ32, succ32] at this
        exact this
      exact ih (i + 1) (by omega) _ (Or.inr ⟨_, rfl, rfl⟩) T7 _ (by rw [copyLocs_step, ← List.append_assoc]; exact X7) (pl.trans p7) (fl.step (by omega) hlt (by simp)) c10
  obtain ⟨T9, B9, z9, X9, p9, f9, g9⟩ := loop len 0 (by omega) .unset (Or.inl rfl) s₁ B (by simpa [copyLocs] using X0) ⟨hB0.1, fun _ _ => rfl, rfl⟩ (Laid.zero _ _ _) c2
  have c11 : Steps p.tables e below (s₁.setTop (entryFrame m #[.ref b, .int (Int32.ofNat o), .ref d, .int (Int32.ofNat q), .int (Int32.ofNat len)] 7)) (T9.setTop (mkF m 46 #[.val (.ref b), .val (.int (Int32.ofNat (o + len))), .val (.ref d), .val (.int (Int32.ofNat (q + len))), .val (.int (Int32.ofNat len)), .val (.int (Int32.ofNat len)), z9] [.int (Int32.ofNat len)])) := g9.trans (by
    refine XS.iload X9.here hexec rfl (hb hbytes d3) rfl ?_
    refine XS.iload X9.here hexec rfl (hb hbytes d5) rfl ?_
    refine XS.icmpYes X9.here hexec rfl (pc0 := 7) rfl (hb hbytes d7) rfl (ii_ge_t (nlt32 (by omega) (Nat.le_refl _))) (by decide) rfl ?_
    refine XS.iload X9.here hexec rfl (hb hbytes d44) rfl ?_
    exact Steps.refl _)
  exact ⟨T9, some (.int (Int32.ofNat len)), _, _, _, X9, by simp, rfl, rfl, (fun h => by cases h), ⟨rfl, B9, p9.from hh0, f9⟩, fun fs hl => c11.trans (X9.ireturnOut hexec hret rfl (Or.inl rfl) (hb hbytes d46) hl)⟩
end Cmp5
namespace Cmp3
def yN : MethodName := ⟨"java/lang/StringUTF16", "compress", "([CII)[B"⟩
abbrev yB : ByteArray := jdk_52_method_16_code
theorem d0 : decode yB 0 = .ok (.iload_n 2, 1) := by decide +kernel
theorem d1 : decode yB 1 = .ok (.newarray .byte, 2) := by decide +kernel
theorem d3 : decode yB 3 = .ok (.astore_n 3, 1) := by decide +kernel
theorem d4 : decode yB 4 = .ok (.aload_n 0, 1) := by decide +kernel
theorem d5 : decode yB 5 = .ok (.iload_n 1, 1) := by decide +kernel
theorem d6 : decode yB 6 = .ok (.aload_n 3, 1) := by decide +kernel
theorem d7 : decode yB 7 = .ok (.iconst 0, 1) := by decide +kernel
theorem d8 : decode yB 8 = .ok (.iload_n 2, 1) := by decide +kernel
theorem d9 : decode yB 9 = .ok (.invokestatic 115, 3) := by decide +kernel
theorem d12 : decode yB 12 = .ok (.istore 4, 2) := by decide +kernel
theorem d14 : decode yB 14 = .ok (.iload 4, 2) := by decide +kernel
theorem d16 : decode yB 16 = .ok (.iload_n 2, 1) := by decide +kernel
theorem d17 : decode yB 17 = .ok (.if_icmp (.eq) 40, 3) := by decide +kernel
theorem d57 : decode yB 57 = .ok (.aload_n 3, 1) := by decide +kernel
theorem d58 : decode yB 58 = .ok (.areturn, 1) := by decide +kernel
def site : List Cond := [.arrayClass .byte, Cmp5.tab] ++ staticW U16 115 Cmp5.yN
def tab : Cond := tabOf yN yB 6 (some (.array .byte)) site
def P (b : Addr) (A : Cell) (o len : Nat) (args : Array Value) (s : State) : Prop := args = #[.ref b, .int (Int32.ofNat o), .int (Int32.ofNat len)] ∧ Ch b A s ∧ o + len ≤ A.slots.size ∧ len ≤ 536870912 ∧ ∀ i, i < len → ¬ 255 < cv A (o + i)
def E (b : Addr) (A : Cell) (o len : Nat) (r : Option Value) (s u : State) : Prop := NewArr .byte "[B" len (fun j => .int (lo8 (cv A (o + j)))) r s u ∧ u.heap.size = s.heap.size + 1
/-- no char of the range above 255: a new byte[] of their low bytes -/
theorem law (l : Launch) (b : Addr) (A : Cell) (o len : Nat) : Law l yN 3 3 1 18 yB 6 (some (.array .byte)) site (P b A o len) (E b A o len) [] 1 len := by
  refine Law.of_walk (plainFor_of_name (by decide +kernel)) (by decide +kernel) (by decide +kernel) (by decide) (fun _ _ h => by rw [h.1]; rfl) (fun _ U U' hal hh h => ⟨h.1, h.2.1.mv hal hh, h.2.2⟩) (fun r U U' V V' h1 hal h2 h => ⟨NewArr.mv r U U' V V' h1 hal h2 h.1, by rw [h1, h2]; exact h.2⟩) ?_
  intro p e s m args below meth c s₁ X0 hexec hbytes hml hret hlk hnm hown hh0 W hP
  obtain ⟨rfl, hA, l1, l2, hp⟩ := hP
  have a31 := hA.1.2.2.2
  have c1 : Steps p.tables e below (s₁.setTop (entryFrame m #[.ref b, .int (Int32.ofNat o), .int (Int32.ofNat len)] 6)) (s₁.setTop (mkF m 0 #[.val (.ref b), .val (.int (Int32.ofNat o)), .val (.int (Int32.ofNat len)), .unset, .unset, .unset] [])) := entry rfl
  have c2 : Steps p.tables e below (s₁.setTop (entryFrame m #[.ref b, .int (Int32.ofNat o), .int (Int32.ofNat len)] 6)) (s₁.setTop (mkF m 1 #[.val (.ref b), .val (.int (Int32.ofNat o)), .val (.int (Int32.ofNat len)), .unset, .unset, .unset] [.int (Int32.ofNat len)])) := c1.trans (by
    refine XS.iloadN X0.here hexec rfl (hb hbytes d0) rfl ?_
    exact Steps.refl _)
  obtain ⟨T3, B3, X3, ba3, bs3, bv3, bh3, bf3, st3⟩ := X0.anew hexec (atype := .byte) (wk W (.arrayClass .byte)) rfl (by show len * 1 ≤ _; omega) (by omega) (g := (mkF m 1 #[.val (.ref b), .val (.int (Int32.ofNat o)), .val (.int (Int32.ofNat len)), .unset, .unset, .unset] [.int (Int32.ofNat len)])) rfl (hb hbytes d1) (rest := []) rfl (Nat.le_refl _) (by show 0 + len ≤ len; omega)
  rw [hh0] at ba3 st3
  have kp3 : XT.Kept s T3 := (XT.Kept.of_eq hh0).push bh3
  have hA3 := hA.keep X3.warmed.alike (kp3 _ _ hA.1.1)
  have hne : b ≠ s.heap.size := hA.1.ne
  have c4 : Steps p.tables e below (s₁.setTop (entryFrame m #[.ref b, .int (Int32.ofNat o), .int (Int32.ofNat len)] 6)) (T3.setTop (mkF m 3 #[.val (.ref b), .val (.int (Int32.ofNat o)), .val (.int (Int32.ofNat len)), .unset, .unset, .unset] [.ref s.heap.size])) := c2.trans (st3 _ (Steps.refl _))
  have c5 : Steps p.tables e below (s₁.setTop (entryFrame m #[.ref b, .int (Int32.ofNat o), .int (Int32.ofNat len)] 6)) (T3.setTop (mkF m 9 #[.val (.ref b), .val (.int (Int32.ofNat o)), .val (.int (Int32.ofNat len)), .val (.ref s.heap.size), .unset, .unset] [.int (Int32.ofNat len), .int 0, .ref s.heap.size, .int (Int32.ofNat o), .ref b])) := c4.trans (by
    refine XS.astoreN X3.here hexec rfl (hb hbytes d3) rfl rfl rfl ?_
    refine XS.aloadN X3.here hexec rfl (hb hbytes d4) rfl rfl ?_
    refine XS.iloadN X3.here hexec rfl (hb hbytes d5) rfl ?_
    refine XS.aloadN X3.here hexec rfl (hb hbytes d6) rfl rfl ?_
    refine iconstV X3.here hexec rfl 0 (hb hbytes d7) (by decide) ?_
    refine XS.iloadN X3.here hexec rfl (hb hbytes d8) rfl ?_
    exact Steps.refl _)
  obtain ⟨v6, T6, X6, E6, g6⟩ := X3.callS hexec (Cmp5.law l b A s.heap.size B3 o 0 len) hown (wks W (staticW U16 115 Cmp5.yN)) (wk W Cmp5.tab) (W := 0) (Nat.le_of_ble_eq_true rfl) (Nat.le_of_ble_eq_true rfl) (Nat.le_refl _) (by show 0 + len + 0 ≤ len; omega) (g := (mkF m 9 #[.val (.ref b), .val (.int (Int32.ofNat o)), .val (.int (Int32.ofNat len)), .val (.ref s.heap.size), .unset, .unset] [.int (Int32.ofNat len), .int (Int32.ofNat 0), .ref s.heap.size, .int (Int32.ofNat o), .ref b])) rfl (by rw [hml]; rfl) c5 (argsL := [.ref b, .int (Int32.ofNat o), .ref s.heap.size, .int (Int32.ofNat 0), .int (Int32.ofNat len)]) (rest := []) rfl rfl (by show 2 * 0 + 0 ≤ _; decide) (hb hbytes d9) (⟨rfl, hA3, ba3, hne, l1, by rw [bs3]; simp, hp⟩)
  obtain ⟨rfl, B6, p6, f6⟩ := E6
  have c7 : Steps p.tables e below (s₁.setTop (entryFrame m #[.ref b, .int (Int32.ofNat o), .int (Int32.ofNat len)] 6)) (T6.setTop (mkF m 12 #[.val (.ref b), .val (.int (Int32.ofNat o)), .val (.int (Int32.ofNat len)), .val (.ref s.heap.size), .unset, .unset] [.int (Int32.ofNat len)])) := g6
  have c8 : Steps p.tables e below (s₁.setTop (entryFrame m #[.ref b, .int (Int32.ofNat o), .int (Int32.ofNat len)] 6)) (T6.setTop (mkF m 58 #[.val (.ref b), .val (.int (Int32.ofNat o)), .val (.int (Int32.ofNat len)), .val (.ref s.heap.size), .val (.int (Int32.ofNat len)), .unset] [.ref s.heap.size])) := c7.trans (by
    refine XS.istore X6.here hexec rfl (hb hbytes d12) rfl rfl ?_
    refine XS.iload X6.here hexec rfl (hb hbytes d14) rfl ?_
    refine XS.iloadN X6.here hexec rfl (hb hbytes d16) rfl ?_
    refine XS.icmpYes X6.here hexec rfl (pc0 := 17) rfl (hb hbytes d17) rfl (ii_eq_t rfl) (by decide) rfl ?_
    refine XS.aloadN X6.here hexec rfl (hb hbytes d57) rfl rfl ?_
    exact Steps.refl _)
  have X8 := X6.wide (L' := []) (cells' := 1) (slots' := len) (fun x hx hlt => by
    simp only [List.nil_append, copyLocs, List.mem_map, List.mem_range] at hx
    obtain ⟨i, -, rfl⟩ := hx
    exact absurd hlt (Nat.lt_irrefl _)) (Nat.le_refl _) (by omega)
  exact ⟨T6, some (.ref s.heap.size), _, _, _, X8, rfl, rfl, rfl, (fun h => by cases h), ⟨⟨rfl, B6, ba3.like (X3.warmed.alike.symm.trans X6.warmed.alike) p6.1 f6.1 f6.2.1 f6.2.2.1, f6.2.1.trans bv3, by rw [X6.warmed.alike.findClass, f6.1]; exact bf3, by rw [f6.2.2.1, bs3]; simp, fun j hj => by rw [f6.2.2.2 j, if_pos (by omega)]; rfl, kp3.put p6 (Nat.le_refl _)⟩, by rw [p6.2.2, bh3, hh0]; simp⟩, fun fs hl => c8.trans (X8.areturnOut hexec rfl hret rfl (hb hbytes d58) hl)⟩
end Cmp3
namespace CodL
def yN : MethodName := ⟨"java/lang/StringUTF16", "coderFromArrayLen", "([BI)B"⟩
abbrev yB : ByteArray := jdk_52_method_15_code
theorem d0 : decode yB 0 = .ok (.iload_n 1, 1) := by decide +kernel
theorem d1 : decode yB 1 = .ok (.aload_n 0, 1) := by decide +kernel
theorem d2 : decode yB 2 = .ok (.arraylength, 1) := by decide +kernel
theorem d3 : decode yB 3 = .ok (.isub, 1) := by decide +kernel
theorem d4 : decode yB 4 = .ok (.bipush 31, 2) := by decide +kernel
theorem d6 : decode yB 6 = .ok (.iushr, 1) := by decide +kernel
theorem d7 : decode yB 7 = .ok (.i2b, 1) := by decide +kernel
theorem d8 : decode yB 8 = .ok (.ireturn, 1) := by decide +kernel
def site : List Cond := []
def tab : Cond := tabOf yN yB 2 (some .byte) site
def P (d : Addr) (B : Cell) (args : Array Value) (s : State) : Prop := args = #[.ref d, .int (Int32.ofNat B.slots.size)] ∧ Arr .byte d B s
def E (r : Option Value) (s u : State) : Prop := XT.PureE (some (.int 0)) r s u
/-- an array as long as the number of chars: LATIN1 -/
theorem law (l : Launch) (d : Addr) (B : Cell) : Law l yN 2 2 0 0 yB 2 (some .byte) site (P d B) E [] 0 0 := by
  refine Law.of_walk (plainFor_of_name (by decide +kernel)) (by decide +kernel) (by decide +kernel) (by decide) (fun _ _ h => by rw [h.1]; rfl) (fun _ U U' hal hh h => ⟨h.1, h.2.mv hal hh⟩) (fun r U U' V V' h1 hal h2 h => XT.PureE.mv r U U' V V' h1 hal h2 h) ?_
  intro p e s m args below meth c s₁ X0 hexec hbytes hml hret hlk hnm hown hh0 W hP
  obtain ⟨rfl, hB⟩ := hP
  have hB0 := hB.mv X0.warmed.alike hh0
  have c1 : Steps p.tables e below (s₁.setTop (entryFrame m #[.ref d, .int (Int32.ofNat B.slots.size)] 2)) (s₁.setTop (mkF m 0 #[.val (.ref d), .val (.int (Int32.ofNat B.slots.size))] [])) := entry rfl
  have c2 : Steps p.tables e below (s₁.setTop (entryFrame m #[.ref d, .int (Int32.ofNat B.slots.size)] 2)) (s₁.setTop (mkF m 2 #[.val (.ref d), .val (.int (Int32.ofNat B.slots.size))] [.ref d, .int (Int32.ofNat B.slots.size)])) := c1.trans (by
    refine XS.iloadN X0.here hexec rfl (hb hbytes d0) rfl ?_
    refine XS.aloadN X0.here hexec rfl (hb hbytes d1) rfl rfl ?_
    exact Steps.refl _)
  have c3 : Steps p.tables e below (s₁.setTop (entryFrame m #[.ref d, .int (Int32.ofNat B.slots.size)] 2)) (s₁.setTop (mkF m 8 #[.val (.ref d), .val (.int (Int32.ofNat B.slots.size))] [.int (lo8 (ushr (Int32.ofNat B.slots.size - Int32.ofNat B.slots.size) 31))])) := c2.trans (by
    refine X0.alen hexec hB0 rfl rfl (hb hbytes d2) ?_
    refine XS.isub X0.here hexec rfl (hb hbytes d3) rfl ?_
    refine bipushV X0.here hexec rfl 31 (hb hbytes d4) (by decide) ?_
    refine iushr X0.here hexec rfl (hb hbytes d6) rfl ?_
    refine i2b X0.here hexec rfl (hb hbytes d7) rfl ?_
    exact Steps.refl _)
  have e0 : lo8 (ushr (Int32.ofNat B.slots.size - Int32.ofNat B.slots.size) 31) = 0 := by rw [Int32.sub_self]; decide
  rw [e0] at c3
  exact ⟨s₁, some (.int 0), _, _, _, X0, rfl, rfl, rfl, (fun h => by cases h), ⟨rfl, hh0⟩, fun fs hl => c3.trans (X0.ireturnOut hexec hret rfl (Or.inr (Or.inr (Or.inl rfl))) (hb hbytes d8) hl)⟩
end CodL
/-- the String at a is Latin-1 over a new byte[] (the heap's one new cell): the low bytes of the len chars of A from o on; every cell but a is kept -/
def Got (a : Addr) (D : Cell) (fV fC : Field) (A : Cell) (o len : Nat) (r : Option Value) (s u : State) : Prop := r = none ∧ ∃ D' V : Cell, Blank "java/lang/String" a D' u ∧ Same D D' [fV.slot, fC.slot] ∧ D'.slots[fV.slot]? = some (.ref s.heap.size) ∧ D'.slots[fC.slot]? = some (.int 0) ∧ Arr .byte s.heap.size V u ∧ V.vm = .none ∧ u.vm.findClass "[B" = some V.cls ∧ V.slots.size = len ∧ (∀ j, j < len → V.slots[j]? = some (.int (lo8 (cv A (o + j))))) ∧ (∀ (y : Addr) (c : Cell), y ≠ a → s.heap[y]? = some c → u.heap[y]? = some c) ∧ u.heap.size = s.heap.size + 1
theorem Got.mv {a : Addr} {D A : Cell} {fV fC : Field} {o len : Nat} : ∀ r (U U' V V' : State), U'.heap = U.heap → V.vm.Alike V'.vm → V'.heap = V.heap → Got a D fV fC A o len r U V → Got a D fV fC A o len r U' V' :=
  fun r U U' V V' h1 hal h2 ⟨e0, D', X, a1, a2, a3, a4, a5, a6, a7, a8, a9, a10, a11⟩ => ⟨e0, D', X, a1.mv hal h2, a2, by rw [h1]; exact a3, a4, by rw [h1]; exact a5.mv hal h2, a6, by rw [hal.findClass]; exact a7, a8, a9, by rw [h1, h2]; exact a10, by rw [h1, h2]; exact a11⟩
namespace New4
def yN : MethodName := ⟨"java/lang/String", "<init>", "([CIILjava/lang/Void;)V"⟩
abbrev yB : ByteArray := jdk_42_method_149_code
theorem d0 : decode yB 0 = .ok (.aload_n 0, 1) := by decide +kernel
theorem d1 : decode yB 1 = .ok (.invokespecial 1, 3) := by decide +kernel
theorem d4 : decode yB 4 = .ok (.iload_n 3, 1) := by decide +kernel
theorem d5 : decode yB 5 = .ok (.ifCond (.ne) 22, 3) := by decide +kernel
theorem d27 : decode yB 27 = .ok (.getstatic 38, 3) := by decide +kernel
theorem d30 : decode yB 30 = .ok (.ifCond (.eq) 28, 3) := by decide +kernel
theorem d33 : decode yB 33 = .ok (.aload_n 1, 1) := by decide +kernel
theorem d34 : decode yB 34 = .ok (.iload_n 2, 1) := by decide +kernel
theorem d35 : decode yB 35 = .ok (.iload_n 3, 1) := by decide +kernel
theorem d36 : decode yB 36 = .ok (.invokestatic 177, 3) := by decide +kernel
theorem d39 : decode yB 39 = .ok (.astore 5, 2) := by decide +kernel
theorem d41 : decode yB 41 = .ok (.aload_n 0, 1) := by decide +kernel
theorem d42 : decode yB 42 = .ok (.aload 5, 2) := by decide +kernel
theorem d44 : decode yB 44 = .ok (.iload_n 3, 1) := by decide +kernel
theorem d45 : decode yB 45 = .ok (.invokestatic 47, 3) := by decide +kernel
theorem d48 : decode yB 48 = .ok (.putfield 15, 3) := by decide +kernel
theorem d51 : decode yB 51 = .ok (.aload_n 0, 1) := by decide +kernel
theorem d52 : decode yB 52 = .ok (.aload 5, 2) := by decide +kernel
theorem d54 : decode yB 54 = .ok (.putfield 9, 3) := by decide +kernel
theorem d57 : decode yB 57 = .ok (.return_, 1) := by decide +kernel
def site : List Cond := [.fieldLink "java/lang/String" 38 "java/lang/String" "COMPACT_STRINGS" "Z", Cmp3.tab, CodL.tab, .laysFinal "java/lang/String" "java/lang/String" "value" "[B", .fieldLink "java/lang/String" 9 "java/lang/String" "value" "[B", .laysFinal "java/lang/String" "java/lang/String" "coder" "B", .fieldLink "java/lang/String" 15 "java/lang/String" "coder" "B"] ++ objW "java/lang/String" 1 ++ staticW "java/lang/String" 177 Cmp3.yN ++ staticW "java/lang/String" 47 CodL.yN
def tab : Cond := tabOf yN yB 6 none site
def P (a : Addr) (D : Cell) (fV fC : Field) (b : Addr) (A : Cell) (z : Int32) (o len : Nat) (args : Array Value) (s : State) : Prop := args = #[.ref a, .ref b, .int (Int32.ofNat o), .int (Int32.ofNat len), .null] ∧ Blank "java/lang/String" a D s ∧ Found "java/lang/String" "value" "[B" fV s ∧ Found "java/lang/String" "coder" "B" fC s ∧ Ch b A s ∧ StaticIs s "java/lang/String" "COMPACT_STRINGS" "Z" (.int z) ∧ ¬ z = 0 ∧ 0 < len ∧ o + len ≤ A.slots.size ∧ len ≤ 536870912 ∧ ∀ i, i < len → ¬ 255 < cv A (o + i)
def E (a : Addr) (D : Cell) (fV fC : Field) (A : Cell) (o len : Nat) (r : Option Value) (s u : State) : Prop := Got a D fV fC A o len r s u
/-- len > 0, no char of the range above 255: a Latin-1 String of their low bytes -/
theorem law (l : Launch) (a : Addr) (D : Cell) (fV fC : Field) (b : Addr) (A : Cell) (z : Int32) (o len : Nat) : Law l yN 5 4 2 35 yB 6 none site (P a D fV fC b A z o len) (E a D fV fC A o len) [⟨a, fC.slot⟩, ⟨a, fV.slot⟩] 1 len := by
  refine Law.of_walk (plainFor_of_name (by decide +kernel)) (by decide +kernel) (by decide +kernel) (by decide) (fun _ _ h => by rw [h.1]; rfl) (fun _ U U' hal hh h => ⟨h.1, h.2.1.mv hal hh, h.2.2.1.al hal, h.2.2.2.1.al hal, h.2.2.2.2.1.mv hal hh, h.2.2.2.2.2.1.there hal hh, h.2.2.2.2.2.2⟩) (fun r U U' V V' h1 hal h2 h => Got.mv r U U' V V' h1 hal h2 h) ?_
  intro p e s m args below meth c s₁ X0 hexec hbytes hml hret hlk hnm hown hh0 W hP
  obtain ⟨rfl, hB, f1, f2, hA, s1, hz, l0, l1, l2, hp⟩ := hP
  have a31 := hA.1.2.2.2
  have c1 : Steps p.tables e below (s₁.setTop (entryFrame m #[.ref a, .ref b, .int (Int32.ofNat o), .int (Int32.ofNat len), .null] 6)) (s₁.setTop (mkF m 0 #[.val (.ref a), .val (.ref b), .val (.int (Int32.ofNat o)), .val (.int (Int32.ofNat len)), .val .null, .unset] [])) := entry rfl
  have c2 : Steps p.tables e below (s₁.setTop (entryFrame m #[.ref a, .ref b, .int (Int32.ofNat o), .int (Int32.ofNat len), .null] 6)) (s₁.setTop (mkF m 1 #[.val (.ref a), .val (.ref b), .val (.int (Int32.ofNat o)), .val (.int (Int32.ofNat len)), .val .null, .unset] [.ref a])) := c1.trans (by
    refine XS.aloadN X0.here hexec rfl (hb hbytes d0) rfl rfl ?_
    exact Steps.refl _)
  obtain ⟨T3, X3, q3, st3⟩ := X0.oinit hexec hown (wks W (objW "java/lang/String" 1)) (g := (mkF m 1 #[.val (.ref a), .val (.ref b), .val (.int (Int32.ofNat o)), .val (.int (Int32.ofNat len)), .val .null, .unset] [.ref a])) rfl (by rw [hml]; rfl) (rest := []) rfl (hb hbytes d1) (W := 0) (by show 2 * 0 + 0 ≤ _; decide) (Nat.le_of_ble_eq_true rfl) (Nat.le_of_ble_eq_true rfl)
  have hh3 := q3.trans hh0
  have c4 : Steps p.tables e below (s₁.setTop (entryFrame m #[.ref a, .ref b, .int (Int32.ofNat o), .int (Int32.ofNat len), .null] 6)) (T3.setTop (mkF m 27 #[.val (.ref a), .val (.ref b), .val (.int (Int32.ofNat o)), .val (.int (Int32.ofNat len)), .val .null, .unset] [])) := (c2.trans (st3 _ (Steps.refl _))).trans (by
    refine XS.iloadN X3.here hexec rfl (hb hbytes d4) rfl ?_
    refine XS.ifYes X3.here hexec rfl (pc0 := 5) rfl (hb hbytes d5) rfl (i0_ne_t (nz32 (by omega) l0)) (by decide) rfl ?_
    exact Steps.refl _)
  obtain ⟨T5, X5, q5, st5⟩ := X3.sget hexec hown (wk W (.fieldLink "java/lang/String" 38 "java/lang/String" "COMPACT_STRINGS" "Z")) s1 (fun _ _ h => by rw [hh3]; exact h) (g := (mkF m 27 #[.val (.ref a), .val (.ref b), .val (.int (Int32.ofNat o)), .val (.int (Int32.ofNat len)), .val .null, .unset] [])) rfl (hb hbytes d27)
  have hh5 := q5.trans hh3
  have c6 : Steps p.tables e below (s₁.setTop (entryFrame m #[.ref a, .ref b, .int (Int32.ofNat o), .int (Int32.ofNat len), .null] 6)) (T5.setTop (mkF m 30 #[.val (.ref a), .val (.ref b), .val (.int (Int32.ofNat o)), .val (.int (Int32.ofNat len)), .val .null, .unset] [.int z])) := c4.trans (st5 _ (Steps.refl _))
  have c7 : Steps p.tables e below (s₁.setTop (entryFrame m #[.ref a, .ref b, .int (Int32.ofNat o), .int (Int32.ofNat len), .null] 6)) (T5.setTop (mkF m 36 #[.val (.ref a), .val (.ref b), .val (.int (Int32.ofNat o)), .val (.int (Int32.ofNat len)), .val .null, .unset] [.int (Int32.ofNat len), .int (Int32.ofNat o), .ref b])) := c6.trans (by
    refine XS.ifNo X5.here hexec rfl (hb hbytes d30) rfl (i0_eq_f hz) ?_
    refine XS.aloadN X5.here hexec rfl (hb hbytes d33) rfl rfl ?_
    refine XS.iloadN X5.here hexec rfl (hb hbytes d34) rfl ?_
    refine XS.iloadN X5.here hexec rfl (hb hbytes d35) rfl ?_
    exact Steps.refl _)
  obtain ⟨v8, T8, X8, E8, g8⟩ := X5.callS hexec (Cmp3.law l b A o len) hown (wks W (staticW "java/lang/String" 177 Cmp3.yN)) (wk W Cmp3.tab) (W := 0) (Nat.le_of_ble_eq_true rfl) (Nat.le_of_ble_eq_true rfl) (Nat.le_refl _) (by show 0 + len ≤ len; omega) (g := (mkF m 36 #[.val (.ref a), .val (.ref b), .val (.int (Int32.ofNat o)), .val (.int (Int32.ofNat len)), .val .null, .unset] [.int (Int32.ofNat len), .int (Int32.ofNat o), .ref b])) rfl (by rw [hml]; rfl) c7 (argsL := [.ref b, .int (Int32.ofNat o), .int (Int32.ofNat len)]) (rest := []) rfl rfl (by show 2 * 0 + 0 ≤ _; decide) (hb hbytes d36) (⟨rfl, hA.mv X5.warmed.alike hh5, l1, l2, hp⟩)
  obtain ⟨e8, z8⟩ := E8
  obtain ⟨rfl, N, n1, n2, n3, n4, n5, n6⟩ := NewArr.mv _ T5 s _ _ hh5.symm (Vm.Alike.refl _) rfl e8
  rw [hh5] at z8
  have hB1 := hB.keep X8.warmed.alike (n6 _ _ hB.1)
  have hne : s.heap.size ≠ a := (Nat.ne_of_lt (Array.getElem?_eq_some_iff.mp hB.1).1).symm
  have c9 : Steps p.tables e below (s₁.setTop (entryFrame m #[.ref a, .ref b, .int (Int32.ofNat o), .int (Int32.ofNat len), .null] 6)) (T8.setTop (mkF m 39 #[.val (.ref a), .val (.ref b), .val (.int (Int32.ofNat o)), .val (.int (Int32.ofNat len)), .val .null, .unset] [.ref s.heap.size])) := g8
  have c10 : Steps p.tables e below (s₁.setTop (entryFrame m #[.ref a, .ref b, .int (Int32.ofNat o), .int (Int32.ofNat len), .null] 6)) (T8.setTop (mkF m 45 #[.val (.ref a), .val (.ref b), .val (.int (Int32.ofNat o)), .val (.int (Int32.ofNat len)), .val .null, .val (.ref s.heap.size)] [.int (Int32.ofNat N.slots.size), .ref s.heap.size, .ref a])) := by
    have hc : Steps p.tables e below (s₁.setTop (entryFrame m #[.ref a, .ref b, .int (Int32.ofNat o), .int (Int32.ofNat len), .null] 6)) (T8.setTop (mkF m 45 #[.val (.ref a), .val (.ref b), .val (.int (Int32.ofNat o)), .val (.int (Int32.ofNat len)), .val .null, .val (.ref s.heap.size)] [.int (Int32.ofNat len), .ref s.heap.size, .ref a])) := c9.trans (by
      refine XS.astore X8.here hexec rfl (hb hbytes d39) rfl rfl rfl ?_
      refine XS.aloadN X8.here hexec rfl (hb hbytes d41) rfl rfl ?_
      refine XS.aload X8.here hexec rfl (hb hbytes d42) rfl rfl ?_
      refine XS.iloadN X8.here hexec rfl (hb hbytes d44) rfl ?_
      exact Steps.refl _)
    rw [n4]; exact hc
  obtain ⟨v11, T11, X11, E11, g11⟩ := X8.callS hexec (CodL.law l s.heap.size N) hown (wks W (staticW "java/lang/String" 47 CodL.yN)) (wk W CodL.tab) (W := 1) (Nat.le_of_ble_eq_true rfl) (Nat.le_of_ble_eq_true rfl) (Nat.le_refl _) (by show 0 + len + 0 ≤ len; omega) (g := (mkF m 45 #[.val (.ref a), .val (.ref b), .val (.int (Int32.ofNat o)), .val (.int (Int32.ofNat len)), .val .null, .val (.ref s.heap.size)] [.int (Int32.ofNat N.slots.size), .ref s.heap.size, .ref a])) rfl (by rw [hml]; rfl) c10 (argsL := [.ref s.heap.size, .int (Int32.ofNat N.slots.size)]) (rest := [.ref a]) rfl rfl (by show 2 * 0 + (1 + 0) ≤ _; decide) (hb hbytes d45) (⟨rfl, n1⟩)
  obtain ⟨rfl, q11⟩ := E11
  have hB11 := hB1.mv (X8.warmed.alike.symm.trans X11.warmed.alike) q11
  have c12 : Steps p.tables e below (s₁.setTop (entryFrame m #[.ref a, .ref b, .int (Int32.ofNat o), .int (Int32.ofNat len), .null] 6)) (T11.setTop (mkF m 48 #[.val (.ref a), .val (.ref b), .val (.int (Int32.ofNat o)), .val (.int (Int32.ofNat len)), .val .null, .val (.ref s.heap.size)] [.int 0, .ref a])) := g11
  obtain ⟨T13, X13, p13, bl13, sl13, st13⟩ := X11.finit hexec hown (wk W (.fieldLink "java/lang/String" 15 "java/lang/String" "coder" "B")) (Or.inr ⟨_, (wk W (.laysFinal "java/lang/String" "java/lang/String" "coder" "B"))⟩) (Or.inl ⟨rfl, hnm⟩) f2 (Or.inl rfl) hB11 (t := .byte) (by decide +kernel) rfl (g := (mkF m 48 #[.val (.ref a), .val (.ref b), .val (.int (Int32.ofNat o)), .val (.int (Int32.ofNat len)), .val .null, .val (.ref s.heap.size)] [.int 0, .ref a])) rfl (rest := []) rfl (hb hbytes d48)
  have c14 : Steps p.tables e below (s₁.setTop (entryFrame m #[.ref a, .ref b, .int (Int32.ofNat o), .int (Int32.ofNat len), .null] 6)) (T13.setTop (mkF m 54 #[.val (.ref a), .val (.ref b), .val (.int (Int32.ofNat o)), .val (.int (Int32.ofNat len)), .val .null, .val (.ref s.heap.size)] [.ref s.heap.size, .ref a])) := (c12.trans (st13 _ (Steps.refl _))).trans (by
    refine XS.aloadN X13.here hexec rfl (hb hbytes d51) rfl rfl ?_
    refine XS.aload X13.here hexec rfl (hb hbytes d52) rfl rfl ?_
    exact Steps.refl _)
  obtain ⟨T15, X15, p15, bl15, sl15, st15⟩ := X13.finit hexec hown (wk W (.fieldLink "java/lang/String" 9 "java/lang/String" "value" "[B")) (Or.inr ⟨_, (wk W (.laysFinal "java/lang/String" "java/lang/String" "value" "[B"))⟩) (Or.inl ⟨rfl, hnm⟩) f1 (Or.inl rfl) bl13 (t := (.array .byte)) (by decide +kernel) rfl (g := (mkF m 54 #[.val (.ref a), .val (.ref b), .val (.int (Int32.ofNat o)), .val (.int (Int32.ofNat len)), .val .null, .val (.ref s.heap.size)] [.ref s.heap.size, .ref a])) rfl (rest := []) rfl (hb hbytes d54)
  have c16 : Steps p.tables e below (s₁.setTop (entryFrame m #[.ref a, .ref b, .int (Int32.ofNat o), .int (Int32.ofNat len), .null] 6)) (T15.setTop (mkF m 57 #[.val (.ref a), .val (.ref b), .val (.int (Int32.ofNat o)), .val (.int (Int32.ofNat len)), .val .null, .val (.ref s.heap.size)] [])) := c14.trans (st15 _ (Steps.refl _))
  have ap := apart (Or.inr ⟨_, (wk W (.laysFinal "java/lang/String" "java/lang/String" "value" "[B"))⟩) (Or.inr ⟨_, (wk W (.laysFinal "java/lang/String" "java/lang/String" "coder" "B"))⟩) f1 f2 (t₁ := .array .byte) (t₂ := .byte) (by decide +kernel) (by decide +kernel) (by decide)
  have al := X8.warmed.alike.symm.trans X15.warmed.alike
  have n7 : T11.heap[s.heap.size]? = some N := by rw [q11]; exact n1.1
  exact ⟨T15, none, _, _, _, X15, by simp, rfl, by omega, (fun _ => rfl), ⟨rfl, _, N, bl15, ((Same.refl D _).set _ (by simp)).set _ (by simp), sl15, (Cell.slots_setSlot_ne _ ap).trans sl13, n1.keep al (p15.other hne (p13.other hne n7)), n2, by rw [al.findClass]; exact n3, n4, n5, fun y c h1 h2 => p15.other h1 (p13.other h1 (by rw [q11]; exact n6 y c h2)), by rw [p15.2.2, p13.2.2, q11]; exact z8⟩, fun fs hl => c16.trans (X15.returnOut hexec hret (hb hbytes d57) hl)⟩
end New4
namespace New1
def yN : MethodName := ⟨"java/lang/String", "<init>", "([C)V"⟩
abbrev yB : ByteArray := jdk_42_method_3_code
theorem d0 : decode yB 0 = .ok (.aload_n 0, 1) := by decide +kernel
theorem d1 : decode yB 1 = .ok (.aload_n 1, 1) := by decide +kernel
theorem d2 : decode yB 2 = .ok (.iconst 0, 1) := by decide +kernel
theorem d3 : decode yB 3 = .ok (.aload_n 1, 1) := by decide +kernel
theorem d4 : decode yB 4 = .ok (.arraylength, 1) := by decide +kernel
theorem d5 : decode yB 5 = .ok (.aconst_null, 1) := by decide +kernel
theorem d6 : decode yB 6 = .ok (.invokespecial 27, 3) := by decide +kernel
theorem d9 : decode yB 9 = .ok (.return_, 1) := by decide +kernel
def site : List Cond := [New4.tab] ++ initW "java/lang/String" 27 New4.yN
def tab : Cond := tabOf yN yB 2 none site
def P (a : Addr) (D : Cell) (fV fC : Field) (b : Addr) (A : Cell) (z : Int32) (args : Array Value) (s : State) : Prop := args = #[.ref a, .ref b] ∧ Blank "java/lang/String" a D s ∧ Found "java/lang/String" "value" "[B" fV s ∧ Found "java/lang/String" "coder" "B" fC s ∧ Ch b A s ∧ StaticIs s "java/lang/String" "COMPACT_STRINGS" "Z" (.int z) ∧ ¬ z = 0 ∧ 0 < A.slots.size ∧ A.slots.size ≤ 536870912 ∧ ∀ i, i < A.slots.size → ¬ 255 < cv A i
def E (a : Addr) (D : Cell) (fV fC : Field) (A : Cell) (r : Option Value) (s u : State) : Prop := Got a D fV fC A 0 A.slots.size r s u
/-- new String(chars), not empty, no char above 255: a Latin-1 String of their low bytes -/
theorem law (l : Launch) (a : Addr) (D : Cell) (fV fC : Field) (b : Addr) (A : Cell) (z : Int32) : Law l yN 2 1 3 52 yB 2 none site (P a D fV fC b A z) (E a D fV fC A) [⟨a, fC.slot⟩, ⟨a, fV.slot⟩] 1 A.slots.size := by
  refine Law.of_walk (plainFor_of_name (by decide +kernel)) (by decide +kernel) (by decide +kernel) (by decide) (fun _ _ h => by rw [h.1]; rfl) (fun _ U U' hal hh h => ⟨h.1, h.2.1.mv hal hh, h.2.2.1.al hal, h.2.2.2.1.al hal, h.2.2.2.2.1.mv hal hh, h.2.2.2.2.2.1.there hal hh, h.2.2.2.2.2.2⟩) (fun r U U' V V' h1 hal h2 h => Got.mv r U U' V V' h1 hal h2 h) ?_
  intro p e s m args below meth c s₁ X0 hexec hbytes hml hret hlk hnm hown hh0 W hP
  obtain ⟨rfl, hB, f1, f2, hA, s1, hz, l0, l2, hp⟩ := hP
  have c1 : Steps p.tables e below (s₁.setTop (entryFrame m #[.ref a, .ref b] 2)) (s₁.setTop (mkF m 0 #[.val (.ref a), .val (.ref b)] [])) := entry rfl
  have c2 : Steps p.tables e below (s₁.setTop (entryFrame m #[.ref a, .ref b] 2)) (s₁.setTop (mkF m 6 #[.val (.ref a), .val (.ref b)] [.null, .int (Int32.ofNat A.slots.size), .int 0, .ref b, .ref a])) := c1.trans (by
    refine XS.aloadN X0.here hexec rfl (hb hbytes d0) rfl rfl ?_
    refine XS.aloadN X0.here hexec rfl (hb hbytes d1) rfl rfl ?_
    refine iconstV X0.here hexec rfl 0 (hb hbytes d2) (by decide) ?_
    refine XS.aloadN X0.here hexec rfl (hb hbytes d3) rfl rfl ?_
    refine X0.alen hexec (hA.1.mv X0.warmed.alike hh0) rfl rfl (hb hbytes d4) ?_
    refine XS.aconstNull X0.here hexec rfl (hb hbytes d5) ?_
    exact Steps.refl _)
  obtain ⟨v3, T3, X3, E3, g3⟩ := X0.callN hexec (New4.law l a D fV fC b A z 0 A.slots.size) rfl hown (wks W (initW "java/lang/String" 27 New4.yN)) (W New4.tab (by simp only [site, List.mem_cons, List.mem_append, true_or, or_true])) (W := 0) (Nat.le_of_ble_eq_true rfl) (Nat.le_of_ble_eq_true rfl) (Nat.le_refl _) (by show 0 + A.slots.size ≤ A.slots.size; omega) (g := (mkF m 6 #[.val (.ref a), .val (.ref b)] [.null, .int (Int32.ofNat A.slots.size), .int (Int32.ofNat 0), .ref b, .ref a])) rfl (by rw [hml]; rfl) c2 (argsL := [.ref b, .int (Int32.ofNat 0), .int (Int32.ofNat A.slots.size), .null]) (rest := []) rfl rfl (by show 2 * 0 + 0 ≤ _; decide) (hb hbytes d6) (⟨rfl, hB.mv X0.warmed.alike hh0, f1.al X0.warmed.alike, f2.al X0.warmed.alike, hA.mv X0.warmed.alike hh0, s1.there X0.warmed.alike hh0, hz, l0, by omega, l2, fun i hi => by rw [Nat.zero_add]; exact hp i hi⟩)
  have e0 := Got.mv _ s₁ s _ _ hh0.symm (Vm.Alike.refl _) rfl E3
  obtain rfl := e0.1
  have c4 : Steps p.tables e below (s₁.setTop (entryFrame m #[.ref a, .ref b] 2)) (T3.setTop (mkF m 9 #[.val (.ref a), .val (.ref b)] [])) := g3
  exact ⟨T3, none, _, _, _, X3, by simp, rfl, by omega, (fun _ => rfl), e0, fun fs hl => c4.trans (X3.returnOut hexec hret (hb hbytes d9) hl)⟩
theorem pays {l : Launch} {R : Room} {p : Program} {e : Env} {below : List Frame} {s : State} {sargs : Array Value} {len W : Nat} (a : Addr) (D : Cell) (fV fC : Field) (b : Addr) (A : Cell) (z : Int32) (htab : tab.before sargs s = true) (hfr : 4 ≤ R.frames) (hlo : W + 65 ≤ R.locals) :
    Back l R p e below s sargs yN len W (fun A₁ a₁ => A₁.cells + 1 ≤ R.cells ∧ A₁.slots + A.slots.size ≤ R.slots ∧ P a D fV fC b A z a₁ A₁.U) (fun A₁ _ v₁ B₁ => E a D fV fC A v₁ A₁.U B₁.U ∧ B₁.locs = A₁.locs ++ [⟨a, fC.slot⟩, ⟨a, fV.slot⟩] ∧ B₁.cells = A₁.cells + 1 ∧ B₁.slots = A₁.slots + A.slots.size) :=
  (law l a D fV fC b A z).pays htab hfr (by omega)
end New1
/-- the byte, read back as charAt reads it, is the char -/
theorem lo8_mask {x : Int32} (h0 : ¬ x < 0) (h1 : ¬ 255 < x) : lo8 x &&& 255 = x := by
  have t : ∀ k : Fin 256, lo8 (Int32.ofNat k.val) &&& 255 = Int32.ofNat k.val := by decide +kernel
  rw [Int32.lt_iff_toInt_lt] at h0 h1
  have e0 : (0 : Int32).toInt = 0 := rfl
  have e1 : (255 : Int32).toInt = 255 := rfl
  obtain ⟨k, hk⟩ : ∃ k : Nat, x.toInt = k := ⟨x.toInt.toNat, by omega⟩
  have hx : x = Int32.ofNat k := Int32.toInt_inj.mp (by rw [hk, Int32.toInt_ofNat_small (by omega)])
  rw [hx]
  exact t ⟨k, by omega⟩
end StrChars
namespace StrChars.Road
open Jvm Sem ClassFile Op Lib Jvm.Stand Jvm.Free Jvm.Free.XT
open Jvm.Lib.Cold (StaticIs)
abbrev ST : String := "java/lang/String"
/-- every table word that New1's law asks, flat -/
abbrev words : List Jvm.Cond := [.code New1.yN New1.yB 2 none, .initialized ST, .methodLink ST 27 New4.yN, .instanceMethod New4.yN,
  .code New4.yN New4.yB 6 none, .fieldLink ST 38 ST "COMPACT_STRINGS" "Z", .laysFinal ST ST "value" "[B", .fieldLink ST 9 ST "value" "[B", .laysFinal ST ST "coder" "B", .fieldLink ST 15 ST "coder" "B",
  .methodLink ST 1 Lib.objectInit, .instanceMethod Lib.objectInit, .code Lib.objectInit ⟨#[0xb1]⟩ 1 none, .methodLink ST 177 Cmp3.yN, .static Cmp3.yN, .methodLink ST 47 CodL.yN, .static CodL.yN,
  .code Cmp3.yN Cmp3.yB 6 (some (.array .byte)), .initialized U16, .arrayClass .byte, .methodLink U16 115 Cmp5.yN, .static Cmp5.yN, .code Cmp5.yN Cmp5.yB 7 (some .int), .code CodL.yN CodL.yB 2 (some .byte)]
theorem tab_of {a : Array Value} {s : State} (h : ∀ w ∈ words, w.before a s = true) : New1.tab.before a s = true := by
  have h5 : Cmp5.tab.before a s = true := unparts (wk h (.code Cmp5.yN Cmp5.yB 7 (some .int))) (wks h (.initialized Cmp5.yN.cls :: Cmp5.site))
  have hc : CodL.tab.before a s = true := unparts (wk h (.code CodL.yN CodL.yB 2 (some .byte))) (wks h (.initialized CodL.yN.cls :: CodL.site))
  have q5 : ∀ w ∈ Cmp5.tab :: words, w.before a s = true := fun w hw => (List.mem_cons.mp hw).elim (fun e => e ▸ h5) (h w)
  have h3 : Cmp3.tab.before a s = true := unparts (wk q5 (.code Cmp3.yN Cmp3.yB 6 (some (.array .byte)))) (wks q5 (.initialized Cmp3.yN.cls :: Cmp3.site))
  have q3 : ∀ w ∈ Cmp3.tab :: CodL.tab :: words, w.before a s = true := fun w hw => (List.mem_cons.mp hw).elim (fun e => e ▸ h3) fun hw => (List.mem_cons.mp hw).elim (fun e => e ▸ hc) (h w)
  have h4 : New4.tab.before a s = true := unparts (wk q3 (.code New4.yN New4.yB 6 none)) (wks q3 (.initialized New4.yN.cls :: New4.site))
  have q4 : ∀ w ∈ New4.tab :: words, w.before a s = true := fun w hw => (List.mem_cons.mp hw).elim (fun e => e ▸ h4) (h w)
  exact unparts (wk q4 (.code New1.yN New1.yB 2 none)) (wks q4 (.initialized New1.yN.cls :: New1.site))
/-- the words ride from the start Z to the walk's own state -/
theorem moved {Z s : State} {a0 args : Array Value} (hZ : Z.Warmed39 s.vm) (hw : ∀ d ∈ words, d.before a0 Z = true) : ∀ d ∈ words, d.before args s = true := fun d hd => by
  have q := hw d hd
  have t : ∀ d ∈ words, d = .arrayClass .byte ∨ (d.onTables && d.keepsFace) = true := by decide +kernel
  rcases t d hd with rfl | t
  · exact RoadKit.mvA hZ q
  · exact RoadKit.mv hZ q t
/-- WHAT COMES BACK, over the tables of the start Z: h the heap at the call, h' behind it -/
def Q (Z : State) (x : Addr) (A : Cell) (h : Heap) (v : Option Value) (h' : Heap) (L : List Loc) : Prop := v = none ∧ (∀ y ∈ L, y.base = x) ∧ RoadKit.Keep h h' [x] ∧ h'.size = h.size + 1 ∧ RoadKit.Exa Z h' x ST ∧ RoadKit.Fld Z h' x ST "value" "[B" (.ref h.size) ∧ RoadKit.Fld Z h' x ST "coder" "B" (.int 0) ∧
  (∃ V : Cell, RoadKit.Arr Z h' h.size V .byte ∧ V.vm = .none ∧ Z.vm.findClass "[B" = some V.cls ∧ V.slots.size = A.slots.size ∧ ∀ j, j < A.slots.size → V.slots[j]? = some (.int (lo8 (cv A j)))) ∧
  ∀ (O n d : String) (w : Value), RoadKit.Fld Z h x O n d w → RoadKit.slotOf Z O n d ≠ RoadKit.slotOf Z ST "value" "[B" → RoadKit.slotOf Z O n d ≠ RoadKit.slotOf Z ST "coder" "B" → RoadKit.Fld Z h' x O n d w
/-- **new String(chars) AT A CALL, IN THE ROAD'S FORM**: for specialBack behind newO: x the fresh String, b the char[] with the cell A -/
theorem back {p : Program} {l : Launch} {e : Env} {R : Room} {s : State} {args : Array Value} {below : List Frame} {len W : Nat} {Z : State} {a0 : Array Value} {h : Heap} (hZ : Z.Warmed39 s.vm) (hw : ∀ d ∈ words, d.before a0 Z = true) {kI : Nat} (wi : (Jvm.Cond.instantiable ST kI).before a0 Z = true)
    {x b : Addr} {A : Cell} {z : Int32} {v0 c0 : Value} (E : RoadKit.Exa Z h x ST) (V : RoadKit.Fld Z h x ST "value" "[B" v0) (C : RoadKit.Fld Z h x ST "coder" "B" c0) (K : RoadKit.Arr Z h b A .char) (hty : Typed .char A) (S : RoadKit.Sta Z h ST "COMPACT_STRINGS" "Z" (.int z)) (hz : ¬ z = 0)
    (l0 : 0 < A.slots.size) (l2 : A.slots.size ≤ 536870912) (hp : ∀ i, i < A.slots.size → ¬ 255 < cv A i) (hfr : 4 ≤ R.frames) (hlo : W + 65 ≤ R.locals) :
    Back l R p e below s args New1.yN len W (fun P a => a = #[.ref x, .ref b] ∧ P.U.heap = h ∧ P.cells + 1 ≤ R.cells ∧ P.slots + A.slots.size ≤ R.slots)
      (fun P _ v B => ∃ L, Q Z x A h v B.U.heap L ∧ B.locs = P.locs ++ L ∧ B.cells = P.cells + 1 ∧ B.slots = P.slots + A.slots.size) := by
  intro m meth c P g ig mk a X hg hsize hdg hW hn hp'
  obtain ⟨rfl, rfl, r1, r2⟩ := hp'
  have al : Z.vm.Alike P.U.vm := hZ.alike.trans X.warmed.alike
  obtain ⟨D, cfV, kV, iV, fV, hD, gV, stV, knV, obV, asV, slV⟩ := id V
  obtain ⟨D', cfC, kC, iC, fC, hD', gC, stC, -, -, asC, slC⟩ := id C
  cases hD.symm.trans hD'
  obtain ⟨D2, kD, e1, e2, e3, e4, e5⟩ := id E
  cases hD.symm.trans e1
  obtain ⟨c2, k2, i1, i2, i3, -⟩ := Cond.instantiable_spec wi
  cases e2.symm.trans i1
  cases e3.symm.trans i2
  obtain ⟨kU, u1, u2⟩ := al.2.2 _ _ e3
  have hB : Blank ST x D P.U := ⟨hD, ⟨knV, fun q hq => by rw [hq] at obV; cases obV⟩, by rw [al.findClass]; exact e2, kU, u1, by rw [u2]; exact i3, by rw [u2]; exact e5 i3⟩
  have F1 : Found ST "value" "[B" fV P.U := ⟨SBG.found_only al ⟨cfV, kV, iV, gV⟩, stV⟩
  have F2 : Found ST "coder" "B" fC P.U := ⟨SBG.found_only al ⟨cfC, kC, iC, gC⟩, stC⟩
  have hA : Ch b A P.U := ⟨⟨K.1, State.isArrayOf_alike al K.2.1, K.2.2, by omega⟩, hty⟩
  have hS : StaticIs P.U ST "COMPACT_STRINGS" "Z" (.int z) := by
    obtain ⟨cfS, iS, kS, fS, st, cS, t1, t2, t3, t4, t5, t6, t7⟩ := S
    exact StaticIs.there (s := { Z with heap := P.U.heap }) ⟨cfS, iS, kS, fS, st, cS, t1, t2, t3, t4, t5, (fun q => by rw [q] at t6; cases t6), t7⟩ al rfl
  obtain ⟨v, B, X', ⟨⟨hv, E', V', q1, q2, q3, q4, q5, q6, q7, q8, q9, q10, q11⟩, hl, hc, hs⟩, st⟩ := New1.pays x D fV fC b A z (tab_of (moved hZ hw)) hfr hlo m meth c P g ig mk _ X hg hsize hdg hW hn ⟨r1, r2, rfl, hB, F1, F2, hA, hS, hz, l0, l2, hp⟩
  have al' : Z.vm.Alike B.U.vm := hZ.alike.trans X'.warmed.alike
  have hsz : E'.slots.size = D.slots.size := by
    obtain ⟨-, -, -, kB, w1, w2, w3⟩ := q1
    obtain ⟨kB', y1, y2⟩ := al'.2.2 _ _ e3
    rw [q2.2.1] at w1
    cases w1.symm.trans y1
    rw [w3, e5 i3, y2]
  refine ⟨v, B, X', ⟨_, ⟨hv, ?_, ⟨by omega, fun y cy hy hn' => q10 y cy (by simpa using hn') hy, fun y cy hy => ?_⟩, q11, ⟨E', _, q1.1, by rw [q2.2.1]; exact e2, by rw [q2.2.1]; exact e3, by rw [q2.1]; exact obV, fun _ => by rw [hsz]; exact e5 i3⟩,
    ⟨E', cfV, kV, iV, fV, q1.1, gV, stV, by rw [q2.1]; exact knV, by rw [q2.1]; exact obV, by rw [q2.2.1]; exact asV, q3⟩, ⟨E', cfC, kC, iC, fC, q1.1, gC, stC, by rw [q2.1]; exact knV, by rw [q2.1]; exact obV, by rw [q2.2.1]; exact asC, q4⟩,
    ⟨V', ⟨q5.1, State.isArrayOf_alike al'.symm q5.2.1, q5.2.2.1⟩, q6, by rw [← al'.findClass]; exact q7, q8, fun j hj => by have := q9 j hj; rwa [Nat.zero_add] at this⟩, fun O n d w F n1 n2 => ?_⟩, hl, hc, hs⟩, st⟩
  · intro y hy
    simp only [List.mem_cons, List.not_mem_nil, or_false] at hy
    rcases hy with rfl | rfl <;> rfl
  · by_cases q : y = x
    · subst q
      cases hD.symm.trans hy
      exact ⟨E', q1.1, q2.2.1, q2.1, hsz⟩
    · exact ⟨cy, q10 y cy q hy, rfl, rfl, rfl⟩
  · obtain ⟨D3, cf, k, i, f, g1, g2, g3, g4, g5, g6, g7⟩ := F
    cases hD.symm.trans g1
    simp only [RoadKit.slotOf, g2, gV, gC, Option.map_some, Option.getD_some] at n1 n2
    exact ⟨E', cf, k, i, f, q1.1, g2, g3, by rw [q2.1]; exact g4, by rw [q2.1]; exact g5, by rw [q2.2.1]; exact g6, by rw [q2.2.2 f.slot (by simp [n1, n2])]; exact g7⟩
end StrChars.Road
namespace StrChars.Road
open Jvm Sem ClassFile Op Lib Jvm.Stand Jvm.Free Jvm.Free.XT
/-- WHAT COMES BACK, the byte[] as a list of values -/
def QA (Z : State) (x : Addr) (zn : Int32) (cs : List Int32) (h : Heap) (v : Option Value) (h' : Heap) (L : List Loc) : Prop := v = none ∧ (∀ y ∈ L, y.base = x) ∧ RoadKit.Keep h h' [x] ∧ h'.size = h.size + 1 ∧ RoadKit.Exa Z h' x ST ∧ RoadKit.Fld Z h' x ST "value" "[B" (.ref h.size) ∧ RoadKit.Fld Z h' x ST "coder" "B" (.int 0) ∧
  (∃ kb, Z.vm.findClass "[B" = some kb ∧ RoadKit.Arv Z h' h.size kb .byte zn (cs.map fun c => .int (lo8 c)) (.int 0)) ∧
  ∀ (O n d : String) (w : Value), RoadKit.Fld Z h x O n d w → RoadKit.slotOf Z O n d ≠ RoadKit.slotOf Z ST "value" "[B" → RoadKit.slotOf Z O n d ≠ RoadKit.slotOf Z ST "coder" "B" → RoadKit.Fld Z h' x O n d w
/-- **new String(chars) AT A CALL, THE ARRAYS AS LISTS**: the char[] at b holds cs, not empty, no char above 255 -/
theorem backArv {p : Program} {l : Launch} {e : Env} {R : Room} {s : State} {args : Array Value} {below : List Frame} {len W : Nat} {Z : State} {a0 : Array Value} {h : Heap} (hZ : Z.Warmed39 s.vm) (hw : ∀ d ∈ words, d.before a0 Z = true) {kI : Nat} (wi : (Jvm.Cond.instantiable ST kI).before a0 Z = true)
    {x b : Addr} {k : ClassId} {zn z : Int32} {cs : List Int32} {dv v0 c0 : Value} (E : RoadKit.Exa Z h x ST) (V : RoadKit.Fld Z h x ST "value" "[B" v0) (C : RoadKit.Fld Z h x ST "coder" "B" c0) (K : RoadKit.Arv Z h b k .char zn (cs.map Value.int) dv) (S : RoadKit.Sta Z h ST "COMPACT_STRINGS" "Z" (.int z)) (hz : ¬ z = 0)
    (hlen : zn.toNatClampNeg = cs.length) (h0 : 0 < cs.length) (hbig : cs.length ≤ 536870912) (hall : ∀ c ∈ cs, ¬ 255 < c) (hfr : 4 ≤ R.frames) (hlo : W + 65 ≤ R.locals) :
    Back l R p e below s args New1.yN len W (fun P a => a = #[.ref x, .ref b] ∧ P.U.heap = h ∧ P.cells + 1 ≤ R.cells ∧ P.slots + cs.length ≤ R.slots)
      (fun P _ v B => ∃ L, QA Z x zn cs h v B.U.heap L ∧ B.locs = P.locs ++ L ∧ B.cells = P.cells + 1 ∧ B.slots = P.slots + cs.length) := by
  obtain ⟨A, K1, K2, K3, K4, K5, K6⟩ := K
  have e : A.slots.size = cs.length := K3.trans hlen
  have hat : ∀ (i : Nat) (hi : i < cs.length), A.slots[i]? = some (.int cs[i]) := fun i hi => by rw [K5 i (by omega)]; simp [List.getD_eq_getElem?_getD, hi]
  have hcv : ∀ (i : Nat) (hi : i < cs.length), cv A i = cs[i] := fun i hi => by unfold cv; rw [hat i hi]
  have hty : Typed .char A := fun i v hv => by
    have hi : i < A.slots.size := (Array.getElem?_eq_some_iff.mp hv).1
    have q := K5 i hi
    rw [hv] at q
    rw [Option.some.inj q]
    exact K6 i hi
  refine Back.mono (back hZ hw wi E V C K1 hty S hz (by omega) (by omega) (fun i hi => by rw [hcv i (by omega)]; exact hall _ (List.getElem_mem _)) hfr hlo) (fun P a hp => ⟨hp.1, hp.2.1, hp.2.2.1, by rw [e]; exact hp.2.2.2⟩) (fun P a v B hp hq => ?_)
  obtain ⟨L, ⟨q1, q2, q3, q4, q5, q6, q7, ⟨V', v1, v2, v3, v4, v5⟩, q9⟩, hl, hc, hs⟩ := hq
  refine ⟨L, ⟨q1, q2, q3, q4, q5, q6, q7, ⟨V'.cls, v3, V', v1, rfl, by rw [v4, e, hlen], K4, fun i hi => ?_, fun i hi => ?_⟩, q9⟩, hl, hc, by rw [hs, e]⟩
  · have hi' : i < cs.length := by omega
    rw [v5 i (by omega), hcv i hi']; simp [List.getD_eq_getElem?_getD, hi']
  · have hi' : i < cs.length := by omega
    simp only [List.getD_eq_getElem?_getD, List.getElem?_map, List.getElem?_eq_getElem hi', Option.map_some, Option.getD_some]
    exact fits_lo8 _
end StrChars.Road
namespace StrChars.Road
open Jvm Sem ClassFile Op Lib Jvm.Stand Jvm.Free Jvm.Free.XT
/-- WHAT COMES BACK, in the writer's own shape -/
def QV (Z : State) (x : Addr) (N : Int32) (bs : List Int32) (h : Heap) (n0 : Nat) (v : Option Value) (h' : Heap) (L : List Loc) : Prop := v = none ∧ RoadKit.Fr n0 L ∧ RoadKit.Keep h h' [x] ∧ RoadKit.Exa Z h' x ST ∧ RoadKit.Fld Z h' x ST "coder" "B" (.int 0) ∧
  ∃ (t : Addr) (kb : ClassId), n0 ≤ t ∧ h.size ≤ t ∧ ¬ t = x ∧ RoadKit.Fld Z h' x ST "value" "[B" (.ref t) ∧ RoadKit.Arv Z h' t kb .byte N (bs.map Value.int) (.int 0)
/-- **new String(chars) AT A CALL, FOR THE WRITER**: a char[] of n known ints, each 0 to 255 -/
theorem backV {p : Program} {l : Launch} {e : Env} {R : Room} {s : State} {args : Array Value} {below : List Frame} {len W : Nat} {Z : State} {a0 : Array Value} {h : Heap} (hZ : Z.Warmed39 s.vm) (hw : ∀ d ∈ words, d.before a0 Z = true) {kI : Nat} (wi : (Jvm.Cond.instantiable ST kI).before a0 Z = true)
    {x b : Addr} {kC : ClassId} {cs bs : List Int32} {d v0 c0 : Value} {z N : Int32} {n n0 : Nat} (hx0 : n0 ≤ x) (hh0 : n0 ≤ h.size) (E : RoadKit.Exa Z h x ST) (V : RoadKit.Fld Z h x ST "value" "[B" v0) (C : RoadKit.Fld Z h x ST "coder" "B" c0) (K : RoadKit.Arv Z h b kC .char N (cs.map Value.int) d) (S : RoadKit.Sta Z h ST "COMPACT_STRINGS" "Z" (.int z)) (hz : ¬ z = 0)
    (hn : cs.length = n) (hN : N = Int32.ofNat n) (l0 : 0 < n) (l2 : n ≤ 4000) (hp : ∀ c ∈ cs, ¬ c < 0 ∧ ¬ (255 : Int32) < c) (hb : bs = cs.map (fun c => c.toInt8.toInt32)) (hfr : 4 ≤ R.frames) (hlo : W + 65 ≤ R.locals) :
    Back l R p e below s args (⟨"java/lang/String", "<init>", "([C)V"⟩ : MethodName) len W (fun P a => a = #[.ref x, .ref b] ∧ P.U.heap = h ∧ P.cells + 1 ≤ R.cells ∧ P.slots + n ≤ R.slots)
      (fun P _ v B => ∃ L, QV Z x N bs h n0 v B.U.heap L ∧ B.locs = P.locs ++ L ∧ B.cells = P.cells + 1 ∧ B.slots = P.slots + n) := by
  subst hn hN hb
  refine Back.mono (backArv hZ hw wi E V C K S hz (n32 (by omega)) l0 (by omega) (fun c hc => (hp c hc).2) hfr hlo) (fun P a hp => hp) (fun P a v B hp hq => ?_)
  obtain ⟨L, ⟨q1, q2, q3, q4, q5, q6, q7, ⟨kb, v1, v2⟩, q9⟩, hl, hc, hs⟩ := hq
  exact ⟨L, ⟨q1, fun y hy => by rw [q2 y hy]; exact hx0, q3, q5, q7, h.size, kb, hh0, Nat.le_refl _, Nat.ne_of_gt E.lt, q6, by rw [List.map_map]; exact v2⟩, hl, hc, hs⟩
end StrChars.Road
namespace StrChars
open Jvm Sem ClassFile Op Lib Jvm.Stand Jvm.Free.XT Jvm.Free.ALB Jvm.Free.JM Jvm.Free
open Jvm.Lib.Cold (StaticIs)
def hi8 (x : Int32) : Int32 := lo8 (x >>> ((8 : Int32) &&& 31))
/-- what StringUTF16.getChar makes of two bytes -/
def pairCh (u v : Int32) : Int32 := (((u &&& 255) <<< ((0 : Int32) &&& 31)) ||| ((v &&& 255) <<< ((8 : Int32) &&& 31))).toUInt32.toUInt16.toUInt32.toInt32
theorem lo8_and (x : Int32) : (lo8 x &&& 255).toBitVec.toNat = x.toBitVec.toNat % 256 := by
  have h : (lo8 x).toBitVec = (x.toBitVec.signExtend 8).signExtend 32 := by rw [lo8, Int8.toBitVec_toInt32, Int32.toBitVec_toInt8]
  rw [Int32.toBitVec_and, BitVec.toNat_and, h]
  have e : ((x.toBitVec.signExtend 8).signExtend 32).toNat % 256 = x.toBitVec.toNat % 256 := by
    rw [BitVec.toNat_signExtend]
    have hlt := x.toBitVec.isLt
    simp only [BitVec.toNat_setWidth, BitVec.toNat_signExtend]
    split <;> split <;> omega
  rw [← e]
  exact Nat.and_two_pow_sub_one_eq_mod _ 8
theorem pair_says {c : Int32} (h0 : ¬ c < 0) (h1 : ¬ 65535 < c) : pairCh (lo8 c) (hi8 c) = c := by
  rw [Int32.lt_iff_toInt_lt] at h0 h1
  have e0 : (0 : Int32).toInt = 0 := rfl
  have e1 : (65535 : Int32).toInt = 65535 := rfl
  have hc : c.toInt = c.toBitVec.toNat := by
    have := c.toBitVec.isLt
    have e : c.toInt = c.toBitVec.toInt := rfl
    rw [e] at h0 h1
    rw [e]
    rw [BitVec.toInt_eq_toNat_cond] at h0 h1 ⊢
    split at h0 <;> split <;> omega
  have hn : c.toBitVec.toNat < 65536 := by omega
  have a1 := lo8_and c
  have a2 : (hi8 c &&& 255).toBitVec.toNat = c.toBitVec.toNat / 256 := by
    rw [hi8, lo8_and]
    have e : ((8 : Int32) &&& 31) = 8 := by decide
    rw [e, Int32.toBitVec_shiftRight]
    have e2 : ((8 : Int32).toBitVec.smod 32) = 8#32 := by decide
    rw [e2, BitVec.sshiftRight_eq', BitVec.toNat_sshiftRight_of_msb_false (by rw [BitVec.msb_eq_false_iff_two_mul_lt]; omega)]
    show c.toBitVec.toNat >>> 8 % 256 = _
    rw [Nat.shiftRight_eq_div_pow]
    omega
  unfold pairCh
  apply Int32.toBitVec_inj.mp
  apply BitVec.eq_of_toNat_eq
  have f0 : ((0 : Int32) &&& 31) = 0 := by decide
  have f8 : ((8 : Int32) &&& 31) = 8 := by decide
  rw [f0, f8]
  have g : (((lo8 c &&& 255) <<< (0 : Int32)) ||| ((hi8 c &&& 255) <<< (8 : Int32))).toBitVec.toNat = c.toBitVec.toNat := by
    rw [Int32.toBitVec_or, Int32.toBitVec_shiftLeft, Int32.toBitVec_shiftLeft]
    have s0 : ((0 : Int32).toBitVec.smod 32) = 0#32 := by decide
    have s8 : ((8 : Int32).toBitVec.smod 32) = 8#32 := by decide
    rw [s0, s8, BitVec.toNat_or]
    simp only [BitVec.shiftLeft_eq', BitVec.toNat_shiftLeft, a1, a2]
    show (c.toBitVec.toNat % 256) <<< 0 % 2 ^ 32 ||| (c.toBitVec.toNat / 256) <<< 8 % 2 ^ 32 = _
    rw [Nat.shiftLeft_zero, Nat.mod_eq_of_lt (show c.toBitVec.toNat % 256 < 2 ^ 32 by omega), Nat.mod_eq_of_lt (show (c.toBitVec.toNat / 256) <<< 8 < 2 ^ 32 by rw [Nat.shiftLeft_eq]; omega), Nat.or_comm, ← Nat.shiftLeft_add_eq_or_of_lt (by omega), Nat.shiftLeft_eq]
    omega
  show BitVec.toNat (((((lo8 c &&& 255) <<< (0 : Int32)) ||| ((hi8 c &&& 255) <<< (8 : Int32))).toBitVec.setWidth 16).setWidth 32) = _
  rw [BitVec.toNat_setWidth, BitVec.toNat_setWidth, g]
  omega
end StrChars
namespace StrChars
open Jvm Sem ClassFile Op Lib Jvm.Stand Jvm.Free.XT Jvm.Free.ALB Jvm.Free.JM Jvm.Free
open Jvm.Lib.Cold (StaticIs)
/-- the array's cell V codes the n chars f 0 .. f (n - 1) by the coder cd, as the JDK does: coder 1 just where some char is above 255 -/
def Cod (cd : Int32) (n : Nat) (f : Nat → Int32) (V : Cell) : Prop := (cd = 0 ∧ V.slots.size = n ∧ ∀ j, j < n → V.slots[j]? = some (.int (lo8 (f j))) ∧ ¬ 255 < f j) ∨ (cd = 1 ∧ V.slots.size = 2 * n ∧ (∀ j, j < n → V.slots[2 * j]? = some (.int (lo8 (f j))) ∧ V.slots[2 * j + 1]? = some (.int (hi8 (f j)))) ∧ ∃ j, j < n ∧ 255 < f j)
/-- **x is a String of the n chars f 0 .. f (n - 1)**, Latin-1 or UTF-16; its array at t has the cell V -/
def Txt (x t : Addr) (V : Cell) (cd : Int32) (n : Nat) (f : Nat → Int32) (U : State) : Prop := Exact "java/lang/String" x U ∧ Has x "java/lang/String" "value" "[B" (.ref t) U ∧ Has x "java/lang/String" "coder" "B" (.int cd) U ∧ XT.Arr .byte t V U ∧ Cod cd n f V ∧ ∀ j, j < n → ¬ f j < 0 ∧ ¬ 65535 < f j
theorem Txt.mv {x t : Addr} {V : Cell} {cd : Int32} {n : Nat} {f : Nat → Int32} {U U' : State} (h : Txt x t V cd n f U) (hal : U.vm.Alike U'.vm) (hh : U'.heap = U.heap) : Txt x t V cd n f U' := ⟨h.1.mv hal hh, h.2.1.mv hal hh, h.2.2.1.mv hal hh, h.2.2.2.1.mv hal hh, h.2.2.2.2⟩
end StrChars
namespace StrChars.Road
open Jvm Sem ClassFile Op Lib Jvm.Stand Jvm.Free Jvm.Free.XT
open Jvm.Lib.Cold (StaticIs)
theorem consq {a : Array Value} {s : State} {c : Jvm.Cond} {L : List Jvm.Cond} (h0 : c.before a s = true) (h : ∀ w ∈ L, w.before a s = true) : ∀ w ∈ c :: L, w.before a s = true := fun w hw => (List.mem_cons.mp hw).elim (fun e => e ▸ h0) (h w)
/-- the bytes of the chars cs, low before high -/
def wideBytes : List Int32 → List Value
  | [] => []
  | c :: cs => .int (lo8 c) :: .int (hi8 c) :: wideBytes cs
theorem wide_lo (d : Value) : ∀ (cs : List Int32) (j : Nat), j < cs.length → (wideBytes cs).getD (2 * j) d = .int (lo8 (cs.getD j 0))
  | [], j, h => absurd h (Nat.not_lt_zero j)
  | c :: cs, 0, _ => rfl
  | c :: cs, j + 1, h => by
    have q := wide_lo d cs j (by simpa using h)
    rw [show 2 * (j + 1) = 2 * j + 1 + 1 from by omega]
    simpa [wideBytes] using q
theorem wide_hi (d : Value) : ∀ (cs : List Int32) (j : Nat), j < cs.length → (wideBytes cs).getD (2 * j + 1) d = .int (hi8 (cs.getD j 0))
  | [], j, h => absurd h (Nat.not_lt_zero j)
  | c :: cs, 0, _ => rfl
  | c :: cs, j + 1, h => by
    have q := wide_hi d cs j (by simpa using h)
    rw [show 2 * (j + 1) + 1 = 2 * j + 1 + 1 + 1 from by omega]
    simpa [wideBytes] using q
theorem low_at (d : Value) (cs : List Int32) (j : Nat) (h : j < cs.length) : (cs.map fun c => Value.int (lo8 c)).getD j d = .int (lo8 (cs.getD j 0)) := by
  simp [List.getD_eq_getElem?_getD, h]
/-- an array of N2 bytes vs codes the chars cs by the coder cd -/
def CodA (cs : List Int32) (cd N2 : Int32) (vs : List Value) : Prop := (cd = 0 ∧ N2 = Int32.ofNat cs.length ∧ vs = (cs.map fun c => Value.int (lo8 c)) ∧ ∀ c ∈ cs, ¬ 255 < c) ∨ (cd = 1 ∧ N2 = Int32.ofNat (2 * cs.length) ∧ vs = wideBytes cs ∧ ∃ c ∈ cs, 255 < c)
theorem CodA.cod {cs : List Int32} {cd N2 : Int32} {vs : List Value} {V : Cell} (h : CodA cs cd N2 vs) (hn : 2 * cs.length < 2 ^ 31) (hs : V.slots.size = N2.toNatClampNeg) (hv : RoadKit.Has V vs (.int 0)) : Cod cd cs.length (fun j => cs.getD j 0) V := by
  rcases h with ⟨rfl, rfl, rfl, h⟩ | ⟨rfl, rfl, rfl, c, hc, hw⟩
  · rw [n32 (by omega)] at hs
    exact Or.inl ⟨rfl, hs, fun j hj => ⟨by rw [hv j (by omega), low_at _ _ _ hj], by
      have e : cs.getD j 0 = cs[j] := by simp [List.getD_eq_getElem?_getD, hj]
      show ¬ 255 < cs.getD j 0
      rw [e]; exact h _ (List.getElem_mem _)⟩⟩
  · rw [n32 (by omega)] at hs
    obtain ⟨j, hj, rfl⟩ := List.getElem_of_mem hc
    exact Or.inr ⟨rfl, hs, fun j hj => ⟨by rw [hv _ (by omega), wide_lo _ _ _ hj], by rw [hv _ (by omega), wide_hi _ _ _ hj]⟩, j, hj, by
      have e : cs.getD j 0 = cs[j] := by simp [List.getD_eq_getElem?_getD, hj]
      show 255 < cs.getD j 0
      rw [e]; exact hw⟩
/-- an object of exactly java/lang/String, its two fields found: as the laws ask it -/
theorem strObj {Z U : State} {a0 : Array Value} {kI : Nat} (wi : (Jvm.Cond.instantiable ST kI).before a0 Z = true) (al : Z.vm.Alike U.vm) {x : Addr} {v0 c0 : Value} (E : RoadKit.Exa Z U.heap x ST) (V : RoadKit.Fld Z U.heap x ST "value" "[B" v0) (C : RoadKit.Fld Z U.heap x ST "coder" "B" c0) :
    ∃ (D : Cell) (fV fC : Field), Blank ST x D U ∧ Found ST "value" "[B" fV U ∧ Found ST "coder" "B" fC U ∧ D.slots[fV.slot]? = some v0 ∧ D.slots[fC.slot]? = some c0 ∧ RoadKit.slotOf Z ST "value" "[B" = fV.slot ∧ RoadKit.slotOf Z ST "coder" "B" = fC.slot := by
  obtain ⟨D, cfV, kV, iV, fV, hD, gV, stV, knV, obV, asV, slV⟩ := V
  obtain ⟨D', cfC, kC, iC, fC, hD', gC, stC, -, -, asC, slC⟩ := C
  cases hD.symm.trans hD'
  obtain ⟨D2, kD, e1, e2, e3, e4, e5⟩ := E
  cases hD.symm.trans e1
  obtain ⟨c2, k2, i1, i2, i3, -⟩ := Cond.instantiable_spec wi
  cases e2.symm.trans i1
  cases e3.symm.trans i2
  obtain ⟨kU, u1, u2⟩ := al.2.2 _ _ e3
  exact ⟨D, fV, fC, ⟨hD, ⟨knV, fun q hq => by rw [hq] at obV; cases obV⟩, by rw [al.findClass]; exact e2, kU, u1, by rw [u2]; exact i3, by rw [u2]; exact e5 i3⟩, ⟨SBG.found_only al ⟨cfV, kV, iV, gV⟩, stV⟩, ⟨SBG.found_only al ⟨cfC, kC, iC, gC⟩, stC⟩, slV, slC, by simp [RoadKit.slotOf, gV], by simp [RoadKit.slotOf, gC]⟩
theorem sta_is {Z U : State} (al : Z.vm.Alike U.vm) {C n d : String} {v : Value} (S : RoadKit.Sta Z U.heap C n d v) : StaticIs U C n d v := by
  obtain ⟨cfS, iS, kS, fS, st, cS, t1, t2, t3, t4, t5, t6, t7⟩ := S
  exact StaticIs.there (s := { Z with heap := U.heap }) ⟨cfS, iS, kS, fS, st, cS, t1, t2, t3, t4, t5, (fun q => by rw [q] at t6; cases t6), t7⟩ al rfl
end StrChars.Road
namespace StrChars
open Jvm Sem ClassFile Op Lib Jvm.Stand Jvm.Free.XT Jvm.Free.ALB Jvm.Free.JM Jvm.Free
open Jvm.Lib.Cold (StaticIs)
/-- what place i of a byte[]'s cell holds -/
def yv (A : Cell) (i : Nat) : Int32 := match A.slots[i]? with | some (.int x) => x | _ => 0
theorem yv_get {a : Addr} {A : Cell} {U : State} (h : XT.Arr .byte a A U) (ht : Typed .byte A) {i : Nat} (hi : i < A.slots.size) : A.slots[i]? = some (.int (yv A i)) := by
  have e := Array.getElem?_eq_getElem hi
  have f := ht i _ e
  unfold yv; rw [e]
  generalize A.slots[i] = v at f
  cases v <;> simp [fits] at f ⊢
/-- the two arrays are equal, place for place -/
def EqC (A B : Cell) : Prop := A.slots.size = B.slots.size ∧ ∀ i, i < A.slots.size → yv A i = yv B i
/-- a boolean that says whether p -/
def Says01 (q : Prop) (r : Option Value) (s u : State) : Prop := ∃ v : Int32, r = some (.int v) ∧ u.heap = s.heap ∧ ((v = 1 ∧ q) ∨ (v = 0 ∧ ¬ q))
theorem Says01.mv {q : Prop} : ∀ r (U U' V V' : State), U'.heap = U.heap → V.vm.Alike V'.vm → V'.heap = V.heap → Says01 q r U V → Says01 q r U' V' :=
  fun r U U' V V' h1 _ h2 ⟨v, a, b, c⟩ => ⟨v, a, by rw [h1, h2]; exact b, c⟩
namespace LEq
def yN : MethodName := ⟨"java/lang/StringLatin1", "equals", "([B[B)Z"⟩
abbrev yB : ByteArray := jdk_43_method_13_code
theorem d0 : decode yB 0 = .ok (.aload_n 0, 1) := by decide +kernel
theorem d1 : decode yB 1 = .ok (.arraylength, 1) := by decide +kernel
theorem d2 : decode yB 2 = .ok (.aload_n 1, 1) := by decide +kernel
theorem d3 : decode yB 3 = .ok (.arraylength, 1) := by decide +kernel
theorem d4 : decode yB 4 = .ok (.if_icmp (.ne) 30, 3) := by decide +kernel
theorem d7 : decode yB 7 = .ok (.iconst 0, 1) := by decide +kernel
theorem d8 : decode yB 8 = .ok (.istore_n 2, 1) := by decide +kernel
theorem d9 : decode yB 9 = .ok (.iload_n 2, 1) := by decide +kernel
theorem d10 : decode yB 10 = .ok (.aload_n 0, 1) := by decide +kernel
theorem d11 : decode yB 11 = .ok (.arraylength, 1) := by decide +kernel
theorem d12 : decode yB 12 = .ok (.if_icmp (.ge) 20, 3) := by decide +kernel
theorem d15 : decode yB 15 = .ok (.aload_n 0, 1) := by decide +kernel
theorem d16 : decode yB 16 = .ok (.iload_n 2, 1) := by decide +kernel
theorem d17 : decode yB 17 = .ok (.baload, 1) := by decide +kernel
theorem d18 : decode yB 18 = .ok (.aload_n 1, 1) := by decide +kernel
theorem d19 : decode yB 19 = .ok (.iload_n 2, 1) := by decide +kernel
theorem d20 : decode yB 20 = .ok (.baload, 1) := by decide +kernel
theorem d21 : decode yB 21 = .ok (.if_icmp (.eq) 5, 3) := by decide +kernel
theorem d24 : decode yB 24 = .ok (.iconst 0, 1) := by decide +kernel
theorem d25 : decode yB 25 = .ok (.ireturn, 1) := by decide +kernel
theorem d26 : decode yB 26 = .ok (.iinc 2 1, 3) := by decide +kernel
theorem d29 : decode yB 29 = .ok (.goto (-20), 3) := by decide +kernel
theorem d32 : decode yB 32 = .ok (.iconst 1, 1) := by decide +kernel
theorem d33 : decode yB 33 = .ok (.ireturn, 1) := by decide +kernel
theorem d34 : decode yB 34 = .ok (.iconst 0, 1) := by decide +kernel
theorem d35 : decode yB 35 = .ok (.ireturn, 1) := by decide +kernel
def site : List Cond := []
def tab : Cond := tabOf yN yB 3 (some .boolean) site
def P (a : Addr) (A : Cell) (b : Addr) (B : Cell) (args : Array Value) (s : State) : Prop := args = #[.ref a, .ref b] ∧ XT.Arr .byte a A s ∧ Typed .byte A ∧ XT.Arr .byte b B s ∧ Typed .byte B
/-- whether two byte[] are equal, place for place -/
theorem law (l : Launch) (a : Addr) (A : Cell) (b : Addr) (B : Cell) : Law l yN 2 2 0 0 yB 3 (some .boolean) site (P a A b B) (Says01 (EqC A B)) [] 0 0 := by
  refine Law.of_walk (plainFor_of_name (by decide +kernel)) (by decide +kernel) (by decide +kernel) (by decide) (fun _ _ h => by rw [h.1]; rfl) (fun _ U U' hal hh h => ⟨h.1, h.2.1.mv hal hh, h.2.2.1, h.2.2.2.1.mv hal hh, h.2.2.2.2⟩) (fun r U U' V V' h1 hal h2 h => Says01.mv r U U' V V' h1 hal h2 h) ?_
  intro p e s m args below meth c s₁ X0 hexec hbytes hml hret hlk hnm hown hh0 W hP
  obtain ⟨rfl, hA, tA, hB, tB⟩ := hP
  have a31 := hA.2.2.2
  have b31 := hB.2.2.2
  have hA0 := hA.mv X0.warmed.alike hh0
  have hB0 := hB.mv X0.warmed.alike hh0
  have c1 : Steps p.tables e below (s₁.setTop (entryFrame m #[.ref a, .ref b] 3)) (s₁.setTop (mkF m 0 #[.val (.ref a), .val (.ref b), .unset] [])) := entry rfl
  have c2 : Steps p.tables e below (s₁.setTop (entryFrame m #[.ref a, .ref b] 3)) (s₁.setTop (mkF m 4 #[.val (.ref a), .val (.ref b), .unset] [.int (Int32.ofNat B.slots.size), .int (Int32.ofNat A.slots.size)])) := c1.trans (by
    refine XS.aloadN X0.here hexec rfl (hb hbytes d0) rfl rfl ?_
    refine X0.alen hexec hA0 rfl rfl (hb hbytes d1) ?_
    refine XS.aloadN X0.here hexec rfl (hb hbytes d2) rfl rfl ?_
    refine X0.alen hexec hB0 rfl rfl (hb hbytes d3) ?_
    exact Steps.refl _)
  by_cases hs : A.slots.size = B.slots.size
  · have c3 : Steps p.tables e below (s₁.setTop (entryFrame m #[.ref a, .ref b] 3)) (s₁.setTop (mkF m 9 #[.val (.ref a), .val (.ref b), .val (.int 0)] [])) := c2.trans (by
      refine XS.icmpNo X0.here hexec rfl (hb hbytes d4) rfl (ii_ne_f (by rw [hs])) ?_
      refine iconstV X0.here hexec rfl 0 (hb hbytes d7) (by decide) ?_
      refine XS.istoreN X0.here hexec rfl (hb hbytes d8) rfl rfl ?_
      exact Steps.refl _)
    have loop : ∀ (r i : Nat), i + r = A.slots.size → (∀ j, j < i → yv A j = yv B j) → Steps p.tables e below (s₁.setTop (entryFrame m #[.ref a, .ref b] 3)) (s₁.setTop (mkF m 9 #[.val (.ref a), .val (.ref b), .val (.int (Int32.ofNat i))] [])) → ∃ (pc : Nat) (Ls : Array Slot) (v : Int32), (pc = 25 ∨ pc = 33) ∧ ((v = 1 ∧ EqC A B) ∨ (v = 0 ∧ ¬ EqC A B)) ∧ Steps p.tables e below (s₁.setTop (entryFrame m #[.ref a, .ref b] 3)) (s₁.setTop (mkF m pc Ls [.int v])) := by
      intro r
      induction r with
      | zero =>
        intro i hi he cl
        exact ⟨33, _, 1, Or.inr rfl, Or.inl ⟨rfl, hs, fun j hj => he j (by omega)⟩, cl.trans (by
          refine XS.iloadN X0.here hexec rfl (hb hbytes d9) rfl ?_
          refine XS.aloadN X0.here hexec rfl (hb hbytes d10) rfl rfl ?_
          refine X0.alen hexec hA0 rfl rfl (hb hbytes d11) ?_
          refine XS.icmpYes X0.here hexec rfl (pc0 := 12) rfl (hb hbytes d12) rfl (ii_ge_t (nlt32 (by omega) (by omega))) (by decide) rfl ?_
          refine iconstV X0.here hexec rfl 1 (hb hbytes d32) (by decide) ?_
          exact Steps.refl _)⟩
      | succ r ih =>
        intro i hi he cl
        have c4 : Steps p.tables e below (s₁.setTop (entryFrame m #[.ref a, .ref b] 3)) (s₁.setTop (mkF m 21 #[.val (.ref a), .val (.ref b), .val (.int (Int32.ofNat i))] [.int (yv B i), .int (yv A i)])) := cl.trans (by
          refine XS.iloadN X0.here hexec rfl (hb hbytes d9) rfl ?_
          refine XS.aloadN X0.here hexec rfl (hb hbytes d10) rfl rfl ?_
          refine X0.alen hexec hA0 rfl rfl (hb hbytes d11) ?_
          refine XS.icmpNo X0.here hexec rfl (hb hbytes d12) rfl (ii_ge_f (lt32 (by omega) (by omega))) ?_
          refine XS.aloadN X0.here hexec rfl (hb hbytes d15) rfl rfl ?_
          refine XS.iloadN X0.here hexec rfl (hb hbytes d16) rfl ?_
          refine X0.aget hexec hA0 rfl (yv_get hA tA (i := i) (by omega)) rfl rfl (hb hbytes d17) ?_
          refine XS.aloadN X0.here hexec rfl (hb hbytes d18) rfl rfl ?_
          refine XS.iloadN X0.here hexec rfl (hb hbytes d19) rfl ?_
          refine X0.aget hexec hB0 rfl (yv_get hB tB (i := i) (by omega)) rfl rfl (hb hbytes d20) ?_
          exact Steps.refl _)
        by_cases hv : yv A i = yv B i
        · have c5 : Steps p.tables e below (s₁.setTop (entryFrame m #[.ref a, .ref b] 3)) (s₁.setTop (mkF m 9 #[.val (.ref a), .val (.ref b), .val (.int (Int32.ofNat i + 1))] [])) := c4.trans (by
            refine XS.icmpYes X0.here hexec rfl (pc0 := 21) rfl (hb hbytes d21) rfl (ii_eq_t hv) (by decide) rfl ?_
            refine iincV X0.here hexec rfl 1 (hb hbytes d26) (by decide) rfl rfl ?_
            refine XS.goto X0.here hexec rfl (pc0 := 29) rfl (hb hbytes d29) (by decide) rfl ?_
            exact Steps.refl _)
          rw [succ32] at c5
          exact ih (i + 1) (by omega) (fun j hj => by
            by_cases e : j = i
            · rw [e]; exact hv
            · exact he j (by omega)) c5
        · exact ⟨25, _, 0, Or.inl rfl, Or.inr ⟨rfl, fun q => hv (q.2 i (by omega))⟩, c4.trans (by
            refine XS.icmpNo X0.here hexec rfl (hb hbytes d21) rfl (ii_eq_f hv) ?_
            refine iconstV X0.here hexec rfl 0 (hb hbytes d24) (by decide) ?_
            exact Steps.refl _)⟩
    obtain ⟨pc, Ls, v, hpc, hv, cz⟩ := loop A.slots.size 0 (by omega) (fun j hj => absurd hj (Nat.not_lt_zero j)) c3
    have nv : narrow .boolean (.int v) = .int v := by rcases hv with ⟨rfl, -⟩ | ⟨rfl, -⟩ <;> rfl
    rcases hpc with rfl | rfl
    · exact ⟨s₁, some (.int v), _, _, _, X0, rfl, rfl, rfl, (fun h => by cases h), ⟨v, rfl, hh0, hv⟩, fun fs hl => cz.trans (X0.ireturnOut hexec hret nv (Or.inr (Or.inl rfl)) (hb hbytes d25) hl)⟩
    · exact ⟨s₁, some (.int v), _, _, _, X0, rfl, rfl, rfl, (fun h => by cases h), ⟨v, rfl, hh0, hv⟩, fun fs hl => cz.trans (X0.ireturnOut hexec hret nv (Or.inr (Or.inl rfl)) (hb hbytes d33) hl)⟩
  · have c3 : Steps p.tables e below (s₁.setTop (entryFrame m #[.ref a, .ref b] 3)) (s₁.setTop (mkF m 35 #[.val (.ref a), .val (.ref b), .unset] [.int 0])) := c2.trans (by
      refine XS.icmpYes X0.here hexec rfl (pc0 := 4) rfl (hb hbytes d4) rfl (ii_ne_t (ne32 a31 b31 hs)) (by decide) rfl ?_
      refine iconstV X0.here hexec rfl 0 (hb hbytes d34) (by decide) ?_
      exact Steps.refl _)
    exact ⟨s₁, some (.int 0), _, _, _, X0, rfl, rfl, rfl, (fun h => by cases h), ⟨0, rfl, hh0, Or.inr ⟨rfl, fun q => hs q.1⟩⟩, fun fs hl => c3.trans (X0.ireturnOut hexec hret rfl (Or.inr (Or.inl rfl)) (hb hbytes d35) hl)⟩
end LEq
theorem Cod.ty {cd : Int32} {n : Nat} {f : Nat → Int32} {V : Cell} (h : Cod cd n f V) : Typed .byte V := fun i v hv => by
  have hi : i < V.slots.size := (Array.getElem?_eq_some_iff.mp hv).1
  rcases h with ⟨-, k1, k2⟩ | ⟨-, k1, k2, -⟩
  · rw [(k2 i (by omega)).1] at hv; cases hv; exact fits_lo8 _
  · rcases Nat.mod_two_eq_zero_or_one i with e | e
    · obtain ⟨j, rfl⟩ : ∃ j, i = 2 * j := ⟨i / 2, by omega⟩
      rw [(k2 j (by omega)).1] at hv; cases hv; exact fits_lo8 _
    · obtain ⟨j, rfl⟩ : ∃ j, i = 2 * j + 1 := ⟨i / 2, by omega⟩
      rw [(k2 j (by omega)).2] at hv; cases hv; exact fits_lo8 _
/-- the same text -/
def SameT (n : Nat) (f : Nat → Int32) (k : Nat) (g : Nat → Int32) : Prop := n = k ∧ ∀ j, j < n → f j = g j
theorem lo8_inj {x y : Int32} (h0 : ¬ x < 0) (h1 : ¬ 255 < x) (k0 : ¬ y < 0) (k1 : ¬ 255 < y) (h : lo8 x = lo8 y) : x = y := by
  rw [← lo8_mask h0 h1, ← lo8_mask k0 k1, h]
/-- arrays coded by one coder are equal just where the texts are -/
theorem Cod.eqv {cd : Int32} {n k : Nat} {f g : Nat → Int32} {V V' : Cell} (h : Cod cd n f V) (h' : Cod cd k g V') (hf : ∀ j, j < n → ¬ f j < 0 ∧ ¬ 65535 < f j) (hg : ∀ j, j < k → ¬ g j < 0 ∧ ¬ 65535 < g j) : EqC V V' ↔ SameT n f k g := by
  have yvv : ∀ {W : Cell} {i : Nat} {x : Int32}, W.slots[i]? = some (.int x) → yv W i = x := fun q => by unfold yv; rw [q]
  rcases h with ⟨rfl, k1, k2⟩ | ⟨rfl, k1, k2, -⟩
  · rcases h' with ⟨-, m1, m2⟩ | ⟨e, -⟩
    · constructor
      · rintro ⟨e1, e2⟩
        refine ⟨by omega, fun j hj => ?_⟩
        have q := e2 j (by omega)
        rw [yvv (k2 j hj).1, yvv (m2 j (by omega)).1] at q
        exact lo8_inj (hf j hj).1 (k2 j hj).2 (hg j (by omega)).1 (m2 j (by omega)).2 q
      · rintro ⟨rfl, e2⟩
        refine ⟨by omega, fun j hj => ?_⟩
        rw [yvv (k2 j (by omega)).1, yvv (m2 j (by omega)).1, e2 j (by omega)]
    · exact absurd e (by decide)
  · rcases h' with ⟨e, -⟩ | ⟨-, m1, m2, -⟩
    · exact absurd e (by decide)
    · constructor
      · rintro ⟨e1, e2⟩
        refine ⟨by omega, fun j hj => ?_⟩
        have q1 := e2 (2 * j) (by omega)
        have q2 := e2 (2 * j + 1) (by omega)
        rw [yvv (k2 j hj).1, yvv (m2 j (by omega)).1] at q1
        rw [yvv (k2 j hj).2, yvv (m2 j (by omega)).2] at q2
        rw [← pair_says (hf j hj).1 (hf j hj).2, ← pair_says (hg j (by omega)).1 (hg j (by omega)).2, q1, q2]
      · rintro ⟨rfl, e2⟩
        refine ⟨by omega, fun i hi => ?_⟩
        rcases Nat.mod_two_eq_zero_or_one i with e | e
        · obtain ⟨j, rfl⟩ : ∃ j, i = 2 * j := ⟨i / 2, by omega⟩
          rw [yvv (k2 j (by omega)).1, yvv (m2 j (by omega)).1, e2 j (by omega)]
        · obtain ⟨j, rfl⟩ : ∃ j, i = 2 * j + 1 := ⟨i / 2, by omega⟩
          rw [yvv (k2 j (by omega)).2, yvv (m2 j (by omega)).2, e2 j (by omega)]
/-- two codings differ: so do the texts -/
theorem Cod.dif {cd cd' : Int32} {n k : Nat} {f g : Nat → Int32} {V V' : Cell} (h : Cod cd n f V) (h' : Cod cd' k g V') (hne : ¬ cd = cd') : ¬ SameT n f k g := by
  rintro ⟨rfl, e⟩
  rcases h with ⟨rfl, -, k2⟩ | ⟨rfl, -, -, j, hj, hw⟩
  · rcases h' with ⟨rfl, -⟩ | ⟨-, -, -, j, hj, hw⟩
    · exact hne rfl
    · exact (k2 j hj).2 (by rw [e j hj]; exact hw)
  · rcases h' with ⟨-, -, m2⟩ | ⟨rfl, -⟩
    · exact (m2 j hj).2 (by rw [← e j hj]; exact hw)
    · exact hne rfl
/-- an object of exactly C is an instance of C -/
theorem cinst {p : Program} {l : Launch} {e : Env} {R : Room} {s : State} {m : MethodId} {args : Array Value} {below : List Frame} {meth : Method} {c : Code} {T : State} {locs : List Loc} {cells slots : Nat} (X : Stand p l e R s m args below meth c T locs cells slots) (hexec : p.tables.exec = Jvm.exec) {own C : String} {index : Nat} (hown : s.vm.findClass own = some m.cls) (hlink : (Cond.classLink own index C).before args s = true) {a : Addr} (hE : Exact C a T)
    {g : JFrame} (hg : g.method = m) {rest : List Value} (hstack : g.stack = .ref a :: rest) (hdg : decode c.code g.pc = .ok (.instanceof index, 3)) :
    ∃ T', Stand p l e R s m args below meth c T' locs cells slots ∧ T'.heap = T.heap ∧ ∀ target, Steps p.tables e below (T'.setTop { g with pc := g.pc + 3, stack := .int 1 :: rest }) target → Steps p.tables e below (T.setTop g) target := by
  obtain ⟨cB, h1, D, h2, h3, h4⟩ := hE
  have h1' : s.vm.findClass C = some cB := by rw [← X.warmed.alike.findClass]; exact h1
  obtain ⟨vm', X', st⟩ := X.instanceofYes hexec hown hlink h2 h4 h1' (by rw [h3]; exact Jvm.Free.SB.assignable_self _ _) hg hstack hdg
  exact ⟨_, X', rfl, st⟩
theorem cself {p : Program} {l : Launch} {e : Env} {R : Room} {s : State} {m : MethodId} {args : Array Value} {below : List Frame} {meth : Method} {c : Code} {T : State} {locs : List Loc} {cells slots : Nat} (X : Stand p l e R s m args below meth c T locs cells slots) (hexec : p.tables.exec = Jvm.exec) {own C : String} {index : Nat} (hown : s.vm.findClass own = some m.cls) (hlink : (Cond.classLink own index C).before args s = true) {a : Addr} (hE : Exact C a T)
    {g : JFrame} (hg : g.method = m) {rest : List Value} (hstack : g.stack = .ref a :: rest) (hdg : decode c.code g.pc = .ok (.checkcast index, 3)) :
    ∃ T', Stand p l e R s m args below meth c T' locs cells slots ∧ T'.heap = T.heap ∧ ∀ target, Steps p.tables e below (T'.setTop { g with pc := g.pc + 3, stack := .ref a :: rest }) target → Steps p.tables e below (T.setTop g) target := by
  obtain ⟨cB, h1, D, h2, h3, h4⟩ := hE
  have h1' : s.vm.findClass C = some cB := by rw [← X.warmed.alike.findClass]; exact h1
  obtain ⟨vm', X', st⟩ := X.checkcastYes hexec hown hlink h2 h4 h1' (by rw [h3]; exact Jvm.Free.SB.assignable_self _ _) hg hstack hdg
  exact ⟨_, X', rfl, fun t h => st t (by rw [← hstack] at h; exact h)⟩
namespace SEq
def yN : MethodName := ⟨"java/lang/String", "equals", "(Ljava/lang/Object;)Z"⟩
abbrev yB : ByteArray := jdk_42_method_66_code
theorem d0 : decode yB 0 = .ok (.aload_n 0, 1) := by decide +kernel
theorem d1 : decode yB 1 = .ok (.aload_n 1, 1) := by decide +kernel
theorem d2 : decode yB 2 = .ok (.if_acmp (.ne) 5, 3) := by decide +kernel
theorem d5 : decode yB 5 = .ok (.iconst 1, 1) := by decide +kernel
theorem d6 : decode yB 6 = .ok (.ireturn, 1) := by decide +kernel
theorem d7 : decode yB 7 = .ok (.aload_n 1, 1) := by decide +kernel
theorem d8 : decode yB 8 = .ok (.instanceof 10, 3) := by decide +kernel
theorem d11 : decode yB 11 = .ok (.ifCond (.eq) 43, 3) := by decide +kernel
theorem d14 : decode yB 14 = .ok (.aload_n 1, 1) := by decide +kernel
theorem d15 : decode yB 15 = .ok (.checkcast 10, 3) := by decide +kernel
theorem d18 : decode yB 18 = .ok (.astore_n 2, 1) := by decide +kernel
theorem d19 : decode yB 19 = .ok (.getstatic 38, 3) := by decide +kernel
theorem d22 : decode yB 22 = .ok (.ifCond (.eq) 14, 3) := by decide +kernel
theorem d25 : decode yB 25 = .ok (.aload_n 0, 1) := by decide +kernel
theorem d26 : decode yB 26 = .ok (.getfield 15, 3) := by decide +kernel
theorem d29 : decode yB 29 = .ok (.aload_n 2, 1) := by decide +kernel
theorem d30 : decode yB 30 = .ok (.getfield 15, 3) := by decide +kernel
theorem d33 : decode yB 33 = .ok (.if_icmp (.ne) 21, 3) := by decide +kernel
theorem d36 : decode yB 36 = .ok (.aload_n 0, 1) := by decide +kernel
theorem d37 : decode yB 37 = .ok (.getfield 9, 3) := by decide +kernel
theorem d40 : decode yB 40 = .ok (.aload_n 2, 1) := by decide +kernel
theorem d41 : decode yB 41 = .ok (.getfield 9, 3) := by decide +kernel
theorem d44 : decode yB 44 = .ok (.invokestatic 541, 3) := by decide +kernel
theorem d47 : decode yB 47 = .ok (.ifCond (.eq) 7, 3) := by decide +kernel
theorem d50 : decode yB 50 = .ok (.iconst 1, 1) := by decide +kernel
theorem d51 : decode yB 51 = .ok (.goto 4, 3) := by decide +kernel
theorem d54 : decode yB 54 = .ok (.iconst 0, 1) := by decide +kernel
theorem d55 : decode yB 55 = .ok (.ireturn, 1) := by decide +kernel
def site : List Cond := [.classLink "java/lang/String" 10 "java/lang/String", .fieldLink "java/lang/String" 38 "java/lang/String" "COMPACT_STRINGS" "Z", .fieldLink "java/lang/String" 15 "java/lang/String" "coder" "B", .fieldLink "java/lang/String" 9 "java/lang/String" "value" "[B", LEq.tab] ++ staticW "java/lang/String" 541 LEq.yN
def tab : Cond := tabOf yN yB 3 (some .boolean) site
def P (x t : Addr) (V : Cell) (cd : Int32) (n : Nat) (f : Nat → Int32) (y t' : Addr) (V' : Cell) (cd' : Int32) (k : Nat) (g : Nat → Int32) (z : Int32) (args : Array Value) (s : State) : Prop := args = #[.ref x, .ref y] ∧ Txt x t V cd n f s ∧ Txt y t' V' cd' k g s ∧ StaticIs s "java/lang/String" "COMPACT_STRINGS" "Z" (.int z) ∧ ¬ z = 0
/-- equals(Object) of two Strings: whether the texts are the same -/
theorem law (l : Launch) (x t : Addr) (V : Cell) (cd : Int32) (n : Nat) (f : Nat → Int32) (y t' : Addr) (V' : Cell) (cd' : Int32) (k : Nat) (g : Nat → Int32) (z : Int32) : Law l yN 2 1 1 14 yB 3 (some .boolean) site (P x t V cd n f y t' V' cd' k g z) (Says01 (SameT n f k g)) [] 0 0 := by
  refine Law.of_walk (plainFor_of_name (by decide +kernel)) (by decide +kernel) (by decide +kernel) (by decide) (fun _ _ h => by rw [h.1]; rfl) (fun _ U U' hal hh h => ⟨h.1, h.2.1.mv hal hh, h.2.2.1.mv hal hh, h.2.2.2.1.there hal hh, h.2.2.2.2⟩) (fun r U U' V V' h1 hal h2 h => Says01.mv r U U' V V' h1 hal h2 h) ?_
  intro p e s m args below meth c s₁ X0 hexec hbytes hml hret hlk hnm hown hh0 W hP
  obtain ⟨rfl, hx, hy, s1, hz⟩ := hP
  have c1 : Steps p.tables e below (s₁.setTop (entryFrame m #[.ref x, .ref y] 3)) (s₁.setTop (mkF m 2 #[.val (.ref x), .val (.ref y), .unset] [.ref y, .ref x])) := Steps.trans (entry rfl) (by
    show Steps p.tables e below (s₁.setTop (mkF m 0 #[.val (.ref x), .val (.ref y), .unset] [])) _
    refine XS.aloadN X0.here hexec rfl (hb hbytes d0) rfl rfl ?_
    refine XS.aloadN X0.here hexec rfl (hb hbytes d1) rfl rfl ?_
    exact Steps.refl _)
  by_cases hxy : x = y
  · have c2 : Steps p.tables e below (s₁.setTop (entryFrame m #[.ref x, .ref y] 3)) (s₁.setTop (mkF m 6 #[.val (.ref x), .val (.ref y), .unset] [.int 1])) := c1.trans (by
      refine acmpNo X0.here hexec rfl (hb hbytes d2) rfl rfl rfl (by simp [acmp, hxy]) ?_
      refine iconstV X0.here hexec rfl 1 (hb hbytes d5) (by decide) ?_
      exact Steps.refl _)
    subst hxy
    have ec : cd = cd' := by
      obtain ⟨D, fd, a1, a2, a3⟩ := hx.2.2.1
      obtain ⟨D', fd', b1, b2, b3⟩ := hy.2.2.1
      cases a1.symm.trans b1
      obtain ⟨q1, q2, q3, q4⟩ := a2.1
      obtain ⟨r1, r2, r3, r4⟩ := b2.1
      cases q4.symm.trans r4
      cases a3.symm.trans b3; rfl
    have et : t = t' := by
      obtain ⟨D, fd, a1, a2, a3⟩ := hx.2.1
      obtain ⟨D', fd', b1, b2, b3⟩ := hy.2.1
      cases a1.symm.trans b1
      obtain ⟨q1, q2, q3, q4⟩ := a2.1
      obtain ⟨r1, r2, r3, r4⟩ := b2.1
      cases q4.symm.trans r4
      cases a3.symm.trans b3; rfl
    subst ec et
    have ev : V = V' := by cases hx.2.2.2.1.1.symm.trans hy.2.2.2.1.1; rfl
    subst ev
    have hs : SameT n f k g := (Cod.eqv hx.2.2.2.2.1 hy.2.2.2.2.1 hx.2.2.2.2.2 hy.2.2.2.2.2).mp ⟨rfl, fun _ _ => rfl⟩
    exact ⟨s₁, some (.int 1), _, _, _, X0, rfl, rfl, rfl, (fun h => by cases h), ⟨1, rfl, hh0, Or.inl ⟨rfl, hs⟩⟩, fun fs hl => c2.trans (X0.ireturnOut hexec hret rfl (Or.inr (Or.inl rfl)) (hb hbytes d6) hl)⟩
  · have c2 : Steps p.tables e below (s₁.setTop (entryFrame m #[.ref x, .ref y] 3)) (s₁.setTop (mkF m 8 #[.val (.ref x), .val (.ref y), .unset] [.ref y])) := c1.trans (by
      refine acmpYes X0.here hexec rfl (pc0 := 2) rfl (hb hbytes d2) rfl rfl rfl (by simp [acmp, hxy]) (by decide) rfl ?_
      refine XS.aloadN X0.here hexec rfl (hb hbytes d7) rfl rfl ?_
      exact Steps.refl _)
    obtain ⟨T3, X3, q3, st3⟩ := cinst X0 hexec hown (wk W (.classLink "java/lang/String" 10 "java/lang/String")) (hy.mv X0.warmed.alike hh0).1 (g := (mkF m 8 #[.val (.ref x), .val (.ref y), .unset] [.ref y])) rfl (rest := []) rfl (hb hbytes d8)
    have hh3 := q3.trans hh0
    have c4 : Steps p.tables e below (s₁.setTop (entryFrame m #[.ref x, .ref y] 3)) (T3.setTop (mkF m 15 #[.val (.ref x), .val (.ref y), .unset] [.ref y])) := (c2.trans (st3 _ (Steps.refl _))).trans (by
      refine XS.ifNo X3.here hexec rfl (hb hbytes d11) rfl (i0_eq_f (by decide)) ?_
      refine XS.aloadN X3.here hexec rfl (hb hbytes d14) rfl rfl ?_
      exact Steps.refl _)
    obtain ⟨T5, X5, q5, st5⟩ := cself X3 hexec hown (wk W (.classLink "java/lang/String" 10 "java/lang/String")) (hy.mv X3.warmed.alike hh3).1 (g := (mkF m 15 #[.val (.ref x), .val (.ref y), .unset] [.ref y])) rfl (rest := []) rfl (hb hbytes d15)
    have hh5 := q5.trans hh3
    have c6 : Steps p.tables e below (s₁.setTop (entryFrame m #[.ref x, .ref y] 3)) (T5.setTop (mkF m 19 #[.val (.ref x), .val (.ref y), .val (.ref y)] [])) := (c4.trans (st5 _ (Steps.refl _))).trans (by
      refine XS.astoreN X5.here hexec rfl (hb hbytes d18) rfl rfl rfl ?_
      exact Steps.refl _)
    obtain ⟨T7, X7, q7, st7⟩ := X5.sget hexec hown (wk W (.fieldLink "java/lang/String" 38 "java/lang/String" "COMPACT_STRINGS" "Z")) s1 (fun _ _ h => by rw [hh5]; exact h) (g := (mkF m 19 #[.val (.ref x), .val (.ref y), .val (.ref y)] [])) rfl (hb hbytes d19)
    have hh7 := q7.trans hh5
    have c8 : Steps p.tables e below (s₁.setTop (entryFrame m #[.ref x, .ref y] 3)) (T7.setTop (mkF m 26 #[.val (.ref x), .val (.ref y), .val (.ref y)] [.ref x])) := (c6.trans (st7 _ (Steps.refl _))).trans (by
      refine XS.ifNo X7.here hexec rfl (hb hbytes d22) rfl (i0_eq_f hz) ?_
      refine XS.aloadN X7.here hexec rfl (hb hbytes d25) rfl rfl ?_
      exact Steps.refl _)
    obtain ⟨T9, X9, q9, st9⟩ := X7.hget hexec hown (wk W (.fieldLink "java/lang/String" 15 "java/lang/String" "coder" "B")) (hx.mv X7.warmed.alike hh7).2.2.1 (g := (mkF m 26 #[.val (.ref x), .val (.ref y), .val (.ref y)] [.ref x])) rfl (rest := []) rfl (hb hbytes d26)
    have hh9 := q9.trans hh7
    have c10 : Steps p.tables e below (s₁.setTop (entryFrame m #[.ref x, .ref y] 3)) (T9.setTop (mkF m 30 #[.val (.ref x), .val (.ref y), .val (.ref y)] [.ref y, .int cd])) := (c8.trans (st9 _ (Steps.refl _))).trans (by
      refine XS.aloadN X9.here hexec rfl (hb hbytes d29) rfl rfl ?_
      exact Steps.refl _)
    obtain ⟨T11, X11, q11, st11⟩ := X9.hget hexec hown (wk W (.fieldLink "java/lang/String" 15 "java/lang/String" "coder" "B")) (hy.mv X9.warmed.alike hh9).2.2.1 (g := (mkF m 30 #[.val (.ref x), .val (.ref y), .val (.ref y)] [.ref y, .int cd])) rfl (rest := [.int cd]) rfl (hb hbytes d30)
    have hh11 := q11.trans hh9
    have c12 : Steps p.tables e below (s₁.setTop (entryFrame m #[.ref x, .ref y] 3)) (T11.setTop (mkF m 33 #[.val (.ref x), .val (.ref y), .val (.ref y)] [.int cd', .int cd])) := c10.trans (st11 _ (Steps.refl _))
    by_cases hcd : cd = cd'
    · subst hcd
      have c13 : Steps p.tables e below (s₁.setTop (entryFrame m #[.ref x, .ref y] 3)) (T11.setTop (mkF m 37 #[.val (.ref x), .val (.ref y), .val (.ref y)] [.ref x])) := c12.trans (by
        refine XS.icmpNo X11.here hexec rfl (hb hbytes d33) rfl (ii_ne_f rfl) ?_
        refine XS.aloadN X11.here hexec rfl (hb hbytes d36) rfl rfl ?_
        exact Steps.refl _)
      obtain ⟨T14, X14, q14, st14⟩ := X11.hget hexec hown (wk W (.fieldLink "java/lang/String" 9 "java/lang/String" "value" "[B")) (hx.mv X11.warmed.alike hh11).2.1 (g := (mkF m 37 #[.val (.ref x), .val (.ref y), .val (.ref y)] [.ref x])) rfl (rest := []) rfl (hb hbytes d37)
      have hh14 := q14.trans hh11
      have c15 : Steps p.tables e below (s₁.setTop (entryFrame m #[.ref x, .ref y] 3)) (T14.setTop (mkF m 41 #[.val (.ref x), .val (.ref y), .val (.ref y)] [.ref y, .ref t])) := (c13.trans (st14 _ (Steps.refl _))).trans (by
        refine XS.aloadN X14.here hexec rfl (hb hbytes d40) rfl rfl ?_
        exact Steps.refl _)
      obtain ⟨T16, X16, q16, st16⟩ := X14.hget hexec hown (wk W (.fieldLink "java/lang/String" 9 "java/lang/String" "value" "[B")) (hy.mv X14.warmed.alike hh14).2.1 (g := (mkF m 41 #[.val (.ref x), .val (.ref y), .val (.ref y)] [.ref y, .ref t])) rfl (rest := [.ref t]) rfl (hb hbytes d41)
      have hh16 := q16.trans hh14
      have c17 : Steps p.tables e below (s₁.setTop (entryFrame m #[.ref x, .ref y] 3)) (T16.setTop (mkF m 44 #[.val (.ref x), .val (.ref y), .val (.ref y)] [.ref t', .ref t])) := c15.trans (st16 _ (Steps.refl _))
      obtain ⟨v18, T18, X18, E18, g18⟩ := X16.callS hexec (LEq.law l t V t' V') hown (wks W (staticW "java/lang/String" 541 LEq.yN)) (wk W LEq.tab) (W := 0) (Nat.le_of_ble_eq_true rfl) (Nat.le_of_ble_eq_true rfl) (Nat.le_refl _) (Nat.le_refl _) (g := (mkF m 44 #[.val (.ref x), .val (.ref y), .val (.ref y)] [.ref t', .ref t])) rfl (by rw [hml]; rfl) c17 (argsL := [.ref t, .ref t']) (rest := []) rfl rfl (by show 2 * 0 + 0 ≤ _; decide) (hb hbytes d44) (⟨rfl, hx.2.2.2.1.mv X16.warmed.alike hh16, hx.2.2.2.2.1.ty, hy.2.2.2.1.mv X16.warmed.alike hh16, hy.2.2.2.2.1.ty⟩)
      obtain ⟨v, rfl, q18, hv⟩ := E18
      have iff := Cod.eqv hx.2.2.2.2.1 hy.2.2.2.2.1 hx.2.2.2.2.2 hy.2.2.2.2.2
      rcases hv with ⟨rfl, he⟩ | ⟨rfl, he⟩
      · have c19 : Steps p.tables e below (s₁.setTop (entryFrame m #[.ref x, .ref y] 3)) (T18.setTop (mkF m 55 #[.val (.ref x), .val (.ref y), .val (.ref y)] [.int 1])) := Steps.trans g18 (by
          refine XS.ifNo X18.here hexec rfl (hb hbytes d47) rfl (i0_eq_f (by decide)) ?_
          refine iconstV X18.here hexec rfl 1 (hb hbytes d50) (by decide) ?_
          refine XS.goto X18.here hexec rfl (pc0 := 51) rfl (hb hbytes d51) (by decide) rfl ?_
          exact Steps.refl _)
        exact ⟨T18, some (.int 1), _, _, _, X18, rfl, rfl, rfl, (fun h => by cases h), ⟨1, rfl, q18.trans hh16, Or.inl ⟨rfl, iff.mp he⟩⟩, fun fs hl => c19.trans (X18.ireturnOut hexec hret rfl (Or.inr (Or.inl rfl)) (hb hbytes d55) hl)⟩
      · have c19 : Steps p.tables e below (s₁.setTop (entryFrame m #[.ref x, .ref y] 3)) (T18.setTop (mkF m 55 #[.val (.ref x), .val (.ref y), .val (.ref y)] [.int 0])) := Steps.trans g18 (by
          refine XS.ifYes X18.here hexec rfl (pc0 := 47) rfl (hb hbytes d47) rfl (i0_eq_t rfl) (by decide) rfl ?_
          refine iconstV X18.here hexec rfl 0 (hb hbytes d54) (by decide) ?_
          exact Steps.refl _)
        exact ⟨T18, some (.int 0), _, _, _, X18, rfl, rfl, rfl, (fun h => by cases h), ⟨0, rfl, q18.trans hh16, Or.inr ⟨rfl, fun q => he (iff.mpr q)⟩⟩, fun fs hl => c19.trans (X18.ireturnOut hexec hret rfl (Or.inr (Or.inl rfl)) (hb hbytes d55) hl)⟩
    · have c13 : Steps p.tables e below (s₁.setTop (entryFrame m #[.ref x, .ref y] 3)) (T11.setTop (mkF m 55 #[.val (.ref x), .val (.ref y), .val (.ref y)] [.int 0])) := c12.trans (by
        refine XS.icmpYes X11.here hexec rfl (pc0 := 33) rfl (hb hbytes d33) rfl (ii_ne_t hcd) (by decide) rfl ?_
        refine iconstV X11.here hexec rfl 0 (hb hbytes d54) (by decide) ?_
        exact Steps.refl _)
      exact ⟨T11, some (.int 0), _, _, _, X11, rfl, rfl, rfl, (fun h => by cases h), ⟨0, rfl, hh11, Or.inr ⟨rfl, Cod.dif hx.2.2.2.2.1 hy.2.2.2.2.1 hcd⟩⟩, fun fs hl => c13.trans (X11.ireturnOut hexec hret rfl (Or.inr (Or.inl rfl)) (hb hbytes d55) hl)⟩
theorem pays {l : Launch} {R : Room} {p : Program} {e : Env} {below : List Frame} {s : State} {sargs : Array Value} {len W : Nat} (x t : Addr) (V : Cell) (cd : Int32) (n : Nat) (f : Nat → Int32) (y t' : Addr) (V' : Cell) (cd' : Int32) (k : Nat) (g : Nat → Int32) (z : Int32) (htab : tab.before sargs s = true) (hfr : 2 ≤ R.frames) (hlo : W + 28 ≤ R.locals) :
    Back l R p e below s sargs yN len W (fun A₁ a₁ => A₁.cells + 0 ≤ R.cells ∧ A₁.slots + 0 ≤ R.slots ∧ P x t V cd n f y t' V' cd' k g z a₁ A₁.U) (fun A₁ _ v₁ B₁ => Says01 (SameT n f k g) v₁ A₁.U B₁.U ∧ B₁.locs = A₁.locs ++ [] ∧ B₁.cells = A₁.cells + 0 ∧ B₁.slots = A₁.slots + 0) :=
  (law l x t V cd n f y t' V' cd' k g z).pays htab hfr (by omega)
end SEq
end StrChars
namespace StrChars.Road
open Jvm Sem ClassFile Op Lib Jvm.Stand Jvm.Free Jvm.Free.XT
open Jvm.Lib.Cold (StaticIs)
/-- the words of String.equals(Object) -/
abbrev wordsEq : List Jvm.Cond := [.code SEq.yN SEq.yB 3 (some .boolean), .initialized ST, .classLink ST 10 ST, .fieldLink ST 38 ST "COMPACT_STRINGS" "Z", .fieldLink ST 15 ST "coder" "B", .fieldLink ST 9 ST "value" "[B", .methodLink ST 541 LEq.yN, .static LEq.yN, .code LEq.yN LEq.yB 3 (some .boolean), .initialized "java/lang/StringLatin1"]
theorem tabEq_of {a : Array Value} {s : State} (h : ∀ w ∈ wordsEq, w.before a s = true) : SEq.tab.before a s = true := by
  have hl : LEq.tab.before a s = true := unparts (wk h (.code LEq.yN LEq.yB 3 (some .boolean))) (wks h (.initialized LEq.yN.cls :: LEq.site))
  have q := consq hl h
  exact unparts (wk q (.code SEq.yN SEq.yB 3 (some .boolean))) (wks q (.initialized SEq.yN.cls :: SEq.site))
theorem movedEq {Z s : State} {a0 args : Array Value} (hZ : Z.Warmed39 s.vm) (hw : ∀ d ∈ wordsEq, d.before a0 Z = true) : ∀ d ∈ wordsEq, d.before args s = true := fun d hd => by
  have t : ∀ d ∈ wordsEq, (d.onTables && d.keepsFace) = true := by decide +kernel
  exact RoadKit.mv hZ (hw d hd) (t d hd)
/-- the road's facts of a String, as the laws ask it -/
theorem txt_of {Z U : State} {a0 : Array Value} {kI : Nat} (wi : (Jvm.Cond.instantiable ST kI).before a0 Z = true) (al : Z.vm.Alike U.vm) {x t : Addr} {kb : ClassId} {cs : List Int32} {cd N2 : Int32} {vs : List Value} (E : RoadKit.Exa Z U.heap x ST) (V : RoadKit.Fld Z U.heap x ST "value" "[B" (.ref t)) (C : RoadKit.Fld Z U.heap x ST "coder" "B" (.int cd)) (K : RoadKit.Arv Z U.heap t kb .byte N2 vs (.int 0)) (hc : CodA cs cd N2 vs) (hb : ∀ c ∈ cs, ¬ c < 0 ∧ ¬ (65535 : Int32) < c) (l2 : cs.length ≤ 4000) :
    ∃ A, Txt x t A cd cs.length (fun j => cs.getD j 0) U := by
  obtain ⟨A, K1, K2, K3, K4, K5, K6⟩ := K
  have hcod := hc.cod (by omega) K3 K5
  obtain ⟨D, fV, fC, hB, F1, F2, g1, g2, -, -⟩ := strObj wi al E V C
  exact ⟨A, ⟨_, hB.2.2.1, D, hB.1, rfl, by cases q : D.vm <;> first | rfl | exact absurd q (hB.2.1.2 _)⟩, Has.of hB F1 g1, Has.of hB F2 g2, ⟨K1.1, State.isArrayOf_alike al K1.2.1, K1.2.2, by rcases hcod with ⟨-, q, -⟩ | ⟨-, q, -⟩ <;> omega⟩, hcod, fun j hj => by
    have e : cs.getD j 0 = cs[j] := by simp [List.getD_eq_getElem?_getD, hj]
    show ¬ cs.getD j 0 < 0 ∧ ¬ 65535 < cs.getD j 0
    rw [e]; exact hb _ (List.getElem_mem _)⟩
theorem same_list (cs ds : List Int32) : SameT cs.length (fun j => cs.getD j 0) ds.length (fun j => ds.getD j 0) ↔ cs = ds := by
  constructor
  · rintro ⟨e, q⟩
    refine List.ext_getElem e fun j h1 h2 => ?_
    have := q j h1
    simpa [List.getD_eq_getElem?_getD, h1, h2] using this
  · rintro rfl
    exact ⟨rfl, fun _ _ => rfl⟩
/-- **equals(Object) OF TWO SUCH STRINGS**: 1 just where the chars are the same -/
theorem eqW {p : Program} {l : Launch} {e : Env} {R : Room} {s : State} {args : Array Value} {below : List Frame} {len W : Nat} {Z : State} {a0 : Array Value} {h : Heap} (hZ : Z.Warmed39 s.vm) (hw : ∀ d ∈ wordsEq, d.before a0 Z = true) {kI : Nat} (wi : (Jvm.Cond.instantiable ST kI).before a0 Z = true)
    {x t : Addr} {kb : ClassId} {cs : List Int32} {cd N2 : Int32} {vs : List Value} (E : RoadKit.Exa Z h x ST) (V : RoadKit.Fld Z h x ST "value" "[B" (.ref t)) (C : RoadKit.Fld Z h x ST "coder" "B" (.int cd)) (K : RoadKit.Arv Z h t kb .byte N2 vs (.int 0)) (hc : CodA cs cd N2 vs) (hb : ∀ c ∈ cs, ¬ c < 0 ∧ ¬ (65535 : Int32) < c) (l2 : cs.length ≤ 4000)
    {y t' : Addr} {kb' : ClassId} {ds : List Int32} {cd' N2' : Int32} {vs' : List Value} (E' : RoadKit.Exa Z h y ST) (V' : RoadKit.Fld Z h y ST "value" "[B" (.ref t')) (C' : RoadKit.Fld Z h y ST "coder" "B" (.int cd')) (K' : RoadKit.Arv Z h t' kb' .byte N2' vs' (.int 0)) (hc' : CodA ds cd' N2' vs') (hb' : ∀ c ∈ ds, ¬ c < 0 ∧ ¬ (65535 : Int32) < c) (l2' : ds.length ≤ 4000)
    {z : Int32} (S : RoadKit.Sta Z h ST "COMPACT_STRINGS" "Z" (.int z)) (hz : ¬ z = 0) (hfr : 2 ≤ R.frames) (hlo : W + 28 ≤ R.locals) :
    Back l R p e below s args (⟨"java/lang/String", "equals", "(Ljava/lang/Object;)Z"⟩ : MethodName) len W (fun P a => a = #[.ref x, .ref y] ∧ P.U.heap = h ∧ P.cells + 0 ≤ R.cells ∧ P.slots + 0 ≤ R.slots)
      (fun P _ v B => ∃ L, (((v = some (.int 1) ∧ cs = ds) ∨ (v = some (.int 0) ∧ ¬ cs = ds)) ∧ L = [] ∧ B.U.heap = h) ∧ B.locs = P.locs ++ L ∧ B.cells = P.cells + 0 ∧ B.slots = P.slots + 0) := by
  intro m meth c P g ig mk a X hg hsize hdg hW hn hp'
  obtain ⟨rfl, rfl, r1, r2⟩ := hp'
  have al : Z.vm.Alike P.U.vm := hZ.alike.trans X.warmed.alike
  obtain ⟨A, hx⟩ := txt_of wi al E V C K hc hb l2
  obtain ⟨A', hy⟩ := txt_of wi al E' V' C' K' hc' hb' l2'
  obtain ⟨v, B, X', ⟨⟨w, hv, hh, hq⟩, hl, hk, hs⟩, st⟩ := SEq.pays x t A cd cs.length (fun j => cs.getD j 0) y t' A' cd' ds.length (fun j => ds.getD j 0) z (tabEq_of (movedEq hZ hw)) hfr hlo m meth c P g ig mk _ X hg hsize hdg hW hn ⟨r1, r2, rfl, hx, hy, sta_is al S, hz⟩
  refine ⟨v, B, X', ⟨[], ⟨?_, rfl, hh⟩, hl, hk, hs⟩, st⟩
  rcases hq with ⟨rfl, q⟩ | ⟨rfl, q⟩
  · exact Or.inl ⟨hv, (same_list cs ds).mp q⟩
  · exact Or.inr ⟨hv, fun e => q ((same_list cs ds).mpr e)⟩
end StrChars.Road
namespace StrChars.Road
open Jvm Sem ClassFile Op Lib Jvm.Stand Jvm.Free Jvm.Free.XT
open Jvm.Lib.Cold (StaticIs)
/-- what backV says of its String, as the contracts of this text ask it: cs's low bytes, coder 0 -/
theorem codOf {cs : List Int32} {n : Nat} (hn : cs.length = n) (hb : ∀ c ∈ cs, ¬ 255 < c) : CodA cs 0 (Int32.ofNat n) ((cs.map lo8).map Value.int) := Or.inl ⟨rfl, by rw [hn], by simp [List.map_map, Function.comp_def], hb⟩
end StrChars.Road
end Jvm.Pilot.@@N@@

namespace Jvm.Pilot.@@N@@
open Jvm Jvm.ClassFile Sem Op Lib Jvm.Free Jvm.Stand Jvm.LawKit Jvm.RoadKit Bundle Jvm.Pilot.@@N@@.Jvm.D
abbrev cn_0 : String := "com/example/bordereau/bordereau/archive/Agency"
abbrev cn_1 : String := "com/example/bordereau/bordereau/archive/AgencyEqualsPinLaw"
abbrev cn_2 : String := "java/lang/String"
abbrev cn_3 : String := "Ljava/lang/String;"
abbrev cn_4 : String := "(Ljava/lang/Object;)Z"
abbrev cn_5 : String := "(Ljava/lang/String;Ljava/lang/String;Ljava/lang/String;)V"
abbrev cn_6 : String := "(Ljava/lang/Object;Ljava/lang/String;)Ljava/lang/Object;"
abbrev cn_7 : String := "java/lang/Object"
abbrev cn_8 : String := "java/util/Objects"
abbrev cn_9 : String := "([CIILjava/lang/Void;)V"
abbrev cn_10 : String := "(I)Ljava/lang/String;"
def own_St (Z : State) (w_COMPACT_STRINGS : Int32) (w_SIOOBE_FORMATTER : Value) : Prop := (Sta Z Z.heap cn_2 "COMPACT_STRINGS" "Z" (.int w_COMPACT_STRINGS)) ∧ (Sta Z Z.heap "jdk/internal/util/Preconditions" "SIOOBE_FORMATTER" "Ljava/util/function/BiFunction;" w_SIOOBE_FORMATTER) ∧ (w_SIOOBE_FORMATTER.isRef = true) ∧ (¬ w_COMPACT_STRINGS = (0 : Int32))
theorem own_St.k0 {Z : State} {w_COMPACT_STRINGS : Int32} {w_SIOOBE_FORMATTER : Value} (ST : own_St Z w_COMPACT_STRINGS w_SIOOBE_FORMATTER) : Sta Z Z.heap cn_2 "COMPACT_STRINGS" "Z" (.int w_COMPACT_STRINGS) := ST.1
theorem own_St.k1 {Z : State} {w_COMPACT_STRINGS : Int32} {w_SIOOBE_FORMATTER : Value} (ST : own_St Z w_COMPACT_STRINGS w_SIOOBE_FORMATTER) : Sta Z Z.heap "jdk/internal/util/Preconditions" "SIOOBE_FORMATTER" "Ljava/util/function/BiFunction;" w_SIOOBE_FORMATTER := ST.2.1
theorem own_St.k2 {Z : State} {w_COMPACT_STRINGS : Int32} {w_SIOOBE_FORMATTER : Value} (ST : own_St Z w_COMPACT_STRINGS w_SIOOBE_FORMATTER) : w_SIOOBE_FORMATTER.isRef = true := ST.2.2.1
theorem own_St.k3 {Z : State} {w_COMPACT_STRINGS : Int32} {w_SIOOBE_FORMATTER : Value} (ST : own_St Z w_COMPACT_STRINGS w_SIOOBE_FORMATTER) : ¬ w_COMPACT_STRINGS = (0 : Int32) := ST.2.2.2
theorem own_hwV {Z : State} {a0 : Array Value} (hw : ∀ d ∈ tables_1, d.before a0 Z = true) : ∀ d ∈ StrChars.Road.words, d.before a0 Z = true := fun d hd => hw d ((by decide +kernel : ∀ d ∈ StrChars.Road.words, d ∈ tables_1) d hd)
theorem own_hwE {Z : State} {a0 : Array Value} (hw : ∀ d ∈ tables_1, d.before a0 Z = true) : ∀ d ∈ StrChars.Road.wordsEq, d.before a0 Z = true := fun d hd => hw d ((by decide +kernel : ∀ d ∈ StrChars.Road.wordsEq, d ∈ tables_1) d hd)
theorem own_up {cs : List Int32} (h : ∀ c ∈ cs, ¬ c < 0 ∧ ¬ (255 : Int32) < c) : ∀ c ∈ cs, ¬ c < 0 ∧ ¬ (65535 : Int32) < c := fun c hc => ⟨(h c hc).1, fun q => (h c hc).2 (Int32.lt_trans (by decide) q)⟩
theorem own_cod (cs : List Int32) (n : Nat) (hn : cs.length = n) (h : ∀ c ∈ cs, ¬ c < 0 ∧ ¬ (255 : Int32) < c) : StrChars.Road.CodA cs 0 (Int32.ofNat n) ((cs.map StrChars.lo8).map Value.int) := StrChars.Road.codOf hn (fun c hc => (h c hc).2)
theorem ww24 {Z : State} {a0 : Array Value} (hw : ∀ d ∈ tables_1, d.before a0 Z = true) : Jvm.Cond.before (Jvm.Cond.stringLink cn_2 (7 : Nat) "") a0 Z = true := hw _ (List.mem_of_getElem? (i := 24) rfl)
abbrev own_EL : List (String × Nat) := [(cn_2, 7)]
theorem own_e0 : (∀ c ∈ "".toList, c.toNat < 256) ∧ "".toList.map (fun c => Value.int (Jvm.Lit.byteI c.toNat.toUInt16)) = [] := by
  have e : "".toList = [] := by first | rfl | decide | simp
  rw [e]
  exact ⟨fun _ h => (nomatch h), rfl⟩
theorem own_EW {Z : State} {a0 : Array Value} (hw : ∀ d ∈ tables_1, d.before a0 Z = true) : EW Z a0 own_EL := EW.cons (text := "") (ww24 hw) own_e0.1 EW.nil
theorem own_safeN {Z : State} {EL : List (String × Nat)} {vm : Vm} {h : Heap} {x : Addr} (hal : Z.vm.Alike vm) (E : Exa Z h x cn_2) (F : Fld Z h x cn_2 "value" "[B" .null) : Safe Z EL vm h x := fun B => by
  obtain ⟨p, -, u, a, -, q, -, S, rfl | rfl⟩ := B
  · obtain ⟨cell, cf, k, i, f, e1, e2, -, -, -, -, e7⟩ := F
    cases (show h[q.sa]? = some q.sC from S.ha).symm.trans e1
    obtain ⟨cS, ⟨⟨-, -, -, ⟨cv, kv, iv, s4, -⟩, -, -, -, s8, -⟩, -⟩, -⟩ := S
    obtain ⟨kv', z4⟩ := ff_back (U := Wst Z vm h) hal s4
    have e4 := z4.symm.trans e2
    simp only [Option.some.injEq, Prod.mk.injEq] at e4
    rw [← e4.2.2.2, s8] at e7
    cases e7
  · obtain ⟨cell, k, e1, e2, -⟩ := E
    cases (show h[q.sd]? = some q.SA from S.hd).symm.trans e1
    obtain ⟨cS, -, -, f, -⟩ := S
    have f' : vm.findClass "[B" = some q.SA.cls := f
    rw [hal.findClass] at f'
    obtain ⟨k1, q1, q2⟩ := Vm.findClass_spec f'
    obtain ⟨k2, q3, q4⟩ := Vm.findClass_spec e2
    cases q1.symm.trans q3
    exact absurd (q2.symm.trans q4) (by decide)
theorem own_safeV {Z : State} {EL : List (String × Nat)} {vm : Vm} {h : Heap} {x : Addr} {k : ClassId} {ty : FieldType} {n : Int32} {vs : List Value} {d : Value} (hal : Z.vm.Alike vm) (V : Arv Z h x k ty n vs d) (ht : ty ≠ .byte) : Safe Z EL vm h x := by
  obtain ⟨c, A, -⟩ := V
  exact Safe.arr hal A ht
theorem own_openH {p : Program} {l : Launch} {e : Env} {R : Room} {s : State} {m : MethodId} {args : Array Value} {below : List Frame} {meth : Method} {c : Code} {Z : State} {a0 : Array Value} {EL : List (String × Nat)} {h0 : Heap} (K N : Nat) (Q : Option Value → Heap → List Loc → Prop) (hEL : EW Z a0 EL) (hh : s.heap = h0) (hlocks : meth.locks = false) :
    ∃ G : State → JFrame → Prop,
      (∀ {T T' : State} {g g' : JFrame}, (∀ t, Steps p.tables e below (T'.setTop g') t → Steps p.tables e below (T.setTop g) t) → G T' g' → G T g) ∧
      (∀ {T : State} {g : JFrame} {locs : List Loc} {cells slots : Nat} {v : Option Value} {h : Heap} {vm0 : Vm} {k0 : Nat}, Stand p l e R (s.setVm vm0) m args below meth c T locs cells slots → s.Since vm0 k0 → k0 ≤ h.size → CHr Z EL s.vm h0 vm0 h → Z.Warmed39 vm0 → (meth.sig.returnType = none → v = none) →
        (∀ fs, (∀ (f : JFrame) (acts : List Action), f.method = m → f.locked = none → f.entered = [] → (doReturn e (T.setTop f) acts v).1 = T.setFrames fs) → Steps p.tables e below (T.setTop g) (T.setFrames fs)) → T.heap = h → Q v h locs → cells ≤ K → slots ≤ N → G T g) ∧
      (∀ {T : State} {g : JFrame}, G T g → ∃ t o, Steps p.tables e below (T.setTop g) t ∧ t.status = .running ∧ Ended t below o ∧ ∃ v L, o = .returned v ∧ Q v t.heap L ∧ CHr Z EL s.vm s.heap t.vm t.heap ∧ ReturnedEndW s o t L K N) := by
  refine ⟨fun T g => ∃ t o, Steps p.tables e below (T.setTop g) t ∧ t.status = .running ∧ Ended t below o ∧ ∃ v L, o = .returned v ∧ Q v t.heap L ∧ CHr Z EL s.vm s.heap t.vm t.heap ∧ ReturnedEndW s o t L K N, ?_, ?_, fun h => h⟩
  · intro T T' g g' hs hG
    obtain ⟨t, o, h1, h2⟩ := hG
    exact ⟨t, o, hs t h1, h2⟩
  · intro T g locs cells slots v h vm0 k0 X hS hk0 hC hZ hv hst hT hQ hk hn
    obtain ⟨fs, hr, hrun, hended, hW⟩ := X.leaveW hS (by rw [hT]; exact hk0) hv hlocks
    refine ⟨_, _, hst fs hr, hrun, hended, v, locs, rfl, by show Q v T.heap locs; rw [hT]; exact hQ, ?_, hW.1, hW.2.1, hW.2.2.1, hW.2.2.2.mono hk hn⟩
    show CHr Z EL s.vm s.heap T.vm T.heap
    rw [hT, hh]
    exact hC.trans (CHv.at X hZ hEL hC.1)
def own_sp (cs : List Int32) (n : Int32) (vs : List Value) : Prop := StrChars.Road.CodA cs 0 n vs ∧ (∀ c ∈ cs, ¬ c < 0 ∧ ¬ (65535 : Int32) < c) ∧ cs.length ≤ 4000
def own_eqr (r : Int32) (P : Prop) : Prop := (r = (1 : Int32) ∧ P) ∨ (r = (0 : Int32) ∧ ¬ P)
theorem own_eqY {r : Int32} {P : Prop} (h : own_eqr r P) (q : P) : r = (1 : Int32) := h.elim (fun z => z.1) (fun z => absurd q z.2)
theorem own_eqN {r : Int32} {P : Prop} (h : own_eqr r P) (q : ¬ P) : r = (0 : Int32) := h.elim (fun z => absurd z.2 q) (fun z => z.1)
theorem own_nosub {Z : State} {a0 : Array Value} {K O D : String} {n : Nat} (w : (Cond.superclass D O).before a0 Z = true) (wo : (Cond.noSuperclass O).before a0 Z = true) (wk : (Cond.instantiable K n).before a0 Z = true) (h1 : D ≠ K) (h2 : O ≠ K) : ∃ c t, Z.vm.findClass D = some c ∧ Z.vm.findClass K = some t ∧ Z.vm.assignable c t = false := by
  obtain ⟨t, k', g0, g2, g5, g6, -, -⟩ := Cond.instantiable_spec wk
  have g7 : k'.isInterface = false := (Bool.or_eq_false_iff.mp g6).1
  obtain ⟨c0, ko, u1, u2, u3, -, -⟩ := Cond.noSuperclass_spec wo
  obtain ⟨c, v0⟩ := found_sup w
  obtain ⟨p, k, kp, v1, v2, v3, v4, v5, -, v7⟩ := Cond.superclass_spec v0 w
  cases u1.symm.trans v1
  have ne1 := ids_ne v0 g0 h1
  have ne2 := ids_ne u1 g0 h2
  have n2 : ∀ fuel, Z.vm.isSubclassAux fuel c0 t = false := fun fuel => by
    cases fuel with
    | zero => rfl
    | succ f => simp [Vm.isSubclassAux, ne2, u2, u3]
  have n3 : ∀ fuel, Z.vm.isSubclassAux fuel c t = false := fun fuel => by
    cases fuel with
    | zero => rfl
    | succ f => simp [Vm.isSubclassAux, ne1, v2, v4, n2]
  refine ⟨c, t, v0, g0, ?_⟩
  show Z.vm.assignableAux (255 + 1) c t = false
  simp [Vm.assignableAux, ne1, v2, g2, v5, g5, g7, Vm.isSubclass, n3]
theorem own_wS {Z : State} {a0 : Array Value} (hw : ∀ d ∈ tables_1, d.before a0 Z = true) : ∀ a ∈ Bundle.stringAtoms, a.before a0 Z = true := by
  intro a ha
  simp only [Bundle.stringAtoms, List.mem_cons, List.not_mem_nil, or_false] at ha
  rcases ha with rfl | rfl | rfl | rfl | rfl | rfl | rfl
  all_goals first | exact hw _ (List.mem_of_getElem? (i := 10) rfl) | exact hw _ (List.mem_of_getElem? (i := 11) rfl) | exact hw _ (List.mem_of_getElem? (i := 12) rfl) | exact hw _ (List.mem_of_getElem? (i := 13) rfl) | exact hw _ (List.mem_of_getElem? (i := 24) rfl) | exact hw _ (List.mem_of_getElem? (i := 25) rfl) | exact hw _ (List.mem_of_getElem? (i := 26) rfl) | exact hw _ (List.mem_of_getElem? (i := 27) rfl) | exact hw _ (List.mem_of_getElem? (i := 28) rfl) | exact hw _ (List.mem_of_getElem? (i := 29) rfl)
theorem d0_0 : decode method_2_code 0 = .ok (.iload_n 0, 1) := by decide +kernel
theorem d0_1 : decode method_2_code 1 = .ok (.iconst 3, 1) := by decide +kernel
theorem d0_2 : decode method_2_code 2 = .ok (.iand, 1) := by decide +kernel
theorem d0_3 : decode method_2_code 3 = .ok (.iconst 3, 1) := by decide +kernel
theorem d0_4 : decode method_2_code 4 = .ok (.irem, 1) := by decide +kernel
theorem d0_5 : decode method_2_code 5 = .ok (.ireturn, 1) := by decide +kernel
abbrev rr_len : Room := { frames := 0, cells := 0, slots := 0, locals := 0 }
abbrev y_0 : MethodName := ⟨cn_1, "len", "(I)I"⟩
theorem pn_0 : plainName cn_1 = true := by first | (simp [plainName, overriddenIn]; done) | decide +kernel
theorem ef_len (m : MethodId) (p0 : Int32) : entryFrame m #[(.int p0)] 1 = mkF m 0 #[.val (.int p0)] [] := by first | (simp [entryFrame, mkF, argsToLocals, Value.category]; done) | rfl
def f_len  (p0 : Int32) : Int32 := ((p0 &&& (3 : Int32)) % (3 : Int32))
def Q_len (Z : State)  (p0 : Int32) (h0 : Heap) (n0 : Nat) (v : Option Value) (h : Heap) (L : List Loc) : Prop := v = some (.int (f_len p0)) ∧ Fr n0 L ∧ h = h0
set_option maxRecDepth 65536 in
set_option maxHeartbeats 40000000 in
theorem rm_len (l : Launch) (Z : State) (a0 : Array Value) (hw : ∀ d ∈ tables_1, d.before a0 Z = true) (ws : List Jvm.Cond)  (p0 : Int32) (h0 : Heap) (n0 : Nat) (Z0 : n0 ≤ h0.size) (O0 : Old Z n0 h0) :
    MetFree l y_0 (head1 (Jvm.Cond.code y_0 method_2_code 1 (some .int) :: ws) rr_len) (fun a U => a = #[(.int p0)] ∧ Z.Warmed39 U.vm ∧ U.heap = h0) (fun _ _ _ _ _ => True) (fun _ U o U' => ∃ v L, o = .returned v ∧ Q_len Z p0 h0 n0 v U'.heap L ∧ FrameEnd U o U' L rr_len.cells rr_len.slots) := by
  refine MetFree.of_bodySF (plainFor_of_name pn_0) hisR ?_
  intro p e s m args below meth c s₁ Bd hml0 hP hK
  obtain ⟨rfl, hZ, hh⟩ := hP
  have hx := Bd.exec
  have hby := Bd.bytes
  have hml : c.maxLocals = 1 := hml0
  have hown : s.vm.findClass cn_1 = some m.cls := findClass_of_methodNamed Bd.named
  have hnm := (name_of_methodNamed Bd.named Bd.method).1
  have X0 : Stand p l e rr_len s m #[(.int p0)] below meth c s₁ [] 0 0 := Stand.of_body Bd
  have e0 : s₁.heap = h0 := by rw [← hh, Bd.state]; rfl
  have N0 := Fr.nil n0
  obtain ⟨G, step, ret, fin⟩ := own_open (p := p) (l := l) (e := e) (R := rr_len) (s := s) (m := m) (args := #[(.int p0)]) (below := below) (meth := meth) (c := c) (rr_len.cells) (rr_len.slots) (Q_len Z p0 h0 n0) Bd.notSynchronized
  refine fin (g := entryFrame m #[(.int p0)] 1) ?_
  rw [ef_len m p0]
  show G s₁ (mkF m 0 #[.val (.int p0)] [])
  refine step (fun t k => XS.iloadN X0.here hx rfl (hb hby d0_0) rfl k) ?_
  show G s₁ (mkF m 1 #[.val (.int p0)] [(.int p0)])
  refine step (fun t k => XS.iconst X0.here hx rfl (hb hby d0_1) k) ?_
  show G s₁ (mkF m 2 #[.val (.int p0)] [(.int 3), (.int p0)])
  refine step (fun t k => XS.iand X0.here hx rfl (hb hby d0_2) rfl k) ?_
  show G s₁ (mkF m 3 #[.val (.int p0)] [(.int (p0 &&& (3 : Int32)))])
  refine step (fun t k => XS.iconst X0.here hx rfl (hb hby d0_3) k) ?_
  show G s₁ (mkF m 4 #[.val (.int p0)] [(.int 3), (.int (p0 &&& (3 : Int32)))])
  refine step (fun t k => iremM X0 hx rfl (hb hby d0_4) rfl (by decide) k) ?_
  show G s₁ (mkF m 5 #[.val (.int p0)] [(.int ((p0 &&& (3 : Int32)) % (3 : Int32)))])
  exact ret (v := some (.int ((p0 &&& (3 : Int32)) % (3 : Int32)))) X0 (fun h => by rw [Bd.returns] at h; cases h) (fun fs hr => retI X0 hx Bd.returns (hb hby d0_5) hr) e0 ⟨rfl, N0, rfl⟩ (by decide) (by decide)
theorem d1_0 : decode method_3_code 0 = .ok (.iload_n 0, 1) := by decide +kernel
theorem d1_1 : decode method_3_code 1 = .ok (.iconst 2, 1) := by decide +kernel
theorem d1_2 : decode method_3_code 2 = .ok (.bipush 8, 2) := by decide +kernel
theorem d1_4 : decode method_3_code 4 = .ok (.iload_n 1, 1) := by decide +kernel
theorem d1_5 : decode method_3_code 5 = .ok (.imul, 1) := by decide +kernel
theorem d1_6 : decode method_3_code 6 = .ok (.iadd, 1) := by decide +kernel
theorem d1_7 : decode method_3_code 7 = .ok (.iushr, 1) := by decide +kernel
theorem d1_8 : decode method_3_code 8 = .ok (.sipush 255, 3) := by decide +kernel
theorem d1_11 : decode method_3_code 11 = .ok (.iand, 1) := by decide +kernel
theorem d1_12 : decode method_3_code 12 = .ok (.i2c, 1) := by decide +kernel
theorem d1_13 : decode method_3_code 13 = .ok (.ireturn, 1) := by decide +kernel
abbrev rr_ch0 : Room := { frames := 0, cells := 0, slots := 0, locals := 0 }
abbrev y_1 : MethodName := ⟨cn_1, "ch", "(II)C"⟩
theorem ef_ch0 (m : MethodId) (p0 : Int32) : entryFrame m #[(.int p0), (.int 0)] 2 = mkF m 0 #[.val (.int p0), .val (.int 0)] [] := by first | (simp [entryFrame, mkF, argsToLocals, Value.category]; done) | rfl
def f_ch0  (p0 : Int32) : Int32 := (((p0.toUInt32 >>> ((2 : Int32) &&& 31).toUInt32).toInt32) &&& (255 : Int32))
def Q_ch0 (Z : State)  (p0 : Int32) (h0 : Heap) (n0 : Nat) (v : Option Value) (h : Heap) (L : List Loc) : Prop := v = some (.int (f_ch0 p0)) ∧ Fr n0 L ∧ h = h0
set_option maxRecDepth 65536 in
set_option maxHeartbeats 40000000 in
theorem rm_ch0 (l : Launch) (Z : State) (a0 : Array Value) (hw : ∀ d ∈ tables_1, d.before a0 Z = true) (ws : List Jvm.Cond)  (p0 : Int32) (h0 : Heap) (n0 : Nat) (Z0 : n0 ≤ h0.size) (O0 : Old Z n0 h0) :
    MetFree l y_1 (head1 (Jvm.Cond.code y_1 method_3_code 2 (some .char) :: ws) rr_ch0) (fun a U => a = #[(.int p0), (.int 0)] ∧ Z.Warmed39 U.vm ∧ U.heap = h0) (fun _ _ _ _ _ => True) (fun _ U o U' => ∃ v L, o = .returned v ∧ Q_ch0 Z p0 h0 n0 v U'.heap L ∧ FrameEnd U o U' L rr_ch0.cells rr_ch0.slots) := by
  refine MetFree.of_bodySF (plainFor_of_name pn_0) hisR ?_
  intro p e s m args below meth c s₁ Bd hml0 hP hK
  obtain ⟨rfl, hZ, hh⟩ := hP
  have hx := Bd.exec
  have hby := Bd.bytes
  have hml : c.maxLocals = 2 := hml0
  have hown : s.vm.findClass cn_1 = some m.cls := findClass_of_methodNamed Bd.named
  have hnm := (name_of_methodNamed Bd.named Bd.method).1
  have X0 : Stand p l e rr_ch0 s m #[(.int p0), (.int 0)] below meth c s₁ [] 0 0 := Stand.of_body Bd
  have e0 : s₁.heap = h0 := by rw [← hh, Bd.state]; rfl
  have N0 := Fr.nil n0
  obtain ⟨G, step, ret, fin⟩ := own_open (p := p) (l := l) (e := e) (R := rr_ch0) (s := s) (m := m) (args := #[(.int p0), (.int 0)]) (below := below) (meth := meth) (c := c) (rr_ch0.cells) (rr_ch0.slots) (Q_ch0 Z p0 h0 n0) Bd.notSynchronized
  refine fin (g := entryFrame m #[(.int p0), (.int 0)] 2) ?_
  rw [ef_ch0 m p0]
  show G s₁ (mkF m 0 #[.val (.int p0), .val (.int 0)] [])
  refine step (fun t k => XS.iloadN X0.here hx rfl (hb hby d1_0) rfl k) ?_
  show G s₁ (mkF m 1 #[.val (.int p0), .val (.int 0)] [(.int p0)])
  refine step (fun t k => XS.iconst X0.here hx rfl (hb hby d1_1) k) ?_
  show G s₁ (mkF m 2 #[.val (.int p0), .val (.int 0)] [(.int 2), (.int p0)])
  refine step (fun t k => XS.bipush X0.here hx rfl (hb hby d1_2) k) ?_
  show G s₁ (mkF m 4 #[.val (.int p0), .val (.int 0)] [(.int 8), (.int 2), (.int p0)])
  refine step (fun t k => XS.iloadN X0.here hx rfl (hb hby d1_4) rfl k) ?_
  show G s₁ (mkF m 5 #[.val (.int p0), .val (.int 0)] [(.int 0), (.int 8), (.int 2), (.int p0)])
  refine step (fun t k => XS.imul X0.here hx rfl (hb hby d1_5) rfl k) ?_
  show G s₁ (mkF m 6 #[.val (.int p0), .val (.int 0)] [(.int ((8 : Int32) * (0 : Int32))), (.int 2), (.int p0)])
  rw [(by decide : ((8 : Int32) * (0 : Int32)) = (0 : Int32))]
  show G s₁ (mkF m 6 #[.val (.int p0), .val (.int 0)] [(.int 0), (.int 2), (.int p0)])
  refine step (fun t k => XS.iadd X0.here hx rfl (hb hby d1_6) rfl k) ?_
  show G s₁ (mkF m 7 #[.val (.int p0), .val (.int 0)] [(.int ((2 : Int32) + (0 : Int32))), (.int p0)])
  rw [(by decide : ((2 : Int32) + (0 : Int32)) = (2 : Int32))]
  show G s₁ (mkF m 7 #[.val (.int p0), .val (.int 0)] [(.int 2), (.int p0)])
  refine step (fun t k => XS.iushr X0.here hx rfl (hb hby d1_7) rfl k) ?_
  show G s₁ (mkF m 8 #[.val (.int p0), .val (.int 0)] [(.int ((p0.toUInt32 >>> ((2 : Int32) &&& 31).toUInt32).toInt32))])
  refine step (fun t k => XS.sipush X0.here hx rfl (hb hby d1_8) k) ?_
  show G s₁ (mkF m 11 #[.val (.int p0), .val (.int 0)] [(.int 255), (.int ((p0.toUInt32 >>> ((2 : Int32) &&& 31).toUInt32).toInt32))])
  refine step (fun t k => XS.iand X0.here hx rfl (hb hby d1_11) rfl k) ?_
  show G s₁ (mkF m 12 #[.val (.int p0), .val (.int 0)] [(.int (((p0.toUInt32 >>> ((2 : Int32) &&& 31).toUInt32).toInt32) &&& (255 : Int32)))])
  refine step (fun t k => XS.i2c X0.here hx rfl (hb hby d1_12) rfl k) ?_
  show G s₁ (mkF m 13 #[.val (.int p0), .val (.int 0)] [(.int ((((p0.toUInt32 >>> ((2 : Int32) &&& 31).toUInt32).toInt32) &&& (255 : Int32)).toUInt32.toUInt16.toUInt32.toInt32))])
  rw [own_i2c (own_and255 ((p0.toUInt32 >>> ((2 : Int32) &&& 31).toUInt32).toInt32))]
  show G s₁ (mkF m 13 #[.val (.int p0), .val (.int 0)] [(.int (((p0.toUInt32 >>> ((2 : Int32) &&& 31).toUInt32).toInt32) &&& (255 : Int32)))])
  exact ret (v := some (.int (((p0.toUInt32 >>> ((2 : Int32) &&& 31).toUInt32).toInt32) &&& (255 : Int32)))) X0 (fun h => by rw [Bd.returns] at h; cases h) (fun fs hr => retN X0 hx (t := .char) Bd.returns (by simp) (hb hby d1_13) (by rw [own_narc (own_and255 ((p0.toUInt32 >>> ((2 : Int32) &&& 31).toUInt32).toInt32))]; exact hr)) e0 ⟨rfl, N0, rfl⟩ (by decide) (by decide)
abbrev rr_ch1 : Room := { frames := 0, cells := 0, slots := 0, locals := 0 }
theorem ef_ch1 (m : MethodId) (p0 : Int32) : entryFrame m #[(.int p0), (.int 1)] 2 = mkF m 0 #[.val (.int p0), .val (.int 1)] [] := by first | (simp [entryFrame, mkF, argsToLocals, Value.category]; done) | rfl
def f_ch1  (p0 : Int32) : Int32 := (((p0.toUInt32 >>> ((10 : Int32) &&& 31).toUInt32).toInt32) &&& (255 : Int32))
def Q_ch1 (Z : State)  (p0 : Int32) (h0 : Heap) (n0 : Nat) (v : Option Value) (h : Heap) (L : List Loc) : Prop := v = some (.int (f_ch1 p0)) ∧ Fr n0 L ∧ h = h0
set_option maxRecDepth 65536 in
set_option maxHeartbeats 40000000 in
theorem rm_ch1 (l : Launch) (Z : State) (a0 : Array Value) (hw : ∀ d ∈ tables_1, d.before a0 Z = true) (ws : List Jvm.Cond)  (p0 : Int32) (h0 : Heap) (n0 : Nat) (Z0 : n0 ≤ h0.size) (O0 : Old Z n0 h0) :
    MetFree l y_1 (head1 (Jvm.Cond.code y_1 method_3_code 2 (some .char) :: ws) rr_ch1) (fun a U => a = #[(.int p0), (.int 1)] ∧ Z.Warmed39 U.vm ∧ U.heap = h0) (fun _ _ _ _ _ => True) (fun _ U o U' => ∃ v L, o = .returned v ∧ Q_ch1 Z p0 h0 n0 v U'.heap L ∧ FrameEnd U o U' L rr_ch1.cells rr_ch1.slots) := by
  refine MetFree.of_bodySF (plainFor_of_name pn_0) hisR ?_
  intro p e s m args below meth c s₁ Bd hml0 hP hK
  obtain ⟨rfl, hZ, hh⟩ := hP
  have hx := Bd.exec
  have hby := Bd.bytes
  have hml : c.maxLocals = 2 := hml0
  have hown : s.vm.findClass cn_1 = some m.cls := findClass_of_methodNamed Bd.named
  have hnm := (name_of_methodNamed Bd.named Bd.method).1
  have X0 : Stand p l e rr_ch1 s m #[(.int p0), (.int 1)] below meth c s₁ [] 0 0 := Stand.of_body Bd
  have e0 : s₁.heap = h0 := by rw [← hh, Bd.state]; rfl
  have N0 := Fr.nil n0
  obtain ⟨G, step, ret, fin⟩ := own_open (p := p) (l := l) (e := e) (R := rr_ch1) (s := s) (m := m) (args := #[(.int p0), (.int 1)]) (below := below) (meth := meth) (c := c) (rr_ch1.cells) (rr_ch1.slots) (Q_ch1 Z p0 h0 n0) Bd.notSynchronized
  refine fin (g := entryFrame m #[(.int p0), (.int 1)] 2) ?_
  rw [ef_ch1 m p0]
  show G s₁ (mkF m 0 #[.val (.int p0), .val (.int 1)] [])
  refine step (fun t k => XS.iloadN X0.here hx rfl (hb hby d1_0) rfl k) ?_
  show G s₁ (mkF m 1 #[.val (.int p0), .val (.int 1)] [(.int p0)])
  refine step (fun t k => XS.iconst X0.here hx rfl (hb hby d1_1) k) ?_
  show G s₁ (mkF m 2 #[.val (.int p0), .val (.int 1)] [(.int 2), (.int p0)])
  refine step (fun t k => XS.bipush X0.here hx rfl (hb hby d1_2) k) ?_
  show G s₁ (mkF m 4 #[.val (.int p0), .val (.int 1)] [(.int 8), (.int 2), (.int p0)])
  refine step (fun t k => XS.iloadN X0.here hx rfl (hb hby d1_4) rfl k) ?_
  show G s₁ (mkF m 5 #[.val (.int p0), .val (.int 1)] [(.int 1), (.int 8), (.int 2), (.int p0)])
  refine step (fun t k => XS.imul X0.here hx rfl (hb hby d1_5) rfl k) ?_
  show G s₁ (mkF m 6 #[.val (.int p0), .val (.int 1)] [(.int ((8 : Int32) * (1 : Int32))), (.int 2), (.int p0)])
  rw [(by decide : ((8 : Int32) * (1 : Int32)) = (8 : Int32))]
  show G s₁ (mkF m 6 #[.val (.int p0), .val (.int 1)] [(.int 8), (.int 2), (.int p0)])
  refine step (fun t k => XS.iadd X0.here hx rfl (hb hby d1_6) rfl k) ?_
  show G s₁ (mkF m 7 #[.val (.int p0), .val (.int 1)] [(.int ((2 : Int32) + (8 : Int32))), (.int p0)])
  rw [(by decide : ((2 : Int32) + (8 : Int32)) = (10 : Int32))]
  show G s₁ (mkF m 7 #[.val (.int p0), .val (.int 1)] [(.int 10), (.int p0)])
  refine step (fun t k => XS.iushr X0.here hx rfl (hb hby d1_7) rfl k) ?_
  show G s₁ (mkF m 8 #[.val (.int p0), .val (.int 1)] [(.int ((p0.toUInt32 >>> ((10 : Int32) &&& 31).toUInt32).toInt32))])
  refine step (fun t k => XS.sipush X0.here hx rfl (hb hby d1_8) k) ?_
  show G s₁ (mkF m 11 #[.val (.int p0), .val (.int 1)] [(.int 255), (.int ((p0.toUInt32 >>> ((10 : Int32) &&& 31).toUInt32).toInt32))])
  refine step (fun t k => XS.iand X0.here hx rfl (hb hby d1_11) rfl k) ?_
  show G s₁ (mkF m 12 #[.val (.int p0), .val (.int 1)] [(.int (((p0.toUInt32 >>> ((10 : Int32) &&& 31).toUInt32).toInt32) &&& (255 : Int32)))])
  refine step (fun t k => XS.i2c X0.here hx rfl (hb hby d1_12) rfl k) ?_
  show G s₁ (mkF m 13 #[.val (.int p0), .val (.int 1)] [(.int ((((p0.toUInt32 >>> ((10 : Int32) &&& 31).toUInt32).toInt32) &&& (255 : Int32)).toUInt32.toUInt16.toUInt32.toInt32))])
  rw [own_i2c (own_and255 ((p0.toUInt32 >>> ((10 : Int32) &&& 31).toUInt32).toInt32))]
  show G s₁ (mkF m 13 #[.val (.int p0), .val (.int 1)] [(.int (((p0.toUInt32 >>> ((10 : Int32) &&& 31).toUInt32).toInt32) &&& (255 : Int32)))])
  exact ret (v := some (.int (((p0.toUInt32 >>> ((10 : Int32) &&& 31).toUInt32).toInt32) &&& (255 : Int32)))) X0 (fun h => by rw [Bd.returns] at h; cases h) (fun fs hr => retN X0 hx (t := .char) Bd.returns (by simp) (hb hby d1_13) (by rw [own_narc (own_and255 ((p0.toUInt32 >>> ((10 : Int32) &&& 31).toUInt32).toInt32))]; exact hr)) e0 ⟨rfl, N0, rfl⟩ (by decide) (by decide)
theorem d2_0 : decode method_5_code 0 = .ok (.iload_n 0, 1) := by decide +kernel
theorem d2_1 : decode method_5_code 1 = .ok (.invokestatic 7, 3) := by decide +kernel
theorem ww7 {Z : State} {a0 : Array Value} (hw : ∀ d ∈ tables_1, d.before a0 Z = true) : Jvm.Cond.before (Jvm.Cond.methodLink cn_1 (7 : Nat) ({ cls := cn_1, name := "len", desc := "(I)I" } : Jvm.MethodName)) a0 Z = true := hw _ (List.mem_of_getElem? (i := 7) rfl)
theorem ww9 {Z : State} {a0 : Array Value} (hw : ∀ d ∈ tables_1, d.before a0 Z = true) : Jvm.Cond.before (Jvm.Cond.code ({ cls := cn_1, name := "len", desc := "(I)I" } : Jvm.MethodName) method_2_code (1 : Nat) (Option.some Jvm.ClassFile.FieldType.int)) a0 Z = true := hw _ (List.mem_of_getElem? (i := 9) rfl)
theorem ww5 {Z : State} {a0 : Array Value} (hw : ∀ d ∈ tables_1, d.before a0 Z = true) : Jvm.Cond.before (Jvm.Cond.initialized cn_1) a0 Z = true := hw _ (List.mem_of_getElem? (i := 5) rfl)
theorem pd_0 : parseMethodDescriptor "(I)I" = some ⟨[.int], some .int⟩ := by decide +kernel
theorem ww8 {Z : State} {a0 : Array Value} (hw : ∀ d ∈ tables_1, d.before a0 Z = true) : Jvm.Cond.before (Jvm.Cond.static ({ cls := cn_1, name := "len", desc := "(I)I" } : Jvm.MethodName)) a0 Z = true := hw _ (List.mem_of_getElem? (i := 8) rfl)
theorem d2_4 : decode method_5_code 4 = .ok (.istore_n 1, 1) := by decide +kernel
theorem d2_5 : decode method_5_code 5 = .ok (.iload_n 1, 1) := by decide +kernel
theorem d2_6 : decode method_5_code 6 = .ok (.istore_n 2, 1) := by decide +kernel
theorem d2_7 : decode method_5_code 7 = .ok (.iload_n 1, 1) := by decide +kernel
theorem d2_8 : decode method_5_code 8 = .ok (.ifCond .le 13, 3) := by decide +kernel
theorem d2_11 : decode method_5_code 11 = .ok (.iload_n 2, 1) := by decide +kernel
theorem d2_12 : decode method_5_code 12 = .ok (.iload_n 0, 1) := by decide +kernel
theorem d2_13 : decode method_5_code 13 = .ok (.iconst 0, 1) := by decide +kernel
theorem d2_14 : decode method_5_code 14 = .ok (.invokestatic 13, 3) := by decide +kernel
theorem ww32 {Z : State} {a0 : Array Value} (hw : ∀ d ∈ tables_1, d.before a0 Z = true) : Jvm.Cond.before (Jvm.Cond.methodLink cn_1 (13 : Nat) ({ cls := cn_1, name := "ch", desc := "(II)C" } : Jvm.MethodName)) a0 Z = true := hw _ (List.mem_of_getElem? (i := 32) rfl)
theorem ww34 {Z : State} {a0 : Array Value} (hw : ∀ d ∈ tables_1, d.before a0 Z = true) : Jvm.Cond.before (Jvm.Cond.code ({ cls := cn_1, name := "ch", desc := "(II)C" } : Jvm.MethodName) method_3_code (2 : Nat) (Option.some Jvm.ClassFile.FieldType.char)) a0 Z = true := hw _ (List.mem_of_getElem? (i := 34) rfl)
theorem pd_1 : parseMethodDescriptor "(II)C" = some ⟨[.int, .int], some .char⟩ := by decide +kernel
theorem ww33 {Z : State} {a0 : Array Value} (hw : ∀ d ∈ tables_1, d.before a0 Z = true) : Jvm.Cond.before (Jvm.Cond.static ({ cls := cn_1, name := "ch", desc := "(II)C" } : Jvm.MethodName)) a0 Z = true := hw _ (List.mem_of_getElem? (i := 33) rfl)
theorem d2_17 : decode method_5_code 17 = .ok (.iconst 2, 1) := by decide +kernel
theorem d2_18 : decode method_5_code 18 = .ok (.ishl, 1) := by decide +kernel
theorem d2_19 : decode method_5_code 19 = .ok (.ior, 1) := by decide +kernel
theorem d2_20 : decode method_5_code 20 = .ok (.istore_n 2, 1) := by decide +kernel
theorem d2_21 : decode method_5_code 21 = .ok (.iload_n 1, 1) := by decide +kernel
theorem d2_22 : decode method_5_code 22 = .ok (.iconst 1, 1) := by decide +kernel
theorem d2_23 : decode method_5_code 23 = .ok (.if_icmp .le 14, 3) := by decide +kernel
theorem d2_26 : decode method_5_code 26 = .ok (.iload_n 2, 1) := by decide +kernel
theorem d2_27 : decode method_5_code 27 = .ok (.iload_n 0, 1) := by decide +kernel
theorem d2_28 : decode method_5_code 28 = .ok (.iconst 1, 1) := by decide +kernel
theorem d2_29 : decode method_5_code 29 = .ok (.invokestatic 13, 3) := by decide +kernel
theorem d2_32 : decode method_5_code 32 = .ok (.bipush 10, 2) := by decide +kernel
theorem d2_34 : decode method_5_code 34 = .ok (.ishl, 1) := by decide +kernel
theorem d2_35 : decode method_5_code 35 = .ok (.ior, 1) := by decide +kernel
theorem d2_36 : decode method_5_code 36 = .ok (.istore_n 2, 1) := by decide +kernel
theorem d2_37 : decode method_5_code 37 = .ok (.iload_n 2, 1) := by decide +kernel
theorem d2_38 : decode method_5_code 38 = .ok (.ireturn, 1) := by decide +kernel
abbrev rr_key : Room := { frames := 1, cells := 0, slots := 0, locals := 14 }
abbrev y_2 : MethodName := ⟨cn_1, "key", "(I)I"⟩
theorem ef_key (m : MethodId) (p0 : Int32) : entryFrame m #[(.int p0)] 3 = mkF m 0 #[.val (.int p0), .unset, .unset] [] := by first | (simp [entryFrame, mkF, argsToLocals, Value.category]; done) | rfl
def f_key  (p0 : Int32) : Int32 := (if (0 : Int32) < ((p0 &&& (3 : Int32)) % (3 : Int32)) then (if (1 : Int32) < ((p0 &&& (3 : Int32)) % (3 : Int32)) then ((((p0 &&& (3 : Int32)) % (3 : Int32)) ||| ((((p0.toUInt32 >>> ((2 : Int32) &&& 31).toUInt32).toInt32) &&& (255 : Int32)) <<< ((2 : Int32) &&& 31))) ||| ((((p0.toUInt32 >>> ((10 : Int32) &&& 31).toUInt32).toInt32) &&& (255 : Int32)) <<< ((10 : Int32) &&& 31))) else (((p0 &&& (3 : Int32)) % (3 : Int32)) ||| ((((p0.toUInt32 >>> ((2 : Int32) &&& 31).toUInt32).toInt32) &&& (255 : Int32)) <<< ((2 : Int32) &&& 31)))) else (if (1 : Int32) < ((p0 &&& (3 : Int32)) % (3 : Int32)) then (((p0 &&& (3 : Int32)) % (3 : Int32)) ||| ((((p0.toUInt32 >>> ((10 : Int32) &&& 31).toUInt32).toInt32) &&& (255 : Int32)) <<< ((10 : Int32) &&& 31))) else ((p0 &&& (3 : Int32)) % (3 : Int32))))
def Q_key (Z : State)  (p0 : Int32) (h0 : Heap) (n0 : Nat) (v : Option Value) (h : Heap) (L : List Loc) : Prop := v = some (.int (f_key p0)) ∧ Fr n0 L ∧ h = h0
set_option maxRecDepth 65536 in
set_option maxHeartbeats 40000000 in
theorem rm_key (l : Launch) (Z : State) (a0 : Array Value) (hw : ∀ d ∈ tables_1, d.before a0 Z = true) (ws : List Jvm.Cond)  (p0 : Int32) (h0 : Heap) (n0 : Nat) (Z0 : n0 ≤ h0.size) (O0 : Old Z n0 h0) :
    MetFree l y_2 (head1 (Jvm.Cond.code y_2 method_5_code 3 (some .int) :: ws) rr_key) (fun a U => a = #[(.int p0)] ∧ Z.Warmed39 U.vm ∧ U.heap = h0) (fun _ _ _ _ _ => True) (fun _ U o U' => ∃ v L, o = .returned v ∧ Q_key Z p0 h0 n0 v U'.heap L ∧ FrameEnd U o U' L rr_key.cells rr_key.slots) := by
  refine MetFree.of_bodySF (plainFor_of_name pn_0) hisR ?_
  intro p e s m args below meth c s₁ Bd hml0 hP hK
  obtain ⟨rfl, hZ, hh⟩ := hP
  have hx := Bd.exec
  have hby := Bd.bytes
  have hml : c.maxLocals = 3 := hml0
  have hown : s.vm.findClass cn_1 = some m.cls := findClass_of_methodNamed Bd.named
  have hnm := (name_of_methodNamed Bd.named Bd.method).1
  have X0 : Stand p l e rr_key s m #[(.int p0)] below meth c s₁ [] 0 0 := Stand.of_body Bd
  have e0 : s₁.heap = h0 := by rw [← hh, Bd.state]; rfl
  have N0 := Fr.nil n0
  obtain ⟨G, step, ret, fin⟩ := own_open (p := p) (l := l) (e := e) (R := rr_key) (s := s) (m := m) (args := #[(.int p0)]) (below := below) (meth := meth) (c := c) (rr_key.cells) (rr_key.slots) (Q_key Z p0 h0 n0) Bd.notSynchronized
  refine fin (g := entryFrame m #[(.int p0)] 3) ?_
  rw [ef_key m p0]
  show G s₁ (mkF m 0 #[.val (.int p0), .unset, .unset] [])
  refine step (fun t k => XS.iloadN X0.here hx rfl (hb hby d2_0) rfl k) ?_
  show G s₁ (mkF m 1 #[.val (.int p0), .unset, .unset] [(.int p0)])
  have hK1 := (backOf (R := rr_key) (p := p) (e := e) (below := below) (s := s) (args := #[(.int p0)]) (len := 3) (W := 0) (rm_len l Z a0 hw [] p0 h0 n0 (own_old_le O0) O0) hZ (ww9 hw) (ww5 hw) (by decide) (by decide))
  obtain ⟨_, _, ⟨T1, L1, k1, n1⟩, -, X1, ⟨Lc1, hQ1, l1, y1, z1⟩, st1⟩ := Jvm.LawKit.callS X0 hx (y := y_0) hown (mvT hZ (ww7 hw)) (mvT hZ (ww8 hw)) (mvT hZ (ww5 hw)) (mvT hZ (ww9 hw)) (by decide) hK1 (g := (mkF m 1 #[.val (.int p0), .unset, .unset] [(.int p0)])) rfl (by rw [hml]; rfl) (argsL := [(.int p0)]) (rest := []) (lenOf pd_0 rfl) rfl (by show 2 * 0 + _ ≤ _; exact Nat.le_of_eq rfl) (hb hby d2_1) (fun _ _ => ⟨rfl, e0, (by decide : 0 + 0 ≤ _), (by decide : 0 + 0 ≤ _)⟩)
  dsimp only [Pt.U, Pt.locs, Pt.cells, Pt.slots] at X1 l1 y1 z1 st1 hQ1
  subst l1 y1 z1
  obtain ⟨rfl, N1q, e1⟩ := hQ1
  have N1 := Fr.app N0 N1q
  obtain ⟨lc1, X1, N1⟩ := own_gen X1 N1
  refine step (fun t k => st1 t k) ?_
  show G T1 (mkF m 4 #[.val (.int p0), .unset, .unset] [(.int (f_len p0))])
  have r2 : (f_len p0) = ((p0 &&& (3 : Int32)) % (3 : Int32)) := rfl
  rw [r2]
  show G T1 (mkF m 4 #[.val (.int p0), .unset, .unset] [(.int ((p0 &&& (3 : Int32)) % (3 : Int32)))])
  refine step (fun t k => XS.istoreN X1.here hx rfl (hb hby d2_4) rfl (l' := #[.val (.int p0), .val (.int ((p0 &&& (3 : Int32)) % (3 : Int32))), .unset]) rfl k) ?_
  show G T1 (mkF m 5 #[.val (.int p0), .val (.int ((p0 &&& (3 : Int32)) % (3 : Int32))), .unset] [])
  refine step (fun t k => XS.iloadN X1.here hx rfl (hb hby d2_5) rfl k) ?_
  show G T1 (mkF m 6 #[.val (.int p0), .val (.int ((p0 &&& (3 : Int32)) % (3 : Int32))), .unset] [(.int ((p0 &&& (3 : Int32)) % (3 : Int32)))])
  refine step (fun t k => XS.istoreN X1.here hx rfl (hb hby d2_6) rfl (l' := #[.val (.int p0), .val (.int ((p0 &&& (3 : Int32)) % (3 : Int32))), .val (.int ((p0 &&& (3 : Int32)) % (3 : Int32)))]) rfl k) ?_
  show G T1 (mkF m 7 #[.val (.int p0), .val (.int ((p0 &&& (3 : Int32)) % (3 : Int32))), .val (.int ((p0 &&& (3 : Int32)) % (3 : Int32)))] [])
  refine step (fun t k => XS.iloadN X1.here hx rfl (hb hby d2_7) rfl k) ?_
  show G T1 (mkF m 8 #[.val (.int p0), .val (.int ((p0 &&& (3 : Int32)) % (3 : Int32))), .val (.int ((p0 &&& (3 : Int32)) % (3 : Int32)))] [(.int ((p0 &&& (3 : Int32)) % (3 : Int32)))])
  by_cases hc3 : (0 : Int32) < ((p0 &&& (3 : Int32)) % (3 : Int32))
  · skip
    refine step (fun t k => XS.ifNo X1.here hx rfl (hb hby d2_8) rfl ((if0 _ _).trans (tlt hc3).2.2.2) k) ?_
    show G T1 (mkF m 11 #[.val (.int p0), .val (.int ((p0 &&& (3 : Int32)) % (3 : Int32))), .val (.int ((p0 &&& (3 : Int32)) % (3 : Int32)))] [])
    refine step (fun t k => XS.iloadN X1.here hx rfl (hb hby d2_11) rfl k) ?_
    show G T1 (mkF m 12 #[.val (.int p0), .val (.int ((p0 &&& (3 : Int32)) % (3 : Int32))), .val (.int ((p0 &&& (3 : Int32)) % (3 : Int32)))] [(.int ((p0 &&& (3 : Int32)) % (3 : Int32)))])
    refine step (fun t k => XS.iloadN X1.here hx rfl (hb hby d2_12) rfl k) ?_
    show G T1 (mkF m 13 #[.val (.int p0), .val (.int ((p0 &&& (3 : Int32)) % (3 : Int32))), .val (.int ((p0 &&& (3 : Int32)) % (3 : Int32)))] [(.int p0), (.int ((p0 &&& (3 : Int32)) % (3 : Int32)))])
    refine step (fun t k => XS.iconst X1.here hx rfl (hb hby d2_13) k) ?_
    show G T1 (mkF m 14 #[.val (.int p0), .val (.int ((p0 &&& (3 : Int32)) % (3 : Int32))), .val (.int ((p0 &&& (3 : Int32)) % (3 : Int32)))] [(.int 0), (.int p0), (.int ((p0 &&& (3 : Int32)) % (3 : Int32)))])
    have hK4 := (backOf (R := rr_key) (p := p) (e := e) (below := below) (s := s) (args := #[(.int p0)]) (len := 3) (W := 1) (rm_ch0 l Z a0 hw [] p0 h0 n0 (own_old_le O0) O0) hZ (ww34 hw) (ww5 hw) (by decide) (by decide))
    obtain ⟨_, _, ⟨T4, L4, k4, n4⟩, -, X4, ⟨Lc4, hQ4, l4, y4, z4⟩, st4⟩ := Jvm.LawKit.callS X1 hx (y := y_1) hown (mvT hZ (ww32 hw)) (mvT hZ (ww33 hw)) (mvT hZ (ww5 hw)) (mvT hZ (ww34 hw)) (by decide) hK4 (g := (mkF m 14 #[.val (.int p0), .val (.int ((p0 &&& (3 : Int32)) % (3 : Int32))), .val (.int ((p0 &&& (3 : Int32)) % (3 : Int32)))] [(.int 0), (.int p0), (.int ((p0 &&& (3 : Int32)) % (3 : Int32)))])) rfl (by rw [hml]; rfl) (argsL := [(.int p0), (.int 0)]) (rest := [(.int ((p0 &&& (3 : Int32)) % (3 : Int32)))]) (lenOf pd_1 rfl) rfl (by show 2 * 0 + _ ≤ _; exact Nat.le_of_eq rfl) (hb hby d2_14) (fun _ _ => ⟨rfl, e1, (by decide : 0 + 0 ≤ _), (by decide : 0 + 0 ≤ _)⟩)
    dsimp only [Pt.U, Pt.locs, Pt.cells, Pt.slots] at X4 l4 y4 z4 st4 hQ4
    subst l4 y4 z4
    obtain ⟨rfl, N4q, e4⟩ := hQ4
    have N4 := Fr.app N1 N4q
    obtain ⟨lc4, X4, N4⟩ := own_gen X4 N4
    refine step (fun t k => st4 t k) ?_
    show G T4 (mkF m 17 #[.val (.int p0), .val (.int ((p0 &&& (3 : Int32)) % (3 : Int32))), .val (.int ((p0 &&& (3 : Int32)) % (3 : Int32)))] [(.int (f_ch0 p0)), (.int ((p0 &&& (3 : Int32)) % (3 : Int32)))])
    have r5 : (f_ch0 p0) = (((p0.toUInt32 >>> ((2 : Int32) &&& 31).toUInt32).toInt32) &&& (255 : Int32)) := rfl
    rw [r5]
    show G T4 (mkF m 17 #[.val (.int p0), .val (.int ((p0 &&& (3 : Int32)) % (3 : Int32))), .val (.int ((p0 &&& (3 : Int32)) % (3 : Int32)))] [(.int (((p0.toUInt32 >>> ((2 : Int32) &&& 31).toUInt32).toInt32) &&& (255 : Int32))), (.int ((p0 &&& (3 : Int32)) % (3 : Int32)))])
    refine step (fun t k => XS.iconst X4.here hx rfl (hb hby d2_17) k) ?_
    show G T4 (mkF m 18 #[.val (.int p0), .val (.int ((p0 &&& (3 : Int32)) % (3 : Int32))), .val (.int ((p0 &&& (3 : Int32)) % (3 : Int32)))] [(.int 2), (.int (((p0.toUInt32 >>> ((2 : Int32) &&& 31).toUInt32).toInt32) &&& (255 : Int32))), (.int ((p0 &&& (3 : Int32)) % (3 : Int32)))])
    refine step (fun t k => XS.ishl X4.here hx rfl (hb hby d2_18) rfl k) ?_
    show G T4 (mkF m 19 #[.val (.int p0), .val (.int ((p0 &&& (3 : Int32)) % (3 : Int32))), .val (.int ((p0 &&& (3 : Int32)) % (3 : Int32)))] [(.int ((((p0.toUInt32 >>> ((2 : Int32) &&& 31).toUInt32).toInt32) &&& (255 : Int32)) <<< ((2 : Int32) &&& 31))), (.int ((p0 &&& (3 : Int32)) % (3 : Int32)))])
    refine step (fun t k => XS.ior X4.here hx rfl (hb hby d2_19) rfl k) ?_
    show G T4 (mkF m 20 #[.val (.int p0), .val (.int ((p0 &&& (3 : Int32)) % (3 : Int32))), .val (.int ((p0 &&& (3 : Int32)) % (3 : Int32)))] [(.int (((p0 &&& (3 : Int32)) % (3 : Int32)) ||| ((((p0.toUInt32 >>> ((2 : Int32) &&& 31).toUInt32).toInt32) &&& (255 : Int32)) <<< ((2 : Int32) &&& 31))))])
    refine step (fun t k => XS.istoreN X4.here hx rfl (hb hby d2_20) rfl (l' := #[.val (.int p0), .val (.int ((p0 &&& (3 : Int32)) % (3 : Int32))), .val (.int (((p0 &&& (3 : Int32)) % (3 : Int32)) ||| ((((p0.toUInt32 >>> ((2 : Int32) &&& 31).toUInt32).toInt32) &&& (255 : Int32)) <<< ((2 : Int32) &&& 31))))]) rfl k) ?_
    show G T4 (mkF m 21 #[.val (.int p0), .val (.int ((p0 &&& (3 : Int32)) % (3 : Int32))), .val (.int (((p0 &&& (3 : Int32)) % (3 : Int32)) ||| ((((p0.toUInt32 >>> ((2 : Int32) &&& 31).toUInt32).toInt32) &&& (255 : Int32)) <<< ((2 : Int32) &&& 31))))] [])
    refine step (fun t k => XS.iloadN X4.here hx rfl (hb hby d2_21) rfl k) ?_
    show G T4 (mkF m 22 #[.val (.int p0), .val (.int ((p0 &&& (3 : Int32)) % (3 : Int32))), .val (.int (((p0 &&& (3 : Int32)) % (3 : Int32)) ||| ((((p0.toUInt32 >>> ((2 : Int32) &&& 31).toUInt32).toInt32) &&& (255 : Int32)) <<< ((2 : Int32) &&& 31))))] [(.int ((p0 &&& (3 : Int32)) % (3 : Int32)))])
    refine step (fun t k => XS.iconst X4.here hx rfl (hb hby d2_22) k) ?_
    show G T4 (mkF m 23 #[.val (.int p0), .val (.int ((p0 &&& (3 : Int32)) % (3 : Int32))), .val (.int (((p0 &&& (3 : Int32)) % (3 : Int32)) ||| ((((p0.toUInt32 >>> ((2 : Int32) &&& 31).toUInt32).toInt32) &&& (255 : Int32)) <<< ((2 : Int32) &&& 31))))] [(.int 1), (.int ((p0 &&& (3 : Int32)) % (3 : Int32)))])
    by_cases hc6 : (1 : Int32) < ((p0 &&& (3 : Int32)) % (3 : Int32))
    · skip
      refine step (fun t k => XS.icmpNo X4.here hx rfl (hb hby d2_23) rfl (tlt hc6).2.2.2 k) ?_
      show G T4 (mkF m 26 #[.val (.int p0), .val (.int ((p0 &&& (3 : Int32)) % (3 : Int32))), .val (.int (((p0 &&& (3 : Int32)) % (3 : Int32)) ||| ((((p0.toUInt32 >>> ((2 : Int32) &&& 31).toUInt32).toInt32) &&& (255 : Int32)) <<< ((2 : Int32) &&& 31))))] [])
      refine step (fun t k => XS.iloadN X4.here hx rfl (hb hby d2_26) rfl k) ?_
      show G T4 (mkF m 27 #[.val (.int p0), .val (.int ((p0 &&& (3 : Int32)) % (3 : Int32))), .val (.int (((p0 &&& (3 : Int32)) % (3 : Int32)) ||| ((((p0.toUInt32 >>> ((2 : Int32) &&& 31).toUInt32).toInt32) &&& (255 : Int32)) <<< ((2 : Int32) &&& 31))))] [(.int (((p0 &&& (3 : Int32)) % (3 : Int32)) ||| ((((p0.toUInt32 >>> ((2 : Int32) &&& 31).toUInt32).toInt32) &&& (255 : Int32)) <<< ((2 : Int32) &&& 31))))])
      refine step (fun t k => XS.iloadN X4.here hx rfl (hb hby d2_27) rfl k) ?_
      show G T4 (mkF m 28 #[.val (.int p0), .val (.int ((p0 &&& (3 : Int32)) % (3 : Int32))), .val (.int (((p0 &&& (3 : Int32)) % (3 : Int32)) ||| ((((p0.toUInt32 >>> ((2 : Int32) &&& 31).toUInt32).toInt32) &&& (255 : Int32)) <<< ((2 : Int32) &&& 31))))] [(.int p0), (.int (((p0 &&& (3 : Int32)) % (3 : Int32)) ||| ((((p0.toUInt32 >>> ((2 : Int32) &&& 31).toUInt32).toInt32) &&& (255 : Int32)) <<< ((2 : Int32) &&& 31))))])
      refine step (fun t k => XS.iconst X4.here hx rfl (hb hby d2_28) k) ?_
      show G T4 (mkF m 29 #[.val (.int p0), .val (.int ((p0 &&& (3 : Int32)) % (3 : Int32))), .val (.int (((p0 &&& (3 : Int32)) % (3 : Int32)) ||| ((((p0.toUInt32 >>> ((2 : Int32) &&& 31).toUInt32).toInt32) &&& (255 : Int32)) <<< ((2 : Int32) &&& 31))))] [(.int 1), (.int p0), (.int (((p0 &&& (3 : Int32)) % (3 : Int32)) ||| ((((p0.toUInt32 >>> ((2 : Int32) &&& 31).toUInt32).toInt32) &&& (255 : Int32)) <<< ((2 : Int32) &&& 31))))])
      have hK7 := (backOf (R := rr_key) (p := p) (e := e) (below := below) (s := s) (args := #[(.int p0)]) (len := 3) (W := 1) (rm_ch1 l Z a0 hw [] p0 h0 n0 (own_old_le O0) O0) hZ (ww34 hw) (ww5 hw) (by decide) (by decide))
      obtain ⟨_, _, ⟨T7, L7, k7, n7⟩, -, X7, ⟨Lc7, hQ7, l7, y7, z7⟩, st7⟩ := Jvm.LawKit.callS X4 hx (y := y_1) hown (mvT hZ (ww32 hw)) (mvT hZ (ww33 hw)) (mvT hZ (ww5 hw)) (mvT hZ (ww34 hw)) (by decide) hK7 (g := (mkF m 29 #[.val (.int p0), .val (.int ((p0 &&& (3 : Int32)) % (3 : Int32))), .val (.int (((p0 &&& (3 : Int32)) % (3 : Int32)) ||| ((((p0.toUInt32 >>> ((2 : Int32) &&& 31).toUInt32).toInt32) &&& (255 : Int32)) <<< ((2 : Int32) &&& 31))))] [(.int 1), (.int p0), (.int (((p0 &&& (3 : Int32)) % (3 : Int32)) ||| ((((p0.toUInt32 >>> ((2 : Int32) &&& 31).toUInt32).toInt32) &&& (255 : Int32)) <<< ((2 : Int32) &&& 31))))])) rfl (by rw [hml]; rfl) (argsL := [(.int p0), (.int 1)]) (rest := [(.int (((p0 &&& (3 : Int32)) % (3 : Int32)) ||| ((((p0.toUInt32 >>> ((2 : Int32) &&& 31).toUInt32).toInt32) &&& (255 : Int32)) <<< ((2 : Int32) &&& 31))))]) (lenOf pd_1 rfl) rfl (by show 2 * 0 + _ ≤ _; exact Nat.le_of_eq rfl) (hb hby d2_29) (fun _ _ => ⟨rfl, e4, (by decide : 0 + 0 ≤ _), (by decide : 0 + 0 ≤ _)⟩)
      dsimp only [Pt.U, Pt.locs, Pt.cells, Pt.slots] at X7 l7 y7 z7 st7 hQ7
      subst l7 y7 z7
      obtain ⟨rfl, N7q, e7⟩ := hQ7
      have N7 := Fr.app N4 N7q
      obtain ⟨lc7, X7, N7⟩ := own_gen X7 N7
      refine step (fun t k => st7 t k) ?_
      show G T7 (mkF m 32 #[.val (.int p0), .val (.int ((p0 &&& (3 : Int32)) % (3 : Int32))), .val (.int (((p0 &&& (3 : Int32)) % (3 : Int32)) ||| ((((p0.toUInt32 >>> ((2 : Int32) &&& 31).toUInt32).toInt32) &&& (255 : Int32)) <<< ((2 : Int32) &&& 31))))] [(.int (f_ch1 p0)), (.int (((p0 &&& (3 : Int32)) % (3 : Int32)) ||| ((((p0.toUInt32 >>> ((2 : Int32) &&& 31).toUInt32).toInt32) &&& (255 : Int32)) <<< ((2 : Int32) &&& 31))))])
      have r8 : (f_ch1 p0) = (((p0.toUInt32 >>> ((10 : Int32) &&& 31).toUInt32).toInt32) &&& (255 : Int32)) := rfl
      rw [r8]
      show G T7 (mkF m 32 #[.val (.int p0), .val (.int ((p0 &&& (3 : Int32)) % (3 : Int32))), .val (.int (((p0 &&& (3 : Int32)) % (3 : Int32)) ||| ((((p0.toUInt32 >>> ((2 : Int32) &&& 31).toUInt32).toInt32) &&& (255 : Int32)) <<< ((2 : Int32) &&& 31))))] [(.int (((p0.toUInt32 >>> ((10 : Int32) &&& 31).toUInt32).toInt32) &&& (255 : Int32))), (.int (((p0 &&& (3 : Int32)) % (3 : Int32)) ||| ((((p0.toUInt32 >>> ((2 : Int32) &&& 31).toUInt32).toInt32) &&& (255 : Int32)) <<< ((2 : Int32) &&& 31))))])
      refine step (fun t k => XS.bipush X7.here hx rfl (hb hby d2_32) k) ?_
      show G T7 (mkF m 34 #[.val (.int p0), .val (.int ((p0 &&& (3 : Int32)) % (3 : Int32))), .val (.int (((p0 &&& (3 : Int32)) % (3 : Int32)) ||| ((((p0.toUInt32 >>> ((2 : Int32) &&& 31).toUInt32).toInt32) &&& (255 : Int32)) <<< ((2 : Int32) &&& 31))))] [(.int 10), (.int (((p0.toUInt32 >>> ((10 : Int32) &&& 31).toUInt32).toInt32) &&& (255 : Int32))), (.int (((p0 &&& (3 : Int32)) % (3 : Int32)) ||| ((((p0.toUInt32 >>> ((2 : Int32) &&& 31).toUInt32).toInt32) &&& (255 : Int32)) <<< ((2 : Int32) &&& 31))))])
      refine step (fun t k => XS.ishl X7.here hx rfl (hb hby d2_34) rfl k) ?_
      show G T7 (mkF m 35 #[.val (.int p0), .val (.int ((p0 &&& (3 : Int32)) % (3 : Int32))), .val (.int (((p0 &&& (3 : Int32)) % (3 : Int32)) ||| ((((p0.toUInt32 >>> ((2 : Int32) &&& 31).toUInt32).toInt32) &&& (255 : Int32)) <<< ((2 : Int32) &&& 31))))] [(.int ((((p0.toUInt32 >>> ((10 : Int32) &&& 31).toUInt32).toInt32) &&& (255 : Int32)) <<< ((10 : Int32) &&& 31))), (.int (((p0 &&& (3 : Int32)) % (3 : Int32)) ||| ((((p0.toUInt32 >>> ((2 : Int32) &&& 31).toUInt32).toInt32) &&& (255 : Int32)) <<< ((2 : Int32) &&& 31))))])
      refine step (fun t k => XS.ior X7.here hx rfl (hb hby d2_35) rfl k) ?_
      show G T7 (mkF m 36 #[.val (.int p0), .val (.int ((p0 &&& (3 : Int32)) % (3 : Int32))), .val (.int (((p0 &&& (3 : Int32)) % (3 : Int32)) ||| ((((p0.toUInt32 >>> ((2 : Int32) &&& 31).toUInt32).toInt32) &&& (255 : Int32)) <<< ((2 : Int32) &&& 31))))] [(.int ((((p0 &&& (3 : Int32)) % (3 : Int32)) ||| ((((p0.toUInt32 >>> ((2 : Int32) &&& 31).toUInt32).toInt32) &&& (255 : Int32)) <<< ((2 : Int32) &&& 31))) ||| ((((p0.toUInt32 >>> ((10 : Int32) &&& 31).toUInt32).toInt32) &&& (255 : Int32)) <<< ((10 : Int32) &&& 31))))])
      refine step (fun t k => XS.istoreN X7.here hx rfl (hb hby d2_36) rfl (l' := #[.val (.int p0), .val (.int ((p0 &&& (3 : Int32)) % (3 : Int32))), .val (.int ((((p0 &&& (3 : Int32)) % (3 : Int32)) ||| ((((p0.toUInt32 >>> ((2 : Int32) &&& 31).toUInt32).toInt32) &&& (255 : Int32)) <<< ((2 : Int32) &&& 31))) ||| ((((p0.toUInt32 >>> ((10 : Int32) &&& 31).toUInt32).toInt32) &&& (255 : Int32)) <<< ((10 : Int32) &&& 31))))]) rfl k) ?_
      show G T7 (mkF m 37 #[.val (.int p0), .val (.int ((p0 &&& (3 : Int32)) % (3 : Int32))), .val (.int ((((p0 &&& (3 : Int32)) % (3 : Int32)) ||| ((((p0.toUInt32 >>> ((2 : Int32) &&& 31).toUInt32).toInt32) &&& (255 : Int32)) <<< ((2 : Int32) &&& 31))) ||| ((((p0.toUInt32 >>> ((10 : Int32) &&& 31).toUInt32).toInt32) &&& (255 : Int32)) <<< ((10 : Int32) &&& 31))))] [])
      refine step (fun t k => XS.iloadN X7.here hx rfl (hb hby d2_37) rfl k) ?_
      show G T7 (mkF m 38 #[.val (.int p0), .val (.int ((p0 &&& (3 : Int32)) % (3 : Int32))), .val (.int ((((p0 &&& (3 : Int32)) % (3 : Int32)) ||| ((((p0.toUInt32 >>> ((2 : Int32) &&& 31).toUInt32).toInt32) &&& (255 : Int32)) <<< ((2 : Int32) &&& 31))) ||| ((((p0.toUInt32 >>> ((10 : Int32) &&& 31).toUInt32).toInt32) &&& (255 : Int32)) <<< ((10 : Int32) &&& 31))))] [(.int ((((p0 &&& (3 : Int32)) % (3 : Int32)) ||| ((((p0.toUInt32 >>> ((2 : Int32) &&& 31).toUInt32).toInt32) &&& (255 : Int32)) <<< ((2 : Int32) &&& 31))) ||| ((((p0.toUInt32 >>> ((10 : Int32) &&& 31).toUInt32).toInt32) &&& (255 : Int32)) <<< ((10 : Int32) &&& 31))))])
      exact ret (v := some (.int ((((p0 &&& (3 : Int32)) % (3 : Int32)) ||| ((((p0.toUInt32 >>> ((2 : Int32) &&& 31).toUInt32).toInt32) &&& (255 : Int32)) <<< ((2 : Int32) &&& 31))) ||| ((((p0.toUInt32 >>> ((10 : Int32) &&& 31).toUInt32).toInt32) &&& (255 : Int32)) <<< ((10 : Int32) &&& 31))))) X7 (fun h => by rw [Bd.returns] at h; cases h) (fun fs hr => retI X7 hx Bd.returns (hb hby d2_38) hr) e7 ⟨by unfold f_key; rw [if_pos hc3, if_pos hc6], N7, rfl⟩ (by decide) (by decide)
    · skip
      refine step (fun t k => XS.icmpYes X4.here hx rfl (pc0 := 23) (pc' := 37) rfl (hb hby d2_23) rfl (flt hc6).2.2.2 (by decide) (by decide) k) ?_
      show G T4 (mkF m 37 #[.val (.int p0), .val (.int ((p0 &&& (3 : Int32)) % (3 : Int32))), .val (.int (((p0 &&& (3 : Int32)) % (3 : Int32)) ||| ((((p0.toUInt32 >>> ((2 : Int32) &&& 31).toUInt32).toInt32) &&& (255 : Int32)) <<< ((2 : Int32) &&& 31))))] [])
      refine step (fun t k => XS.iloadN X4.here hx rfl (hb hby d2_37) rfl k) ?_
      show G T4 (mkF m 38 #[.val (.int p0), .val (.int ((p0 &&& (3 : Int32)) % (3 : Int32))), .val (.int (((p0 &&& (3 : Int32)) % (3 : Int32)) ||| ((((p0.toUInt32 >>> ((2 : Int32) &&& 31).toUInt32).toInt32) &&& (255 : Int32)) <<< ((2 : Int32) &&& 31))))] [(.int (((p0 &&& (3 : Int32)) % (3 : Int32)) ||| ((((p0.toUInt32 >>> ((2 : Int32) &&& 31).toUInt32).toInt32) &&& (255 : Int32)) <<< ((2 : Int32) &&& 31))))])
      exact ret (v := some (.int (((p0 &&& (3 : Int32)) % (3 : Int32)) ||| ((((p0.toUInt32 >>> ((2 : Int32) &&& 31).toUInt32).toInt32) &&& (255 : Int32)) <<< ((2 : Int32) &&& 31))))) X4 (fun h => by rw [Bd.returns] at h; cases h) (fun fs hr => retI X4 hx Bd.returns (hb hby d2_38) hr) e4 ⟨by unfold f_key; rw [if_pos hc3, if_neg hc6], N4, rfl⟩ (by decide) (by decide)
  · skip
    refine step (fun t k => XS.ifYes X1.here hx rfl (pc0 := 8) (pc' := 21) rfl (hb hby d2_8) rfl ((if0 _ _).trans (flt hc3).2.2.2) (by decide) (by decide) k) ?_
    show G T1 (mkF m 21 #[.val (.int p0), .val (.int ((p0 &&& (3 : Int32)) % (3 : Int32))), .val (.int ((p0 &&& (3 : Int32)) % (3 : Int32)))] [])
    refine step (fun t k => XS.iloadN X1.here hx rfl (hb hby d2_21) rfl k) ?_
    show G T1 (mkF m 22 #[.val (.int p0), .val (.int ((p0 &&& (3 : Int32)) % (3 : Int32))), .val (.int ((p0 &&& (3 : Int32)) % (3 : Int32)))] [(.int ((p0 &&& (3 : Int32)) % (3 : Int32)))])
    refine step (fun t k => XS.iconst X1.here hx rfl (hb hby d2_22) k) ?_
    show G T1 (mkF m 23 #[.val (.int p0), .val (.int ((p0 &&& (3 : Int32)) % (3 : Int32))), .val (.int ((p0 &&& (3 : Int32)) % (3 : Int32)))] [(.int 1), (.int ((p0 &&& (3 : Int32)) % (3 : Int32)))])
    by_cases hc9 : (1 : Int32) < ((p0 &&& (3 : Int32)) % (3 : Int32))
    · skip
      refine step (fun t k => XS.icmpNo X1.here hx rfl (hb hby d2_23) rfl (tlt hc9).2.2.2 k) ?_
      show G T1 (mkF m 26 #[.val (.int p0), .val (.int ((p0 &&& (3 : Int32)) % (3 : Int32))), .val (.int ((p0 &&& (3 : Int32)) % (3 : Int32)))] [])
      refine step (fun t k => XS.iloadN X1.here hx rfl (hb hby d2_26) rfl k) ?_
      show G T1 (mkF m 27 #[.val (.int p0), .val (.int ((p0 &&& (3 : Int32)) % (3 : Int32))), .val (.int ((p0 &&& (3 : Int32)) % (3 : Int32)))] [(.int ((p0 &&& (3 : Int32)) % (3 : Int32)))])
      refine step (fun t k => XS.iloadN X1.here hx rfl (hb hby d2_27) rfl k) ?_
      show G T1 (mkF m 28 #[.val (.int p0), .val (.int ((p0 &&& (3 : Int32)) % (3 : Int32))), .val (.int ((p0 &&& (3 : Int32)) % (3 : Int32)))] [(.int p0), (.int ((p0 &&& (3 : Int32)) % (3 : Int32)))])
      refine step (fun t k => XS.iconst X1.here hx rfl (hb hby d2_28) k) ?_
      show G T1 (mkF m 29 #[.val (.int p0), .val (.int ((p0 &&& (3 : Int32)) % (3 : Int32))), .val (.int ((p0 &&& (3 : Int32)) % (3 : Int32)))] [(.int 1), (.int p0), (.int ((p0 &&& (3 : Int32)) % (3 : Int32)))])
      have hK10 := (backOf (R := rr_key) (p := p) (e := e) (below := below) (s := s) (args := #[(.int p0)]) (len := 3) (W := 1) (rm_ch1 l Z a0 hw [] p0 h0 n0 (own_old_le O0) O0) hZ (ww34 hw) (ww5 hw) (by decide) (by decide))
      obtain ⟨_, _, ⟨T10, L10, k10, n10⟩, -, X10, ⟨Lc10, hQ10, l10, y10, z10⟩, st10⟩ := Jvm.LawKit.callS X1 hx (y := y_1) hown (mvT hZ (ww32 hw)) (mvT hZ (ww33 hw)) (mvT hZ (ww5 hw)) (mvT hZ (ww34 hw)) (by decide) hK10 (g := (mkF m 29 #[.val (.int p0), .val (.int ((p0 &&& (3 : Int32)) % (3 : Int32))), .val (.int ((p0 &&& (3 : Int32)) % (3 : Int32)))] [(.int 1), (.int p0), (.int ((p0 &&& (3 : Int32)) % (3 : Int32)))])) rfl (by rw [hml]; rfl) (argsL := [(.int p0), (.int 1)]) (rest := [(.int ((p0 &&& (3 : Int32)) % (3 : Int32)))]) (lenOf pd_1 rfl) rfl (by show 2 * 0 + _ ≤ _; exact Nat.le_of_eq rfl) (hb hby d2_29) (fun _ _ => ⟨rfl, e1, (by decide : 0 + 0 ≤ _), (by decide : 0 + 0 ≤ _)⟩)
      dsimp only [Pt.U, Pt.locs, Pt.cells, Pt.slots] at X10 l10 y10 z10 st10 hQ10
      subst l10 y10 z10
      obtain ⟨rfl, N10q, e10⟩ := hQ10
      have N10 := Fr.app N1 N10q
      obtain ⟨lc10, X10, N10⟩ := own_gen X10 N10
      refine step (fun t k => st10 t k) ?_
      show G T10 (mkF m 32 #[.val (.int p0), .val (.int ((p0 &&& (3 : Int32)) % (3 : Int32))), .val (.int ((p0 &&& (3 : Int32)) % (3 : Int32)))] [(.int (f_ch1 p0)), (.int ((p0 &&& (3 : Int32)) % (3 : Int32)))])
      have r11 : (f_ch1 p0) = (((p0.toUInt32 >>> ((10 : Int32) &&& 31).toUInt32).toInt32) &&& (255 : Int32)) := rfl
      rw [r11]
      show G T10 (mkF m 32 #[.val (.int p0), .val (.int ((p0 &&& (3 : Int32)) % (3 : Int32))), .val (.int ((p0 &&& (3 : Int32)) % (3 : Int32)))] [(.int (((p0.toUInt32 >>> ((10 : Int32) &&& 31).toUInt32).toInt32) &&& (255 : Int32))), (.int ((p0 &&& (3 : Int32)) % (3 : Int32)))])
      refine step (fun t k => XS.bipush X10.here hx rfl (hb hby d2_32) k) ?_
      show G T10 (mkF m 34 #[.val (.int p0), .val (.int ((p0 &&& (3 : Int32)) % (3 : Int32))), .val (.int ((p0 &&& (3 : Int32)) % (3 : Int32)))] [(.int 10), (.int (((p0.toUInt32 >>> ((10 : Int32) &&& 31).toUInt32).toInt32) &&& (255 : Int32))), (.int ((p0 &&& (3 : Int32)) % (3 : Int32)))])
      refine step (fun t k => XS.ishl X10.here hx rfl (hb hby d2_34) rfl k) ?_
      show G T10 (mkF m 35 #[.val (.int p0), .val (.int ((p0 &&& (3 : Int32)) % (3 : Int32))), .val (.int ((p0 &&& (3 : Int32)) % (3 : Int32)))] [(.int ((((p0.toUInt32 >>> ((10 : Int32) &&& 31).toUInt32).toInt32) &&& (255 : Int32)) <<< ((10 : Int32) &&& 31))), (.int ((p0 &&& (3 : Int32)) % (3 : Int32)))])
      refine step (fun t k => XS.ior X10.here hx rfl (hb hby d2_35) rfl k) ?_
      show G T10 (mkF m 36 #[.val (.int p0), .val (.int ((p0 &&& (3 : Int32)) % (3 : Int32))), .val (.int ((p0 &&& (3 : Int32)) % (3 : Int32)))] [(.int (((p0 &&& (3 : Int32)) % (3 : Int32)) ||| ((((p0.toUInt32 >>> ((10 : Int32) &&& 31).toUInt32).toInt32) &&& (255 : Int32)) <<< ((10 : Int32) &&& 31))))])
      refine step (fun t k => XS.istoreN X10.here hx rfl (hb hby d2_36) rfl (l' := #[.val (.int p0), .val (.int ((p0 &&& (3 : Int32)) % (3 : Int32))), .val (.int (((p0 &&& (3 : Int32)) % (3 : Int32)) ||| ((((p0.toUInt32 >>> ((10 : Int32) &&& 31).toUInt32).toInt32) &&& (255 : Int32)) <<< ((10 : Int32) &&& 31))))]) rfl k) ?_
      show G T10 (mkF m 37 #[.val (.int p0), .val (.int ((p0 &&& (3 : Int32)) % (3 : Int32))), .val (.int (((p0 &&& (3 : Int32)) % (3 : Int32)) ||| ((((p0.toUInt32 >>> ((10 : Int32) &&& 31).toUInt32).toInt32) &&& (255 : Int32)) <<< ((10 : Int32) &&& 31))))] [])
      refine step (fun t k => XS.iloadN X10.here hx rfl (hb hby d2_37) rfl k) ?_
      show G T10 (mkF m 38 #[.val (.int p0), .val (.int ((p0 &&& (3 : Int32)) % (3 : Int32))), .val (.int (((p0 &&& (3 : Int32)) % (3 : Int32)) ||| ((((p0.toUInt32 >>> ((10 : Int32) &&& 31).toUInt32).toInt32) &&& (255 : Int32)) <<< ((10 : Int32) &&& 31))))] [(.int (((p0 &&& (3 : Int32)) % (3 : Int32)) ||| ((((p0.toUInt32 >>> ((10 : Int32) &&& 31).toUInt32).toInt32) &&& (255 : Int32)) <<< ((10 : Int32) &&& 31))))])
      exact ret (v := some (.int (((p0 &&& (3 : Int32)) % (3 : Int32)) ||| ((((p0.toUInt32 >>> ((10 : Int32) &&& 31).toUInt32).toInt32) &&& (255 : Int32)) <<< ((10 : Int32) &&& 31))))) X10 (fun h => by rw [Bd.returns] at h; cases h) (fun fs hr => retI X10 hx Bd.returns (hb hby d2_38) hr) e10 ⟨by unfold f_key; rw [if_neg hc3, if_pos hc9], N10, rfl⟩ (by decide) (by decide)
    · skip
      refine step (fun t k => XS.icmpYes X1.here hx rfl (pc0 := 23) (pc' := 37) rfl (hb hby d2_23) rfl (flt hc9).2.2.2 (by decide) (by decide) k) ?_
      show G T1 (mkF m 37 #[.val (.int p0), .val (.int ((p0 &&& (3 : Int32)) % (3 : Int32))), .val (.int ((p0 &&& (3 : Int32)) % (3 : Int32)))] [])
      refine step (fun t k => XS.iloadN X1.here hx rfl (hb hby d2_37) rfl k) ?_
      show G T1 (mkF m 38 #[.val (.int p0), .val (.int ((p0 &&& (3 : Int32)) % (3 : Int32))), .val (.int ((p0 &&& (3 : Int32)) % (3 : Int32)))] [(.int ((p0 &&& (3 : Int32)) % (3 : Int32)))])
      exact ret (v := some (.int ((p0 &&& (3 : Int32)) % (3 : Int32)))) X1 (fun h => by rw [Bd.returns] at h; cases h) (fun fs hr => retI X1 hx Bd.returns (hb hby d2_38) hr) e1 ⟨by unfold f_key; rw [if_neg hc3, if_neg hc9], N1, rfl⟩ (by decide) (by decide)
def own_L (p0 : Int32) : Int32 := ((p0 &&& (3 : Int32)) % (3 : Int32))
def own_c0 (p0 : Int32) : Int32 := (((p0.toUInt32 >>> ((2 : Int32) &&& 31).toUInt32).toInt32) &&& (255 : Int32))
def own_c1 (p0 : Int32) : Int32 := (((p0.toUInt32 >>> ((10 : Int32) &&& 31).toUInt32).toInt32) &&& (255 : Int32))
def own_cs (p0 : Int32) : List Int32 := if own_L p0 = (0 : Int32) then [] else if own_L p0 = (1 : Int32) then [own_c0 p0] else [own_c0 p0, own_c1 p0]
theorem own_Lr (p : Int32) : 0 ≤ (own_L p).toInt ∧ (own_L p).toInt ≤ 2 := by
  have c1 := c_mask p (3 : Int32) 2 (by decide) (by decide)
  have c2 := c_irem (p &&& (3 : Int32)) (3 : Int32) 3 (by decide)
  show 0 ≤ ((p &&& (3 : Int32)) % (3 : Int32)).toInt ∧ ((p &&& (3 : Int32)) % (3 : Int32)).toInt ≤ 2
  omega
theorem own_cr {x : Int32} (h : ¬ x < 0 ∧ ¬ (255 : Int32) < x) : 0 ≤ x.toInt ∧ x.toInt ≤ 255 := by
  have q0 : (0 : Int32).toInt = 0 := by decide
  have q1 : (255 : Int32).toInt = 255 := by decide
  rw [own_xlt, own_xlt] at h
  omega
theorem own_c0r (p : Int32) : 0 ≤ (own_c0 p).toInt ∧ (own_c0 p).toInt ≤ 255 := own_cr (own_and255 _)
theorem own_c1r (p : Int32) : 0 ≤ (own_c1 p).toInt ∧ (own_c1 p).toInt ≤ 255 := own_cr (own_and255 _)
theorem own_len3 (p0 : Int32) : ((p0 &&& (3 : Int32)) % (3 : Int32)) = (0 : Int32) ∨ ((p0 &&& (3 : Int32)) % (3 : Int32)) = (1 : Int32) ∨ ((p0 &&& (3 : Int32)) % (3 : Int32)) = (2 : Int32) := by
  have h := own_Lr p0
  have q0 : (0 : Int32).toInt = 0 := by decide
  have q1 : (1 : Int32).toInt = 1 := by decide
  have q2 : (2 : Int32).toInt = 2 := by decide
  show own_L p0 = (0 : Int32) ∨ own_L p0 = (1 : Int32) ∨ own_L p0 = (2 : Int32)
  simp only [own_xeq, q0, q1, q2]
  omega
theorem own_csv (p : Int32) : ((own_L p).toInt = 0 ∧ own_cs p = []) ∨ ((own_L p).toInt = 1 ∧ own_cs p = [own_c0 p]) ∨ ((own_L p).toInt = 2 ∧ own_cs p = [own_c0 p, own_c1 p]) := by
  rcases (own_len3 p : own_L p = (0 : Int32) ∨ own_L p = (1 : Int32) ∨ own_L p = (2 : Int32)) with h | h | h
  · replace h : own_L p = (0 : Int32) := h
    exact Or.inl ⟨by rw [h]; decide, by unfold own_cs; rw [if_pos h]⟩
  · replace h : own_L p = (1 : Int32) := h
    exact Or.inr (Or.inl ⟨by rw [h]; decide, by unfold own_cs; rw [if_neg (by rw [h]; decide), if_pos h]⟩)
  · replace h : own_L p = (2 : Int32) := h
    exact Or.inr (Or.inr ⟨by rw [h]; decide, by unfold own_cs; rw [if_neg (by rw [h]; decide), if_neg (by rw [h]; decide)]⟩)
def own_kk (L a b : Int32) : Int32 := if (0 : Int32) < L then (if (1 : Int32) < L then ((L ||| (a <<< ((2 : Int32) &&& 31))) ||| (b <<< ((10 : Int32) &&& 31))) else (L ||| (a <<< ((2 : Int32) &&& 31)))) else (if (1 : Int32) < L then (L ||| (b <<< ((10 : Int32) &&& 31))) else L)
theorem own_kd (p : Int32) : f_key p = own_kk (own_L p) (own_c0 p) (own_c1 p) := rfl
theorem own_kv {L a b : Int32} (hL : 0 ≤ L.toInt ∧ L.toInt ≤ 2) (ha : 0 ≤ a.toInt ∧ a.toInt ≤ 255) (hb : 0 ≤ b.toInt ∧ b.toInt ≤ 255) : (L.toInt = 0 ∧ (own_kk L a b).toInt = 0) ∨ (L.toInt = 1 ∧ (own_kk L a b).toInt = 1 + 4 * a.toInt) ∨ (L.toInt = 2 ∧ (own_kk L a b).toInt = 2 + 4 * a.toInt + 1024 * b.toInt) := by
  have q0 : (0 : Int32).toInt = 0 := by decide
  have q1 : (1 : Int32).toInt = 1 := by decide
  have s1 := c_ishl a (2 : Int32) 2 (by decide)
  have r1 := rng32 (a <<< ((2 : Int32) &&& 31))
  have s2 := c_ishl b (10 : Int32) 10 (by decide)
  have r2 := rng32 (b <<< ((10 : Int32) &&& 31))
  have o1 := c_or' L (a <<< ((2 : Int32) &&& 31)) 2 (by decide) 4 (by decide) (by omega) (by omega) (by omega)
  have r3 := rng32 (L ||| (a <<< ((2 : Int32) &&& 31)))
  have o2 := c_or' (L ||| (a <<< ((2 : Int32) &&& 31))) (b <<< ((10 : Int32) &&& 31)) 10 (by decide) 1024 (by decide) (by omega) (by omega) (by omega)
  have r4 := rng32 ((L ||| (a <<< ((2 : Int32) &&& 31))) ||| (b <<< ((10 : Int32) &&& 31)))
  unfold own_kk
  by_cases g0 : (0 : Int32) < L
  · by_cases g1 : (1 : Int32) < L
    · rw [if_pos g0, if_pos g1]
      rw [own_xlt] at g0 g1
      omega
    · rw [if_pos g0, if_neg g1]
      rw [own_xlt] at g0 g1
      omega
  · by_cases g1 : (1 : Int32) < L
    · exfalso
      rw [own_xlt] at g0 g1
      omega
    · rw [if_neg g0, if_neg g1]
      rw [own_xlt] at g0 g1
      omega
theorem own_key (p q : Int32) : f_key p = f_key q ↔ own_cs p = own_cs q := by
  rw [own_kd, own_kd]
  have a := own_kv (own_Lr p) (own_c0r p) (own_c1r p)
  have b := own_kv (own_Lr q) (own_c0r q) (own_c1r q)
  have p0 := own_c0r p
  have p1 := own_c1r p
  have q0 := own_c0r q
  have q1 := own_c1r q
  rw [own_xeq]
  generalize (own_kk (own_L p) (own_c0 p) (own_c1 p)).toInt = x at *
  generalize (own_kk (own_L q) (own_c0 q) (own_c1 q)).toInt = y at *
  rcases own_csv p with ⟨u1, u2⟩ | ⟨u1, u2⟩ | ⟨u1, u2⟩ <;> rcases own_csv q with ⟨v1, v2⟩ | ⟨v1, v2⟩ | ⟨v1, v2⟩ <;> rw [u2, v2]
  · exact ⟨fun _ => rfl, fun _ => by omega⟩
  · exact ⟨fun h => by exfalso; omega, fun h => by cases h⟩
  · exact ⟨fun h => by exfalso; omega, fun h => by cases h⟩
  · exact ⟨fun h => by exfalso; omega, fun h => by cases h⟩
  · exact ⟨fun h => by rw [own_xeq.mpr (show (own_c0 p).toInt = (own_c0 q).toInt by omega)], fun h => by injection h with h1; have h2 := congrArg Int32.toInt h1; omega⟩
  · exact ⟨fun h => by exfalso; omega, fun h => by injection h with h1 h2; cases h2⟩
  · exact ⟨fun h => by exfalso; omega, fun h => by cases h⟩
  · exact ⟨fun h => by exfalso; omega, fun h => by injection h with h1 h2; cases h2⟩
  · exact ⟨fun h => by rw [own_xeq.mpr (show (own_c0 p).toInt = (own_c0 q).toInt by omega), own_xeq.mpr (show (own_c1 p).toInt = (own_c1 q).toInt by omega)], fun h => by injection h with h1 h2; injection h2 with h3; have h4 := congrArg Int32.toInt h1; have h5 := congrArg Int32.toInt h3; omega⟩
theorem own_sp0 {p0 : Int32} (h : ((p0 &&& (3 : Int32)) % (3 : Int32)) = (0 : Int32)) : own_sp (own_cs p0) (0 : Int32) [] := by
  have e : own_cs p0 = [] := by unfold own_cs own_L; rw [if_pos h]
  rw [e]
  exact ⟨own_cod [] 0 rfl (fun _ h => nomatch h), fun _ h => (nomatch h), by decide⟩
theorem own_sp1 {p0 : Int32} (h : ((p0 &&& (3 : Int32)) % (3 : Int32)) = (1 : Int32)) : own_sp (own_cs p0) (1 : Int32) [(.int ((own_c0 p0).toInt8.toInt32))] := by
  have e : own_cs p0 = [own_c0 p0] := by unfold own_cs own_L; rw [if_neg (by rw [h]; decide), if_pos h]
  rw [e]
  have q : ∀ c ∈ [own_c0 p0], ¬ c < 0 ∧ ¬ (255 : Int32) < c := List.forall_mem_cons.mpr ⟨own_and255 _, fun _ h => nomatch h⟩
  exact ⟨own_cod [own_c0 p0] 1 rfl q, own_up q, by show 1 ≤ 4000; decide⟩
theorem own_sp2 {p0 : Int32} (h : ((p0 &&& (3 : Int32)) % (3 : Int32)) = (2 : Int32)) : own_sp (own_cs p0) (2 : Int32) [(.int ((own_c0 p0).toInt8.toInt32)), (.int ((own_c1 p0).toInt8.toInt32))] := by
  have e : own_cs p0 = [own_c0 p0, own_c1 p0] := by unfold own_cs own_L; rw [if_neg (by rw [h]; decide), if_neg (by rw [h]; decide)]
  rw [e]
  have q : ∀ c ∈ [own_c0 p0, own_c1 p0], ¬ c < 0 ∧ ¬ (255 : Int32) < c := List.forall_mem_cons.mpr ⟨own_and255 _, List.forall_mem_cons.mpr ⟨own_and255 _, fun _ h => nomatch h⟩⟩
  exact ⟨own_cod [own_c0 p0, own_c1 p0] 2 rfl q, own_up q, by show 2 ≤ 4000; decide⟩
theorem d3_0 : decode jdk_42_method_149_code 0 = .ok (.aload_n 0, 1) := by decide +kernel
theorem d3_1 : decode jdk_42_method_149_code 1 = .ok (.invokespecial 1, 3) := by decide +kernel
theorem ww21 {Z : State} {a0 : Array Value} (hw : ∀ d ∈ tables_1, d.before a0 Z = true) : Jvm.Cond.before (Jvm.Cond.methodLink cn_2 (1 : Nat) ({ cls := cn_7, name := "<init>", desc := "()V" } : Jvm.MethodName)) a0 Z = true := hw _ (List.mem_of_getElem? (i := 21) rfl)
theorem ww22 {Z : State} {a0 : Array Value} (hw : ∀ d ∈ tables_1, d.before a0 Z = true) : Jvm.Cond.before (Jvm.Cond.instanceMethod ({ cls := cn_7, name := "<init>", desc := "()V" } : Jvm.MethodName)) a0 Z = true := hw _ (List.mem_of_getElem? (i := 22) rfl)
theorem ww23 {Z : State} {a0 : Array Value} (hw : ∀ d ∈ tables_1, d.before a0 Z = true) : Jvm.Cond.before (Jvm.Cond.code ({ cls := cn_7, name := "<init>", desc := "()V" } : Jvm.MethodName) object_method_1_code (1 : Nat) (Option.none : Option Jvm.ClassFile.FieldType)) a0 Z = true := hw _ (List.mem_of_getElem? (i := 23) rfl)
theorem d3_4 : decode jdk_42_method_149_code 4 = .ok (.iload_n 3, 1) := by decide +kernel
theorem d3_5 : decode jdk_42_method_149_code 5 = .ok (.ifCond .ne 22, 3) := by decide +kernel
theorem d3_8 : decode jdk_42_method_149_code 8 = .ok (.aload_n 0, 1) := by decide +kernel
theorem d3_9 : decode jdk_42_method_149_code 9 = .ok (.ldc 7, 2) := by decide +kernel
theorem d3_11 : decode jdk_42_method_149_code 11 = .ok (.getfield 9, 3) := by decide +kernel
theorem ww30 {Z : State} {a0 : Array Value} (hw : ∀ d ∈ tables_1, d.before a0 Z = true) : Jvm.Cond.before (Jvm.Cond.fieldLink cn_2 (9 : Nat) cn_2 "value" "[B") a0 Z = true := hw _ (List.mem_of_getElem? (i := 30) rfl)
theorem d3_14 : decode jdk_42_method_149_code 14 = .ok (.putfield 9, 3) := by decide +kernel
theorem ww26 {Z : State} {a0 : Array Value} (hw : ∀ d ∈ tables_1, d.before a0 Z = true) : Jvm.Cond.before (Jvm.Cond.laysFinal cn_2 cn_2 "value" "[B") a0 Z = true := hw _ (List.mem_of_getElem? (i := 26) rfl)
theorem ww12 {Z : State} {a0 : Array Value} (hw : ∀ d ∈ tables_1, d.before a0 Z = true) : Jvm.Cond.before (Jvm.Cond.instantiable cn_2 (4 : Nat)) a0 Z = true := hw _ (List.mem_of_getElem? (i := 12) rfl)
theorem d3_17 : decode jdk_42_method_149_code 17 = .ok (.aload_n 0, 1) := by decide +kernel
theorem d3_18 : decode jdk_42_method_149_code 18 = .ok (.ldc 7, 2) := by decide +kernel
theorem d3_20 : decode jdk_42_method_149_code 20 = .ok (.getfield 15, 3) := by decide +kernel
theorem ww31 {Z : State} {a0 : Array Value} (hw : ∀ d ∈ tables_1, d.before a0 Z = true) : Jvm.Cond.before (Jvm.Cond.fieldLink cn_2 (15 : Nat) cn_2 "coder" "B") a0 Z = true := hw _ (List.mem_of_getElem? (i := 31) rfl)
theorem d3_23 : decode jdk_42_method_149_code 23 = .ok (.putfield 15, 3) := by decide +kernel
theorem ww27 {Z : State} {a0 : Array Value} (hw : ∀ d ∈ tables_1, d.before a0 Z = true) : Jvm.Cond.before (Jvm.Cond.laysFinal cn_2 cn_2 "coder" "B") a0 Z = true := hw _ (List.mem_of_getElem? (i := 27) rfl)
theorem d3_26 : decode jdk_42_method_149_code 26 = .ok (.return_, 1) := by decide +kernel
abbrev rr_sv : Room := { frames := 1, cells := 4, slots := 8, locals := 12 }
abbrev y_3 : MethodName := ⟨cn_2, "<init>", cn_9⟩
theorem pn_1 : plainName cn_2 = true := by first | (simp [plainName, overriddenIn]; done) | decide +kernel
theorem ef_sv (m : MethodId) (o0 : Addr) (o1 : Addr) : entryFrame m #[(.ref o0), (.ref o1), (.int 0), (.int 0), .null] 6 = mkF m 0 #[.val (.ref o0), .val (.ref o1), .val (.int 0), .val (.int 0), .val .null, .unset] [] := by first | (simp [entryFrame, mkF, argsToLocals, Value.category]; done) | rfl
def Q_sv (Z : State) (w_COMPACT_STRINGS : Int32) (w_SIOOBE_FORMATTER : Value) (o0 : Addr) (o1 : Addr) (h0 : Heap) (n0 : Nat) (v : Option Value) (h : Heap) (L : List Loc) : Prop := ∃ t : Addr, ∃ kk : ClassId, v = none ∧ Fr n0 L ∧ Keep h0 h [o0] ∧ Exa Z h o0 cn_2 ∧ Fld Z h o0 cn_2 "value" "[B" (.ref t) ∧ Fld Z h o0 cn_2 "coder" "B" (.int 0) ∧ Arv Z h t kk .byte (0 : Int32) [] (.int 0)
set_option maxRecDepth 65536 in
set_option maxHeartbeats 40000000 in
theorem rm_sv (l : Launch) (Z : State) (a0 : Array Value) (hw : ∀ d ∈ tables_1, d.before a0 Z = true) (ws : List Jvm.Cond) (w_COMPACT_STRINGS : Int32) (w_SIOOBE_FORMATTER : Value) (o0 : Addr) (o1 : Addr) (h0 : Heap) (n0 : Nat) (Z0 : n0 ≤ h0.size) (ST : own_St Z w_COMPACT_STRINGS w_SIOOBE_FORMATTER) (O0 : Old Z n0 h0) (Ex : Exa Z h0 o0 cn_2) (geo : n0 ≤ o0) (Fa : Fld Z h0 o0 cn_2 "value" "[B" .null) (Fb : Fld Z h0 o0 cn_2 "coder" "B" (.int 0)) :
    MetFree l y_3 (head1 (Jvm.Cond.code y_3 jdk_42_method_149_code 6 none :: ws) rr_sv) (fun a U => a = #[(.ref o0), (.ref o1), (.int 0), (.int 0), .null] ∧ Z.Warmed39 U.vm ∧ U.heap = h0 ∧ CHv Z own_EL U.vm h0) (fun _ _ _ _ _ => True) (fun _ U o U' => ∃ v L, o = .returned v ∧ Q_sv Z w_COMPACT_STRINGS w_SIOOBE_FORMATTER o0 o1 h0 n0 v U'.heap L ∧ CHr Z own_EL U.vm U.heap U'.vm U'.heap ∧ ReturnedEndW U o U' L rr_sv.cells rr_sv.slots) := by
  refine MetFree.of_bodySF (plainFor_of_name pn_1) hisR ?_
  intro p e s m args below meth c s₁ Bd hml0 hP hK
  obtain ⟨rfl, hZ, hh, hC⟩ := hP
  have hx := Bd.exec
  have hby := Bd.bytes
  have hml : c.maxLocals = 6 := hml0
  have hown : s.vm.findClass cn_2 = some m.cls := findClass_of_methodNamed Bd.named
  have hnm := (name_of_methodNamed Bd.named Bd.method).1
  have X0 : Stand p l e rr_sv (s.setVm s.vm) m #[(.ref o0), (.ref o1), (.int 0), (.int 0), .null] below meth c s₁ [] 0 0 := Stand.of_body Bd
  have e0 : s₁.heap = h0 := by rw [← hh, Bd.state]; rfl
  have N0 := Fr.nil n0
  replace hZ : Z.Warmed39 (s.setVm s.vm).vm := hZ
  replace hown : (s.setVm s.vm).vm.findClass cn_2 = some m.cls := hown
  have hS : s.Since s.vm h0.size := (State.WarmedH.refl s).since _
  have hk0 : h0.size ≤ h0.size := Nat.le_refl _
  have C0 : CHr Z own_EL s.vm h0 s.vm h0 := CHr.refl hC
  have K0 : Keep h0 h0 [o0] := Keep.refl _ _
  obtain ⟨G, step, ret, fin⟩ := own_openH (p := p) (l := l) (e := e) (R := rr_sv) (s := s) (m := m) (args := #[(.ref o0), (.ref o1), (.int 0), (.int 0), .null]) (below := below) (meth := meth) (c := c) (rr_sv.cells) (rr_sv.slots) (Q_sv Z w_COMPACT_STRINGS w_SIOOBE_FORMATTER o0 o1 h0 n0) (own_EW hw) hh Bd.notSynchronized
  refine fin (g := entryFrame m #[(.ref o0), (.ref o1), (.int 0), (.int 0), .null] 6) ?_
  rw [ef_sv m o0 o1]
  have S0_o0 : Safe Z own_EL s.vm h0 o0 := own_safeN hZ.alike Ex Fa
  show G s₁ (mkF m 0 #[.val (.ref o0), .val (.ref o1), .val (.int 0), .val (.int 0), .val .null, .unset] [])
  refine step (fun t k => XS.aloadN X0.here hx rfl (hb hby d3_0) rfl rfl k) ?_
  show G s₁ (mkF m 1 #[.val (.ref o0), .val (.ref o1), .val (.int 0), .val (.int 0), .val .null, .unset] [(.ref o0)])
  obtain ⟨T1, X1, e1, st1⟩ := initO X0 hx hZ hown (ww21 hw) (ww22 hw) (ww23 hw) e0 (g := (mkF m 1 #[.val (.ref o0), .val (.ref o1), .val (.int 0), .val (.int 0), .val .null, .unset] [(.ref o0)])) rfl (by rw [hml]; rfl) rfl (hb hby d3_1) (by decide) (W := 0) (by show 2 * 0 + _ ≤ _; exact Nat.le_of_eq rfl) (by decide)
  refine step st1 ?_
  show G T1 (mkF m 4 #[.val (.ref o0), .val (.ref o1), .val (.int 0), .val (.int 0), .val .null, .unset] [])
  refine step (fun t k => XS.iloadN X1.here hx rfl (hb hby d3_4) rfl k) ?_
  show G T1 (mkF m 5 #[.val (.ref o0), .val (.ref o1), .val (.int 0), .val (.int 0), .val .null, .unset] [(.int 0)])
  refine step (fun t k => XS.ifNo X1.here hx rfl (hb hby d3_5) rfl ((if0 _ _).trans (teq (by decide : (0 : Int32) = (0 : Int32))).2) k) ?_
  show G T1 (mkF m 8 #[.val (.ref o0), .val (.ref o1), .val (.int 0), .val (.int 0), .val .null, .unset] [])
  refine step (fun t k => XS.aloadN X1.here hx rfl (hb hby d3_8) rfl rfl k) ?_
  show G T1 (mkF m 9 #[.val (.ref o0), .val (.ref o1), .val (.int 0), .val (.int 0), .val .null, .unset] [(.ref o0)])
  obtain ⟨b2, T2, h2, k2, t2, kk2, X2, e2, E2, hS, hk2, hZ, hown, Ex2, Fc2, Fv2, Va2, -, -, hC2, -, hne2, st2⟩ := ldcCH (s := s) X1 hx hZ hown (ww24 hw) (own_wS hw) e1 hS hk0 (own_EW hw) (List.mem_of_getElem? (i := 0) rfl) C0.1 own_e0 (z := (0 : Int32)) (by decide) rfl (g := (mkF m 9 #[.val (.ref o0), .val (.ref o1), .val (.int 0), .val (.int 0), .val .null, .unset] [(.ref o0)])) rfl (hb hby d3_9) (n := 0) (by decide +kernel) (by decide) (by decide) (by decide)
  have cz2 : CHr Z own_EL s.vm h0 T2.vm h2 := hC2
  have C2 : CHr Z own_EL s.vm h0 T2.vm h2 := C0.trans cz2
  have S2_o0 : Safe Z own_EL T2.vm h2 o0 := cz2.safe Ex.lt S0_o0
  have O2 := O0.ext E2
  have K2 : Keep h0 h2 [o0] := K0.ext E2
  refine step st2 ?_
  obtain ⟨ne2_o0, nf2_o0⟩ := hne2 _ S2_o0
  show G T2 (mkF m 11 #[.val (.ref o0), .val (.ref o1), .val (.int 0), .val (.int 0), .val .null, .unset] [(.ref b2), (.ref o0)])
  obtain ⟨T3, X3, e3, st3⟩ := getF X2 hx hZ hown (host := "") (Or.inl (ww30 hw)) Via.refl e2 Fv2 (g := (mkF m 11 #[.val (.ref o0), .val (.ref o1), .val (.int 0), .val (.int 0), .val .null, .unset] [(.ref b2), (.ref o0)])) rfl rfl (hb hby d3_11)
  refine step st3 ?_
  show G T3 (mkF m 14 #[.val (.ref o0), .val (.ref o1), .val (.int 0), .val (.int 0), .val .null, .unset] [(.ref t2), (.ref o0)])
  have f5 := (Fld.ext E2 Fa)
  have f6 := (Exa.ext E2 Ex)
  obtain ⟨T4, h4, X4, e4, W4, st4⟩ := putF X3 hx hZ hown (host := "") (Or.inl (ww30 hw)) Via.refl e3 f5 f6 (Or.inr ⟨(ww26 hw), rfl, hnm⟩) (ww12 hw) (ty := (.array .byte)) (by decide) rfl rfl (g := (mkF m 14 #[.val (.ref o0), .val (.ref o1), .val (.int 0), .val (.int 0), .val .null, .unset] [(.ref t2), (.ref o0)])) rfl rfl (hb hby d3_14)
  have F4 : Fld Z h4 o0 cn_2 "value" "[B" (.ref t2) := Fld.same W4 f5
  have cz4 : CHr Z own_EL T2.vm h2 T2.vm h4 := CHr.wr W4 S2_o0 C2.1
  have C4 : CHr Z own_EL s.vm h0 T2.vm h4 := C2.trans cz4
  have S4_o0 : Safe Z own_EL T2.vm h4 o0 := cz4.safe f6.lt S2_o0
  have N4 := Fr.snoc X4 N0 geo
  obtain ⟨lc4, X4, N4⟩ := own_gen X4 N4
  have O4 := O2.wr W4 geo
  have hk4 := Nat.le_trans hk2 (Nat.le_of_eq W4.size.symm)
  have K4 : Keep h0 h4 [o0] := K2.wr W4 (Or.inl (List.mem_of_getElem? (i := 0) rfl))
  refine step st4 ?_
  show G T4 (mkF m 17 #[.val (.ref o0), .val (.ref o1), .val (.int 0), .val (.int 0), .val .null, .unset] [])
  refine step (fun t k => XS.aloadN X4.here hx rfl (hb hby d3_17) rfl rfl k) ?_
  show G T4 (mkF m 18 #[.val (.ref o0), .val (.ref o1), .val (.int 0), .val (.int 0), .val .null, .unset] [(.ref o0)])
  have f8 := (Exa.wr W4 Ex2)
  have f9 := (Exa.wr W4 f6)
  have f10 := (Arv.other Va2 W4 (Ne.symm nf2_o0))
  obtain ⟨b7, T7, h7, k7, t7, kk7, X7, e7, E7, hS, hk7, hZ, hown, Ex7, Fc7, Fv7, Va7, -, -, hC7, -, hne7, st7⟩ := ldcCH (s := s) X4 hx hZ hown (ww24 hw) (own_wS hw) e4 hS hk4 (own_EW hw) (List.mem_of_getElem? (i := 0) rfl) C4.1 own_e0 (z := (0 : Int32)) (by decide) rfl (g := (mkF m 18 #[.val (.ref o0), .val (.ref o1), .val (.int 0), .val (.int 0), .val .null, .unset] [(.ref o0)])) rfl (hb hby d3_18) (n := 0) (by decide +kernel) (by decide) (by decide) (by decide)
  have cz7 : CHr Z own_EL T2.vm h4 T7.vm h7 := hC7
  have C7 : CHr Z own_EL s.vm h0 T7.vm h7 := C4.trans cz7
  have S7_o0 : Safe Z own_EL T7.vm h7 o0 := cz7.safe f9.lt S4_o0
  have O7 := O4.ext E7
  have K7 : Keep h0 h7 [o0] := K4.ext E7
  refine step st7 ?_
  obtain ⟨ne7_o0, nf7_o0⟩ := hne7 _ S7_o0
  show G T7 (mkF m 20 #[.val (.ref o0), .val (.ref o1), .val (.int 0), .val (.int 0), .val .null, .unset] [(.ref b7), (.ref o0)])
  obtain ⟨T11, X11, e11, st11⟩ := getF X7 hx hZ hown (host := "") (Or.inl (ww31 hw)) Via.refl e7 Fc7 (g := (mkF m 20 #[.val (.ref o0), .val (.ref o1), .val (.int 0), .val (.int 0), .val .null, .unset] [(.ref b7), (.ref o0)])) rfl rfl (hb hby d3_20)
  refine step st11 ?_
  show G T11 (mkF m 23 #[.val (.ref o0), .val (.ref o1), .val (.int 0), .val (.int 0), .val .null, .unset] [(.int 0), (.ref o0)])
  have f13 := (Fld.ext E7 (Fld.other W4 (Fld.ext E2 Fb) (Or.inr (slot_ne (Or.inr (ww27 hw)) (Or.inr (ww26 hw)) (by decide) (t := .byte) (t' := (.array .byte)) (by decide) (by decide)))))
  have f14 := (Exa.ext E7 f9)
  obtain ⟨T12, h12, X12, e12, W12, st12⟩ := putFN X11 hx hZ hown (ww31 hw) Via.refl e11 f13 f14 (Or.inr ⟨(ww27 hw), rfl, hnm⟩) (ww12 hw) (ty := .byte) (v' := (.int (nar .byte (0 : Int32)))) (by decide) rfl (fits_nar_byte _) (g := (mkF m 23 #[.val (.ref o0), .val (.ref o1), .val (.int 0), .val (.int 0), .val .null, .unset] [(.int 0), (.ref o0)])) rfl rfl (hb hby d3_23)
  have F12 : Fld Z h12 o0 cn_2 "coder" "B" (.int 0) := Fld.same W12 f13
  have cz12 : CHr Z own_EL T7.vm h7 T7.vm h12 := CHr.wr W12 S7_o0 C7.1
  have C12 : CHr Z own_EL s.vm h0 T7.vm h12 := C7.trans cz12
  have S12_o0 : Safe Z own_EL T7.vm h12 o0 := cz12.safe f14.lt S7_o0
  have N12 := Fr.snoc X12 N4 geo
  obtain ⟨lc12, X12, N12⟩ := own_gen X12 N12
  have O12 := O7.wr W12 geo
  have hk12 := Nat.le_trans hk7 (Nat.le_of_eq W12.size.symm)
  have K12 : Keep h0 h12 [o0] := K7.wr W12 (Or.inl (List.mem_of_getElem? (i := 0) rfl))
  refine step st12 ?_
  show G T12 (mkF m 26 #[.val (.ref o0), .val (.ref o1), .val (.int 0), .val (.int 0), .val .null, .unset] [])
  have f15 := (Exa.wr W12 f14)
  have f16 := (Fld.other W12 (Fld.ext E7 F4) (Or.inr (slot_ne (Or.inr (ww26 hw)) (Or.inr (ww27 hw)) (by decide) (t := (.array .byte)) (t' := .byte) (by decide) (by decide))))
  have f17 := (Arv.other (f10.ext E7) W12 (Ne.symm nf2_o0))
  exact ret (v := none) X12 hS hk12 C12 hZ (fun _ => rfl) (fun fs hr => X12.returnOut hx Bd.returns (hb hby d3_26) hr) e12 ⟨t2, kk2, rfl, N12, K12, f15, f16, F12, f17⟩ (by decide) (by decide)
theorem d4_0 : decode jdk_42_method_3_code 0 = .ok (.aload_n 0, 1) := by decide +kernel
theorem d4_1 : decode jdk_42_method_3_code 1 = .ok (.aload_n 1, 1) := by decide +kernel
theorem d4_2 : decode jdk_42_method_3_code 2 = .ok (.iconst 0, 1) := by decide +kernel
theorem d4_3 : decode jdk_42_method_3_code 3 = .ok (.aload_n 1, 1) := by decide +kernel
theorem d4_4 : decode jdk_42_method_3_code 4 = .ok (.arraylength, 1) := by decide +kernel
theorem d4_5 : decode jdk_42_method_3_code 5 = .ok (.aconst_null, 1) := by decide +kernel
theorem d4_6 : decode jdk_42_method_3_code 6 = .ok (.invokespecial 27, 3) := by decide +kernel
theorem ww17 {Z : State} {a0 : Array Value} (hw : ∀ d ∈ tables_1, d.before a0 Z = true) : Jvm.Cond.before (Jvm.Cond.methodLink cn_2 (27 : Nat) ({ cls := cn_2, name := "<init>", desc := cn_9 } : Jvm.MethodName)) a0 Z = true := hw _ (List.mem_of_getElem? (i := 17) rfl)
theorem ww20 {Z : State} {a0 : Array Value} (hw : ∀ d ∈ tables_1, d.before a0 Z = true) : Jvm.Cond.before (Jvm.Cond.code ({ cls := cn_2, name := "<init>", desc := cn_9 } : Jvm.MethodName) jdk_42_method_149_code (6 : Nat) (Option.none : Option Jvm.ClassFile.FieldType)) a0 Z = true := hw _ (List.mem_of_getElem? (i := 20) rfl)
theorem ww13 {Z : State} {a0 : Array Value} (hw : ∀ d ∈ tables_1, d.before a0 Z = true) : Jvm.Cond.before (Jvm.Cond.initialized cn_2) a0 Z = true := hw _ (List.mem_of_getElem? (i := 13) rfl)
theorem pd_2 : parseMethodDescriptor cn_9 = some ⟨[(.array .char), .int, .int, (.object "java/lang/Void")], none⟩ := by decide +kernel
theorem ww18 {Z : State} {a0 : Array Value} (hw : ∀ d ∈ tables_1, d.before a0 Z = true) : Jvm.Cond.before (Jvm.Cond.instanceMethod ({ cls := cn_2, name := "<init>", desc := cn_9 } : Jvm.MethodName)) a0 Z = true := hw _ (List.mem_of_getElem? (i := 18) rfl)
theorem d4_9 : decode jdk_42_method_3_code 9 = .ok (.return_, 1) := by decide +kernel
abbrev rr_si : Room := { frames := 2, cells := 4, slots := 8, locals := 29 }
abbrev y_4 : MethodName := ⟨cn_2, "<init>", "([C)V"⟩
theorem ef_si (m : MethodId) (o0 : Addr) (o1 : Addr) : entryFrame m #[(.ref o0), (.ref o1)] 2 = mkF m 0 #[.val (.ref o0), .val (.ref o1)] [] := by first | (simp [entryFrame, mkF, argsToLocals, Value.category]; done) | rfl
def Q_si (Z : State) (w_COMPACT_STRINGS : Int32) (w_SIOOBE_FORMATTER : Value) (o0 : Addr) (o1 : Addr) (kc : ClassId) (h0 : Heap) (n0 : Nat) (v : Option Value) (h : Heap) (L : List Loc) : Prop := ∃ t : Addr, ∃ kk : ClassId, v = none ∧ Fr n0 L ∧ Keep h0 h [o0] ∧ Exa Z h o0 cn_2 ∧ Fld Z h o0 cn_2 "value" "[B" (.ref t) ∧ Fld Z h o0 cn_2 "coder" "B" (.int 0) ∧ Arv Z h t kk .byte (0 : Int32) [] (.int 0)
set_option maxRecDepth 65536 in
set_option maxHeartbeats 40000000 in
theorem rm_si (l : Launch) (Z : State) (a0 : Array Value) (hw : ∀ d ∈ tables_1, d.before a0 Z = true) (ws : List Jvm.Cond) (w_COMPACT_STRINGS : Int32) (w_SIOOBE_FORMATTER : Value) (o0 : Addr) (o1 : Addr) (kc : ClassId) (h0 : Heap) (n0 : Nat) (Z0 : n0 ≤ h0.size) (ST : own_St Z w_COMPACT_STRINGS w_SIOOBE_FORMATTER) (O0 : Old Z n0 h0) (Ex : Exa Z h0 o0 cn_2) (geo : n0 ≤ o0) (Fa : Fld Z h0 o0 cn_2 "value" "[B" .null) (Fb : Fld Z h0 o0 cn_2 "coder" "B" (.int 0)) (Va : Arv Z h0 o1 kc .char (0 : Int32) [] (.int 0)) :
    MetFree l y_4 (head1 (Jvm.Cond.code y_4 jdk_42_method_3_code 2 none :: ws) rr_si) (fun a U => a = #[(.ref o0), (.ref o1)] ∧ Z.Warmed39 U.vm ∧ U.heap = h0 ∧ CHv Z own_EL U.vm h0) (fun _ _ _ _ _ => True) (fun _ U o U' => ∃ v L, o = .returned v ∧ Q_si Z w_COMPACT_STRINGS w_SIOOBE_FORMATTER o0 o1 kc h0 n0 v U'.heap L ∧ CHr Z own_EL U.vm U.heap U'.vm U'.heap ∧ ReturnedEndW U o U' L rr_si.cells rr_si.slots) := by
  refine MetFree.of_bodySF (plainFor_of_name pn_1) hisR ?_
  intro p e s m args below meth c s₁ Bd hml0 hP hK
  obtain ⟨rfl, hZ, hh, hC⟩ := hP
  have hx := Bd.exec
  have hby := Bd.bytes
  have hml : c.maxLocals = 2 := hml0
  have hown : s.vm.findClass cn_2 = some m.cls := findClass_of_methodNamed Bd.named
  have hnm := (name_of_methodNamed Bd.named Bd.method).1
  have X0 : Stand p l e rr_si (s.setVm s.vm) m #[(.ref o0), (.ref o1)] below meth c s₁ [] 0 0 := Stand.of_body Bd
  have e0 : s₁.heap = h0 := by rw [← hh, Bd.state]; rfl
  have N0 := Fr.nil n0
  replace hZ : Z.Warmed39 (s.setVm s.vm).vm := hZ
  replace hown : (s.setVm s.vm).vm.findClass cn_2 = some m.cls := hown
  have hS : s.Since s.vm h0.size := (State.WarmedH.refl s).since _
  have hk0 : h0.size ≤ h0.size := Nat.le_refl _
  have C0 : CHr Z own_EL s.vm h0 s.vm h0 := CHr.refl hC
  have K0 : Keep h0 h0 [o0] := Keep.refl _ _
  obtain ⟨G, step, ret, fin⟩ := own_openH (p := p) (l := l) (e := e) (R := rr_si) (s := s) (m := m) (args := #[(.ref o0), (.ref o1)]) (below := below) (meth := meth) (c := c) (rr_si.cells) (rr_si.slots) (Q_si Z w_COMPACT_STRINGS w_SIOOBE_FORMATTER o0 o1 kc h0 n0) (own_EW hw) hh Bd.notSynchronized
  refine fin (g := entryFrame m #[(.ref o0), (.ref o1)] 2) ?_
  rw [ef_si m o0 o1]
  have ne_o0_o1 : o0 ≠ o1 := own_ne_arv Ex (ww12 hw) Va
  show G s₁ (mkF m 0 #[.val (.ref o0), .val (.ref o1)] [])
  refine step (fun t k => XS.aloadN X0.here hx rfl (hb hby d4_0) rfl rfl k) ?_
  show G s₁ (mkF m 1 #[.val (.ref o0), .val (.ref o1)] [(.ref o0)])
  refine step (fun t k => XS.aloadN X0.here hx rfl (hb hby d4_1) rfl rfl k) ?_
  show G s₁ (mkF m 2 #[.val (.ref o0), .val (.ref o1)] [(.ref o1), (.ref o0)])
  refine step (fun t k => XS.iconst X0.here hx rfl (hb hby d4_2) k) ?_
  show G s₁ (mkF m 3 #[.val (.ref o0), .val (.ref o1)] [(.int 0), (.ref o1), (.ref o0)])
  refine step (fun t k => XS.aloadN X0.here hx rfl (hb hby d4_3) rfl rfl k) ?_
  show G s₁ (mkF m 4 #[.val (.ref o0), .val (.ref o1)] [(.ref o1), (.int 0), (.ref o1), (.ref o0)])
  have q1 := own_len X0 hx hZ e0 Va (g := (mkF m 4 #[.val (.ref o0), .val (.ref o1)] [(.ref o1), (.int 0), (.ref o1), (.ref o0)])) rfl rfl (hb hby d4_4)
  refine step q1 ?_
  show G s₁ (mkF m 5 #[.val (.ref o0), .val (.ref o1)] [(.int 0), (.int 0), (.ref o1), (.ref o0)])
  refine step (fun t k => XS.aconstNull X0.here hx rfl (hb hby d4_5) k) ?_
  show G s₁ (mkF m 6 #[.val (.ref o0), .val (.ref o1)] [.null, (.int 0), (.int 0), (.ref o1), (.ref o0)])
  have hK2 := (backOfSH (s := s) (vm0 := s.vm) (R := rr_si) (p := p) (e := e) (below := below) (args := #[(.ref o0), (.ref o1)]) (len := 3) (W := 0) (rm_sv l Z a0 hw [] w_COMPACT_STRINGS w_SIOOBE_FORMATTER o0 o1 h0 n0 (own_old_le O0) ST O0 Ex geo Fa Fb) hZ (ww20 hw) (ww13 hw) (by decide) (by decide) (own_EW hw) C0.1)
  obtain ⟨_, _, ⟨T2, L2, k2, n2⟩, -, X2, hS2, hg2, ⟨Lc2, hQ2, l2, y2, z2, hC2⟩, st2⟩ := X0.specialBackS hx (y := y_3) rfl hown (mvT hZ (ww17 hw)) (mvT hZ (ww18 hw)) (mvT hZ (ww20 hw)) (by decide) hK2 (g := (mkF m 6 #[.val (.ref o0), .val (.ref o1)] [.null, (.int 0), (.int 0), (.ref o1), (.ref o0)])) rfl (by rw [hml]; rfl) (Steps.refl _) (a := o0) (argsL := [(.ref o1), (.int 0), (.int 0), .null]) (rest := []) (lenOf pd_2 rfl) rfl (by show 2 * 0 + _ ≤ _; exact Nat.le_of_eq rfl) (hb hby d4_6) (fun _ _ => ⟨rfl, e0, (by decide : 0 + 4 ≤ _), (by decide : 0 + 8 ≤ _)⟩)
  dsimp only [Pt.U, Pt.locs, Pt.cells, Pt.slots] at X2 l2 y2 z2 st2 hQ2 hS2 hg2 hC2
  subst l2 y2 z2
  obtain ⟨X2, hS, hZ, hown⟩ := rebS (s := s) hS (by rw [e0]; exact hk0) X2 hS2 hg2 hZ hown
  obtain ⟨t_2, kk_2, rfl, N2q, K2q, Y2_0, Y2_1, Y2_2, Y2_3⟩ := hQ2
  have N2 := Fr.app N0 N2q
  obtain ⟨lc2, X2, N2⟩ := own_gen X2 N2
  have cz2 : CHr Z own_EL s.vm h0 T2.vm T2.heap := hC2
  have C2 : CHr Z own_EL s.vm h0 T2.vm T2.heap := C0.trans cz2
  have O2 := O0.keep K2q (allS geo all0)
  have K2 : Keep h0 T2.heap [o0] := K0.trans K2q (allS (Or.inl (List.mem_of_getElem? (i := 0) rfl)) all0)
  have hk2 : _ ≤ T2.heap.size := Nat.le_refl _
  refine step (fun t k => st2.trans k) ?_
  show G T2 (mkF m 9 #[.val (.ref o0), .val (.ref o1)] [])
  exact ret (v := none) X2 hS hk2 C2 hZ (fun _ => rfl) (fun fs hr => X2.returnOut hx Bd.returns (hb hby d4_9) hr) rfl ⟨t_2, kk_2, rfl, N2, K2, Y2_0, Y2_1, Y2_2, Y2_3⟩ (by decide) (by decide)
theorem d5_0 : decode method_4_code 0 = .ok (.iload_n 0, 1) := by decide +kernel
theorem d5_1 : decode method_4_code 1 = .ok (.invokestatic 7, 3) := by decide +kernel
theorem d5_4 : decode method_4_code 4 = .ok (.istore_n 1, 1) := by decide +kernel
theorem d5_5 : decode method_4_code 5 = .ok (.iload_n 1, 1) := by decide +kernel
theorem d5_6 : decode method_4_code 6 = .ok (.newarray .char, 2) := by decide +kernel
theorem ww10 {Z : State} {a0 : Array Value} (hw : ∀ d ∈ tables_1, d.before a0 Z = true) : Jvm.Cond.before (Jvm.Cond.arrayClass Jvm.ClassFile.FieldType.char) a0 Z = true := hw _ (List.mem_of_getElem? (i := 10) rfl)
theorem d5_8 : decode method_4_code 8 = .ok (.astore_n 2, 1) := by decide +kernel
theorem d5_9 : decode method_4_code 9 = .ok (.iload_n 1, 1) := by decide +kernel
theorem d5_10 : decode method_4_code 10 = .ok (.ifCond .le 11, 3) := by decide +kernel
theorem d5_21 : decode method_4_code 21 = .ok (.iload_n 1, 1) := by decide +kernel
theorem d5_22 : decode method_4_code 22 = .ok (.iconst 1, 1) := by decide +kernel
theorem d5_23 : decode method_4_code 23 = .ok (.if_icmp .le 11, 3) := by decide +kernel
theorem d5_34 : decode method_4_code 34 = .ok (.new 17, 3) := by decide +kernel
theorem ww11 {Z : State} {a0 : Array Value} (hw : ∀ d ∈ tables_1, d.before a0 Z = true) : Jvm.Cond.before (Jvm.Cond.classLink cn_1 (17 : Nat) cn_2) a0 Z = true := hw _ (List.mem_of_getElem? (i := 11) rfl)
theorem d5_37 : decode method_4_code 37 = .ok (.dup, 1) := by decide +kernel
theorem d5_38 : decode method_4_code 38 = .ok (.aload_n 2, 1) := by decide +kernel
theorem d5_39 : decode method_4_code 39 = .ok (.invokespecial 19, 3) := by decide +kernel
theorem ww14 {Z : State} {a0 : Array Value} (hw : ∀ d ∈ tables_1, d.before a0 Z = true) : Jvm.Cond.before (Jvm.Cond.methodLink cn_1 (19 : Nat) ({ cls := cn_2, name := "<init>", desc := "([C)V" } : Jvm.MethodName)) a0 Z = true := hw _ (List.mem_of_getElem? (i := 14) rfl)
theorem ww16 {Z : State} {a0 : Array Value} (hw : ∀ d ∈ tables_1, d.before a0 Z = true) : Jvm.Cond.before (Jvm.Cond.code ({ cls := cn_2, name := "<init>", desc := "([C)V" } : Jvm.MethodName) jdk_42_method_3_code (2 : Nat) (Option.none : Option Jvm.ClassFile.FieldType)) a0 Z = true := hw _ (List.mem_of_getElem? (i := 16) rfl)
theorem pd_3 : parseMethodDescriptor "([C)V" = some ⟨[(.array .char)], none⟩ := by decide +kernel
theorem ww15 {Z : State} {a0 : Array Value} (hw : ∀ d ∈ tables_1, d.before a0 Z = true) : Jvm.Cond.before (Jvm.Cond.instanceMethod ({ cls := cn_2, name := "<init>", desc := "([C)V" } : Jvm.MethodName)) a0 Z = true := hw _ (List.mem_of_getElem? (i := 15) rfl)
theorem d5_42 : decode method_4_code 42 = .ok (.areturn, 1) := by decide +kernel
theorem d5_13 : decode method_4_code 13 = .ok (.aload_n 2, 1) := by decide +kernel
theorem d5_14 : decode method_4_code 14 = .ok (.iconst 0, 1) := by decide +kernel
theorem d5_15 : decode method_4_code 15 = .ok (.iload_n 0, 1) := by decide +kernel
theorem d5_16 : decode method_4_code 16 = .ok (.iconst 0, 1) := by decide +kernel
theorem d5_17 : decode method_4_code 17 = .ok (.invokestatic 13, 3) := by decide +kernel
theorem d5_20 : decode method_4_code 20 = .ok (.castore, 1) := by decide +kernel
theorem d5_26 : decode method_4_code 26 = .ok (.aload_n 2, 1) := by decide +kernel
theorem d5_27 : decode method_4_code 27 = .ok (.iconst 1, 1) := by decide +kernel
theorem d5_28 : decode method_4_code 28 = .ok (.iload_n 0, 1) := by decide +kernel
theorem d5_29 : decode method_4_code 29 = .ok (.iconst 1, 1) := by decide +kernel
theorem d5_30 : decode method_4_code 30 = .ok (.invokestatic 13, 3) := by decide +kernel
theorem d5_33 : decode method_4_code 33 = .ok (.castore, 1) := by decide +kernel
abbrev rr_str : Room := { frames := 4, cells := 6, slots := 12, locals := 66 }
abbrev y_5 : MethodName := ⟨cn_1, "str", cn_10⟩
theorem ef_str (m : MethodId) (p0 : Int32) : entryFrame m #[(.int p0)] 3 = mkF m 0 #[.val (.int p0), .unset, .unset] [] := by first | (simp [entryFrame, mkF, argsToLocals, Value.category]; done) | rfl
def Q_str (Z : State) (w_COMPACT_STRINGS : Int32) (w_SIOOBE_FORMATTER : Value) (p0 : Int32) (h0 : Heap) (n0 : Nat) (v : Option Value) (h : Heap) (L : List Loc) : Prop := ∃ b : Addr, ∃ t : Addr, ∃ kk : ClassId, ∃ n : Int32, ∃ vs : List Value, v = some (.ref b) ∧ Fr n0 L ∧ Keep h0 h [] ∧ h0.size ≤ b ∧ Exa Z h b cn_2 ∧ Fld Z h b cn_2 "value" "[B" (.ref t) ∧ Fld Z h b cn_2 "coder" "B" (.int 0) ∧ Arv Z h t kk .byte n vs (.int 0) ∧ own_sp (own_cs p0) n vs
set_option maxRecDepth 65536 in
set_option maxHeartbeats 40000000 in
theorem rm_str (l : Launch) (Z : State) (a0 : Array Value) (hw : ∀ d ∈ tables_1, d.before a0 Z = true) (ws : List Jvm.Cond) (w_COMPACT_STRINGS : Int32) (w_SIOOBE_FORMATTER : Value) (p0 : Int32) (h0 : Heap) (n0 : Nat) (Z0 : n0 ≤ h0.size) (ST : own_St Z w_COMPACT_STRINGS w_SIOOBE_FORMATTER) (O0 : Old Z n0 h0) :
    MetFree l y_5 (head1 (Jvm.Cond.code y_5 method_4_code 3 (some (.object cn_2)) :: ws) rr_str) (fun a U => a = #[(.int p0)] ∧ Z.Warmed39 U.vm ∧ U.heap = h0 ∧ CHv Z own_EL U.vm h0) (fun _ _ _ _ _ => True) (fun _ U o U' => ∃ v L, o = .returned v ∧ Q_str Z w_COMPACT_STRINGS w_SIOOBE_FORMATTER p0 h0 n0 v U'.heap L ∧ CHr Z own_EL U.vm U.heap U'.vm U'.heap ∧ ReturnedEndW U o U' L rr_str.cells rr_str.slots) := by
  refine MetFree.of_bodySF (plainFor_of_name pn_0) hisR ?_
  intro p e s m args below meth c s₁ Bd hml0 hP hK
  obtain ⟨rfl, hZ, hh, hC⟩ := hP
  have hx := Bd.exec
  have hby := Bd.bytes
  have hml : c.maxLocals = 3 := hml0
  have hown : s.vm.findClass cn_1 = some m.cls := findClass_of_methodNamed Bd.named
  have hnm := (name_of_methodNamed Bd.named Bd.method).1
  have X0 : Stand p l e rr_str (s.setVm s.vm) m #[(.int p0)] below meth c s₁ [] 0 0 := Stand.of_body Bd
  have e0 : s₁.heap = h0 := by rw [← hh, Bd.state]; rfl
  have N0 := Fr.nil n0
  replace hZ : Z.Warmed39 (s.setVm s.vm).vm := hZ
  replace hown : (s.setVm s.vm).vm.findClass cn_1 = some m.cls := hown
  have hS : s.Since s.vm h0.size := (State.WarmedH.refl s).since _
  have hk0 : h0.size ≤ h0.size := Nat.le_refl _
  have C0 : CHr Z own_EL s.vm h0 s.vm h0 := CHr.refl hC
  have K0 : Keep h0 h0 [] := Keep.refl _ _
  obtain ⟨G, step, ret, fin⟩ := own_openH (p := p) (l := l) (e := e) (R := rr_str) (s := s) (m := m) (args := #[(.int p0)]) (below := below) (meth := meth) (c := c) (rr_str.cells) (rr_str.slots) (Q_str Z w_COMPACT_STRINGS w_SIOOBE_FORMATTER p0 h0 n0) (own_EW hw) hh Bd.notSynchronized
  refine fin (g := entryFrame m #[(.int p0)] 3) ?_
  rw [ef_str m p0]
  show G s₁ (mkF m 0 #[.val (.int p0), .unset, .unset] [])
  refine step (fun t k => XS.iloadN X0.here hx rfl (hb hby d5_0) rfl k) ?_
  show G s₁ (mkF m 1 #[.val (.int p0), .unset, .unset] [(.int p0)])
  have hK1 := (backOf (R := rr_str) (p := p) (e := e) (below := below) (args := #[(.int p0)]) (len := 3) (W := 0) (rm_len l Z a0 hw [] p0 h0 n0 (own_old_le O0) O0) hZ (ww9 hw) (ww5 hw) (by decide) (by decide))
  obtain ⟨_, _, ⟨T1, L1, k1, n1⟩, -, X1, ⟨Lc1, hQ1, l1, y1, z1⟩, st1⟩ := Jvm.LawKit.callS X0 hx (y := y_0) hown (mvT hZ (ww7 hw)) (mvT hZ (ww8 hw)) (mvT hZ (ww5 hw)) (mvT hZ (ww9 hw)) (by decide) hK1 (g := (mkF m 1 #[.val (.int p0), .unset, .unset] [(.int p0)])) rfl (by rw [hml]; rfl) (argsL := [(.int p0)]) (rest := []) (lenOf pd_0 rfl) rfl (by show 2 * 0 + _ ≤ _; exact Nat.le_of_eq rfl) (hb hby d5_1) (fun _ _ => ⟨rfl, e0, (by decide : 0 + 0 ≤ _), (by decide : 0 + 0 ≤ _)⟩)
  dsimp only [Pt.U, Pt.locs, Pt.cells, Pt.slots] at X1 l1 y1 z1 st1 hQ1
  subst l1 y1 z1
  obtain ⟨rfl, N1q, e1⟩ := hQ1
  have N1 := Fr.app N0 N1q
  obtain ⟨lc1, X1, N1⟩ := own_gen X1 N1
  refine step (fun t k => st1 t k) ?_
  show G T1 (mkF m 4 #[.val (.int p0), .unset, .unset] [(.int (f_len p0))])
  have r2 : (f_len p0) = ((p0 &&& (3 : Int32)) % (3 : Int32)) := rfl
  rw [r2]
  show G T1 (mkF m 4 #[.val (.int p0), .unset, .unset] [(.int ((p0 &&& (3 : Int32)) % (3 : Int32)))])
  rcases own_len3 p0 with hk | hk | hk
  · rw [hk]
    show G T1 (mkF m 4 #[.val (.int p0), .unset, .unset] [(.int 0)])
    refine step (fun t k => XS.istoreN X1.here hx rfl (hb hby d5_4) rfl (l' := #[.val (.int p0), .val (.int 0), .unset]) rfl k) ?_
    show G T1 (mkF m 5 #[.val (.int p0), .val (.int 0), .unset] [])
    refine step (fun t k => XS.iloadN X1.here hx rfl (hb hby d5_5) rfl k) ?_
    show G T1 (mkF m 6 #[.val (.int p0), .val (.int 0), .unset] [(.int 0)])
    obtain ⟨T3, h3, k3, X3, e3, E3, A3, B3, st3⟩ := newPE (aty := .char) X1 hx hZ (ww10 hw) e1 (g := (mkF m 6 #[.val (.int p0), .val (.int 0), .unset] [(.int 0)])) rfl (hb hby d5_6) rfl (by decide) (cap := 0) (by decide) (by decide) (by decide) (by decide) (ad := "[C") (by decide)
    obtain ⟨b3, g3⟩ : ∃ z, z = h0.size := ⟨_, rfl⟩
    rw [← g3] at A3 B3 st3
    have V3 : Arv Z h3 b3 k3 .char (0 : Int32) [] (.int 0) := Arv.new A3 (by decide)
    have cz3 : CHr Z own_EL s.vm h0 s.vm h3 := CHr.ext E3 C0.1
    have C3 : CHr Z own_EL s.vm h0 s.vm h3 := C0.trans cz3
    have ge_b3 : n0 ≤ b3 := Nat.le_trans (own_old_le O0) (Nat.le_of_eq g3.symm)
    have sz_b3 : h0.size ≤ b3 := Nat.le_trans K0.1 (Nat.le_of_eq g3.symm)
    have O3 := O0.ext E3
    have hk3 := Nat.le_trans hk0 E3.1
    have K3 : Keep h0 h3 [] := K0.ext E3
    refine step st3 ?_
    show G T3 (mkF m 8 #[.val (.int p0), .val (.int 0), .unset] [(.ref b3)])
    refine step (fun t k => XS.astoreN X3.here hx rfl (hb hby d5_8) rfl rfl (l' := #[.val (.int p0), .val (.int 0), .val (.ref b3)]) rfl k) ?_
    show G T3 (mkF m 9 #[.val (.int p0), .val (.int 0), .val (.ref b3)] [])
    refine step (fun t k => XS.iloadN X3.here hx rfl (hb hby d5_9) rfl k) ?_
    show G T3 (mkF m 10 #[.val (.int p0), .val (.int 0), .val (.ref b3)] [(.int 0)])
    refine step (fun t k => XS.ifYes X3.here hx rfl (pc0 := 10) (pc' := 21) rfl (hb hby d5_10) rfl ((if0 _ _).trans (flt (by decide : ¬ ((0 : Int32) < (0 : Int32)))).2.2.2) (by decide) (by decide) k) ?_
    show G T3 (mkF m 21 #[.val (.int p0), .val (.int 0), .val (.ref b3)] [])
    refine step (fun t k => XS.iloadN X3.here hx rfl (hb hby d5_21) rfl k) ?_
    show G T3 (mkF m 22 #[.val (.int p0), .val (.int 0), .val (.ref b3)] [(.int 0)])
    refine step (fun t k => XS.iconst X3.here hx rfl (hb hby d5_22) k) ?_
    show G T3 (mkF m 23 #[.val (.int p0), .val (.int 0), .val (.ref b3)] [(.int 1), (.int 0)])
    refine step (fun t k => XS.icmpYes X3.here hx rfl (pc0 := 23) (pc' := 34) rfl (hb hby d5_23) rfl (flt (by decide : ¬ ((1 : Int32) < (0 : Int32)))).2.2.2 (by decide) (by decide) k) ?_
    show G T3 (mkF m 34 #[.val (.int p0), .val (.int 0), .val (.ref b3)] [])
    obtain ⟨T4, h4, X4, e4, E4, A4, D4, -, st4⟩ := newO X3 hx hZ hown (ww11 hw) (ww12 hw) (ww13 hw) e3 (g := (mkF m 34 #[.val (.int p0), .val (.int 0), .val (.ref b3)] [])) rfl (hb hby d5_34) (by decide) (by decide)
    obtain ⟨b4, g4⟩ : ∃ z, z = h3.size := ⟨_, rfl⟩
    rw [← g4] at A4 D4 st4
    have cz4 : CHr Z own_EL s.vm h3 s.vm h4 := CHr.ext E4 C3.1
    have C4 : CHr Z own_EL s.vm h0 s.vm h4 := C3.trans cz4
    have ge_b4 : n0 ≤ b4 := Nat.le_trans (own_old_le O3) (Nat.le_of_eq g4.symm)
    have sz_b4 : h0.size ≤ b4 := Nat.le_trans K3.1 (Nat.le_of_eq g4.symm)
    have lt_b3_b4 : b3 < b4 := Nat.lt_of_lt_of_le B3.lt (Nat.le_of_eq g4.symm)
    have O4 := O3.ext E4
    have hk4 := Nat.le_trans hk3 E4.1
    have K4 : Keep h0 h4 [] := K3.ext E4
    have F4_value : Fld Z h4 b4 cn_2 "value" "[B" .null := D4 (Or.inr (ww26 hw)) (ty := (.array .byte)) (by decide)
    have F4_coder : Fld Z h4 b4 cn_2 "coder" "B" (.int 0) := D4 (Or.inr (ww27 hw)) (ty := .byte) (by decide)
    refine step st4 ?_
    show G T4 (mkF m 37 #[.val (.int p0), .val (.int 0), .val (.ref b3)] [(.ref b4)])
    refine step (fun t k => XS.dup X4.here hx rfl (hb hby d5_37) rfl rfl k) ?_
    show G T4 (mkF m 38 #[.val (.int p0), .val (.int 0), .val (.ref b3)] [(.ref b4), (.ref b4)])
    refine step (fun t k => XS.aloadN X4.here hx rfl (hb hby d5_38) rfl rfl k) ?_
    show G T4 (mkF m 39 #[.val (.int p0), .val (.int 0), .val (.ref b3)] [(.ref b3), (.ref b4), (.ref b4)])
    have f6 := (V3.ext E4)
    have hK5 := (backOfSH (s := s) (vm0 := s.vm) (R := rr_str) (p := p) (e := e) (below := below) (args := #[(.int p0)]) (len := 3) (W := 1) (rm_si l Z a0 hw [] w_COMPACT_STRINGS w_SIOOBE_FORMATTER b4 b3 k3 h4 n0 (own_old_le O4) ST O4 A4 ge_b4 F4_value F4_coder f6) hZ (ww16 hw) (ww13 hw) (by decide) (by decide) (own_EW hw) C4.1)
    obtain ⟨_, _, ⟨T5, L5, k5, n5⟩, -, X5, hS5, hg5, ⟨Lc5, hQ5, l5, y5, z5, hC5⟩, st5⟩ := X4.specialBackS hx (y := y_4) rfl hown (mvT hZ (ww14 hw)) (mvT hZ (ww15 hw)) (mvT hZ (ww16 hw)) (by decide) hK5 (g := (mkF m 39 #[.val (.int p0), .val (.int 0), .val (.ref b3)] [(.ref b3), (.ref b4), (.ref b4)])) rfl (by rw [hml]; rfl) (Steps.refl _) (a := b4) (argsL := [(.ref b3)]) (rest := [(.ref b4)]) (lenOf pd_3 rfl) rfl (by show 2 * 0 + _ ≤ _; exact Nat.le_of_eq rfl) (hb hby d5_39) (fun _ _ => ⟨rfl, e4, (by decide : 2 + 4 ≤ _), (by decide : 4 + 8 ≤ _)⟩)
    dsimp only [Pt.U, Pt.locs, Pt.cells, Pt.slots] at X5 l5 y5 z5 st5 hQ5 hS5 hg5 hC5
    subst l5 y5 z5
    obtain ⟨X5, hS, hZ, hown⟩ := rebS (s := s) hS (by rw [e4]; exact hk4) X5 hS5 hg5 hZ hown
    obtain ⟨t_5, kk_5, rfl, N5q, K5q, Y5_0, Y5_1, Y5_2, Y5_3⟩ := hQ5
    have N5 := Fr.app N1 N5q
    obtain ⟨lc5, X5, N5⟩ := own_gen X5 N5
    have cz5 : CHr Z own_EL s.vm h4 T5.vm T5.heap := hC5
    have C5 : CHr Z own_EL s.vm h0 T5.vm T5.heap := C4.trans cz5
    have O5 := O4.keep K5q (allS ge_b4 all0)
    have K5 : Keep h0 T5.heap [] := K4.trans K5q (allS (Or.inr sz_b4) all0)
    have hk5 : _ ≤ T5.heap.size := Nat.le_refl _
    refine step (fun t k => st5.trans k) ?_
    show G T5 (mkF m 42 #[.val (.int p0), .val (.int 0), .val (.ref b3)] [(.ref b4)])
    exact ret (v := some (.ref b4)) X5 hS hk5 C5 hZ (fun h => by rw [Bd.returns] at h; cases h) (fun fs hr => retA X5 hx Bd.returns rfl rfl (hb hby d5_42) hr) rfl ⟨b4, t_5, kk_5, (0 : Int32), [], rfl, N5, K5, sz_b4, Y5_0, Y5_1, Y5_2, Y5_3, (own_sp0 hk)⟩ (by decide) (by decide)
  · rw [hk]
    show G T1 (mkF m 4 #[.val (.int p0), .unset, .unset] [(.int 1)])
    refine step (fun t k => XS.istoreN X1.here hx rfl (hb hby d5_4) rfl (l' := #[.val (.int p0), .val (.int 1), .unset]) rfl k) ?_
    show G T1 (mkF m 5 #[.val (.int p0), .val (.int 1), .unset] [])
    refine step (fun t k => XS.iloadN X1.here hx rfl (hb hby d5_5) rfl k) ?_
    show G T1 (mkF m 6 #[.val (.int p0), .val (.int 1), .unset] [(.int 1)])
    obtain ⟨T7, h7, k7, X7, e7, E7, A7, B7, st7⟩ := newPE (aty := .char) X1 hx hZ (ww10 hw) e1 (g := (mkF m 6 #[.val (.int p0), .val (.int 1), .unset] [(.int 1)])) rfl (hb hby d5_6) rfl (by decide) (cap := 1) (by decide) (by decide) (by decide) (by decide) (ad := "[C") (by decide)
    obtain ⟨b7, g7⟩ : ∃ z, z = h0.size := ⟨_, rfl⟩
    rw [← g7] at A7 B7 st7
    have V7 : Arv Z h7 b7 k7 .char (1 : Int32) [(.int 0)] (.int 0) := (Arv.new A7 (by decide)).pad (pad_rep [] (.int 0) 1)
    have cz7 : CHr Z own_EL s.vm h0 s.vm h7 := CHr.ext E7 C0.1
    have C7 : CHr Z own_EL s.vm h0 s.vm h7 := C0.trans cz7
    have ge_b7 : n0 ≤ b7 := Nat.le_trans (own_old_le O0) (Nat.le_of_eq g7.symm)
    have sz_b7 : h0.size ≤ b7 := Nat.le_trans K0.1 (Nat.le_of_eq g7.symm)
    have O7 := O0.ext E7
    have hk7 := Nat.le_trans hk0 E7.1
    have K7 : Keep h0 h7 [] := K0.ext E7
    refine step st7 ?_
    show G T7 (mkF m 8 #[.val (.int p0), .val (.int 1), .unset] [(.ref b7)])
    refine step (fun t k => XS.astoreN X7.here hx rfl (hb hby d5_8) rfl rfl (l' := #[.val (.int p0), .val (.int 1), .val (.ref b7)]) rfl k) ?_
    show G T7 (mkF m 9 #[.val (.int p0), .val (.int 1), .val (.ref b7)] [])
    refine step (fun t k => XS.iloadN X7.here hx rfl (hb hby d5_9) rfl k) ?_
    show G T7 (mkF m 10 #[.val (.int p0), .val (.int 1), .val (.ref b7)] [(.int 1)])
    refine step (fun t k => XS.ifNo X7.here hx rfl (hb hby d5_10) rfl ((if0 _ _).trans (tlt (by decide : (0 : Int32) < (1 : Int32))).2.2.2) k) ?_
    show G T7 (mkF m 13 #[.val (.int p0), .val (.int 1), .val (.ref b7)] [])
    refine step (fun t k => XS.aloadN X7.here hx rfl (hb hby d5_13) rfl rfl k) ?_
    show G T7 (mkF m 14 #[.val (.int p0), .val (.int 1), .val (.ref b7)] [(.ref b7)])
    refine step (fun t k => XS.iconst X7.here hx rfl (hb hby d5_14) k) ?_
    show G T7 (mkF m 15 #[.val (.int p0), .val (.int 1), .val (.ref b7)] [(.int 0), (.ref b7)])
    refine step (fun t k => XS.iloadN X7.here hx rfl (hb hby d5_15) rfl k) ?_
    show G T7 (mkF m 16 #[.val (.int p0), .val (.int 1), .val (.ref b7)] [(.int p0), (.int 0), (.ref b7)])
    refine step (fun t k => XS.iconst X7.here hx rfl (hb hby d5_16) k) ?_
    show G T7 (mkF m 17 #[.val (.int p0), .val (.int 1), .val (.ref b7)] [(.int 0), (.int p0), (.int 0), (.ref b7)])
    have hK8 := (backOf (R := rr_str) (p := p) (e := e) (below := below) (args := #[(.int p0)]) (len := 3) (W := 2) (rm_ch0 l Z a0 hw [] p0 h7 n0 (own_old_le O7) O7) hZ (ww34 hw) (ww5 hw) (by decide) (by decide))
    obtain ⟨_, _, ⟨T8, L8, k8, n8⟩, -, X8, ⟨Lc8, hQ8, l8, y8, z8⟩, st8⟩ := Jvm.LawKit.callS X7 hx (y := y_1) hown (mvT hZ (ww32 hw)) (mvT hZ (ww33 hw)) (mvT hZ (ww5 hw)) (mvT hZ (ww34 hw)) (by decide) hK8 (g := (mkF m 17 #[.val (.int p0), .val (.int 1), .val (.ref b7)] [(.int 0), (.int p0), (.int 0), (.ref b7)])) rfl (by rw [hml]; rfl) (argsL := [(.int p0), (.int 0)]) (rest := [(.int 0), (.ref b7)]) (lenOf pd_1 rfl) rfl (by show 2 * 0 + _ ≤ _; exact Nat.le_of_eq rfl) (hb hby d5_17) (fun _ _ => ⟨rfl, e7, (by decide : 1 + 0 ≤ _), (by decide : 1 + 0 ≤ _)⟩)
    dsimp only [Pt.U, Pt.locs, Pt.cells, Pt.slots] at X8 l8 y8 z8 st8 hQ8
    subst l8 y8 z8
    obtain ⟨rfl, N8q, e8⟩ := hQ8
    have N8 := Fr.app N1 N8q
    obtain ⟨lc8, X8, N8⟩ := own_gen X8 N8
    refine step (fun t k => st8 t k) ?_
    show G T8 (mkF m 20 #[.val (.int p0), .val (.int 1), .val (.ref b7)] [(.int (f_ch0 p0)), (.int 0), (.ref b7)])
    have r9 : (f_ch0 p0) = (((p0.toUInt32 >>> ((2 : Int32) &&& 31).toUInt32).toInt32) &&& (255 : Int32)) := rfl
    rw [r9]
    show G T8 (mkF m 20 #[.val (.int p0), .val (.int 1), .val (.ref b7)] [(.int (((p0.toUInt32 >>> ((2 : Int32) &&& 31).toUInt32).toInt32) &&& (255 : Int32))), (.int 0), (.ref b7)])
    obtain ⟨T10, h10, X10, e10, W10, V10, st10⟩ := own_stC X8 hx hZ e8 V7 (j := (0 : Int32)) (by decide) (i := 0) rfl (by show 0 < 1; decide) (g := (mkF m 20 #[.val (.int p0), .val (.int 1), .val (.ref b7)] [(.int (((p0.toUInt32 >>> ((2 : Int32) &&& 31).toUInt32).toInt32) &&& (255 : Int32))), (.int 0), (.ref b7)])) rfl rfl (hb hby d5_20)
    replace V10 : Arv Z h10 b7 k7 .char (1 : Int32) [(.int (((p0.toUInt32 >>> ((2 : Int32) &&& 31).toUInt32).toInt32) &&& (255 : Int32)))] (.int 0) := by rw [own_narc (own_and255 ((p0.toUInt32 >>> ((2 : Int32) &&& 31).toUInt32).toInt32))] at V10; exact V10
    have cz10 : CHr Z own_EL s.vm h7 s.vm h10 := CHr.wr W10 (own_safeV hZ.alike V7 (by intro q; cases q)) C7.1
    have C10 : CHr Z own_EL s.vm h0 s.vm h10 := C7.trans cz10
    have N10 := Fr.snoc X10 N8 ge_b7
    obtain ⟨lc10, X10, N10⟩ := own_gen X10 N10
    have O10 := O7.wr W10 ge_b7
    have hk10 := Nat.le_trans hk7 (Nat.le_of_eq W10.size.symm)
    have K10 : Keep h0 h10 [] := K7.wr W10 (Or.inr sz_b7)
    refine step st10 ?_
    show G T10 (mkF m 21 #[.val (.int p0), .val (.int 1), .val (.ref b7)] [])
    refine step (fun t k => XS.iloadN X10.here hx rfl (hb hby d5_21) rfl k) ?_
    show G T10 (mkF m 22 #[.val (.int p0), .val (.int 1), .val (.ref b7)] [(.int 1)])
    refine step (fun t k => XS.iconst X10.here hx rfl (hb hby d5_22) k) ?_
    show G T10 (mkF m 23 #[.val (.int p0), .val (.int 1), .val (.ref b7)] [(.int 1), (.int 1)])
    refine step (fun t k => XS.icmpYes X10.here hx rfl (pc0 := 23) (pc' := 34) rfl (hb hby d5_23) rfl (flt (by decide : ¬ ((1 : Int32) < (1 : Int32)))).2.2.2 (by decide) (by decide) k) ?_
    show G T10 (mkF m 34 #[.val (.int p0), .val (.int 1), .val (.ref b7)] [])
    have f12 := (Exa.wr W10 B7)
    obtain ⟨T11, h11, X11, e11, E11, A11, D11, -, st11⟩ := newO X10 hx hZ hown (ww11 hw) (ww12 hw) (ww13 hw) e10 (g := (mkF m 34 #[.val (.int p0), .val (.int 1), .val (.ref b7)] [])) rfl (hb hby d5_34) (by decide) (by decide)
    obtain ⟨b11, g11⟩ : ∃ z, z = h10.size := ⟨_, rfl⟩
    rw [← g11] at A11 D11 st11
    have cz11 : CHr Z own_EL s.vm h10 s.vm h11 := CHr.ext E11 C10.1
    have C11 : CHr Z own_EL s.vm h0 s.vm h11 := C10.trans cz11
    have ge_b11 : n0 ≤ b11 := Nat.le_trans (own_old_le O10) (Nat.le_of_eq g11.symm)
    have sz_b11 : h0.size ≤ b11 := Nat.le_trans K10.1 (Nat.le_of_eq g11.symm)
    have lt_b7_b11 : b7 < b11 := Nat.lt_of_lt_of_le f12.lt (Nat.le_of_eq g11.symm)
    have O11 := O10.ext E11
    have hk11 := Nat.le_trans hk10 E11.1
    have K11 : Keep h0 h11 [] := K10.ext E11
    have F11_value : Fld Z h11 b11 cn_2 "value" "[B" .null := D11 (Or.inr (ww26 hw)) (ty := (.array .byte)) (by decide)
    have F11_coder : Fld Z h11 b11 cn_2 "coder" "B" (.int 0) := D11 (Or.inr (ww27 hw)) (ty := .byte) (by decide)
    refine step st11 ?_
    show G T11 (mkF m 37 #[.val (.int p0), .val (.int 1), .val (.ref b7)] [(.ref b11)])
    refine step (fun t k => XS.dup X11.here hx rfl (hb hby d5_37) rfl rfl k) ?_
    show G T11 (mkF m 38 #[.val (.int p0), .val (.int 1), .val (.ref b7)] [(.ref b11), (.ref b11)])
    refine step (fun t k => XS.aloadN X11.here hx rfl (hb hby d5_38) rfl rfl k) ?_
    show G T11 (mkF m 39 #[.val (.int p0), .val (.int 1), .val (.ref b7)] [(.ref b7), (.ref b11), (.ref b11)])
    have f14 := (V10.ext E11)
    have f15 := (Exa.ext E11 f12)
    have hK13 := (StrChars.Road.backV (l := l) (R := rr_str) (p := p) (e := e) (below := below) (args := #[(.int p0)]) (len := 3) (W := 1) hZ (own_hwV hw) (kI := 4) (ww12 hw) (cs := [(((p0.toUInt32 >>> ((2 : Int32) &&& 31).toUInt32).toInt32) &&& (255 : Int32))]) (bs := [((((p0.toUInt32 >>> ((2 : Int32) &&& 31).toUInt32).toInt32) &&& (255 : Int32)).toInt8.toInt32)]) (n := 1) ge_b11 (own_old_le O11) A11 F11_value F11_coder f14 (Sta.ext O11.2 ST.k0) ST.k3 rfl rfl (by decide) (by decide) (List.forall_mem_cons.mpr ⟨(own_and255 ((p0.toUInt32 >>> ((2 : Int32) &&& 31).toUInt32).toInt32)), (fun _ h => nomatch h)⟩) rfl (by decide) (by decide))
    obtain ⟨_, _, ⟨T13, L13, k13, n13⟩, -, X13, ⟨Lc13, hQ13, l13, y13, z13⟩, st13⟩ := X11.specialBack hx (y := y_4) rfl hown (mvT hZ (ww14 hw)) (mvT hZ (ww15 hw)) (mvT hZ (ww16 hw)) (by decide) hK13 (g := (mkF m 39 #[.val (.int p0), .val (.int 1), .val (.ref b7)] [(.ref b7), (.ref b11), (.ref b11)])) rfl (by rw [hml]; rfl) (Steps.refl _) (a := b11) (argsL := [(.ref b7)]) (rest := [(.ref b11)]) (lenOf pd_3 rfl) rfl (by show 2 * 0 + _ ≤ _; exact Nat.le_of_eq rfl) (hb hby d5_39) (fun _ _ => ⟨rfl, e11, (by decide : 2 + 1 ≤ _), (by decide : 5 + 1 ≤ _)⟩)
    dsimp only [Pt.U, Pt.locs, Pt.cells, Pt.slots] at X13 l13 y13 z13 st13 hQ13
    subst l13 y13 z13
    obtain ⟨rfl, N13q, K13q, Es13, Cs13, b13, kb13, gt13, gh13, -, Fv13, Vb13⟩ := hQ13
    have N13 := Fr.app N10 N13q
    obtain ⟨lc13, X13, N13⟩ := own_gen X13 N13
    replace Vb13 : Arv Z T13.heap b13 kb13 .byte (1 : Int32) [(.int ((((p0.toUInt32 >>> ((2 : Int32) &&& 31).toUInt32).toInt32) &&& (255 : Int32)).toInt8.toInt32))] (.int 0) := Vb13
    have lt_b11_b13 : b11 < b13 := Nat.lt_of_lt_of_le A11.lt gh13
    have lt_b7_b13 : b7 < b13 := Nat.lt_of_lt_of_le f15.lt gh13
    have cz13 : CHr Z own_EL s.vm h11 s.vm T13.heap := CHr.keep K13q (allS (own_safeN hZ.alike A11 F11_value) all0) C11.1
    have C13 : CHr Z own_EL s.vm h0 s.vm T13.heap := C11.trans cz13
    have O13 := O11.keep K13q (allS ge_b11 all0)
    have sz_b13 : h0.size ≤ b13 := Nat.le_trans K11.1 gh13
    have K13 : Keep h0 T13.heap [] := K11.trans K13q (allS (Or.inr sz_b11) all0)
    have hk13 := Nat.le_trans hk11 K13q.1
    refine step (fun t k => st13.trans k) ?_
    show G T13 (mkF m 42 #[.val (.int p0), .val (.int 1), .val (.ref b7)] [(.ref b11)])
    exact ret (v := some (.ref b11)) X13 hS hk13 C13 hZ (fun h => by rw [Bd.returns] at h; cases h) (fun fs hr => retA X13 hx Bd.returns rfl rfl (hb hby d5_42) hr) rfl ⟨b11, b13, kb13, (1 : Int32), [(.int ((((p0.toUInt32 >>> ((2 : Int32) &&& 31).toUInt32).toInt32) &&& (255 : Int32)).toInt8.toInt32))], rfl, N13, K13, sz_b11, Es13, Fv13, Cs13, Vb13, (own_sp1 hk)⟩ (by decide) (by decide)
  · rw [hk]
    show G T1 (mkF m 4 #[.val (.int p0), .unset, .unset] [(.int 2)])
    refine step (fun t k => XS.istoreN X1.here hx rfl (hb hby d5_4) rfl (l' := #[.val (.int p0), .val (.int 2), .unset]) rfl k) ?_
    show G T1 (mkF m 5 #[.val (.int p0), .val (.int 2), .unset] [])
    refine step (fun t k => XS.iloadN X1.here hx rfl (hb hby d5_5) rfl k) ?_
    show G T1 (mkF m 6 #[.val (.int p0), .val (.int 2), .unset] [(.int 2)])
    obtain ⟨T16, h16, k16, X16, e16, E16, A16, B16, st16⟩ := newPE (aty := .char) X1 hx hZ (ww10 hw) e1 (g := (mkF m 6 #[.val (.int p0), .val (.int 2), .unset] [(.int 2)])) rfl (hb hby d5_6) rfl (by decide) (cap := 2) (by decide) (by decide) (by decide) (by decide) (ad := "[C") (by decide)
    obtain ⟨b16, g16⟩ : ∃ z, z = h0.size := ⟨_, rfl⟩
    rw [← g16] at A16 B16 st16
    have V16 : Arv Z h16 b16 k16 .char (2 : Int32) [(.int 0), (.int 0)] (.int 0) := (Arv.new A16 (by decide)).pad (pad_rep [] (.int 0) 2)
    have cz16 : CHr Z own_EL s.vm h0 s.vm h16 := CHr.ext E16 C0.1
    have C16 : CHr Z own_EL s.vm h0 s.vm h16 := C0.trans cz16
    have ge_b16 : n0 ≤ b16 := Nat.le_trans (own_old_le O0) (Nat.le_of_eq g16.symm)
    have sz_b16 : h0.size ≤ b16 := Nat.le_trans K0.1 (Nat.le_of_eq g16.symm)
    have O16 := O0.ext E16
    have hk16 := Nat.le_trans hk0 E16.1
    have K16 : Keep h0 h16 [] := K0.ext E16
    refine step st16 ?_
    show G T16 (mkF m 8 #[.val (.int p0), .val (.int 2), .unset] [(.ref b16)])
    refine step (fun t k => XS.astoreN X16.here hx rfl (hb hby d5_8) rfl rfl (l' := #[.val (.int p0), .val (.int 2), .val (.ref b16)]) rfl k) ?_
    show G T16 (mkF m 9 #[.val (.int p0), .val (.int 2), .val (.ref b16)] [])
    refine step (fun t k => XS.iloadN X16.here hx rfl (hb hby d5_9) rfl k) ?_
    show G T16 (mkF m 10 #[.val (.int p0), .val (.int 2), .val (.ref b16)] [(.int 2)])
    refine step (fun t k => XS.ifNo X16.here hx rfl (hb hby d5_10) rfl ((if0 _ _).trans (tlt (by decide : (0 : Int32) < (2 : Int32))).2.2.2) k) ?_
    show G T16 (mkF m 13 #[.val (.int p0), .val (.int 2), .val (.ref b16)] [])
    refine step (fun t k => XS.aloadN X16.here hx rfl (hb hby d5_13) rfl rfl k) ?_
    show G T16 (mkF m 14 #[.val (.int p0), .val (.int 2), .val (.ref b16)] [(.ref b16)])
    refine step (fun t k => XS.iconst X16.here hx rfl (hb hby d5_14) k) ?_
    show G T16 (mkF m 15 #[.val (.int p0), .val (.int 2), .val (.ref b16)] [(.int 0), (.ref b16)])
    refine step (fun t k => XS.iloadN X16.here hx rfl (hb hby d5_15) rfl k) ?_
    show G T16 (mkF m 16 #[.val (.int p0), .val (.int 2), .val (.ref b16)] [(.int p0), (.int 0), (.ref b16)])
    refine step (fun t k => XS.iconst X16.here hx rfl (hb hby d5_16) k) ?_
    show G T16 (mkF m 17 #[.val (.int p0), .val (.int 2), .val (.ref b16)] [(.int 0), (.int p0), (.int 0), (.ref b16)])
    have hK17 := (backOf (R := rr_str) (p := p) (e := e) (below := below) (args := #[(.int p0)]) (len := 3) (W := 2) (rm_ch0 l Z a0 hw [] p0 h16 n0 (own_old_le O16) O16) hZ (ww34 hw) (ww5 hw) (by decide) (by decide))
    obtain ⟨_, _, ⟨T17, L17, k17, n17⟩, -, X17, ⟨Lc17, hQ17, l17, y17, z17⟩, st17⟩ := Jvm.LawKit.callS X16 hx (y := y_1) hown (mvT hZ (ww32 hw)) (mvT hZ (ww33 hw)) (mvT hZ (ww5 hw)) (mvT hZ (ww34 hw)) (by decide) hK17 (g := (mkF m 17 #[.val (.int p0), .val (.int 2), .val (.ref b16)] [(.int 0), (.int p0), (.int 0), (.ref b16)])) rfl (by rw [hml]; rfl) (argsL := [(.int p0), (.int 0)]) (rest := [(.int 0), (.ref b16)]) (lenOf pd_1 rfl) rfl (by show 2 * 0 + _ ≤ _; exact Nat.le_of_eq rfl) (hb hby d5_17) (fun _ _ => ⟨rfl, e16, (by decide : 1 + 0 ≤ _), (by decide : 2 + 0 ≤ _)⟩)
    dsimp only [Pt.U, Pt.locs, Pt.cells, Pt.slots] at X17 l17 y17 z17 st17 hQ17
    subst l17 y17 z17
    obtain ⟨rfl, N17q, e17⟩ := hQ17
    have N17 := Fr.app N1 N17q
    obtain ⟨lc17, X17, N17⟩ := own_gen X17 N17
    refine step (fun t k => st17 t k) ?_
    show G T17 (mkF m 20 #[.val (.int p0), .val (.int 2), .val (.ref b16)] [(.int (f_ch0 p0)), (.int 0), (.ref b16)])
    have r18 : (f_ch0 p0) = (((p0.toUInt32 >>> ((2 : Int32) &&& 31).toUInt32).toInt32) &&& (255 : Int32)) := rfl
    rw [r18]
    show G T17 (mkF m 20 #[.val (.int p0), .val (.int 2), .val (.ref b16)] [(.int (((p0.toUInt32 >>> ((2 : Int32) &&& 31).toUInt32).toInt32) &&& (255 : Int32))), (.int 0), (.ref b16)])
    obtain ⟨T19, h19, X19, e19, W19, V19, st19⟩ := own_stC X17 hx hZ e17 V16 (j := (0 : Int32)) (by decide) (i := 0) rfl (by show 0 < 2; decide) (g := (mkF m 20 #[.val (.int p0), .val (.int 2), .val (.ref b16)] [(.int (((p0.toUInt32 >>> ((2 : Int32) &&& 31).toUInt32).toInt32) &&& (255 : Int32))), (.int 0), (.ref b16)])) rfl rfl (hb hby d5_20)
    replace V19 : Arv Z h19 b16 k16 .char (2 : Int32) [(.int (((p0.toUInt32 >>> ((2 : Int32) &&& 31).toUInt32).toInt32) &&& (255 : Int32))), (.int 0)] (.int 0) := by rw [own_narc (own_and255 ((p0.toUInt32 >>> ((2 : Int32) &&& 31).toUInt32).toInt32))] at V19; exact V19
    have cz19 : CHr Z own_EL s.vm h16 s.vm h19 := CHr.wr W19 (own_safeV hZ.alike V16 (by intro q; cases q)) C16.1
    have C19 : CHr Z own_EL s.vm h0 s.vm h19 := C16.trans cz19
    have N19 := Fr.snoc X19 N17 ge_b16
    obtain ⟨lc19, X19, N19⟩ := own_gen X19 N19
    have O19 := O16.wr W19 ge_b16
    have hk19 := Nat.le_trans hk16 (Nat.le_of_eq W19.size.symm)
    have K19 : Keep h0 h19 [] := K16.wr W19 (Or.inr sz_b16)
    refine step st19 ?_
    show G T19 (mkF m 21 #[.val (.int p0), .val (.int 2), .val (.ref b16)] [])
    refine step (fun t k => XS.iloadN X19.here hx rfl (hb hby d5_21) rfl k) ?_
    show G T19 (mkF m 22 #[.val (.int p0), .val (.int 2), .val (.ref b16)] [(.int 2)])
    refine step (fun t k => XS.iconst X19.here hx rfl (hb hby d5_22) k) ?_
    show G T19 (mkF m 23 #[.val (.int p0), .val (.int 2), .val (.ref b16)] [(.int 1), (.int 2)])
    refine step (fun t k => XS.icmpNo X19.here hx rfl (hb hby d5_23) rfl (tlt (by decide : (1 : Int32) < (2 : Int32))).2.2.2 k) ?_
    show G T19 (mkF m 26 #[.val (.int p0), .val (.int 2), .val (.ref b16)] [])
    refine step (fun t k => XS.aloadN X19.here hx rfl (hb hby d5_26) rfl rfl k) ?_
    show G T19 (mkF m 27 #[.val (.int p0), .val (.int 2), .val (.ref b16)] [(.ref b16)])
    refine step (fun t k => XS.iconst X19.here hx rfl (hb hby d5_27) k) ?_
    show G T19 (mkF m 28 #[.val (.int p0), .val (.int 2), .val (.ref b16)] [(.int 1), (.ref b16)])
    refine step (fun t k => XS.iloadN X19.here hx rfl (hb hby d5_28) rfl k) ?_
    show G T19 (mkF m 29 #[.val (.int p0), .val (.int 2), .val (.ref b16)] [(.int p0), (.int 1), (.ref b16)])
    refine step (fun t k => XS.iconst X19.here hx rfl (hb hby d5_29) k) ?_
    show G T19 (mkF m 30 #[.val (.int p0), .val (.int 2), .val (.ref b16)] [(.int 1), (.int p0), (.int 1), (.ref b16)])
    have hK20 := (backOf (R := rr_str) (p := p) (e := e) (below := below) (args := #[(.int p0)]) (len := 3) (W := 2) (rm_ch1 l Z a0 hw [] p0 h19 n0 (own_old_le O19) O19) hZ (ww34 hw) (ww5 hw) (by decide) (by decide))
    obtain ⟨_, _, ⟨T20, L20, k20, n20⟩, -, X20, ⟨Lc20, hQ20, l20, y20, z20⟩, st20⟩ := Jvm.LawKit.callS X19 hx (y := y_1) hown (mvT hZ (ww32 hw)) (mvT hZ (ww33 hw)) (mvT hZ (ww5 hw)) (mvT hZ (ww34 hw)) (by decide) hK20 (g := (mkF m 30 #[.val (.int p0), .val (.int 2), .val (.ref b16)] [(.int 1), (.int p0), (.int 1), (.ref b16)])) rfl (by rw [hml]; rfl) (argsL := [(.int p0), (.int 1)]) (rest := [(.int 1), (.ref b16)]) (lenOf pd_1 rfl) rfl (by show 2 * 0 + _ ≤ _; exact Nat.le_of_eq rfl) (hb hby d5_30) (fun _ _ => ⟨rfl, e19, (by decide : 1 + 0 ≤ _), (by decide : 2 + 0 ≤ _)⟩)
    dsimp only [Pt.U, Pt.locs, Pt.cells, Pt.slots] at X20 l20 y20 z20 st20 hQ20
    subst l20 y20 z20
    obtain ⟨rfl, N20q, e20⟩ := hQ20
    have N20 := Fr.app N19 N20q
    obtain ⟨lc20, X20, N20⟩ := own_gen X20 N20
    refine step (fun t k => st20 t k) ?_
    show G T20 (mkF m 33 #[.val (.int p0), .val (.int 2), .val (.ref b16)] [(.int (f_ch1 p0)), (.int 1), (.ref b16)])
    have r21 : (f_ch1 p0) = (((p0.toUInt32 >>> ((10 : Int32) &&& 31).toUInt32).toInt32) &&& (255 : Int32)) := rfl
    rw [r21]
    show G T20 (mkF m 33 #[.val (.int p0), .val (.int 2), .val (.ref b16)] [(.int (((p0.toUInt32 >>> ((10 : Int32) &&& 31).toUInt32).toInt32) &&& (255 : Int32))), (.int 1), (.ref b16)])
    obtain ⟨T22, h22, X22, e22, W22, V22, st22⟩ := own_stC X20 hx hZ e20 V19 (j := (1 : Int32)) (by decide) (i := 1) rfl (by show 1 < 2; decide) (g := (mkF m 33 #[.val (.int p0), .val (.int 2), .val (.ref b16)] [(.int (((p0.toUInt32 >>> ((10 : Int32) &&& 31).toUInt32).toInt32) &&& (255 : Int32))), (.int 1), (.ref b16)])) rfl rfl (hb hby d5_33)
    replace V22 : Arv Z h22 b16 k16 .char (2 : Int32) [(.int (((p0.toUInt32 >>> ((2 : Int32) &&& 31).toUInt32).toInt32) &&& (255 : Int32))), (.int (((p0.toUInt32 >>> ((10 : Int32) &&& 31).toUInt32).toInt32) &&& (255 : Int32)))] (.int 0) := by rw [own_narc (own_and255 ((p0.toUInt32 >>> ((10 : Int32) &&& 31).toUInt32).toInt32))] at V22; exact V22
    have cz22 : CHr Z own_EL s.vm h19 s.vm h22 := CHr.wr W22 (own_safeV hZ.alike V19 (by intro q; cases q)) C19.1
    have C22 : CHr Z own_EL s.vm h0 s.vm h22 := C19.trans cz22
    have N22 := Fr.snoc X22 N20 ge_b16
    obtain ⟨lc22, X22, N22⟩ := own_gen X22 N22
    have O22 := O19.wr W22 ge_b16
    have hk22 := Nat.le_trans hk19 (Nat.le_of_eq W22.size.symm)
    have K22 : Keep h0 h22 [] := K19.wr W22 (Or.inr sz_b16)
    refine step st22 ?_
    show G T22 (mkF m 34 #[.val (.int p0), .val (.int 2), .val (.ref b16)] [])
    have f24 := (Exa.wr W22 (Exa.wr W19 B16))
    obtain ⟨T23, h23, X23, e23, E23, A23, D23, -, st23⟩ := newO X22 hx hZ hown (ww11 hw) (ww12 hw) (ww13 hw) e22 (g := (mkF m 34 #[.val (.int p0), .val (.int 2), .val (.ref b16)] [])) rfl (hb hby d5_34) (by decide) (by decide)
    obtain ⟨b23, g23⟩ : ∃ z, z = h22.size := ⟨_, rfl⟩
    rw [← g23] at A23 D23 st23
    have cz23 : CHr Z own_EL s.vm h22 s.vm h23 := CHr.ext E23 C22.1
    have C23 : CHr Z own_EL s.vm h0 s.vm h23 := C22.trans cz23
    have ge_b23 : n0 ≤ b23 := Nat.le_trans (own_old_le O22) (Nat.le_of_eq g23.symm)
    have sz_b23 : h0.size ≤ b23 := Nat.le_trans K22.1 (Nat.le_of_eq g23.symm)
    have lt_b16_b23 : b16 < b23 := Nat.lt_of_lt_of_le f24.lt (Nat.le_of_eq g23.symm)
    have O23 := O22.ext E23
    have hk23 := Nat.le_trans hk22 E23.1
    have K23 : Keep h0 h23 [] := K22.ext E23
    have F23_value : Fld Z h23 b23 cn_2 "value" "[B" .null := D23 (Or.inr (ww26 hw)) (ty := (.array .byte)) (by decide)
    have F23_coder : Fld Z h23 b23 cn_2 "coder" "B" (.int 0) := D23 (Or.inr (ww27 hw)) (ty := .byte) (by decide)
    refine step st23 ?_
    show G T23 (mkF m 37 #[.val (.int p0), .val (.int 2), .val (.ref b16)] [(.ref b23)])
    refine step (fun t k => XS.dup X23.here hx rfl (hb hby d5_37) rfl rfl k) ?_
    show G T23 (mkF m 38 #[.val (.int p0), .val (.int 2), .val (.ref b16)] [(.ref b23), (.ref b23)])
    refine step (fun t k => XS.aloadN X23.here hx rfl (hb hby d5_38) rfl rfl k) ?_
    show G T23 (mkF m 39 #[.val (.int p0), .val (.int 2), .val (.ref b16)] [(.ref b16), (.ref b23), (.ref b23)])
    have f26 := (V22.ext E23)
    have f27 := (Exa.ext E23 f24)
    have hK25 := (StrChars.Road.backV (l := l) (R := rr_str) (p := p) (e := e) (below := below) (args := #[(.int p0)]) (len := 3) (W := 1) hZ (own_hwV hw) (kI := 4) (ww12 hw) (cs := [(((p0.toUInt32 >>> ((2 : Int32) &&& 31).toUInt32).toInt32) &&& (255 : Int32)), (((p0.toUInt32 >>> ((10 : Int32) &&& 31).toUInt32).toInt32) &&& (255 : Int32))]) (bs := [((((p0.toUInt32 >>> ((2 : Int32) &&& 31).toUInt32).toInt32) &&& (255 : Int32)).toInt8.toInt32), ((((p0.toUInt32 >>> ((10 : Int32) &&& 31).toUInt32).toInt32) &&& (255 : Int32)).toInt8.toInt32)]) (n := 2) ge_b23 (own_old_le O23) A23 F23_value F23_coder f26 (Sta.ext O23.2 ST.k0) ST.k3 rfl rfl (by decide) (by decide) (List.forall_mem_cons.mpr ⟨(own_and255 ((p0.toUInt32 >>> ((2 : Int32) &&& 31).toUInt32).toInt32)), (List.forall_mem_cons.mpr ⟨(own_and255 ((p0.toUInt32 >>> ((10 : Int32) &&& 31).toUInt32).toInt32)), (fun _ h => nomatch h)⟩)⟩) rfl (by decide) (by decide))
    obtain ⟨_, _, ⟨T25, L25, k25, n25⟩, -, X25, ⟨Lc25, hQ25, l25, y25, z25⟩, st25⟩ := X23.specialBack hx (y := y_4) rfl hown (mvT hZ (ww14 hw)) (mvT hZ (ww15 hw)) (mvT hZ (ww16 hw)) (by decide) hK25 (g := (mkF m 39 #[.val (.int p0), .val (.int 2), .val (.ref b16)] [(.ref b16), (.ref b23), (.ref b23)])) rfl (by rw [hml]; rfl) (Steps.refl _) (a := b23) (argsL := [(.ref b16)]) (rest := [(.ref b23)]) (lenOf pd_3 rfl) rfl (by show 2 * 0 + _ ≤ _; exact Nat.le_of_eq rfl) (hb hby d5_39) (fun _ _ => ⟨rfl, e23, (by decide : 2 + 1 ≤ _), (by decide : 6 + 2 ≤ _)⟩)
    dsimp only [Pt.U, Pt.locs, Pt.cells, Pt.slots] at X25 l25 y25 z25 st25 hQ25
    subst l25 y25 z25
    obtain ⟨rfl, N25q, K25q, Es25, Cs25, b25, kb25, gt25, gh25, -, Fv25, Vb25⟩ := hQ25
    have N25 := Fr.app N22 N25q
    obtain ⟨lc25, X25, N25⟩ := own_gen X25 N25
    replace Vb25 : Arv Z T25.heap b25 kb25 .byte (2 : Int32) [(.int ((((p0.toUInt32 >>> ((2 : Int32) &&& 31).toUInt32).toInt32) &&& (255 : Int32)).toInt8.toInt32)), (.int ((((p0.toUInt32 >>> ((10 : Int32) &&& 31).toUInt32).toInt32) &&& (255 : Int32)).toInt8.toInt32))] (.int 0) := Vb25
    have lt_b16_b25 : b16 < b25 := Nat.lt_of_lt_of_le f27.lt gh25
    have lt_b23_b25 : b23 < b25 := Nat.lt_of_lt_of_le A23.lt gh25
    have cz25 : CHr Z own_EL s.vm h23 s.vm T25.heap := CHr.keep K25q (allS (own_safeN hZ.alike A23 F23_value) all0) C23.1
    have C25 : CHr Z own_EL s.vm h0 s.vm T25.heap := C23.trans cz25
    have O25 := O23.keep K25q (allS ge_b23 all0)
    have sz_b25 : h0.size ≤ b25 := Nat.le_trans K23.1 gh25
    have K25 : Keep h0 T25.heap [] := K23.trans K25q (allS (Or.inr sz_b23) all0)
    have hk25 := Nat.le_trans hk23 K25q.1
    refine step (fun t k => st25.trans k) ?_
    show G T25 (mkF m 42 #[.val (.int p0), .val (.int 2), .val (.ref b16)] [(.ref b23)])
    exact ret (v := some (.ref b23)) X25 hS hk25 C25 hZ (fun h => by rw [Bd.returns] at h; cases h) (fun fs hr => retA X25 hx Bd.returns rfl rfl (hb hby d5_42) hr) rfl ⟨b23, b25, kb25, (2 : Int32), [(.int ((((p0.toUInt32 >>> ((2 : Int32) &&& 31).toUInt32).toInt32) &&& (255 : Int32)).toInt8.toInt32)), (.int ((((p0.toUInt32 >>> ((10 : Int32) &&& 31).toUInt32).toInt32) &&& (255 : Int32)).toInt8.toInt32))], rfl, N25, K25, sz_b23, Es25, Fv25, Cs25, Vb25, (own_sp2 hk)⟩ (by decide) (by decide)
theorem d6_0 : decode jdk_31_method_11_code 0 = .ok (.aload_n 0, 1) := by decide +kernel
theorem d6_1 : decode jdk_31_method_11_code 1 = .ok (.ifnonnull 12, 3) := by decide +kernel
theorem d6_13 : decode jdk_31_method_11_code 13 = .ok (.aload_n 0, 1) := by decide +kernel
theorem d6_14 : decode jdk_31_method_11_code 14 = .ok (.areturn, 1) := by decide +kernel
abbrev rr_rn : Room := { frames := 0, cells := 0, slots := 0, locals := 0 }
abbrev y_6 : MethodName := ⟨cn_8, "requireNonNull", cn_6⟩
theorem pn_2 : plainName cn_8 = true := by first | (simp [plainName, overriddenIn]; done) | decide +kernel
theorem ef_rn (m : MethodId) (o0 : Addr) (o1 : Addr) : entryFrame m #[(.ref o0), (.ref o1)] 2 = mkF m 0 #[.val (.ref o0), .val (.ref o1)] [] := by first | (simp [entryFrame, mkF, argsToLocals, Value.category]; done) | rfl
def f_rn  (o0 : Addr) (o1 : Addr) : Addr := o0
def Q_rn (Z : State)  (o0 : Addr) (o1 : Addr) (h0 : Heap) (n0 : Nat) (v : Option Value) (h : Heap) (L : List Loc) : Prop := v = some (.ref (f_rn o0 o1)) ∧ Fr n0 L ∧ h = h0
set_option maxRecDepth 65536 in
set_option maxHeartbeats 40000000 in
theorem rm_rn (l : Launch) (Z : State) (a0 : Array Value) (hw : ∀ d ∈ tables_1, d.before a0 Z = true) (ws : List Jvm.Cond)  (o0 : Addr) (o1 : Addr) (h0 : Heap) (n0 : Nat) (Z0 : n0 ≤ h0.size) (O0 : Old Z n0 h0) :
    MetFree l y_6 (head1 (Jvm.Cond.code y_6 jdk_31_method_11_code 2 (some (.object cn_7)) :: ws) rr_rn) (fun a U => a = #[(.ref o0), (.ref o1)] ∧ Z.Warmed39 U.vm ∧ U.heap = h0) (fun _ _ _ _ _ => True) (fun _ U o U' => ∃ v L, o = .returned v ∧ Q_rn Z o0 o1 h0 n0 v U'.heap L ∧ FrameEnd U o U' L rr_rn.cells rr_rn.slots) := by
  refine MetFree.of_bodySF (plainFor_of_name pn_2) hisR ?_
  intro p e s m args below meth c s₁ Bd hml0 hP hK
  obtain ⟨rfl, hZ, hh⟩ := hP
  have hx := Bd.exec
  have hby := Bd.bytes
  have hml : c.maxLocals = 2 := hml0
  have hown : s.vm.findClass cn_8 = some m.cls := findClass_of_methodNamed Bd.named
  have hnm := (name_of_methodNamed Bd.named Bd.method).1
  have X0 : Stand p l e rr_rn s m #[(.ref o0), (.ref o1)] below meth c s₁ [] 0 0 := Stand.of_body Bd
  have e0 : s₁.heap = h0 := by rw [← hh, Bd.state]; rfl
  have N0 := Fr.nil n0
  obtain ⟨G, step, ret, fin⟩ := own_open (p := p) (l := l) (e := e) (R := rr_rn) (s := s) (m := m) (args := #[(.ref o0), (.ref o1)]) (below := below) (meth := meth) (c := c) (rr_rn.cells) (rr_rn.slots) (Q_rn Z o0 o1 h0 n0) Bd.notSynchronized
  refine fin (g := entryFrame m #[(.ref o0), (.ref o1)] 2) ?_
  rw [ef_rn m o0 o1]
  show G s₁ (mkF m 0 #[.val (.ref o0), .val (.ref o1)] [])
  refine step (fun t k => XS.aloadN X0.here hx rfl (hb hby d6_0) rfl rfl k) ?_
  show G s₁ (mkF m 1 #[.val (.ref o0), .val (.ref o1)] [(.ref o0)])
  refine step (fun t k => XS.ifnonnullYes X0.here hx rfl (pc0 := 1) (pc' := 13) rfl (hb hby d6_1) rfl (by decide) (by decide) k) ?_
  show G s₁ (mkF m 13 #[.val (.ref o0), .val (.ref o1)] [])
  refine step (fun t k => XS.aloadN X0.here hx rfl (hb hby d6_13) rfl rfl k) ?_
  show G s₁ (mkF m 14 #[.val (.ref o0), .val (.ref o1)] [(.ref o0)])
  exact ret (v := some (.ref o0)) X0 (fun h => by rw [Bd.returns] at h; cases h) (fun fs hr => retA X0 hx Bd.returns rfl rfl (hb hby d6_14) hr) e0 ⟨rfl, N0, rfl⟩ (by decide) (by decide)
theorem d7_0 : decode prog_1_method_1_code 0 = .ok (.aload_n 0, 1) := by decide +kernel
theorem d7_1 : decode prog_1_method_1_code 1 = .ok (.invokespecial 1, 3) := by decide +kernel
theorem ww49 {Z : State} {a0 : Array Value} (hw : ∀ d ∈ tables_1, d.before a0 Z = true) : Jvm.Cond.before (Jvm.Cond.methodLink cn_0 (1 : Nat) ({ cls := cn_7, name := "<init>", desc := "()V" } : Jvm.MethodName)) a0 Z = true := hw _ (List.mem_of_getElem? (i := 49) rfl)
theorem d7_4 : decode prog_1_method_1_code 4 = .ok (.aload_n 0, 1) := by decide +kernel
theorem d7_5 : decode prog_1_method_1_code 5 = .ok (.aload_n 1, 1) := by decide +kernel
theorem d7_6 : decode prog_1_method_1_code 6 = .ok (.ldc 7, 2) := by decide +kernel
theorem ww50 {Z : State} {a0 : Array Value} (hw : ∀ d ∈ tables_1, d.before a0 Z = true) : Jvm.Cond.before (Jvm.Cond.stringLink cn_0 (7 : Nat) "identifier") a0 Z = true := hw _ (List.mem_of_getElem? (i := 50) rfl)
theorem d7_8 : decode prog_1_method_1_code 8 = .ok (.invokestatic 9, 3) := by decide +kernel
theorem ww51 {Z : State} {a0 : Array Value} (hw : ∀ d ∈ tables_1, d.before a0 Z = true) : Jvm.Cond.before (Jvm.Cond.methodLink cn_0 (9 : Nat) ({ cls := cn_8, name := "requireNonNull", desc := cn_6 } : Jvm.MethodName)) a0 Z = true := hw _ (List.mem_of_getElem? (i := 51) rfl)
theorem ww54 {Z : State} {a0 : Array Value} (hw : ∀ d ∈ tables_1, d.before a0 Z = true) : Jvm.Cond.before (Jvm.Cond.code ({ cls := cn_8, name := "requireNonNull", desc := cn_6 } : Jvm.MethodName) jdk_31_method_11_code (2 : Nat) (Option.some (Jvm.ClassFile.FieldType.object cn_7))) a0 Z = true := hw _ (List.mem_of_getElem? (i := 54) rfl)
theorem ww53 {Z : State} {a0 : Array Value} (hw : ∀ d ∈ tables_1, d.before a0 Z = true) : Jvm.Cond.before (Jvm.Cond.initialized cn_8) a0 Z = true := hw _ (List.mem_of_getElem? (i := 53) rfl)
theorem pd_4 : parseMethodDescriptor cn_6 = some ⟨[(.object cn_7), (.object cn_2)], some (.object cn_7)⟩ := by decide +kernel
theorem ww52 {Z : State} {a0 : Array Value} (hw : ∀ d ∈ tables_1, d.before a0 Z = true) : Jvm.Cond.before (Jvm.Cond.static ({ cls := cn_8, name := "requireNonNull", desc := cn_6 } : Jvm.MethodName)) a0 Z = true := hw _ (List.mem_of_getElem? (i := 52) rfl)
theorem d7_11 : decode prog_1_method_1_code 11 = .ok (.checkcast 15, 3) := by decide +kernel
theorem ww55 {Z : State} {a0 : Array Value} (hw : ∀ d ∈ tables_1, d.before a0 Z = true) : Jvm.Cond.before (Jvm.Cond.classLink cn_0 (15 : Nat) cn_2) a0 Z = true := hw _ (List.mem_of_getElem? (i := 55) rfl)
theorem d7_14 : decode prog_1_method_1_code 14 = .ok (.putfield 17, 3) := by decide +kernel
theorem ww56 {Z : State} {a0 : Array Value} (hw : ∀ d ∈ tables_1, d.before a0 Z = true) : Jvm.Cond.before (Jvm.Cond.fieldLink cn_0 (17 : Nat) cn_0 "identifier" cn_3) a0 Z = true := hw _ (List.mem_of_getElem? (i := 56) rfl)
theorem ww57 {Z : State} {a0 : Array Value} (hw : ∀ d ∈ tables_1, d.before a0 Z = true) : Jvm.Cond.before (Jvm.Cond.laysFinal cn_0 cn_0 "identifier" cn_3) a0 Z = true := hw _ (List.mem_of_getElem? (i := 57) rfl)
theorem ww1 {Z : State} {a0 : Array Value} (hw : ∀ d ∈ tables_1, d.before a0 Z = true) : Jvm.Cond.before (Jvm.Cond.instantiable cn_0 (3 : Nat)) a0 Z = true := hw _ (List.mem_of_getElem? (i := 1) rfl)
theorem d7_17 : decode prog_1_method_1_code 17 = .ok (.aload_n 0, 1) := by decide +kernel
theorem d7_18 : decode prog_1_method_1_code 18 = .ok (.aload_n 2, 1) := by decide +kernel
theorem d7_19 : decode prog_1_method_1_code 19 = .ok (.ldc 22, 2) := by decide +kernel
theorem ww58 {Z : State} {a0 : Array Value} (hw : ∀ d ∈ tables_1, d.before a0 Z = true) : Jvm.Cond.before (Jvm.Cond.stringLink cn_0 (22 : Nat) "name") a0 Z = true := hw _ (List.mem_of_getElem? (i := 58) rfl)
theorem d7_21 : decode prog_1_method_1_code 21 = .ok (.invokestatic 9, 3) := by decide +kernel
theorem d7_24 : decode prog_1_method_1_code 24 = .ok (.checkcast 15, 3) := by decide +kernel
theorem d7_27 : decode prog_1_method_1_code 27 = .ok (.putfield 24, 3) := by decide +kernel
theorem ww59 {Z : State} {a0 : Array Value} (hw : ∀ d ∈ tables_1, d.before a0 Z = true) : Jvm.Cond.before (Jvm.Cond.fieldLink cn_0 (24 : Nat) cn_0 "name" cn_3) a0 Z = true := hw _ (List.mem_of_getElem? (i := 59) rfl)
theorem ww60 {Z : State} {a0 : Array Value} (hw : ∀ d ∈ tables_1, d.before a0 Z = true) : Jvm.Cond.before (Jvm.Cond.laysFinal cn_0 cn_0 "name" cn_3) a0 Z = true := hw _ (List.mem_of_getElem? (i := 60) rfl)
theorem d7_30 : decode prog_1_method_1_code 30 = .ok (.aload_n 0, 1) := by decide +kernel
theorem d7_31 : decode prog_1_method_1_code 31 = .ok (.aload_n 3, 1) := by decide +kernel
theorem d7_32 : decode prog_1_method_1_code 32 = .ok (.ldc 26, 2) := by decide +kernel
theorem ww61 {Z : State} {a0 : Array Value} (hw : ∀ d ∈ tables_1, d.before a0 Z = true) : Jvm.Cond.before (Jvm.Cond.stringLink cn_0 (26 : Nat) "description") a0 Z = true := hw _ (List.mem_of_getElem? (i := 61) rfl)
theorem d7_34 : decode prog_1_method_1_code 34 = .ok (.invokestatic 9, 3) := by decide +kernel
theorem d7_37 : decode prog_1_method_1_code 37 = .ok (.checkcast 15, 3) := by decide +kernel
theorem d7_40 : decode prog_1_method_1_code 40 = .ok (.putfield 28, 3) := by decide +kernel
theorem ww62 {Z : State} {a0 : Array Value} (hw : ∀ d ∈ tables_1, d.before a0 Z = true) : Jvm.Cond.before (Jvm.Cond.fieldLink cn_0 (28 : Nat) cn_0 "description" cn_3) a0 Z = true := hw _ (List.mem_of_getElem? (i := 62) rfl)
theorem ww63 {Z : State} {a0 : Array Value} (hw : ∀ d ∈ tables_1, d.before a0 Z = true) : Jvm.Cond.before (Jvm.Cond.laysFinal cn_0 cn_0 "description" cn_3) a0 Z = true := hw _ (List.mem_of_getElem? (i := 63) rfl)
theorem d7_43 : decode prog_1_method_1_code 43 = .ok (.return_, 1) := by decide +kernel
abbrev rr_ai : Room := { frames := 1, cells := 6, slots := 112, locals := 14 }
abbrev y_7 : MethodName := ⟨cn_0, "<init>", cn_5⟩
theorem pn_3 : plainName cn_0 = true := by first | (simp [plainName, overriddenIn]; done) | decide +kernel
theorem ef_ai (m : MethodId) (o0 : Addr) (o1 : Addr) (o2 : Addr) (o3 : Addr) : entryFrame m #[(.ref o0), (.ref o1), (.ref o2), (.ref o3)] 4 = mkF m 0 #[.val (.ref o0), .val (.ref o1), .val (.ref o2), .val (.ref o3)] [] := by first | (simp [entryFrame, mkF, argsToLocals, Value.category]; done) | rfl
def Q_ai (Z : State) (w_COMPACT_STRINGS : Int32) (w_SIOOBE_FORMATTER : Value) (o0 : Addr) (o1 : Addr) (o2 : Addr) (o3 : Addr) (h0 : Heap) (n0 : Nat) (v : Option Value) (h : Heap) (L : List Loc) : Prop := v = none ∧ Fr n0 L ∧ Keep h0 h [o0] ∧ Exa Z h o0 cn_0 ∧ Fld Z h o0 cn_0 "identifier" cn_3 (.ref o1) ∧ Fld Z h o0 cn_0 "name" cn_3 (.ref o2) ∧ Fld Z h o0 cn_0 "description" cn_3 (.ref o3)
set_option maxRecDepth 65536 in
set_option maxHeartbeats 40000000 in
theorem rm_ai (l : Launch) (Z : State) (a0 : Array Value) (hw : ∀ d ∈ tables_1, d.before a0 Z = true) (ws : List Jvm.Cond) (w_COMPACT_STRINGS : Int32) (w_SIOOBE_FORMATTER : Value) (o0 : Addr) (o1 : Addr) (o2 : Addr) (o3 : Addr) (h0 : Heap) (n0 : Nat) (Z0 : n0 ≤ h0.size) (ST : own_St Z w_COMPACT_STRINGS w_SIOOBE_FORMATTER) (O0 : Old Z n0 h0) (Ex : Exa Z h0 o0 cn_0) (geo : n0 ≤ o0) (Fa0 : Fld Z h0 o0 cn_0 "identifier" cn_3 .null) (Fa1 : Fld Z h0 o0 cn_0 "name" cn_3 .null) (Fa2 : Fld Z h0 o0 cn_0 "description" cn_3 .null) (Ea0 : Exa Z h0 o1 cn_2) (Ea1 : Exa Z h0 o2 cn_2) (Ea2 : Exa Z h0 o3 cn_2) :
    MetFree l y_7 (head1 (Jvm.Cond.code y_7 prog_1_method_1_code 4 none :: ws) rr_ai) (fun a U => a = #[(.ref o0), (.ref o1), (.ref o2), (.ref o3)] ∧ Z.Warmed39 U.vm ∧ U.heap = h0 ∧ CHv Z own_EL U.vm h0) (fun _ _ _ _ _ => True) (fun _ U o U' => ∃ v L, o = .returned v ∧ Q_ai Z w_COMPACT_STRINGS w_SIOOBE_FORMATTER o0 o1 o2 o3 h0 n0 v U'.heap L ∧ CHr Z own_EL U.vm U.heap U'.vm U'.heap ∧ ReturnedEndW U o U' L rr_ai.cells rr_ai.slots) := by
  refine MetFree.of_bodySF (plainFor_of_name pn_3) hisR ?_
  intro p e s m args below meth c s₁ Bd hml0 hP hK
  obtain ⟨rfl, hZ, hh, hC⟩ := hP
  have hx := Bd.exec
  have hby := Bd.bytes
  have hml : c.maxLocals = 4 := hml0
  have hown : s.vm.findClass cn_0 = some m.cls := findClass_of_methodNamed Bd.named
  have hnm := (name_of_methodNamed Bd.named Bd.method).1
  have X0 : Stand p l e rr_ai (s.setVm s.vm) m #[(.ref o0), (.ref o1), (.ref o2), (.ref o3)] below meth c s₁ [] 0 0 := Stand.of_body Bd
  have e0 : s₁.heap = h0 := by rw [← hh, Bd.state]; rfl
  have N0 := Fr.nil n0
  replace hZ : Z.Warmed39 (s.setVm s.vm).vm := hZ
  replace hown : (s.setVm s.vm).vm.findClass cn_0 = some m.cls := hown
  have hS : s.Since s.vm h0.size := (State.WarmedH.refl s).since _
  have hk0 : h0.size ≤ h0.size := Nat.le_refl _
  have C0 : CHr Z own_EL s.vm h0 s.vm h0 := CHr.refl hC
  have K0 : Keep h0 h0 [o0] := Keep.refl _ _
  obtain ⟨G, step, ret, fin⟩ := own_openH (p := p) (l := l) (e := e) (R := rr_ai) (s := s) (m := m) (args := #[(.ref o0), (.ref o1), (.ref o2), (.ref o3)]) (below := below) (meth := meth) (c := c) (rr_ai.cells) (rr_ai.slots) (Q_ai Z w_COMPACT_STRINGS w_SIOOBE_FORMATTER o0 o1 o2 o3 h0 n0) (own_EW hw) hh Bd.notSynchronized
  refine fin (g := entryFrame m #[(.ref o0), (.ref o1), (.ref o2), (.ref o3)] 4) ?_
  rw [ef_ai m o0 o1 o2 o3]
  show G s₁ (mkF m 0 #[.val (.ref o0), .val (.ref o1), .val (.ref o2), .val (.ref o3)] [])
  refine step (fun t k => XS.aloadN X0.here hx rfl (hb hby d7_0) rfl rfl k) ?_
  show G s₁ (mkF m 1 #[.val (.ref o0), .val (.ref o1), .val (.ref o2), .val (.ref o3)] [(.ref o0)])
  obtain ⟨T1, X1, e1, st1⟩ := initO X0 hx hZ hown (ww49 hw) (ww22 hw) (ww23 hw) e0 (g := (mkF m 1 #[.val (.ref o0), .val (.ref o1), .val (.ref o2), .val (.ref o3)] [(.ref o0)])) rfl (by rw [hml]; rfl) rfl (hb hby d7_1) (by decide) (W := 0) (by show 2 * 0 + _ ≤ _; exact Nat.le_of_eq rfl) (by decide)
  refine step st1 ?_
  show G T1 (mkF m 4 #[.val (.ref o0), .val (.ref o1), .val (.ref o2), .val (.ref o3)] [])
  refine step (fun t k => XS.aloadN X1.here hx rfl (hb hby d7_4) rfl rfl k) ?_
  show G T1 (mkF m 5 #[.val (.ref o0), .val (.ref o1), .val (.ref o2), .val (.ref o3)] [(.ref o0)])
  refine step (fun t k => XS.aloadN X1.here hx rfl (hb hby d7_5) rfl rfl k) ?_
  show G T1 (mkF m 6 #[.val (.ref o0), .val (.ref o1), .val (.ref o2), .val (.ref o3)] [(.ref o1), (.ref o0)])
  obtain ⟨b2, T2, h2, k2, X2, e2, E2, hS, hk2, hZ, hown, hC2, -, st2⟩ := ldcOH (s := s) X1 hx hZ hown (ww50 hw) (own_wS hw) e1 hS hk0 (own_EW hw) C0.1 (g := (mkF m 6 #[.val (.ref o0), .val (.ref o1), .val (.ref o2), .val (.ref o3)] [(.ref o1), (.ref o0)])) rfl (hb hby d7_6) (n := 40) (by decide +kernel) (by decide) (by decide) (by decide)
  have cz2 : CHr Z own_EL s.vm h0 T2.vm h2 := hC2
  have C2 : CHr Z own_EL s.vm h0 T2.vm h2 := C0.trans cz2
  have O2 := O0.ext E2
  have K2 : Keep h0 h2 [o0] := K0.ext E2
  refine step st2 ?_
  show G T2 (mkF m 8 #[.val (.ref o0), .val (.ref o1), .val (.ref o2), .val (.ref o3)] [(.ref b2), (.ref o1), (.ref o0)])
  have hK3 := (backOf (R := rr_ai) (p := p) (e := e) (below := below) (args := #[(.ref o0), (.ref o1), (.ref o2), (.ref o3)]) (len := 3) (W := 1) (rm_rn l Z a0 hw [] o1 b2 h2 n0 (own_old_le O2) O2) hZ (ww54 hw) (ww53 hw) (by decide) (by decide))
  obtain ⟨_, _, ⟨T3, L3, k3, n3⟩, -, X3, ⟨Lc3, hQ3, l3, y3, z3⟩, st3⟩ := Jvm.LawKit.callS X2 hx (y := y_6) hown (mvT hZ (ww51 hw)) (mvT hZ (ww52 hw)) (mvT hZ (ww53 hw)) (mvT hZ (ww54 hw)) (by decide) hK3 (g := (mkF m 8 #[.val (.ref o0), .val (.ref o1), .val (.ref o2), .val (.ref o3)] [(.ref b2), (.ref o1), (.ref o0)])) rfl (by rw [hml]; rfl) (argsL := [(.ref o1), (.ref b2)]) (rest := [(.ref o0)]) (lenOf pd_4 rfl) rfl (by show 2 * 0 + _ ≤ _; exact Nat.le_of_eq rfl) (hb hby d7_8) (fun _ _ => ⟨rfl, e2, (by decide : 2 + 0 ≤ _), (by decide : 44 + 0 ≤ _)⟩)
  dsimp only [Pt.U, Pt.locs, Pt.cells, Pt.slots] at X3 l3 y3 z3 st3 hQ3
  subst l3 y3 z3
  obtain ⟨rfl, N3q, e3⟩ := hQ3
  have N3 := Fr.app N0 N3q
  obtain ⟨lc3, X3, N3⟩ := own_gen X3 N3
  refine step (fun t k => st3 t k) ?_
  show G T3 (mkF m 11 #[.val (.ref o0), .val (.ref o1), .val (.ref o2), .val (.ref o3)] [(.ref (f_rn o1 b2)), (.ref o0)])
  have r4 : (f_rn o1 b2) = o1 := rfl
  rw [r4]
  show G T3 (mkF m 11 #[.val (.ref o0), .val (.ref o1), .val (.ref o2), .val (.ref o3)] [(.ref o1), (.ref o0)])
  have f6 := (Exa.ext E2 Ea0)
  obtain ⟨T5, X5, e5, st5⟩ := castY X3 hx hZ hown (ww55 hw) e3 (Ins.self f6) (g := (mkF m 11 #[.val (.ref o0), .val (.ref o1), .val (.ref o2), .val (.ref o3)] [(.ref o1), (.ref o0)])) rfl rfl (hb hby d7_11)
  refine step st5 ?_
  show G T5 (mkF m 14 #[.val (.ref o0), .val (.ref o1), .val (.ref o2), .val (.ref o3)] [(.ref o1), (.ref o0)])
  have f8 := (Fld.ext E2 Fa0)
  have f9 := (Exa.ext E2 Ex)
  obtain ⟨T7, h7, X7, e7, W7, st7⟩ := putF X5 hx hZ hown (host := "") (Or.inl (ww56 hw)) Via.refl e5 f8 f9 (Or.inr ⟨(ww57 hw), rfl, hnm⟩) (ww1 hw) (ty := (.object cn_2)) (by decide) rfl rfl (g := (mkF m 14 #[.val (.ref o0), .val (.ref o1), .val (.ref o2), .val (.ref o3)] [(.ref o1), (.ref o0)])) rfl rfl (hb hby d7_14)
  have F7 : Fld Z h7 o0 cn_0 "identifier" cn_3 (.ref o1) := Fld.same W7 f8
  have cz7 : CHr Z own_EL T2.vm h2 T2.vm h7 := CHr.wr W7 (Safe.exa hZ.alike f9 (by decide) (by decide)) C2.1
  have C7 : CHr Z own_EL s.vm h0 T2.vm h7 := C2.trans cz7
  have N7 := Fr.snoc X7 N3 geo
  obtain ⟨lc7, X7, N7⟩ := own_gen X7 N7
  have O7 := O2.wr W7 geo
  have hk7 := Nat.le_trans hk2 (Nat.le_of_eq W7.size.symm)
  have K7 : Keep h0 h7 [o0] := K2.wr W7 (Or.inl (List.mem_of_getElem? (i := 0) rfl))
  refine step st7 ?_
  show G T7 (mkF m 17 #[.val (.ref o0), .val (.ref o1), .val (.ref o2), .val (.ref o3)] [])
  refine step (fun t k => XS.aloadN X7.here hx rfl (hb hby d7_17) rfl rfl k) ?_
  show G T7 (mkF m 18 #[.val (.ref o0), .val (.ref o1), .val (.ref o2), .val (.ref o3)] [(.ref o0)])
  refine step (fun t k => XS.aloadN X7.here hx rfl (hb hby d7_18) rfl rfl k) ?_
  show G T7 (mkF m 19 #[.val (.ref o0), .val (.ref o1), .val (.ref o2), .val (.ref o3)] [(.ref o2), (.ref o0)])
  have f11 := (Exa.wr W7 f9)
  have f12 := (Exa.wr W7 f6)
  have f13 := (Exa.wr W7 (Exa.ext E2 Ea1))
  have f14 := (Exa.wr W7 (Exa.ext E2 Ea2))
  obtain ⟨b10, T10, h10, k10, X10, e10, E10, hS, hk10, hZ, hown, hC10, -, st10⟩ := ldcOH (s := s) X7 hx hZ hown (ww58 hw) (own_wS hw) e7 hS hk7 (own_EW hw) C7.1 (g := (mkF m 19 #[.val (.ref o0), .val (.ref o1), .val (.ref o2), .val (.ref o3)] [(.ref o2), (.ref o0)])) rfl (hb hby d7_19) (n := 16) (by decide +kernel) (by decide) (by decide) (by decide)
  have cz10 : CHr Z own_EL T2.vm h7 T10.vm h10 := hC10
  have C10 : CHr Z own_EL s.vm h0 T10.vm h10 := C7.trans cz10
  have O10 := O7.ext E10
  have K10 : Keep h0 h10 [o0] := K7.ext E10
  refine step st10 ?_
  show G T10 (mkF m 21 #[.val (.ref o0), .val (.ref o1), .val (.ref o2), .val (.ref o3)] [(.ref b10), (.ref o2), (.ref o0)])
  have hK15 := (backOf (R := rr_ai) (p := p) (e := e) (below := below) (args := #[(.ref o0), (.ref o1), (.ref o2), (.ref o3)]) (len := 3) (W := 1) (rm_rn l Z a0 hw [] o2 b10 h10 n0 (own_old_le O10) O10) hZ (ww54 hw) (ww53 hw) (by decide) (by decide))
  obtain ⟨_, _, ⟨T15, L15, k15, n15⟩, -, X15, ⟨Lc15, hQ15, l15, y15, z15⟩, st15⟩ := Jvm.LawKit.callS X10 hx (y := y_6) hown (mvT hZ (ww51 hw)) (mvT hZ (ww52 hw)) (mvT hZ (ww53 hw)) (mvT hZ (ww54 hw)) (by decide) hK15 (g := (mkF m 21 #[.val (.ref o0), .val (.ref o1), .val (.ref o2), .val (.ref o3)] [(.ref b10), (.ref o2), (.ref o0)])) rfl (by rw [hml]; rfl) (argsL := [(.ref o2), (.ref b10)]) (rest := [(.ref o0)]) (lenOf pd_4 rfl) rfl (by show 2 * 0 + _ ≤ _; exact Nat.le_of_eq rfl) (hb hby d7_21) (fun _ _ => ⟨rfl, e10, (by decide : 4 + 0 ≤ _), (by decide : 64 + 0 ≤ _)⟩)
  dsimp only [Pt.U, Pt.locs, Pt.cells, Pt.slots] at X15 l15 y15 z15 st15 hQ15
  subst l15 y15 z15
  obtain ⟨rfl, N15q, e15⟩ := hQ15
  have N15 := Fr.app N7 N15q
  obtain ⟨lc15, X15, N15⟩ := own_gen X15 N15
  refine step (fun t k => st15 t k) ?_
  show G T15 (mkF m 24 #[.val (.ref o0), .val (.ref o1), .val (.ref o2), .val (.ref o3)] [(.ref (f_rn o2 b10)), (.ref o0)])
  have r16 : (f_rn o2 b10) = o2 := rfl
  rw [r16]
  show G T15 (mkF m 24 #[.val (.ref o0), .val (.ref o1), .val (.ref o2), .val (.ref o3)] [(.ref o2), (.ref o0)])
  have f18 := (Exa.ext E10 f13)
  obtain ⟨T17, X17, e17, st17⟩ := castY X15 hx hZ hown (ww55 hw) e15 (Ins.self f18) (g := (mkF m 24 #[.val (.ref o0), .val (.ref o1), .val (.ref o2), .val (.ref o3)] [(.ref o2), (.ref o0)])) rfl rfl (hb hby d7_24)
  refine step st17 ?_
  show G T17 (mkF m 27 #[.val (.ref o0), .val (.ref o1), .val (.ref o2), .val (.ref o3)] [(.ref o2), (.ref o0)])
  have f20 := (Fld.ext E10 (Fld.other W7 (Fld.ext E2 Fa1) (Or.inr (slot_ne (Or.inr (ww60 hw)) (Or.inr (ww57 hw)) (by decide) (t := (.object cn_2)) (t' := (.object cn_2)) (by decide) (by decide)))))
  have f21 := (Exa.ext E10 f11)
  obtain ⟨T19, h19, X19, e19, W19, st19⟩ := putF X17 hx hZ hown (host := "") (Or.inl (ww59 hw)) Via.refl e17 f20 f21 (Or.inr ⟨(ww60 hw), rfl, hnm⟩) (ww1 hw) (ty := (.object cn_2)) (by decide) rfl rfl (g := (mkF m 27 #[.val (.ref o0), .val (.ref o1), .val (.ref o2), .val (.ref o3)] [(.ref o2), (.ref o0)])) rfl rfl (hb hby d7_27)
  have F19 : Fld Z h19 o0 cn_0 "name" cn_3 (.ref o2) := Fld.same W19 f20
  have cz19 : CHr Z own_EL T10.vm h10 T10.vm h19 := CHr.wr W19 (Safe.exa hZ.alike f21 (by decide) (by decide)) C10.1
  have C19 : CHr Z own_EL s.vm h0 T10.vm h19 := C10.trans cz19
  have N19 := Fr.snoc X19 N15 geo
  obtain ⟨lc19, X19, N19⟩ := own_gen X19 N19
  have O19 := O10.wr W19 geo
  have hk19 := Nat.le_trans hk10 (Nat.le_of_eq W19.size.symm)
  have K19 : Keep h0 h19 [o0] := K10.wr W19 (Or.inl (List.mem_of_getElem? (i := 0) rfl))
  refine step st19 ?_
  show G T19 (mkF m 30 #[.val (.ref o0), .val (.ref o1), .val (.ref o2), .val (.ref o3)] [])
  refine step (fun t k => XS.aloadN X19.here hx rfl (hb hby d7_30) rfl rfl k) ?_
  show G T19 (mkF m 31 #[.val (.ref o0), .val (.ref o1), .val (.ref o2), .val (.ref o3)] [(.ref o0)])
  refine step (fun t k => XS.aloadN X19.here hx rfl (hb hby d7_31) rfl rfl k) ?_
  show G T19 (mkF m 32 #[.val (.ref o0), .val (.ref o1), .val (.ref o2), .val (.ref o3)] [(.ref o3), (.ref o0)])
  have f23 := (Exa.wr W19 f21)
  have f24 := (Exa.wr W19 (Exa.ext E10 f12))
  have f25 := (Exa.wr W19 f18)
  have f26 := (Exa.wr W19 (Exa.ext E10 f14))
  obtain ⟨b22, T22, h22, k22, X22, e22, E22, hS, hk22, hZ, hown, hC22, -, st22⟩ := ldcOH (s := s) X19 hx hZ hown (ww61 hw) (own_wS hw) e19 hS hk19 (own_EW hw) C19.1 (g := (mkF m 32 #[.val (.ref o0), .val (.ref o1), .val (.ref o2), .val (.ref o3)] [(.ref o3), (.ref o0)])) rfl (hb hby d7_32) (n := 44) (by decide +kernel) (by decide) (by decide) (by decide)
  have cz22 : CHr Z own_EL T10.vm h19 T22.vm h22 := hC22
  have C22 : CHr Z own_EL s.vm h0 T22.vm h22 := C19.trans cz22
  have O22 := O19.ext E22
  have K22 : Keep h0 h22 [o0] := K19.ext E22
  refine step st22 ?_
  show G T22 (mkF m 34 #[.val (.ref o0), .val (.ref o1), .val (.ref o2), .val (.ref o3)] [(.ref b22), (.ref o3), (.ref o0)])
  have hK27 := (backOf (R := rr_ai) (p := p) (e := e) (below := below) (args := #[(.ref o0), (.ref o1), (.ref o2), (.ref o3)]) (len := 3) (W := 1) (rm_rn l Z a0 hw [] o3 b22 h22 n0 (own_old_le O22) O22) hZ (ww54 hw) (ww53 hw) (by decide) (by decide))
  obtain ⟨_, _, ⟨T27, L27, k27, n27⟩, -, X27, ⟨Lc27, hQ27, l27, y27, z27⟩, st27⟩ := Jvm.LawKit.callS X22 hx (y := y_6) hown (mvT hZ (ww51 hw)) (mvT hZ (ww52 hw)) (mvT hZ (ww53 hw)) (mvT hZ (ww54 hw)) (by decide) hK27 (g := (mkF m 34 #[.val (.ref o0), .val (.ref o1), .val (.ref o2), .val (.ref o3)] [(.ref b22), (.ref o3), (.ref o0)])) rfl (by rw [hml]; rfl) (argsL := [(.ref o3), (.ref b22)]) (rest := [(.ref o0)]) (lenOf pd_4 rfl) rfl (by show 2 * 0 + _ ≤ _; exact Nat.le_of_eq rfl) (hb hby d7_34) (fun _ _ => ⟨rfl, e22, (by decide : 6 + 0 ≤ _), (by decide : 112 + 0 ≤ _)⟩)
  dsimp only [Pt.U, Pt.locs, Pt.cells, Pt.slots] at X27 l27 y27 z27 st27 hQ27
  subst l27 y27 z27
  obtain ⟨rfl, N27q, e27⟩ := hQ27
  have N27 := Fr.app N19 N27q
  obtain ⟨lc27, X27, N27⟩ := own_gen X27 N27
  refine step (fun t k => st27 t k) ?_
  show G T27 (mkF m 37 #[.val (.ref o0), .val (.ref o1), .val (.ref o2), .val (.ref o3)] [(.ref (f_rn o3 b22)), (.ref o0)])
  have r28 : (f_rn o3 b22) = o3 := rfl
  rw [r28]
  show G T27 (mkF m 37 #[.val (.ref o0), .val (.ref o1), .val (.ref o2), .val (.ref o3)] [(.ref o3), (.ref o0)])
  have f30 := (Exa.ext E22 f26)
  obtain ⟨T29, X29, e29, st29⟩ := castY X27 hx hZ hown (ww55 hw) e27 (Ins.self f30) (g := (mkF m 37 #[.val (.ref o0), .val (.ref o1), .val (.ref o2), .val (.ref o3)] [(.ref o3), (.ref o0)])) rfl rfl (hb hby d7_37)
  refine step st29 ?_
  show G T29 (mkF m 40 #[.val (.ref o0), .val (.ref o1), .val (.ref o2), .val (.ref o3)] [(.ref o3), (.ref o0)])
  have f32 := (Fld.ext E22 (Fld.other W19 (Fld.ext E10 (Fld.other W7 (Fld.ext E2 Fa2) (Or.inr (slot_ne (Or.inr (ww63 hw)) (Or.inr (ww57 hw)) (by decide) (t := (.object cn_2)) (t' := (.object cn_2)) (by decide) (by decide))))) (Or.inr (slot_ne (Or.inr (ww63 hw)) (Or.inr (ww60 hw)) (by decide) (t := (.object cn_2)) (t' := (.object cn_2)) (by decide) (by decide)))))
  have f33 := (Exa.ext E22 f23)
  obtain ⟨T31, h31, X31, e31, W31, st31⟩ := putF X29 hx hZ hown (host := "") (Or.inl (ww62 hw)) Via.refl e29 f32 f33 (Or.inr ⟨(ww63 hw), rfl, hnm⟩) (ww1 hw) (ty := (.object cn_2)) (by decide) rfl rfl (g := (mkF m 40 #[.val (.ref o0), .val (.ref o1), .val (.ref o2), .val (.ref o3)] [(.ref o3), (.ref o0)])) rfl rfl (hb hby d7_40)
  have F31 : Fld Z h31 o0 cn_0 "description" cn_3 (.ref o3) := Fld.same W31 f32
  have cz31 : CHr Z own_EL T22.vm h22 T22.vm h31 := CHr.wr W31 (Safe.exa hZ.alike f33 (by decide) (by decide)) C22.1
  have C31 : CHr Z own_EL s.vm h0 T22.vm h31 := C22.trans cz31
  have N31 := Fr.snoc X31 N27 geo
  obtain ⟨lc31, X31, N31⟩ := own_gen X31 N31
  have O31 := O22.wr W31 geo
  have hk31 := Nat.le_trans hk22 (Nat.le_of_eq W31.size.symm)
  have K31 : Keep h0 h31 [o0] := K22.wr W31 (Or.inl (List.mem_of_getElem? (i := 0) rfl))
  refine step st31 ?_
  show G T31 (mkF m 43 #[.val (.ref o0), .val (.ref o1), .val (.ref o2), .val (.ref o3)] [])
  have f34 := (Exa.wr W31 f33)
  have f35 := (Fld.other W31 (Fld.ext E22 (Fld.other W19 (Fld.ext E10 F7) (Or.inr (slot_ne (Or.inr (ww57 hw)) (Or.inr (ww60 hw)) (by decide) (t := (.object cn_2)) (t' := (.object cn_2)) (by decide) (by decide))))) (Or.inr (slot_ne (Or.inr (ww57 hw)) (Or.inr (ww63 hw)) (by decide) (t := (.object cn_2)) (t' := (.object cn_2)) (by decide) (by decide))))
  have f36 := (Fld.other W31 (Fld.ext E22 F19) (Or.inr (slot_ne (Or.inr (ww60 hw)) (Or.inr (ww63 hw)) (by decide) (t := (.object cn_2)) (t' := (.object cn_2)) (by decide) (by decide))))
  exact ret (v := none) X31 hS hk31 C31 hZ (fun _ => rfl) (fun fs hr => X31.returnOut hx Bd.returns (hb hby d7_43) hr) e31 ⟨rfl, N31, K31, f34, f35, f36, F31⟩ (by decide) (by decide)
theorem d8_0 : decode prog_1_method_5_code 0 = .ok (.aload_n 1, 1) := by decide +kernel
theorem d8_1 : decode prog_1_method_5_code 1 = .ok (.instanceof 18, 3) := by decide +kernel
theorem ww72 {Z : State} {a0 : Array Value} (hw : ∀ d ∈ tables_1, d.before a0 Z = true) : Jvm.Cond.before (Jvm.Cond.classLink cn_0 (18 : Nat) cn_0) a0 Z = true := hw _ (List.mem_of_getElem? (i := 72) rfl)
theorem d8_4 : decode prog_1_method_5_code 4 = .ok (.ifCond .eq 54, 3) := by decide +kernel
theorem d8_58 : decode prog_1_method_5_code 58 = .ok (.iconst 0, 1) := by decide +kernel
theorem d8_59 : decode prog_1_method_5_code 59 = .ok (.ireturn, 1) := by decide +kernel
abbrev rr_en : Room := { frames := 0, cells := 0, slots := 0, locals := 0 }
abbrev y_8 : MethodName := ⟨cn_0, "equals", cn_4⟩
theorem ef_en (m : MethodId) (o0 : Addr) : entryFrame m #[(.ref o0), .null] 3 = mkF m 0 #[.val (.ref o0), .val .null, .unset] [] := by first | (simp [entryFrame, mkF, argsToLocals, Value.category]; done) | rfl
def f_en  (o0 : Addr) : Int32 := (0 : Int32)
def Q_en (Z : State)  (o0 : Addr) (h0 : Heap) (n0 : Nat) (v : Option Value) (h : Heap) (L : List Loc) : Prop := v = some (.int (f_en o0)) ∧ Fr n0 L ∧ h = h0
set_option maxRecDepth 65536 in
set_option maxHeartbeats 40000000 in
theorem rm_en (l : Launch) (Z : State) (a0 : Array Value) (hw : ∀ d ∈ tables_1, d.before a0 Z = true) (ws : List Jvm.Cond)  (o0 : Addr) (h0 : Heap) (n0 : Nat) (Z0 : n0 ≤ h0.size) (O0 : Old Z n0 h0) :
    MetFree l y_8 (head1 (Jvm.Cond.code y_8 prog_1_method_5_code 3 (some .boolean) :: ws) rr_en) (fun a U => a = #[(.ref o0), .null] ∧ Z.Warmed39 U.vm ∧ U.heap = h0) (fun _ _ _ _ _ => True) (fun _ U o U' => ∃ v L, o = .returned v ∧ Q_en Z o0 h0 n0 v U'.heap L ∧ FrameEnd U o U' L rr_en.cells rr_en.slots) := by
  refine MetFree.of_bodySF (plainFor_of_name pn_3) hisR ?_
  intro p e s m args below meth c s₁ Bd hml0 hP hK
  obtain ⟨rfl, hZ, hh⟩ := hP
  have hx := Bd.exec
  have hby := Bd.bytes
  have hml : c.maxLocals = 3 := hml0
  have hown : s.vm.findClass cn_0 = some m.cls := findClass_of_methodNamed Bd.named
  have hnm := (name_of_methodNamed Bd.named Bd.method).1
  have X0 : Stand p l e rr_en s m #[(.ref o0), .null] below meth c s₁ [] 0 0 := Stand.of_body Bd
  have e0 : s₁.heap = h0 := by rw [← hh, Bd.state]; rfl
  have N0 := Fr.nil n0
  obtain ⟨G, step, ret, fin⟩ := own_open (p := p) (l := l) (e := e) (R := rr_en) (s := s) (m := m) (args := #[(.ref o0), .null]) (below := below) (meth := meth) (c := c) (rr_en.cells) (rr_en.slots) (Q_en Z o0 h0 n0) Bd.notSynchronized
  refine fin (g := entryFrame m #[(.ref o0), .null] 3) ?_
  rw [ef_en m o0]
  show G s₁ (mkF m 0 #[.val (.ref o0), .val .null, .unset] [])
  refine step (fun t k => XS.aloadN X0.here hx rfl (hb hby d8_0) rfl rfl k) ?_
  show G s₁ (mkF m 1 #[.val (.ref o0), .val .null, .unset] [.null])
  refine step (fun t k => X0.instanceofNull hx (g := (mkF m 1 #[.val (.ref o0), .val .null, .unset] [.null])) rfl rfl (hb hby d8_1) t k) ?_
  show G s₁ (mkF m 4 #[.val (.ref o0), .val .null, .unset] [(.int 0)])
  refine step (fun t k => XS.ifYes X0.here hx rfl (pc0 := 4) (pc' := 58) rfl (hb hby d8_4) rfl ((if0 _ _).trans (teq (by decide : (0 : Int32) = (0 : Int32))).1) (by decide) (by decide) k) ?_
  show G s₁ (mkF m 58 #[.val (.ref o0), .val .null, .unset] [])
  refine step (fun t k => XS.iconst X0.here hx rfl (hb hby d8_58) k) ?_
  show G s₁ (mkF m 59 #[.val (.ref o0), .val .null, .unset] [(.int 0)])
  exact ret (v := some (.int 0)) X0 (fun h => by rw [Bd.returns] at h; cases h) (fun fs hr => retN X0 hx (t := .boolean) Bd.returns (by simp) (hb hby d8_59) hr) e0 ⟨rfl, N0, rfl⟩ (by decide) (by decide)
theorem ww84 {Z : State} {a0 : Array Value} (hw : ∀ d ∈ tables_1, d.before a0 Z = true) : Jvm.Cond.before (Jvm.Cond.superclass cn_2 cn_7) a0 Z = true := hw _ (List.mem_of_getElem? (i := 84) rfl)
theorem ww85 {Z : State} {a0 : Array Value} (hw : ∀ d ∈ tables_1, d.before a0 Z = true) : Jvm.Cond.before (Jvm.Cond.noSuperclass cn_7) a0 Z = true := hw _ (List.mem_of_getElem? (i := 85) rfl)
abbrev rr_es : Room := { frames := 0, cells := 0, slots := 0, locals := 0 }
theorem ef_es (m : MethodId) (o0 : Addr) (o1 : Addr) : entryFrame m #[(.ref o0), (.ref o1)] 3 = mkF m 0 #[.val (.ref o0), .val (.ref o1), .unset] [] := by first | (simp [entryFrame, mkF, argsToLocals, Value.category]; done) | rfl
def f_es  (o0 : Addr) (o1 : Addr) : Int32 := (0 : Int32)
def Q_es (Z : State)  (o0 : Addr) (o1 : Addr) (h0 : Heap) (n0 : Nat) (v : Option Value) (h : Heap) (L : List Loc) : Prop := v = some (.int (f_es o0 o1)) ∧ Fr n0 L ∧ h = h0
set_option maxRecDepth 65536 in
set_option maxHeartbeats 40000000 in
theorem rm_es (l : Launch) (Z : State) (a0 : Array Value) (hw : ∀ d ∈ tables_1, d.before a0 Z = true) (ws : List Jvm.Cond)  (o0 : Addr) (o1 : Addr) (h0 : Heap) (n0 : Nat) (Z0 : n0 ≤ h0.size) (O0 : Old Z n0 h0) (Eo1 : Exa Z h0 o1 cn_2) :
    MetFree l y_8 (head1 (Jvm.Cond.code y_8 prog_1_method_5_code 3 (some .boolean) :: ws) rr_es) (fun a U => a = #[(.ref o0), (.ref o1)] ∧ Z.Warmed39 U.vm ∧ U.heap = h0) (fun _ _ _ _ _ => True) (fun _ U o U' => ∃ v L, o = .returned v ∧ Q_es Z o0 o1 h0 n0 v U'.heap L ∧ FrameEnd U o U' L rr_es.cells rr_es.slots) := by
  refine MetFree.of_bodySF (plainFor_of_name pn_3) hisR ?_
  intro p e s m args below meth c s₁ Bd hml0 hP hK
  obtain ⟨rfl, hZ, hh⟩ := hP
  have hx := Bd.exec
  have hby := Bd.bytes
  have hml : c.maxLocals = 3 := hml0
  have hown : s.vm.findClass cn_0 = some m.cls := findClass_of_methodNamed Bd.named
  have hnm := (name_of_methodNamed Bd.named Bd.method).1
  have X0 : Stand p l e rr_es s m #[(.ref o0), (.ref o1)] below meth c s₁ [] 0 0 := Stand.of_body Bd
  have e0 : s₁.heap = h0 := by rw [← hh, Bd.state]; rfl
  have N0 := Fr.nil n0
  obtain ⟨G, step, ret, fin⟩ := own_open (p := p) (l := l) (e := e) (R := rr_es) (s := s) (m := m) (args := #[(.ref o0), (.ref o1)]) (below := below) (meth := meth) (c := c) (rr_es.cells) (rr_es.slots) (Q_es Z o0 o1 h0 n0) Bd.notSynchronized
  refine fin (g := entryFrame m #[(.ref o0), (.ref o1)] 3) ?_
  rw [ef_es m o0 o1]
  show G s₁ (mkF m 0 #[.val (.ref o0), .val (.ref o1), .unset] [])
  refine step (fun t k => XS.aloadN X0.here hx rfl (hb hby d8_0) rfl rfl k) ?_
  show G s₁ (mkF m 1 #[.val (.ref o0), .val (.ref o1), .unset] [(.ref o1)])
  obtain ⟨T1, X1, e1, st1⟩ := instNo X0 hx hZ hown (ww72 hw) e0 Eo1 (own_nosub (ww84 hw) (ww85 hw) (ww1 hw) (by decide) (by decide)) (g := (mkF m 1 #[.val (.ref o0), .val (.ref o1), .unset] [(.ref o1)])) rfl rfl (hb hby d8_1)
  refine step st1 ?_
  show G T1 (mkF m 4 #[.val (.ref o0), .val (.ref o1), .unset] [(.int 0)])
  refine step (fun t k => XS.ifYes X1.here hx rfl (pc0 := 4) (pc' := 58) rfl (hb hby d8_4) rfl ((if0 _ _).trans (teq (by decide : (0 : Int32) = (0 : Int32))).1) (by decide) (by decide) k) ?_
  show G T1 (mkF m 58 #[.val (.ref o0), .val (.ref o1), .unset] [])
  refine step (fun t k => XS.iconst X1.here hx rfl (hb hby d8_58) k) ?_
  show G T1 (mkF m 59 #[.val (.ref o0), .val (.ref o1), .unset] [(.int 0)])
  exact ret (v := some (.int 0)) X1 (fun h => by rw [Bd.returns] at h; cases h) (fun fs hr => retN X1 hx (t := .boolean) Bd.returns (by simp) (hb hby d8_59) hr) e1 ⟨rfl, N0, rfl⟩ (by decide) (by decide)
abbrev y_9 : MethodName := ⟨cn_2, "equals", cn_4⟩
theorem d8_7 : decode prog_1_method_5_code 7 = .ok (.aload_n 1, 1) := by decide +kernel
theorem d8_8 : decode prog_1_method_5_code 8 = .ok (.checkcast 18, 3) := by decide +kernel
theorem d8_11 : decode prog_1_method_5_code 11 = .ok (.astore_n 2, 1) := by decide +kernel
theorem d8_12 : decode prog_1_method_5_code 12 = .ok (.aload_n 0, 1) := by decide +kernel
theorem d8_13 : decode prog_1_method_5_code 13 = .ok (.getfield 17, 3) := by decide +kernel
theorem d8_16 : decode prog_1_method_5_code 16 = .ok (.aload_n 2, 1) := by decide +kernel
theorem d8_17 : decode prog_1_method_5_code 17 = .ok (.getfield 17, 3) := by decide +kernel
theorem d8_20 : decode prog_1_method_5_code 20 = .ok (.invokevirtual 30, 3) := by decide +kernel
theorem ww74 {Z : State} {a0 : Array Value} (hw : ∀ d ∈ tables_1, d.before a0 Z = true) : Jvm.Cond.before (Jvm.Cond.methodLink cn_0 (30 : Nat) ({ cls := cn_2, name := "equals", desc := cn_4 } : Jvm.MethodName)) a0 Z = true := hw _ (List.mem_of_getElem? (i := 74) rfl)
theorem ww77 {Z : State} {a0 : Array Value} (hw : ∀ d ∈ tables_1, d.before a0 Z = true) : Jvm.Cond.before (Jvm.Cond.selects cn_2 ({ cls := cn_2, name := "equals", desc := cn_4 } : Jvm.MethodName) ({ cls := cn_2, name := "equals", desc := cn_4 } : Jvm.MethodName)) a0 Z = true := hw _ (List.mem_of_getElem? (i := 77) rfl)
theorem ww78 {Z : State} {a0 : Array Value} (hw : ∀ d ∈ tables_1, d.before a0 Z = true) : Jvm.Cond.before (Jvm.Cond.code ({ cls := cn_2, name := "equals", desc := cn_4 } : Jvm.MethodName) jdk_42_method_66_code (3 : Nat) (Option.some Jvm.ClassFile.FieldType.boolean)) a0 Z = true := hw _ (List.mem_of_getElem? (i := 78) rfl)
theorem pd_5 : parseMethodDescriptor cn_4 = some ⟨[(.object cn_7)], some .boolean⟩ := by decide +kernel
theorem ww75 {Z : State} {a0 : Array Value} (hw : ∀ d ∈ tables_1, d.before a0 Z = true) : Jvm.Cond.before (Jvm.Cond.declares ({ cls := cn_2, name := "equals", desc := cn_4 } : Jvm.MethodName)) a0 Z = true := hw _ (List.mem_of_getElem? (i := 75) rfl)
theorem ww76 {Z : State} {a0 : Array Value} (hw : ∀ d ∈ tables_1, d.before a0 Z = true) : Jvm.Cond.before (Jvm.Cond.instanceMethod ({ cls := cn_2, name := "equals", desc := cn_4 } : Jvm.MethodName)) a0 Z = true := hw _ (List.mem_of_getElem? (i := 76) rfl)
theorem d8_23 : decode prog_1_method_5_code 23 = .ok (.ifCond .eq 35, 3) := by decide +kernel
theorem d8_26 : decode prog_1_method_5_code 26 = .ok (.aload_n 0, 1) := by decide +kernel
theorem d8_27 : decode prog_1_method_5_code 27 = .ok (.getfield 24, 3) := by decide +kernel
theorem d8_30 : decode prog_1_method_5_code 30 = .ok (.aload_n 2, 1) := by decide +kernel
theorem d8_31 : decode prog_1_method_5_code 31 = .ok (.getfield 24, 3) := by decide +kernel
theorem d8_34 : decode prog_1_method_5_code 34 = .ok (.invokevirtual 30, 3) := by decide +kernel
theorem d8_37 : decode prog_1_method_5_code 37 = .ok (.ifCond .eq 21, 3) := by decide +kernel
theorem d8_40 : decode prog_1_method_5_code 40 = .ok (.aload_n 0, 1) := by decide +kernel
theorem d8_41 : decode prog_1_method_5_code 41 = .ok (.getfield 28, 3) := by decide +kernel
theorem d8_44 : decode prog_1_method_5_code 44 = .ok (.aload_n 2, 1) := by decide +kernel
theorem d8_45 : decode prog_1_method_5_code 45 = .ok (.getfield 28, 3) := by decide +kernel
theorem d8_48 : decode prog_1_method_5_code 48 = .ok (.invokevirtual 30, 3) := by decide +kernel
theorem d8_51 : decode prog_1_method_5_code 51 = .ok (.ifCond .eq 7, 3) := by decide +kernel
theorem d8_54 : decode prog_1_method_5_code 54 = .ok (.iconst 1, 1) := by decide +kernel
theorem d8_55 : decode prog_1_method_5_code 55 = .ok (.goto 4, 3) := by decide +kernel
abbrev rr_eq : Room := { frames := 2, cells := 0, slots := 0, locals := 28 }
theorem ef_eq (m : MethodId) (o0 : Addr) (o1 : Addr) : entryFrame m #[(.ref o0), (.ref o1)] 3 = mkF m 0 #[.val (.ref o0), .val (.ref o1), .unset] [] := by first | (simp [entryFrame, mkF, argsToLocals, Value.category]; done) | rfl
def Q_eq (Z : State) (w_COMPACT_STRINGS : Int32) (w_SIOOBE_FORMATTER : Value) (o0 : Addr) (o1 : Addr) (sx0 : Addr) (tx0 : Addr) (kx0 : ClassId) (nx0 : Int32) (vx0 : List Value) (cx0 : List Int32) (sx1 : Addr) (tx1 : Addr) (kx1 : ClassId) (nx1 : Int32) (vx1 : List Value) (cx1 : List Int32) (sx2 : Addr) (tx2 : Addr) (kx2 : ClassId) (nx2 : Int32) (vx2 : List Value) (cx2 : List Int32) (sx3 : Addr) (tx3 : Addr) (kx3 : ClassId) (nx3 : Int32) (vx3 : List Value) (cx3 : List Int32) (sx4 : Addr) (tx4 : Addr) (kx4 : ClassId) (nx4 : Int32) (vx4 : List Value) (cx4 : List Int32) (sx5 : Addr) (tx5 : Addr) (kx5 : ClassId) (nx5 : Int32) (vx5 : List Value) (cx5 : List Int32) (h0 : Heap) (n0 : Nat) (v : Option Value) (h : Heap) (L : List Loc) : Prop := ∃ r : Int32, v = some (.int r) ∧ Fr n0 L ∧ Keep h0 h [] ∧ own_eqr r (cx0 = cx3 ∧ cx1 = cx4 ∧ cx2 = cx5)
set_option maxRecDepth 65536 in
set_option maxHeartbeats 40000000 in
theorem rm_eq (l : Launch) (Z : State) (a0 : Array Value) (hw : ∀ d ∈ tables_1, d.before a0 Z = true) (ws : List Jvm.Cond) (w_COMPACT_STRINGS : Int32) (w_SIOOBE_FORMATTER : Value) (o0 : Addr) (o1 : Addr) (sx0 : Addr) (tx0 : Addr) (kx0 : ClassId) (nx0 : Int32) (vx0 : List Value) (cx0 : List Int32) (sx1 : Addr) (tx1 : Addr) (kx1 : ClassId) (nx1 : Int32) (vx1 : List Value) (cx1 : List Int32) (sx2 : Addr) (tx2 : Addr) (kx2 : ClassId) (nx2 : Int32) (vx2 : List Value) (cx2 : List Int32) (sx3 : Addr) (tx3 : Addr) (kx3 : ClassId) (nx3 : Int32) (vx3 : List Value) (cx3 : List Int32) (sx4 : Addr) (tx4 : Addr) (kx4 : ClassId) (nx4 : Int32) (vx4 : List Value) (cx4 : List Int32) (sx5 : Addr) (tx5 : Addr) (kx5 : ClassId) (nx5 : Int32) (vx5 : List Value) (cx5 : List Int32) (h0 : Heap) (n0 : Nat) (Z0 : n0 ≤ h0.size) (ST : own_St Z w_COMPACT_STRINGS w_SIOOBE_FORMATTER) (O0 : Old Z n0 h0) (Eo0 : Exa Z h0 o0 cn_0) (Eo1 : Exa Z h0 o1 cn_0) (Fa0 : Fld Z h0 o0 cn_0 "identifier" cn_3 (.ref sx0)) (Fa1 : Fld Z h0 o0 cn_0 "name" cn_3 (.ref sx1)) (Fa2 : Fld Z h0 o0 cn_0 "description" cn_3 (.ref sx2)) (Fb0 : Fld Z h0 o1 cn_0 "identifier" cn_3 (.ref sx3)) (Fb1 : Fld Z h0 o1 cn_0 "name" cn_3 (.ref sx4)) (Fb2 : Fld Z h0 o1 cn_0 "description" cn_3 (.ref sx5)) (Es0 : Exa Z h0 sx0 cn_2) (Fv0 : Fld Z h0 sx0 cn_2 "value" "[B" (.ref tx0)) (Fc0 : Fld Z h0 sx0 cn_2 "coder" "B" (.int 0)) (Va0 : Arv Z h0 tx0 kx0 .byte nx0 vx0 (.int 0)) (hs0 : own_sp cx0 nx0 vx0) (Es1 : Exa Z h0 sx1 cn_2) (Fv1 : Fld Z h0 sx1 cn_2 "value" "[B" (.ref tx1)) (Fc1 : Fld Z h0 sx1 cn_2 "coder" "B" (.int 0)) (Va1 : Arv Z h0 tx1 kx1 .byte nx1 vx1 (.int 0)) (hs1 : own_sp cx1 nx1 vx1) (Es2 : Exa Z h0 sx2 cn_2) (Fv2 : Fld Z h0 sx2 cn_2 "value" "[B" (.ref tx2)) (Fc2 : Fld Z h0 sx2 cn_2 "coder" "B" (.int 0)) (Va2 : Arv Z h0 tx2 kx2 .byte nx2 vx2 (.int 0)) (hs2 : own_sp cx2 nx2 vx2) (Es3 : Exa Z h0 sx3 cn_2) (Fv3 : Fld Z h0 sx3 cn_2 "value" "[B" (.ref tx3)) (Fc3 : Fld Z h0 sx3 cn_2 "coder" "B" (.int 0)) (Va3 : Arv Z h0 tx3 kx3 .byte nx3 vx3 (.int 0)) (hs3 : own_sp cx3 nx3 vx3) (Es4 : Exa Z h0 sx4 cn_2) (Fv4 : Fld Z h0 sx4 cn_2 "value" "[B" (.ref tx4)) (Fc4 : Fld Z h0 sx4 cn_2 "coder" "B" (.int 0)) (Va4 : Arv Z h0 tx4 kx4 .byte nx4 vx4 (.int 0)) (hs4 : own_sp cx4 nx4 vx4) (Es5 : Exa Z h0 sx5 cn_2) (Fv5 : Fld Z h0 sx5 cn_2 "value" "[B" (.ref tx5)) (Fc5 : Fld Z h0 sx5 cn_2 "coder" "B" (.int 0)) (Va5 : Arv Z h0 tx5 kx5 .byte nx5 vx5 (.int 0)) (hs5 : own_sp cx5 nx5 vx5) :
    MetFree l y_8 (head1 (Jvm.Cond.code y_8 prog_1_method_5_code 3 (some .boolean) :: ws) rr_eq) (fun a U => a = #[(.ref o0), (.ref o1)] ∧ Z.Warmed39 U.vm ∧ U.heap = h0) (fun _ _ _ _ _ => True) (fun _ U o U' => ∃ v L, o = .returned v ∧ Q_eq Z w_COMPACT_STRINGS w_SIOOBE_FORMATTER o0 o1 sx0 tx0 kx0 nx0 vx0 cx0 sx1 tx1 kx1 nx1 vx1 cx1 sx2 tx2 kx2 nx2 vx2 cx2 sx3 tx3 kx3 nx3 vx3 cx3 sx4 tx4 kx4 nx4 vx4 cx4 sx5 tx5 kx5 nx5 vx5 cx5 h0 n0 v U'.heap L ∧ FrameEnd U o U' L rr_eq.cells rr_eq.slots) := by
  refine MetFree.of_bodySF (plainFor_of_name pn_3) hisR ?_
  intro p e s m args below meth c s₁ Bd hml0 hP hK
  obtain ⟨rfl, hZ, hh⟩ := hP
  have hx := Bd.exec
  have hby := Bd.bytes
  have hml : c.maxLocals = 3 := hml0
  have hown : s.vm.findClass cn_0 = some m.cls := findClass_of_methodNamed Bd.named
  have hnm := (name_of_methodNamed Bd.named Bd.method).1
  have X0 : Stand p l e rr_eq s m #[(.ref o0), (.ref o1)] below meth c s₁ [] 0 0 := Stand.of_body Bd
  have e0 : s₁.heap = h0 := by rw [← hh, Bd.state]; rfl
  have N0 := Fr.nil n0
  have K0 : Keep h0 h0 [] := Keep.refl _ _
  obtain ⟨G, step, ret, fin⟩ := own_open (p := p) (l := l) (e := e) (R := rr_eq) (s := s) (m := m) (args := #[(.ref o0), (.ref o1)]) (below := below) (meth := meth) (c := c) (rr_eq.cells) (rr_eq.slots) (Q_eq Z w_COMPACT_STRINGS w_SIOOBE_FORMATTER o0 o1 sx0 tx0 kx0 nx0 vx0 cx0 sx1 tx1 kx1 nx1 vx1 cx1 sx2 tx2 kx2 nx2 vx2 cx2 sx3 tx3 kx3 nx3 vx3 cx3 sx4 tx4 kx4 nx4 vx4 cx4 sx5 tx5 kx5 nx5 vx5 cx5 h0 n0) Bd.notSynchronized
  refine fin (g := entryFrame m #[(.ref o0), (.ref o1)] 3) ?_
  rw [ef_eq m o0 o1]
  have ne_o0_tx0 : o0 ≠ tx0 := own_ne_arv Eo0 (ww1 hw) Va0
  have ne_o0_tx1 : o0 ≠ tx1 := own_ne_arv Eo0 (ww1 hw) Va1
  have ne_o0_tx2 : o0 ≠ tx2 := own_ne_arv Eo0 (ww1 hw) Va2
  have ne_o0_tx3 : o0 ≠ tx3 := own_ne_arv Eo0 (ww1 hw) Va3
  have ne_o0_tx4 : o0 ≠ tx4 := own_ne_arv Eo0 (ww1 hw) Va4
  have ne_o0_tx5 : o0 ≠ tx5 := own_ne_arv Eo0 (ww1 hw) Va5
  have ne_o1_tx0 : o1 ≠ tx0 := own_ne_arv Eo1 (ww1 hw) Va0
  have ne_o1_tx1 : o1 ≠ tx1 := own_ne_arv Eo1 (ww1 hw) Va1
  have ne_o1_tx2 : o1 ≠ tx2 := own_ne_arv Eo1 (ww1 hw) Va2
  have ne_o1_tx3 : o1 ≠ tx3 := own_ne_arv Eo1 (ww1 hw) Va3
  have ne_o1_tx4 : o1 ≠ tx4 := own_ne_arv Eo1 (ww1 hw) Va4
  have ne_o1_tx5 : o1 ≠ tx5 := own_ne_arv Eo1 (ww1 hw) Va5
  have ne_sx0_tx0 : sx0 ≠ tx0 := own_ne_arv Es0 (ww12 hw) Va0
  have ne_sx0_tx1 : sx0 ≠ tx1 := own_ne_arv Es0 (ww12 hw) Va1
  have ne_sx0_tx2 : sx0 ≠ tx2 := own_ne_arv Es0 (ww12 hw) Va2
  have ne_sx0_tx3 : sx0 ≠ tx3 := own_ne_arv Es0 (ww12 hw) Va3
  have ne_sx0_tx4 : sx0 ≠ tx4 := own_ne_arv Es0 (ww12 hw) Va4
  have ne_sx0_tx5 : sx0 ≠ tx5 := own_ne_arv Es0 (ww12 hw) Va5
  have ne_sx1_tx0 : sx1 ≠ tx0 := own_ne_arv Es1 (ww12 hw) Va0
  have ne_sx1_tx1 : sx1 ≠ tx1 := own_ne_arv Es1 (ww12 hw) Va1
  have ne_sx1_tx2 : sx1 ≠ tx2 := own_ne_arv Es1 (ww12 hw) Va2
  have ne_sx1_tx3 : sx1 ≠ tx3 := own_ne_arv Es1 (ww12 hw) Va3
  have ne_sx1_tx4 : sx1 ≠ tx4 := own_ne_arv Es1 (ww12 hw) Va4
  have ne_sx1_tx5 : sx1 ≠ tx5 := own_ne_arv Es1 (ww12 hw) Va5
  have ne_sx2_tx0 : sx2 ≠ tx0 := own_ne_arv Es2 (ww12 hw) Va0
  have ne_sx2_tx1 : sx2 ≠ tx1 := own_ne_arv Es2 (ww12 hw) Va1
  have ne_sx2_tx2 : sx2 ≠ tx2 := own_ne_arv Es2 (ww12 hw) Va2
  have ne_sx2_tx3 : sx2 ≠ tx3 := own_ne_arv Es2 (ww12 hw) Va3
  have ne_sx2_tx4 : sx2 ≠ tx4 := own_ne_arv Es2 (ww12 hw) Va4
  have ne_sx2_tx5 : sx2 ≠ tx5 := own_ne_arv Es2 (ww12 hw) Va5
  have ne_sx3_tx0 : sx3 ≠ tx0 := own_ne_arv Es3 (ww12 hw) Va0
  have ne_sx3_tx1 : sx3 ≠ tx1 := own_ne_arv Es3 (ww12 hw) Va1
  have ne_sx3_tx2 : sx3 ≠ tx2 := own_ne_arv Es3 (ww12 hw) Va2
  have ne_sx3_tx3 : sx3 ≠ tx3 := own_ne_arv Es3 (ww12 hw) Va3
  have ne_sx3_tx4 : sx3 ≠ tx4 := own_ne_arv Es3 (ww12 hw) Va4
  have ne_sx3_tx5 : sx3 ≠ tx5 := own_ne_arv Es3 (ww12 hw) Va5
  have ne_sx4_tx0 : sx4 ≠ tx0 := own_ne_arv Es4 (ww12 hw) Va0
  have ne_sx4_tx1 : sx4 ≠ tx1 := own_ne_arv Es4 (ww12 hw) Va1
  have ne_sx4_tx2 : sx4 ≠ tx2 := own_ne_arv Es4 (ww12 hw) Va2
  have ne_sx4_tx3 : sx4 ≠ tx3 := own_ne_arv Es4 (ww12 hw) Va3
  have ne_sx4_tx4 : sx4 ≠ tx4 := own_ne_arv Es4 (ww12 hw) Va4
  have ne_sx4_tx5 : sx4 ≠ tx5 := own_ne_arv Es4 (ww12 hw) Va5
  have ne_sx5_tx0 : sx5 ≠ tx0 := own_ne_arv Es5 (ww12 hw) Va0
  have ne_sx5_tx1 : sx5 ≠ tx1 := own_ne_arv Es5 (ww12 hw) Va1
  have ne_sx5_tx2 : sx5 ≠ tx2 := own_ne_arv Es5 (ww12 hw) Va2
  have ne_sx5_tx3 : sx5 ≠ tx3 := own_ne_arv Es5 (ww12 hw) Va3
  have ne_sx5_tx4 : sx5 ≠ tx4 := own_ne_arv Es5 (ww12 hw) Va4
  have ne_sx5_tx5 : sx5 ≠ tx5 := own_ne_arv Es5 (ww12 hw) Va5
  show G s₁ (mkF m 0 #[.val (.ref o0), .val (.ref o1), .unset] [])
  refine step (fun t k => XS.aloadN X0.here hx rfl (hb hby d8_0) rfl rfl k) ?_
  show G s₁ (mkF m 1 #[.val (.ref o0), .val (.ref o1), .unset] [(.ref o1)])
  obtain ⟨T1, X1, e1, st1⟩ := instY X0 hx hZ hown (ww72 hw) e0 (Ins.self Eo1) (g := (mkF m 1 #[.val (.ref o0), .val (.ref o1), .unset] [(.ref o1)])) rfl rfl (hb hby d8_1)
  refine step st1 ?_
  show G T1 (mkF m 4 #[.val (.ref o0), .val (.ref o1), .unset] [(.int 1)])
  refine step (fun t k => XS.ifNo X1.here hx rfl (hb hby d8_4) rfl ((if0 _ _).trans (feq (by decide : ¬ ((1 : Int32) = (0 : Int32)))).1) k) ?_
  show G T1 (mkF m 7 #[.val (.ref o0), .val (.ref o1), .unset] [])
  refine step (fun t k => XS.aloadN X1.here hx rfl (hb hby d8_7) rfl rfl k) ?_
  show G T1 (mkF m 8 #[.val (.ref o0), .val (.ref o1), .unset] [(.ref o1)])
  obtain ⟨T2, X2, e2, st2⟩ := castY X1 hx hZ hown (ww72 hw) e1 (Ins.self Eo1) (g := (mkF m 8 #[.val (.ref o0), .val (.ref o1), .unset] [(.ref o1)])) rfl rfl (hb hby d8_8)
  refine step st2 ?_
  show G T2 (mkF m 11 #[.val (.ref o0), .val (.ref o1), .unset] [(.ref o1)])
  refine step (fun t k => XS.astoreN X2.here hx rfl (hb hby d8_11) rfl rfl (l' := #[.val (.ref o0), .val (.ref o1), .val (.ref o1)]) rfl k) ?_
  show G T2 (mkF m 12 #[.val (.ref o0), .val (.ref o1), .val (.ref o1)] [])
  refine step (fun t k => XS.aloadN X2.here hx rfl (hb hby d8_12) rfl rfl k) ?_
  show G T2 (mkF m 13 #[.val (.ref o0), .val (.ref o1), .val (.ref o1)] [(.ref o0)])
  obtain ⟨T3, X3, e3, st3⟩ := getF X2 hx hZ hown (host := "") (Or.inl (ww56 hw)) Via.refl e2 Fa0 (g := (mkF m 13 #[.val (.ref o0), .val (.ref o1), .val (.ref o1)] [(.ref o0)])) rfl rfl (hb hby d8_13)
  refine step st3 ?_
  show G T3 (mkF m 16 #[.val (.ref o0), .val (.ref o1), .val (.ref o1)] [(.ref sx0)])
  refine step (fun t k => XS.aloadN X3.here hx rfl (hb hby d8_16) rfl rfl k) ?_
  show G T3 (mkF m 17 #[.val (.ref o0), .val (.ref o1), .val (.ref o1)] [(.ref o1), (.ref sx0)])
  obtain ⟨T4, X4, e4, st4⟩ := getF X3 hx hZ hown (host := "") (Or.inl (ww56 hw)) Via.refl e3 Fb0 (g := (mkF m 17 #[.val (.ref o0), .val (.ref o1), .val (.ref o1)] [(.ref o1), (.ref sx0)])) rfl rfl (hb hby d8_17)
  refine step st4 ?_
  show G T4 (mkF m 20 #[.val (.ref o0), .val (.ref o1), .val (.ref o1)] [(.ref sx3), (.ref sx0)])
  have hK5 := (StrChars.Road.eqW (l := l) (R := rr_eq) (p := p) (e := e) (below := below) (s := s) (args := #[(.ref o0), (.ref o1)]) (len := 3) (W := 0) hZ (own_hwE hw) (kI := 4) (ww12 hw) (cs := cx0) Es0 Fv0 Fc0 Va0 hs0.1 hs0.2.1 hs0.2.2 (ds := cx3) Es3 Fv3 Fc3 Va3 hs3.1 hs3.2.1 hs3.2.2 (Sta.ext O0.2 ST.k0) ST.k3 (by decide) (by decide))
  obtain ⟨cq5, kq5, q5a, q5b, q5c⟩ := isOf hZ e4 Es0
  obtain ⟨_, _, ⟨T5, L5, k5, n5⟩, -, X5, ⟨Lc5, hQ5, l5, y5, z5⟩, st5⟩ := X4.virtualBack hx (y := y_9) (z := y_9) hown (mvT hZ (ww74 hw)) (mvT hZ (ww75 hw)) (notFace_of_selects (args := #[]) (mvT hZ (ww77 hw))) (mvT hZ (ww77 hw)) (mvT hZ (ww76 hw)) (by decide) hK5 q5a q5c (g := (mkF m 20 #[.val (.ref o0), .val (.ref o1), .val (.ref o1)] [(.ref sx3), (.ref sx0)])) rfl (by rw [hml]; rfl) (Steps.refl _) (argsL := [(.ref sx3)]) (rest := []) (lenOf pd_5 rfl) rfl (by show 2 * 0 + _ ≤ _; exact Nat.le_of_eq rfl) (hb hby d8_20) (fun _ _ => ⟨rfl, e4, (by decide : 0 + 0 ≤ _), (by decide : 0 + 0 ≤ _)⟩)
  dsimp only [Pt.U, Pt.locs, Pt.cells, Pt.slots] at X5 l5 y5 z5 st5 hQ5
  subst l5 y5 z5
  obtain ⟨hq5, rfl, e5⟩ := hQ5
  try rw [List.append_nil] at X5
  rcases hq5 with ⟨rfl, hq5⟩ | ⟨rfl, hq5⟩
  · skip
    refine step (fun t k => st5.trans k) ?_
    show G T5 (mkF m 23 #[.val (.ref o0), .val (.ref o1), .val (.ref o1)] [(.int 1)])
    refine step (fun t k => XS.ifNo X5.here hx rfl (hb hby d8_23) rfl ((if0 _ _).trans (feq (by decide : ¬ ((1 : Int32) = (0 : Int32)))).1) k) ?_
    show G T5 (mkF m 26 #[.val (.ref o0), .val (.ref o1), .val (.ref o1)] [])
    refine step (fun t k => XS.aloadN X5.here hx rfl (hb hby d8_26) rfl rfl k) ?_
    show G T5 (mkF m 27 #[.val (.ref o0), .val (.ref o1), .val (.ref o1)] [(.ref o0)])
    obtain ⟨T6, X6, e6, st6⟩ := getF X5 hx hZ hown (host := "") (Or.inl (ww59 hw)) Via.refl e5 Fa1 (g := (mkF m 27 #[.val (.ref o0), .val (.ref o1), .val (.ref o1)] [(.ref o0)])) rfl rfl (hb hby d8_27)
    refine step st6 ?_
    show G T6 (mkF m 30 #[.val (.ref o0), .val (.ref o1), .val (.ref o1)] [(.ref sx1)])
    refine step (fun t k => XS.aloadN X6.here hx rfl (hb hby d8_30) rfl rfl k) ?_
    show G T6 (mkF m 31 #[.val (.ref o0), .val (.ref o1), .val (.ref o1)] [(.ref o1), (.ref sx1)])
    obtain ⟨T7, X7, e7, st7⟩ := getF X6 hx hZ hown (host := "") (Or.inl (ww59 hw)) Via.refl e6 Fb1 (g := (mkF m 31 #[.val (.ref o0), .val (.ref o1), .val (.ref o1)] [(.ref o1), (.ref sx1)])) rfl rfl (hb hby d8_31)
    refine step st7 ?_
    show G T7 (mkF m 34 #[.val (.ref o0), .val (.ref o1), .val (.ref o1)] [(.ref sx4), (.ref sx1)])
    have hK8 := (StrChars.Road.eqW (l := l) (R := rr_eq) (p := p) (e := e) (below := below) (s := s) (args := #[(.ref o0), (.ref o1)]) (len := 3) (W := 0) hZ (own_hwE hw) (kI := 4) (ww12 hw) (cs := cx1) Es1 Fv1 Fc1 Va1 hs1.1 hs1.2.1 hs1.2.2 (ds := cx4) Es4 Fv4 Fc4 Va4 hs4.1 hs4.2.1 hs4.2.2 (Sta.ext O0.2 ST.k0) ST.k3 (by decide) (by decide))
    obtain ⟨cq8, kq8, q8a, q8b, q8c⟩ := isOf hZ e7 Es1
    obtain ⟨_, _, ⟨T8, L8, k8, n8⟩, -, X8, ⟨Lc8, hQ8, l8, y8, z8⟩, st8⟩ := X7.virtualBack hx (y := y_9) (z := y_9) hown (mvT hZ (ww74 hw)) (mvT hZ (ww75 hw)) (notFace_of_selects (args := #[]) (mvT hZ (ww77 hw))) (mvT hZ (ww77 hw)) (mvT hZ (ww76 hw)) (by decide) hK8 q8a q8c (g := (mkF m 34 #[.val (.ref o0), .val (.ref o1), .val (.ref o1)] [(.ref sx4), (.ref sx1)])) rfl (by rw [hml]; rfl) (Steps.refl _) (argsL := [(.ref sx4)]) (rest := []) (lenOf pd_5 rfl) rfl (by show 2 * 0 + _ ≤ _; exact Nat.le_of_eq rfl) (hb hby d8_34) (fun _ _ => ⟨rfl, e7, (by decide : 0 + 0 ≤ _), (by decide : 0 + 0 ≤ _)⟩)
    dsimp only [Pt.U, Pt.locs, Pt.cells, Pt.slots] at X8 l8 y8 z8 st8 hQ8
    subst l8 y8 z8
    obtain ⟨hq8, rfl, e8⟩ := hQ8
    try rw [List.append_nil] at X8
    rcases hq8 with ⟨rfl, hq8⟩ | ⟨rfl, hq8⟩
    · skip
      refine step (fun t k => st8.trans k) ?_
      show G T8 (mkF m 37 #[.val (.ref o0), .val (.ref o1), .val (.ref o1)] [(.int 1)])
      refine step (fun t k => XS.ifNo X8.here hx rfl (hb hby d8_37) rfl ((if0 _ _).trans (feq (by decide : ¬ ((1 : Int32) = (0 : Int32)))).1) k) ?_
      show G T8 (mkF m 40 #[.val (.ref o0), .val (.ref o1), .val (.ref o1)] [])
      refine step (fun t k => XS.aloadN X8.here hx rfl (hb hby d8_40) rfl rfl k) ?_
      show G T8 (mkF m 41 #[.val (.ref o0), .val (.ref o1), .val (.ref o1)] [(.ref o0)])
      obtain ⟨T9, X9, e9, st9⟩ := getF X8 hx hZ hown (host := "") (Or.inl (ww62 hw)) Via.refl e8 Fa2 (g := (mkF m 41 #[.val (.ref o0), .val (.ref o1), .val (.ref o1)] [(.ref o0)])) rfl rfl (hb hby d8_41)
      refine step st9 ?_
      show G T9 (mkF m 44 #[.val (.ref o0), .val (.ref o1), .val (.ref o1)] [(.ref sx2)])
      refine step (fun t k => XS.aloadN X9.here hx rfl (hb hby d8_44) rfl rfl k) ?_
      show G T9 (mkF m 45 #[.val (.ref o0), .val (.ref o1), .val (.ref o1)] [(.ref o1), (.ref sx2)])
      obtain ⟨T10, X10, e10, st10⟩ := getF X9 hx hZ hown (host := "") (Or.inl (ww62 hw)) Via.refl e9 Fb2 (g := (mkF m 45 #[.val (.ref o0), .val (.ref o1), .val (.ref o1)] [(.ref o1), (.ref sx2)])) rfl rfl (hb hby d8_45)
      refine step st10 ?_
      show G T10 (mkF m 48 #[.val (.ref o0), .val (.ref o1), .val (.ref o1)] [(.ref sx5), (.ref sx2)])
      have hK11 := (StrChars.Road.eqW (l := l) (R := rr_eq) (p := p) (e := e) (below := below) (s := s) (args := #[(.ref o0), (.ref o1)]) (len := 3) (W := 0) hZ (own_hwE hw) (kI := 4) (ww12 hw) (cs := cx2) Es2 Fv2 Fc2 Va2 hs2.1 hs2.2.1 hs2.2.2 (ds := cx5) Es5 Fv5 Fc5 Va5 hs5.1 hs5.2.1 hs5.2.2 (Sta.ext O0.2 ST.k0) ST.k3 (by decide) (by decide))
      obtain ⟨cq11, kq11, q11a, q11b, q11c⟩ := isOf hZ e10 Es2
      obtain ⟨_, _, ⟨T11, L11, k11, n11⟩, -, X11, ⟨Lc11, hQ11, l11, y11, z11⟩, st11⟩ := X10.virtualBack hx (y := y_9) (z := y_9) hown (mvT hZ (ww74 hw)) (mvT hZ (ww75 hw)) (notFace_of_selects (args := #[]) (mvT hZ (ww77 hw))) (mvT hZ (ww77 hw)) (mvT hZ (ww76 hw)) (by decide) hK11 q11a q11c (g := (mkF m 48 #[.val (.ref o0), .val (.ref o1), .val (.ref o1)] [(.ref sx5), (.ref sx2)])) rfl (by rw [hml]; rfl) (Steps.refl _) (argsL := [(.ref sx5)]) (rest := []) (lenOf pd_5 rfl) rfl (by show 2 * 0 + _ ≤ _; exact Nat.le_of_eq rfl) (hb hby d8_48) (fun _ _ => ⟨rfl, e10, (by decide : 0 + 0 ≤ _), (by decide : 0 + 0 ≤ _)⟩)
      dsimp only [Pt.U, Pt.locs, Pt.cells, Pt.slots] at X11 l11 y11 z11 st11 hQ11
      subst l11 y11 z11
      obtain ⟨hq11, rfl, e11⟩ := hQ11
      try rw [List.append_nil] at X11
      rcases hq11 with ⟨rfl, hq11⟩ | ⟨rfl, hq11⟩
      · skip
        refine step (fun t k => st11.trans k) ?_
        show G T11 (mkF m 51 #[.val (.ref o0), .val (.ref o1), .val (.ref o1)] [(.int 1)])
        refine step (fun t k => XS.ifNo X11.here hx rfl (hb hby d8_51) rfl ((if0 _ _).trans (feq (by decide : ¬ ((1 : Int32) = (0 : Int32)))).1) k) ?_
        show G T11 (mkF m 54 #[.val (.ref o0), .val (.ref o1), .val (.ref o1)] [])
        refine step (fun t k => XS.iconst X11.here hx rfl (hb hby d8_54) k) ?_
        show G T11 (mkF m 55 #[.val (.ref o0), .val (.ref o1), .val (.ref o1)] [(.int 1)])
        refine step (fun t k => XS.goto X11.here hx rfl (pc0 := 55) (pc' := 59) rfl (hb hby d8_55) (by decide) (by decide) k) ?_
        show G T11 (mkF m 59 #[.val (.ref o0), .val (.ref o1), .val (.ref o1)] [(.int 1)])
        exact ret (v := some (.int 1)) X11 (fun h => by rw [Bd.returns] at h; cases h) (fun fs hr => retN X11 hx (t := .boolean) Bd.returns (by simp) (hb hby d8_59) hr) e11 ⟨(1 : Int32), rfl, N0, K0, (Or.inl ⟨rfl, hq5, hq8, hq11⟩)⟩ (by decide) (by decide)
      · skip
        refine step (fun t k => st11.trans k) ?_
        show G T11 (mkF m 51 #[.val (.ref o0), .val (.ref o1), .val (.ref o1)] [(.int 0)])
        refine step (fun t k => XS.ifYes X11.here hx rfl (pc0 := 51) (pc' := 58) rfl (hb hby d8_51) rfl ((if0 _ _).trans (teq (by decide : (0 : Int32) = (0 : Int32))).1) (by decide) (by decide) k) ?_
        show G T11 (mkF m 58 #[.val (.ref o0), .val (.ref o1), .val (.ref o1)] [])
        refine step (fun t k => XS.iconst X11.here hx rfl (hb hby d8_58) k) ?_
        show G T11 (mkF m 59 #[.val (.ref o0), .val (.ref o1), .val (.ref o1)] [(.int 0)])
        exact ret (v := some (.int 0)) X11 (fun h => by rw [Bd.returns] at h; cases h) (fun fs hr => retN X11 hx (t := .boolean) Bd.returns (by simp) (hb hby d8_59) hr) e11 ⟨(0 : Int32), rfl, N0, K0, (Or.inr ⟨rfl, fun q => hq11 q.2.2⟩)⟩ (by decide) (by decide)
    · skip
      refine step (fun t k => st8.trans k) ?_
      show G T8 (mkF m 37 #[.val (.ref o0), .val (.ref o1), .val (.ref o1)] [(.int 0)])
      refine step (fun t k => XS.ifYes X8.here hx rfl (pc0 := 37) (pc' := 58) rfl (hb hby d8_37) rfl ((if0 _ _).trans (teq (by decide : (0 : Int32) = (0 : Int32))).1) (by decide) (by decide) k) ?_
      show G T8 (mkF m 58 #[.val (.ref o0), .val (.ref o1), .val (.ref o1)] [])
      refine step (fun t k => XS.iconst X8.here hx rfl (hb hby d8_58) k) ?_
      show G T8 (mkF m 59 #[.val (.ref o0), .val (.ref o1), .val (.ref o1)] [(.int 0)])
      exact ret (v := some (.int 0)) X8 (fun h => by rw [Bd.returns] at h; cases h) (fun fs hr => retN X8 hx (t := .boolean) Bd.returns (by simp) (hb hby d8_59) hr) e8 ⟨(0 : Int32), rfl, N0, K0, (Or.inr ⟨rfl, fun q => hq8 q.2.1⟩)⟩ (by decide) (by decide)
  · skip
    refine step (fun t k => st5.trans k) ?_
    show G T5 (mkF m 23 #[.val (.ref o0), .val (.ref o1), .val (.ref o1)] [(.int 0)])
    refine step (fun t k => XS.ifYes X5.here hx rfl (pc0 := 23) (pc' := 58) rfl (hb hby d8_23) rfl ((if0 _ _).trans (teq (by decide : (0 : Int32) = (0 : Int32))).1) (by decide) (by decide) k) ?_
    show G T5 (mkF m 58 #[.val (.ref o0), .val (.ref o1), .val (.ref o1)] [])
    refine step (fun t k => XS.iconst X5.here hx rfl (hb hby d8_58) k) ?_
    show G T5 (mkF m 59 #[.val (.ref o0), .val (.ref o1), .val (.ref o1)] [(.int 0)])
    exact ret (v := some (.int 0)) X5 (fun h => by rw [Bd.returns] at h; cases h) (fun fs hr => retN X5 hx (t := .boolean) Bd.returns (by simp) (hb hby d8_59) hr) e5 ⟨(0 : Int32), rfl, N0, K0, (Or.inr ⟨rfl, fun q => hq5 q.1⟩)⟩ (by decide) (by decide)
theorem ww0 {Z : State} {a0 : Array Value} (hw : ∀ d ∈ tables_1, d.before a0 Z = true) : Jvm.Cond.before (Jvm.Cond.classLink cn_1 (22 : Nat) cn_0) a0 Z = true := hw _ (List.mem_of_getElem? (i := 0) rfl)
theorem ww2 {Z : State} {a0 : Array Value} (hw : ∀ d ∈ tables_1, d.before a0 Z = true) : Jvm.Cond.before (Jvm.Cond.initialized cn_0) a0 Z = true := hw _ (List.mem_of_getElem? (i := 2) rfl)
theorem ww3 {Z : State} {a0 : Array Value} (hw : ∀ d ∈ tables_1, d.before a0 Z = true) : Jvm.Cond.before (Jvm.Cond.methodLink cn_1 (24 : Nat) ({ cls := cn_1, name := "str", desc := cn_10 } : Jvm.MethodName)) a0 Z = true := hw _ (List.mem_of_getElem? (i := 3) rfl)
theorem ww6 {Z : State} {a0 : Array Value} (hw : ∀ d ∈ tables_1, d.before a0 Z = true) : Jvm.Cond.before (Jvm.Cond.code ({ cls := cn_1, name := "str", desc := cn_10 } : Jvm.MethodName) method_4_code (3 : Nat) (Option.some (Jvm.ClassFile.FieldType.object cn_2))) a0 Z = true := hw _ (List.mem_of_getElem? (i := 6) rfl)
theorem pd_6 : parseMethodDescriptor cn_10 = some ⟨[.int], some (.object cn_2)⟩ := by decide +kernel
theorem ww4 {Z : State} {a0 : Array Value} (hw : ∀ d ∈ tables_1, d.before a0 Z = true) : Jvm.Cond.before (Jvm.Cond.static ({ cls := cn_1, name := "str", desc := cn_10 } : Jvm.MethodName)) a0 Z = true := hw _ (List.mem_of_getElem? (i := 4) rfl)
theorem ww46 {Z : State} {a0 : Array Value} (hw : ∀ d ∈ tables_1, d.before a0 Z = true) : Jvm.Cond.before (Jvm.Cond.methodLink cn_1 (28 : Nat) ({ cls := cn_0, name := "<init>", desc := cn_5 } : Jvm.MethodName)) a0 Z = true := hw _ (List.mem_of_getElem? (i := 46) rfl)
theorem ww48 {Z : State} {a0 : Array Value} (hw : ∀ d ∈ tables_1, d.before a0 Z = true) : Jvm.Cond.before (Jvm.Cond.code ({ cls := cn_0, name := "<init>", desc := cn_5 } : Jvm.MethodName) prog_1_method_1_code (4 : Nat) (Option.none : Option Jvm.ClassFile.FieldType)) a0 Z = true := hw _ (List.mem_of_getElem? (i := 48) rfl)
theorem pd_7 : parseMethodDescriptor cn_5 = some ⟨[(.object cn_2), (.object cn_2), (.object cn_2)], none⟩ := by decide +kernel
theorem ww47 {Z : State} {a0 : Array Value} (hw : ∀ d ∈ tables_1, d.before a0 Z = true) : Jvm.Cond.before (Jvm.Cond.instanceMethod ({ cls := cn_0, name := "<init>", desc := cn_5 } : Jvm.MethodName)) a0 Z = true := hw _ (List.mem_of_getElem? (i := 47) rfl)
theorem ww64 {Z : State} {a0 : Array Value} (hw : ∀ d ∈ tables_1, d.before a0 Z = true) : Jvm.Cond.before (Jvm.Cond.methodLink cn_1 (31 : Nat) ({ cls := cn_1, name := "key", desc := "(I)I" } : Jvm.MethodName)) a0 Z = true := hw _ (List.mem_of_getElem? (i := 64) rfl)
theorem ww66 {Z : State} {a0 : Array Value} (hw : ∀ d ∈ tables_1, d.before a0 Z = true) : Jvm.Cond.before (Jvm.Cond.code ({ cls := cn_1, name := "key", desc := "(I)I" } : Jvm.MethodName) method_5_code (3 : Nat) (Option.some Jvm.ClassFile.FieldType.int)) a0 Z = true := hw _ (List.mem_of_getElem? (i := 66) rfl)
theorem ww65 {Z : State} {a0 : Array Value} (hw : ∀ d ∈ tables_1, d.before a0 Z = true) : Jvm.Cond.before (Jvm.Cond.static ({ cls := cn_1, name := "key", desc := "(I)I" } : Jvm.MethodName)) a0 Z = true := hw _ (List.mem_of_getElem? (i := 65) rfl)
theorem ww67 {Z : State} {a0 : Array Value} (hw : ∀ d ∈ tables_1, d.before a0 Z = true) : Jvm.Cond.before (Jvm.Cond.methodLink cn_1 (34 : Nat) ({ cls := cn_0, name := "equals", desc := cn_4 } : Jvm.MethodName)) a0 Z = true := hw _ (List.mem_of_getElem? (i := 67) rfl)
theorem ww70 {Z : State} {a0 : Array Value} (hw : ∀ d ∈ tables_1, d.before a0 Z = true) : Jvm.Cond.before (Jvm.Cond.selects cn_0 ({ cls := cn_0, name := "equals", desc := cn_4 } : Jvm.MethodName) ({ cls := cn_0, name := "equals", desc := cn_4 } : Jvm.MethodName)) a0 Z = true := hw _ (List.mem_of_getElem? (i := 70) rfl)
theorem ww71 {Z : State} {a0 : Array Value} (hw : ∀ d ∈ tables_1, d.before a0 Z = true) : Jvm.Cond.before (Jvm.Cond.code ({ cls := cn_0, name := "equals", desc := cn_4 } : Jvm.MethodName) prog_1_method_5_code (3 : Nat) (Option.some Jvm.ClassFile.FieldType.boolean)) a0 Z = true := hw _ (List.mem_of_getElem? (i := 71) rfl)
theorem ww68 {Z : State} {a0 : Array Value} (hw : ∀ d ∈ tables_1, d.before a0 Z = true) : Jvm.Cond.before (Jvm.Cond.declares ({ cls := cn_0, name := "equals", desc := cn_4 } : Jvm.MethodName)) a0 Z = true := hw _ (List.mem_of_getElem? (i := 68) rfl)
theorem ww69 {Z : State} {a0 : Array Value} (hw : ∀ d ∈ tables_1, d.before a0 Z = true) : Jvm.Cond.before (Jvm.Cond.instanceMethod ({ cls := cn_0, name := "equals", desc := cn_4 } : Jvm.MethodName)) a0 Z = true := hw _ (List.mem_of_getElem? (i := 69) rfl)
abbrev y_10 : MethodName := ⟨cn_1, "law", "(IIIIII)Z"⟩
theorem ef_law (m : MethodId) (p0 : Int32) (p1 : Int32) (p2 : Int32) (p3 : Int32) (p4 : Int32) (p5 : Int32) : entryFrame m #[(.int p0), (.int p1), (.int p2), (.int p3), (.int p4), (.int p5)] maxLocals = mkF m 0 #[.val (.int p0), .val (.int p1), .val (.int p2), .val (.int p3), .val (.int p4), .val (.int p5), .unset, .unset, .unset, .unset, .unset, .unset, .unset, .unset] [] := by first | (simp [entryFrame, mkF, argsToLocals, Value.category, maxLocals]; done) | rfl
def Q_law (Z : State) (w_COMPACT_STRINGS : Int32) (w_SIOOBE_FORMATTER : Value) (p0 : Int32) (p1 : Int32) (p2 : Int32) (p3 : Int32) (p4 : Int32) (p5 : Int32) (h0 : Heap) (n0 : Nat) (v : Option Value) (h : Heap) (L : List Loc) : Prop := v = some (.int 1) ∧ Fr n0 L
set_option maxRecDepth 65536 in
set_option maxHeartbeats 40000000 in
theorem rm_law (l : Launch) (Z : State) (a0 : Array Value) (hw : ∀ d ∈ tables_1, d.before a0 Z = true) (ws : List Jvm.Cond) (w_COMPACT_STRINGS : Int32) (w_SIOOBE_FORMATTER : Value) (p0 : Int32) (p1 : Int32) (p2 : Int32) (p3 : Int32) (p4 : Int32) (p5 : Int32) (h0 : Heap) (n0 : Nat) (Z0 : n0 ≤ h0.size) (ST : own_St Z w_COMPACT_STRINGS w_SIOOBE_FORMATTER) (O0 : Old Z n0 h0) :
    MetFree l x (head1 (Jvm.Cond.code x code maxLocals ret :: ws) room_1) (fun a U => a = #[(.int p0), (.int p1), (.int p2), (.int p3), (.int p4), (.int p5)] ∧ Z.Warmed39 U.vm ∧ U.heap = h0 ∧ CHv Z own_EL U.vm h0) (fun _ _ _ _ _ => True) (fun _ U o U' => ∃ v L, o = .returned v ∧ Q_law Z w_COMPACT_STRINGS w_SIOOBE_FORMATTER p0 p1 p2 p3 p4 p5 h0 n0 v U'.heap L ∧ CHr Z own_EL U.vm U.heap U'.vm U'.heap ∧ ReturnedEndW U o U' L 56 314) := by
  refine MetFree.of_bodySF (plainFor_of_name pn_0) hisR ?_
  intro p e s m args below meth c s₁ Bd hml0 hP hK
  obtain ⟨rfl, hZ, hh, hC⟩ := hP
  have hx := Bd.exec
  have hby := Bd.bytes
  have hml : c.maxLocals = 14 := hml0
  have hown : s.vm.findClass cn_1 = some m.cls := findClass_of_methodNamed Bd.named
  have hnm := (name_of_methodNamed Bd.named Bd.method).1
  have X0 : Stand p l e room_1 (s.setVm s.vm) m #[(.int p0), (.int p1), (.int p2), (.int p3), (.int p4), (.int p5)] below meth c s₁ [] 0 0 := Stand.of_body Bd
  have e0 : s₁.heap = h0 := by rw [← hh, Bd.state]; rfl
  have N0 := Fr.nil n0
  replace hZ : Z.Warmed39 (s.setVm s.vm).vm := hZ
  replace hown : (s.setVm s.vm).vm.findClass cn_1 = some m.cls := hown
  have hS : s.Since s.vm h0.size := (State.WarmedH.refl s).since _
  have hk0 : h0.size ≤ h0.size := Nat.le_refl _
  have C0 : CHr Z own_EL s.vm h0 s.vm h0 := CHr.refl hC
  obtain ⟨G, step, ret, fin⟩ := own_openH (p := p) (l := l) (e := e) (R := room_1) (s := s) (m := m) (args := #[(.int p0), (.int p1), (.int p2), (.int p3), (.int p4), (.int p5)]) (below := below) (meth := meth) (c := c) (56) (314) (Q_law Z w_COMPACT_STRINGS w_SIOOBE_FORMATTER p0 p1 p2 p3 p4 p5 h0 n0) (own_EW hw) hh Bd.notSynchronized
  refine fin (g := entryFrame m #[(.int p0), (.int p1), (.int p2), (.int p3), (.int p4), (.int p5)] maxLocals) ?_
  rw [ef_law m p0 p1 p2 p3 p4 p5]
  obtain ⟨ls0, hls0⟩  := own_sl #[.val (.int p0), .val (.int p1), .val (.int p2), .val (.int p3), .val (.int p4), .val (.int p5), .unset, .unset, .unset, .unset, .unset, .unset, .unset, .unset]
  suffices hG0 : G s₁ (mkF m 0 ls0 []) by rw [hls0] at hG0; exact hG0
  show G s₁ (mkF m 0 ls0 [])
  have J9 : ∀ z6 : Int32, G s₁ (mkF m 9 ls0 [(.int z6)]) := by
    intro z6
    obtain ⟨ls1, hls1⟩  := own_sl #[.val (.int p0), .val (.int p1), .val (.int p2), .val (.int p3), .val (.int p4), .val (.int p5), .val (.int z6), .unset, .unset, .unset, .unset, .unset, .unset, .unset]
    refine step (fun t k => XS.istore X0.here hx rfl (hb hby at_9) rfl (l' := ls1) (by rw [hls0, hls1]; rfl) k) ?_
    show G s₁ (mkF m 11 ls1 [])
    have J22 : ∀ z7 : Int32, G s₁ (mkF m 22 ls1 [(.int z7)]) := by
      intro z7
      obtain ⟨ls2, hls2⟩  := own_sl #[.val (.int p0), .val (.int p1), .val (.int p2), .val (.int p3), .val (.int p4), .val (.int p5), .val (.int z6), .val (.int z7), .unset, .unset, .unset, .unset, .unset, .unset]
      refine step (fun t k => XS.istore X0.here hx rfl (hb hby at_22) rfl (l' := ls2) (by rw [hls1, hls2]; rfl) k) ?_
      show G s₁ (mkF m 24 ls2 [])
      have J35 : ∀ z8 : Int32, G s₁ (mkF m 35 ls2 [(.int z8)]) := by
        intro z8
        obtain ⟨ls3, hls3⟩  := own_sl #[.val (.int p0), .val (.int p1), .val (.int p2), .val (.int p3), .val (.int p4), .val (.int p5), .val (.int z6), .val (.int z7), .val (.int z8), .unset, .unset, .unset, .unset, .unset]
        refine step (fun t k => XS.istore X0.here hx rfl (hb hby at_35) rfl (l' := ls3) (by rw [hls2, hls3]; rfl) k) ?_
        show G s₁ (mkF m 37 ls3 [])
        obtain ⟨T4, h4, X4, e4, E4, A4, D4, -, st4⟩ := newO X0 hx hZ hown (ww0 hw) (ww1 hw) (ww2 hw) e0 (g := (mkF m 37 ls3 [])) rfl (hb hby at_37) (by decide) (by decide)
        obtain ⟨b4, g4⟩ : ∃ z, z = h0.size := ⟨_, rfl⟩
        rw [← g4] at A4 D4 st4
        have cz4 : CHr Z own_EL s.vm h0 s.vm h4 := CHr.ext E4 C0.1
        have C4 : CHr Z own_EL s.vm h0 s.vm h4 := C0.trans cz4
        have ge_b4 : n0 ≤ b4 := Nat.le_trans (own_old_le O0) (Nat.le_of_eq g4.symm)
        have O4 := O0.ext E4
        have hk4 := Nat.le_trans hk0 E4.1
        have F4_identifier : Fld Z h4 b4 cn_0 "identifier" cn_3 .null := D4 (Or.inr (ww57 hw)) (ty := (.object cn_2)) (by decide)
        have F4_name : Fld Z h4 b4 cn_0 "name" cn_3 .null := D4 (Or.inr (ww60 hw)) (ty := (.object cn_2)) (by decide)
        have F4_description : Fld Z h4 b4 cn_0 "description" cn_3 .null := D4 (Or.inr (ww63 hw)) (ty := (.object cn_2)) (by decide)
        refine step st4 ?_
        show G T4 (mkF m 40 ls3 [(.ref b4)])
        refine step (fun t k => XS.dup X4.here hx rfl (hb hby at_40) rfl rfl k) ?_
        show G T4 (mkF m 41 ls3 [(.ref b4), (.ref b4)])
        refine step (fun t k => XS.iloadN X4.here hx rfl (hb hby at_41) (by rw [hls3]; rfl) k) ?_
        show G T4 (mkF m 42 ls3 [(.int p0), (.ref b4), (.ref b4)])
        have hK5 := (backOfSH (s := s) (vm0 := s.vm) (R := room_1) (p := p) (e := e) (below := below) (args := #[(.int p0), (.int p1), (.int p2), (.int p3), (.int p4), (.int p5)]) (len := 3) (W := 2) (rm_str l Z a0 hw [] w_COMPACT_STRINGS w_SIOOBE_FORMATTER p0 h4 n0 (own_old_le O4) ST O4) hZ (ww6 hw) (ww5 hw) (by decide) (by decide) (own_EW hw) C4.1)
        obtain ⟨_, _, ⟨T5, L5, k5, n5⟩, -, X5, hS5, hg5, ⟨Lc5, hQ5, l5, y5, z5, hC5⟩, st5⟩ := callSS X4 hx (y := y_5) hown (mvT hZ (ww3 hw)) (mvT hZ (ww4 hw)) (mvT hZ (ww5 hw)) (mvT hZ (ww6 hw)) (by decide) hK5 (g := (mkF m 42 ls3 [(.int p0), (.ref b4), (.ref b4)])) rfl (by rw [hml, hls3]; rfl) (argsL := [(.int p0)]) (rest := [(.ref b4), (.ref b4)]) (lenOf pd_6 rfl) rfl (by show 2 * 0 + _ ≤ _; exact Nat.le_of_eq rfl) (hb hby at_42) (fun _ _ => ⟨rfl, e4, (by decide : 1 + 6 ≤ _), (by decide : 3 + 12 ≤ _)⟩)
        dsimp only [Pt.U, Pt.locs, Pt.cells, Pt.slots] at X5 l5 y5 z5 st5 hQ5 hS5 hg5 hC5
        subst l5 y5 z5
        obtain ⟨X5, hS, hZ, hown⟩ := rebS (s := s) hS (by rw [e4]; exact hk4) X5 hS5 hg5 hZ hown
        obtain ⟨b5, t_5, kk_5, n_5, vs_5, rfl, N5q, K5q, Y5_0, Y5_1, Y5_2, Y5_3, Y5_4, Y5_5⟩ := hQ5
        have N5 := Fr.app N0 N5q
        obtain ⟨lc5, X5, N5⟩ := own_gen X5 N5
        have cz5 : CHr Z own_EL s.vm h4 T5.vm T5.heap := hC5
        have C5 : CHr Z own_EL s.vm h0 T5.vm T5.heap := C4.trans cz5
        have O5 := O4.keep K5q all0
        have ge_b5 : n0 ≤ b5 := Nat.le_trans (own_old_le O4) Y5_0
        have lt_b4_b5 : b4 < b5 := Nat.lt_of_lt_of_le A4.lt Y5_0
        have hk5 : _ ≤ T5.heap.size := Nat.le_refl _
        have f6 := (Exa.keep A4 K5q)
        have ne_b4_t_5 : b4 ≠ t_5 := own_ne_arv f6 (ww1 hw) Y5_4
        refine step (fun t k => st5.trans k) ?_
        show G T5 (mkF m 45 ls3 [(.ref b5), (.ref b4), (.ref b4)])
        refine step (fun t k => XS.iloadN X5.here hx rfl (hb hby at_45) (by rw [hls3]; rfl) k) ?_
        show G T5 (mkF m 46 ls3 [(.int p1), (.ref b5), (.ref b4), (.ref b4)])
        have hK7 := (backOfSH (s := s) (vm0 := T5.vm) (R := room_1) (p := p) (e := e) (below := below) (args := #[(.int p0), (.int p1), (.int p2), (.int p3), (.int p4), (.int p5)]) (len := 3) (W := 3) (rm_str l Z a0 hw [] w_COMPACT_STRINGS w_SIOOBE_FORMATTER p1 T5.heap n0 (own_old_le O5) ST O5) hZ (ww6 hw) (ww5 hw) (by decide) (by decide) (own_EW hw) C5.1)
        obtain ⟨_, _, ⟨T7, L7, k7, n7⟩, -, X7, hS7, hg7, ⟨Lc7, hQ7, l7, y7, z7, hC7⟩, st7⟩ := callSS X5 hx (y := y_5) hown (mvT hZ (ww3 hw)) (mvT hZ (ww4 hw)) (mvT hZ (ww5 hw)) (mvT hZ (ww6 hw)) (by decide) hK7 (g := (mkF m 46 ls3 [(.int p1), (.ref b5), (.ref b4), (.ref b4)])) rfl (by rw [hml, hls3]; rfl) (argsL := [(.int p1)]) (rest := [(.ref b5), (.ref b4), (.ref b4)]) (lenOf pd_6 rfl) rfl (by show 2 * 0 + _ ≤ _; exact Nat.le_of_eq rfl) (hb hby at_46) (fun _ _ => ⟨rfl, rfl, (by decide : 7 + 6 ≤ _), (by decide : 15 + 12 ≤ _)⟩)
        dsimp only [Pt.U, Pt.locs, Pt.cells, Pt.slots] at X7 l7 y7 z7 st7 hQ7 hS7 hg7 hC7
        subst l7 y7 z7
        obtain ⟨X7, hS, hZ, hown⟩ := rebS (s := s) hS hk5 X7 hS7 hg7 hZ hown
        obtain ⟨b7, t_7, kk_7, n_7, vs_7, rfl, N7q, K7q, Y7_0, Y7_1, Y7_2, Y7_3, Y7_4, Y7_5⟩ := hQ7
        have N7 := Fr.app N5 N7q
        obtain ⟨lc7, X7, N7⟩ := own_gen X7 N7
        have cz7 : CHr Z own_EL T5.vm T5.heap T7.vm T7.heap := hC7
        have C7 : CHr Z own_EL s.vm h0 T7.vm T7.heap := C5.trans cz7
        have O7 := O5.keep K7q all0
        have ge_b7 : n0 ≤ b7 := Nat.le_trans (own_old_le O5) Y7_0
        have lt_b4_b7 : b4 < b7 := Nat.lt_of_lt_of_le f6.lt Y7_0
        have lt_b5_b7 : b5 < b7 := Nat.lt_of_lt_of_le Y5_1.lt Y7_0
        have lt_t_5_b7 : t_5 < b7 := Nat.lt_of_lt_of_le Y5_4.lt Y7_0
        have hk7 : _ ≤ T7.heap.size := Nat.le_refl _
        have f8 := (Exa.keep f6 K7q)
        have ne_b4_t_7 : b4 ≠ t_7 := own_ne_arv f8 (ww1 hw) Y7_4
        refine step (fun t k => st7.trans k) ?_
        show G T7 (mkF m 49 ls3 [(.ref b7), (.ref b5), (.ref b4), (.ref b4)])
        refine step (fun t k => XS.iloadN X7.here hx rfl (hb hby at_49) (by rw [hls3]; rfl) k) ?_
        show G T7 (mkF m 50 ls3 [(.int p2), (.ref b7), (.ref b5), (.ref b4), (.ref b4)])
        have hK9 := (backOfSH (s := s) (vm0 := T7.vm) (R := room_1) (p := p) (e := e) (below := below) (args := #[(.int p0), (.int p1), (.int p2), (.int p3), (.int p4), (.int p5)]) (len := 3) (W := 4) (rm_str l Z a0 hw [] w_COMPACT_STRINGS w_SIOOBE_FORMATTER p2 T7.heap n0 (own_old_le O7) ST O7) hZ (ww6 hw) (ww5 hw) (by decide) (by decide) (own_EW hw) C7.1)
        obtain ⟨_, _, ⟨T9, L9, k9, n9⟩, -, X9, hS9, hg9, ⟨Lc9, hQ9, l9, y9, z9, hC9⟩, st9⟩ := callSS X7 hx (y := y_5) hown (mvT hZ (ww3 hw)) (mvT hZ (ww4 hw)) (mvT hZ (ww5 hw)) (mvT hZ (ww6 hw)) (by decide) hK9 (g := (mkF m 50 ls3 [(.int p2), (.ref b7), (.ref b5), (.ref b4), (.ref b4)])) rfl (by rw [hml, hls3]; rfl) (argsL := [(.int p2)]) (rest := [(.ref b7), (.ref b5), (.ref b4), (.ref b4)]) (lenOf pd_6 rfl) rfl (by show 2 * 0 + _ ≤ _; exact Nat.le_of_eq rfl) (hb hby at_50) (fun _ _ => ⟨rfl, rfl, (by decide : 13 + 6 ≤ _), (by decide : 27 + 12 ≤ _)⟩)
        dsimp only [Pt.U, Pt.locs, Pt.cells, Pt.slots] at X9 l9 y9 z9 st9 hQ9 hS9 hg9 hC9
        subst l9 y9 z9
        obtain ⟨X9, hS, hZ, hown⟩ := rebS (s := s) hS hk7 X9 hS9 hg9 hZ hown
        have f10 := (Exa.keep Y5_1 K7q)
        have f11 := (Arv.keep Y5_4 K7q nin0)
        obtain ⟨b9, t_9, kk_9, n_9, vs_9, rfl, N9q, K9q, Y9_0, Y9_1, Y9_2, Y9_3, Y9_4, Y9_5⟩ := hQ9
        have N9 := Fr.app N7 N9q
        obtain ⟨lc9, X9, N9⟩ := own_gen X9 N9
        have cz9 : CHr Z own_EL T7.vm T7.heap T9.vm T9.heap := hC9
        have C9 : CHr Z own_EL s.vm h0 T9.vm T9.heap := C7.trans cz9
        have O9 := O7.keep K9q all0
        have ge_b9 : n0 ≤ b9 := Nat.le_trans (own_old_le O7) Y9_0
        have lt_b4_b9 : b4 < b9 := Nat.lt_of_lt_of_le f8.lt Y9_0
        have lt_b5_b9 : b5 < b9 := Nat.lt_of_lt_of_le f10.lt Y9_0
        have lt_b7_b9 : b7 < b9 := Nat.lt_of_lt_of_le Y7_1.lt Y9_0
        have lt_t_5_b9 : t_5 < b9 := Nat.lt_of_lt_of_le f11.lt Y9_0
        have lt_t_7_b9 : t_7 < b9 := Nat.lt_of_lt_of_le Y7_4.lt Y9_0
        have hk9 : _ ≤ T9.heap.size := Nat.le_refl _
        have f12 := (Exa.keep f8 K9q)
        have ne_b4_t_9 : b4 ≠ t_9 := own_ne_arv f12 (ww1 hw) Y9_4
        refine step (fun t k => st9.trans k) ?_
        show G T9 (mkF m 53 ls3 [(.ref b9), (.ref b7), (.ref b5), (.ref b4), (.ref b4)])
        have f14 := (Fld.keep (Fld.keep (Fld.keep F4_identifier K5q nin0) K7q nin0) K9q nin0)
        have f15 := (Fld.keep (Fld.keep (Fld.keep F4_name K5q nin0) K7q nin0) K9q nin0)
        have f16 := (Fld.keep (Fld.keep (Fld.keep F4_description K5q nin0) K7q nin0) K9q nin0)
        have f17 := (Exa.keep f10 K9q)
        have f18 := (Exa.keep Y7_1 K9q)
        have hK13 := (backOfSH (s := s) (vm0 := T9.vm) (R := room_1) (p := p) (e := e) (below := below) (args := #[(.int p0), (.int p1), (.int p2), (.int p3), (.int p4), (.int p5)]) (len := 3) (W := 1) (rm_ai l Z a0 hw [] w_COMPACT_STRINGS w_SIOOBE_FORMATTER b4 b5 b7 b9 T9.heap n0 (own_old_le O9) ST O9 f12 ge_b4 f14 f15 f16 f17 f18 Y9_1) hZ (ww48 hw) (ww2 hw) (by decide) (by decide) (own_EW hw) C9.1)
        obtain ⟨_, _, ⟨T13, L13, k13, n13⟩, -, X13, hS13, hg13, ⟨Lc13, hQ13, l13, y13, z13, hC13⟩, st13⟩ := X9.specialBackS hx (y := y_7) rfl hown (mvT hZ (ww46 hw)) (mvT hZ (ww47 hw)) (mvT hZ (ww48 hw)) (by decide) hK13 (g := (mkF m 53 ls3 [(.ref b9), (.ref b7), (.ref b5), (.ref b4), (.ref b4)])) rfl (by rw [hml, hls3]; rfl) (Steps.refl _) (a := b4) (argsL := [(.ref b5), (.ref b7), (.ref b9)]) (rest := [(.ref b4)]) (lenOf pd_7 rfl) rfl (by show 2 * 0 + _ ≤ _; exact Nat.le_of_eq rfl) (hb hby at_53) (fun _ _ => ⟨rfl, rfl, (by decide : 19 + 6 ≤ _), (by decide : 39 + 112 ≤ _)⟩)
        dsimp only [Pt.U, Pt.locs, Pt.cells, Pt.slots] at X13 l13 y13 z13 st13 hQ13 hS13 hg13 hC13
        subst l13 y13 z13
        obtain ⟨X13, hS, hZ, hown⟩ := rebS (s := s) hS hk9 X13 hS13 hg13 hZ hown
        obtain ⟨rfl, N13q, K13q, Y13_0, Y13_1, Y13_2, Y13_3⟩ := hQ13
        have N13 := Fr.app N9 N13q
        obtain ⟨lc13, X13, N13⟩ := own_gen X13 N13
        have cz13 : CHr Z own_EL T9.vm T9.heap T13.vm T13.heap := hC13
        have C13 : CHr Z own_EL s.vm h0 T13.vm T13.heap := C9.trans cz13
        have O13 := O9.keep K13q (allS ge_b4 all0)
        have hk13 : _ ≤ T13.heap.size := Nat.le_refl _
        refine step (fun t k => st13.trans k) ?_
        show G T13 (mkF m 56 ls3 [(.ref b4)])
        obtain ⟨ls19, hls19⟩  := own_sl #[.val (.int p0), .val (.int p1), .val (.int p2), .val (.int p3), .val (.int p4), .val (.int p5), .val (.int z6), .val (.int z7), .val (.int z8), .val (.ref b4), .unset, .unset, .unset, .unset]
        refine step (fun t k => XS.astore X13.here hx rfl (hb hby at_56) rfl rfl (l' := ls19) (by rw [hls3, hls19]; rfl) k) ?_
        show G T13 (mkF m 58 ls19 [])
        have f21 := (Exa.keep f17 K13q)
        have f22 := (Exa.keep f18 K13q)
        have f23 := (Exa.keep Y9_1 K13q)
        have f24 := (Arv.keep (Arv.keep f11 K9q nin0) K13q (ninS (Ne.symm ne_b4_t_5) nin0))
        have f25 := (Arv.keep (Arv.keep Y7_4 K9q nin0) K13q (ninS (Ne.symm ne_b4_t_7) nin0))
        have f26 := (Arv.keep Y9_4 K13q (ninS (Ne.symm ne_b4_t_9) nin0))
        obtain ⟨T20, h20, X20, e20, E20, A20, D20, -, st20⟩ := newO X13 hx hZ hown (ww0 hw) (ww1 hw) (ww2 hw) rfl (g := (mkF m 58 ls19 [])) rfl (hb hby at_58) (by decide) (by decide)
        obtain ⟨b20, g20⟩ : ∃ z, z = T13.heap.size := ⟨_, rfl⟩
        rw [← g20] at A20 D20 st20
        have cz20 : CHr Z own_EL T13.vm T13.heap T13.vm h20 := CHr.ext E20 C13.1
        have C20 : CHr Z own_EL s.vm h0 T13.vm h20 := C13.trans cz20
        have ge_b20 : n0 ≤ b20 := Nat.le_trans (own_old_le O13) (Nat.le_of_eq g20.symm)
        have lt_b4_b20 : b4 < b20 := Nat.lt_of_lt_of_le Y13_0.lt (Nat.le_of_eq g20.symm)
        have lt_b5_b20 : b5 < b20 := Nat.lt_of_lt_of_le f21.lt (Nat.le_of_eq g20.symm)
        have lt_b7_b20 : b7 < b20 := Nat.lt_of_lt_of_le f22.lt (Nat.le_of_eq g20.symm)
        have lt_b9_b20 : b9 < b20 := Nat.lt_of_lt_of_le f23.lt (Nat.le_of_eq g20.symm)
        have lt_t_5_b20 : t_5 < b20 := Nat.lt_of_lt_of_le f24.lt (Nat.le_of_eq g20.symm)
        have lt_t_7_b20 : t_7 < b20 := Nat.lt_of_lt_of_le f25.lt (Nat.le_of_eq g20.symm)
        have lt_t_9_b20 : t_9 < b20 := Nat.lt_of_lt_of_le f26.lt (Nat.le_of_eq g20.symm)
        have O20 := O13.ext E20
        have hk20 := Nat.le_trans hk13 E20.1
        have F20_identifier : Fld Z h20 b20 cn_0 "identifier" cn_3 .null := D20 (Or.inr (ww57 hw)) (ty := (.object cn_2)) (by decide)
        have F20_name : Fld Z h20 b20 cn_0 "name" cn_3 .null := D20 (Or.inr (ww60 hw)) (ty := (.object cn_2)) (by decide)
        have F20_description : Fld Z h20 b20 cn_0 "description" cn_3 .null := D20 (Or.inr (ww63 hw)) (ty := (.object cn_2)) (by decide)
        refine step st20 ?_
        show G T20 (mkF m 61 ls19 [(.ref b20)])
        refine step (fun t k => XS.dup X20.here hx rfl (hb hby at_61) rfl rfl k) ?_
        show G T20 (mkF m 62 ls19 [(.ref b20), (.ref b20)])
        refine step (fun t k => XS.iload X20.here hx rfl (hb hby at_62) (by rw [hls19]; rfl) k) ?_
        show G T20 (mkF m 64 ls19 [(.int z6), (.ref b20), (.ref b20)])
        have hK27 := (backOfSH (s := s) (vm0 := T13.vm) (R := room_1) (p := p) (e := e) (below := below) (args := #[(.int p0), (.int p1), (.int p2), (.int p3), (.int p4), (.int p5)]) (len := 3) (W := 2) (rm_str l Z a0 hw [] w_COMPACT_STRINGS w_SIOOBE_FORMATTER z6 h20 n0 (own_old_le O20) ST O20) hZ (ww6 hw) (ww5 hw) (by decide) (by decide) (own_EW hw) C20.1)
        obtain ⟨_, _, ⟨T27, L27, k27, n27⟩, -, X27, hS27, hg27, ⟨Lc27, hQ27, l27, y27, z27, hC27⟩, st27⟩ := callSS X20 hx (y := y_5) hown (mvT hZ (ww3 hw)) (mvT hZ (ww4 hw)) (mvT hZ (ww5 hw)) (mvT hZ (ww6 hw)) (by decide) hK27 (g := (mkF m 64 ls19 [(.int z6), (.ref b20), (.ref b20)])) rfl (by rw [hml, hls19]; rfl) (argsL := [(.int z6)]) (rest := [(.ref b20), (.ref b20)]) (lenOf pd_6 rfl) rfl (by show 2 * 0 + _ ≤ _; exact Nat.le_of_eq rfl) (hb hby at_64) (fun _ _ => ⟨rfl, e20, (by decide : 26 + 6 ≤ _), (by decide : 154 + 12 ≤ _)⟩)
        dsimp only [Pt.U, Pt.locs, Pt.cells, Pt.slots] at X27 l27 y27 z27 st27 hQ27 hS27 hg27 hC27
        subst l27 y27 z27
        obtain ⟨X27, hS, hZ, hown⟩ := rebS (s := s) hS (by rw [e20]; exact hk20) X27 hS27 hg27 hZ hown
        have f28 := (Exa.ext E20 Y13_0)
        have f29 := (Exa.ext E20 f21)
        have f30 := (Exa.ext E20 f22)
        have f31 := (Exa.ext E20 f23)
        have f32 := (f24.ext E20)
        have f33 := (f25.ext E20)
        have f34 := (f26.ext E20)
        obtain ⟨b27, t_27, kk_27, n_27, vs_27, rfl, N27q, K27q, Y27_0, Y27_1, Y27_2, Y27_3, Y27_4, Y27_5⟩ := hQ27
        have N27 := Fr.app N13 N27q
        obtain ⟨lc27, X27, N27⟩ := own_gen X27 N27
        have cz27 : CHr Z own_EL T13.vm h20 T27.vm T27.heap := hC27
        have C27 : CHr Z own_EL s.vm h0 T27.vm T27.heap := C20.trans cz27
        have O27 := O20.keep K27q all0
        have ge_b27 : n0 ≤ b27 := Nat.le_trans (own_old_le O20) Y27_0
        have lt_b20_b27 : b20 < b27 := Nat.lt_of_lt_of_le A20.lt Y27_0
        have lt_b4_b27 : b4 < b27 := Nat.lt_of_lt_of_le f28.lt Y27_0
        have lt_b5_b27 : b5 < b27 := Nat.lt_of_lt_of_le f29.lt Y27_0
        have lt_b7_b27 : b7 < b27 := Nat.lt_of_lt_of_le f30.lt Y27_0
        have lt_b9_b27 : b9 < b27 := Nat.lt_of_lt_of_le f31.lt Y27_0
        have lt_t_5_b27 : t_5 < b27 := Nat.lt_of_lt_of_le f32.lt Y27_0
        have lt_t_7_b27 : t_7 < b27 := Nat.lt_of_lt_of_le f33.lt Y27_0
        have lt_t_9_b27 : t_9 < b27 := Nat.lt_of_lt_of_le f34.lt Y27_0
        have hk27 : _ ≤ T27.heap.size := Nat.le_refl _
        have f35 := (Exa.keep f28 K27q)
        have ne_b4_t_27 : b4 ≠ t_27 := own_ne_arv f35 (ww1 hw) Y27_4
        have f36 := (Exa.keep A20 K27q)
        have ne_b20_t_27 : b20 ≠ t_27 := own_ne_arv f36 (ww1 hw) Y27_4
        refine step (fun t k => st27.trans k) ?_
        show G T27 (mkF m 67 ls19 [(.ref b27), (.ref b20), (.ref b20)])
        refine step (fun t k => XS.iload X27.here hx rfl (hb hby at_67) (by rw [hls19]; rfl) k) ?_
        show G T27 (mkF m 69 ls19 [(.int z7), (.ref b27), (.ref b20), (.ref b20)])
        have hK37 := (backOfSH (s := s) (vm0 := T27.vm) (R := room_1) (p := p) (e := e) (below := below) (args := #[(.int p0), (.int p1), (.int p2), (.int p3), (.int p4), (.int p5)]) (len := 3) (W := 3) (rm_str l Z a0 hw [] w_COMPACT_STRINGS w_SIOOBE_FORMATTER z7 T27.heap n0 (own_old_le O27) ST O27) hZ (ww6 hw) (ww5 hw) (by decide) (by decide) (own_EW hw) C27.1)
        obtain ⟨_, _, ⟨T37, L37, k37, n37⟩, -, X37, hS37, hg37, ⟨Lc37, hQ37, l37, y37, z37, hC37⟩, st37⟩ := callSS X27 hx (y := y_5) hown (mvT hZ (ww3 hw)) (mvT hZ (ww4 hw)) (mvT hZ (ww5 hw)) (mvT hZ (ww6 hw)) (by decide) hK37 (g := (mkF m 69 ls19 [(.int z7), (.ref b27), (.ref b20), (.ref b20)])) rfl (by rw [hml, hls19]; rfl) (argsL := [(.int z7)]) (rest := [(.ref b27), (.ref b20), (.ref b20)]) (lenOf pd_6 rfl) rfl (by show 2 * 0 + _ ≤ _; exact Nat.le_of_eq rfl) (hb hby at_69) (fun _ _ => ⟨rfl, rfl, (by decide : 32 + 6 ≤ _), (by decide : 166 + 12 ≤ _)⟩)
        dsimp only [Pt.U, Pt.locs, Pt.cells, Pt.slots] at X37 l37 y37 z37 st37 hQ37 hS37 hg37 hC37
        subst l37 y37 z37
        obtain ⟨X37, hS, hZ, hown⟩ := rebS (s := s) hS hk27 X37 hS37 hg37 hZ hown
        have f38 := (Exa.keep f29 K27q)
        have f39 := (Exa.keep f30 K27q)
        have f40 := (Exa.keep f31 K27q)
        have f41 := (Arv.keep f32 K27q nin0)
        have f42 := (Arv.keep f33 K27q nin0)
        have f43 := (Arv.keep f34 K27q nin0)
        obtain ⟨b37, t_37, kk_37, n_37, vs_37, rfl, N37q, K37q, Y37_0, Y37_1, Y37_2, Y37_3, Y37_4, Y37_5⟩ := hQ37
        have N37 := Fr.app N27 N37q
        obtain ⟨lc37, X37, N37⟩ := own_gen X37 N37
        have cz37 : CHr Z own_EL T27.vm T27.heap T37.vm T37.heap := hC37
        have C37 : CHr Z own_EL s.vm h0 T37.vm T37.heap := C27.trans cz37
        have O37 := O27.keep K37q all0
        have ge_b37 : n0 ≤ b37 := Nat.le_trans (own_old_le O27) Y37_0
        have lt_b20_b37 : b20 < b37 := Nat.lt_of_lt_of_le f36.lt Y37_0
        have lt_b27_b37 : b27 < b37 := Nat.lt_of_lt_of_le Y27_1.lt Y37_0
        have lt_b4_b37 : b4 < b37 := Nat.lt_of_lt_of_le f35.lt Y37_0
        have lt_b5_b37 : b5 < b37 := Nat.lt_of_lt_of_le f38.lt Y37_0
        have lt_b7_b37 : b7 < b37 := Nat.lt_of_lt_of_le f39.lt Y37_0
        have lt_b9_b37 : b9 < b37 := Nat.lt_of_lt_of_le f40.lt Y37_0
        have lt_t_27_b37 : t_27 < b37 := Nat.lt_of_lt_of_le Y27_4.lt Y37_0
        have lt_t_5_b37 : t_5 < b37 := Nat.lt_of_lt_of_le f41.lt Y37_0
        have lt_t_7_b37 : t_7 < b37 := Nat.lt_of_lt_of_le f42.lt Y37_0
        have lt_t_9_b37 : t_9 < b37 := Nat.lt_of_lt_of_le f43.lt Y37_0
        have hk37 : _ ≤ T37.heap.size := Nat.le_refl _
        have f44 := (Exa.keep f35 K37q)
        have ne_b4_t_37 : b4 ≠ t_37 := own_ne_arv f44 (ww1 hw) Y37_4
        have f45 := (Exa.keep f36 K37q)
        have ne_b20_t_37 : b20 ≠ t_37 := own_ne_arv f45 (ww1 hw) Y37_4
        refine step (fun t k => st37.trans k) ?_
        show G T37 (mkF m 72 ls19 [(.ref b37), (.ref b27), (.ref b20), (.ref b20)])
        refine step (fun t k => XS.iload X37.here hx rfl (hb hby at_72) (by rw [hls19]; rfl) k) ?_
        show G T37 (mkF m 74 ls19 [(.int z8), (.ref b37), (.ref b27), (.ref b20), (.ref b20)])
        have hK46 := (backOfSH (s := s) (vm0 := T37.vm) (R := room_1) (p := p) (e := e) (below := below) (args := #[(.int p0), (.int p1), (.int p2), (.int p3), (.int p4), (.int p5)]) (len := 3) (W := 4) (rm_str l Z a0 hw [] w_COMPACT_STRINGS w_SIOOBE_FORMATTER z8 T37.heap n0 (own_old_le O37) ST O37) hZ (ww6 hw) (ww5 hw) (by decide) (by decide) (own_EW hw) C37.1)
        obtain ⟨_, _, ⟨T46, L46, k46, n46⟩, -, X46, hS46, hg46, ⟨Lc46, hQ46, l46, y46, z46, hC46⟩, st46⟩ := callSS X37 hx (y := y_5) hown (mvT hZ (ww3 hw)) (mvT hZ (ww4 hw)) (mvT hZ (ww5 hw)) (mvT hZ (ww6 hw)) (by decide) hK46 (g := (mkF m 74 ls19 [(.int z8), (.ref b37), (.ref b27), (.ref b20), (.ref b20)])) rfl (by rw [hml, hls19]; rfl) (argsL := [(.int z8)]) (rest := [(.ref b37), (.ref b27), (.ref b20), (.ref b20)]) (lenOf pd_6 rfl) rfl (by show 2 * 0 + _ ≤ _; exact Nat.le_of_eq rfl) (hb hby at_74) (fun _ _ => ⟨rfl, rfl, (by decide : 38 + 6 ≤ _), (by decide : 178 + 12 ≤ _)⟩)
        dsimp only [Pt.U, Pt.locs, Pt.cells, Pt.slots] at X46 l46 y46 z46 st46 hQ46 hS46 hg46 hC46
        subst l46 y46 z46
        obtain ⟨X46, hS, hZ, hown⟩ := rebS (s := s) hS hk37 X46 hS46 hg46 hZ hown
        have f47 := (Exa.keep Y27_1 K37q)
        have f48 := (Exa.keep f38 K37q)
        have f49 := (Exa.keep f39 K37q)
        have f50 := (Exa.keep f40 K37q)
        have f51 := (Arv.keep Y27_4 K37q nin0)
        have f52 := (Arv.keep f41 K37q nin0)
        have f53 := (Arv.keep f42 K37q nin0)
        have f54 := (Arv.keep f43 K37q nin0)
        obtain ⟨b46, t_46, kk_46, n_46, vs_46, rfl, N46q, K46q, Y46_0, Y46_1, Y46_2, Y46_3, Y46_4, Y46_5⟩ := hQ46
        have N46 := Fr.app N37 N46q
        obtain ⟨lc46, X46, N46⟩ := own_gen X46 N46
        have cz46 : CHr Z own_EL T37.vm T37.heap T46.vm T46.heap := hC46
        have C46 : CHr Z own_EL s.vm h0 T46.vm T46.heap := C37.trans cz46
        have O46 := O37.keep K46q all0
        have ge_b46 : n0 ≤ b46 := Nat.le_trans (own_old_le O37) Y46_0
        have lt_b20_b46 : b20 < b46 := Nat.lt_of_lt_of_le f45.lt Y46_0
        have lt_b27_b46 : b27 < b46 := Nat.lt_of_lt_of_le f47.lt Y46_0
        have lt_b37_b46 : b37 < b46 := Nat.lt_of_lt_of_le Y37_1.lt Y46_0
        have lt_b4_b46 : b4 < b46 := Nat.lt_of_lt_of_le f44.lt Y46_0
        have lt_b5_b46 : b5 < b46 := Nat.lt_of_lt_of_le f48.lt Y46_0
        have lt_b7_b46 : b7 < b46 := Nat.lt_of_lt_of_le f49.lt Y46_0
        have lt_b9_b46 : b9 < b46 := Nat.lt_of_lt_of_le f50.lt Y46_0
        have lt_t_27_b46 : t_27 < b46 := Nat.lt_of_lt_of_le f51.lt Y46_0
        have lt_t_37_b46 : t_37 < b46 := Nat.lt_of_lt_of_le Y37_4.lt Y46_0
        have lt_t_5_b46 : t_5 < b46 := Nat.lt_of_lt_of_le f52.lt Y46_0
        have lt_t_7_b46 : t_7 < b46 := Nat.lt_of_lt_of_le f53.lt Y46_0
        have lt_t_9_b46 : t_9 < b46 := Nat.lt_of_lt_of_le f54.lt Y46_0
        have hk46 : _ ≤ T46.heap.size := Nat.le_refl _
        have f55 := (Exa.keep f44 K46q)
        have ne_b4_t_46 : b4 ≠ t_46 := own_ne_arv f55 (ww1 hw) Y46_4
        have f56 := (Exa.keep f45 K46q)
        have ne_b20_t_46 : b20 ≠ t_46 := own_ne_arv f56 (ww1 hw) Y46_4
        refine step (fun t k => st46.trans k) ?_
        show G T46 (mkF m 77 ls19 [(.ref b46), (.ref b37), (.ref b27), (.ref b20), (.ref b20)])
        have f58 := (Fld.keep (Fld.keep (Fld.keep F20_identifier K27q nin0) K37q nin0) K46q nin0)
        have f59 := (Fld.keep (Fld.keep (Fld.keep F20_name K27q nin0) K37q nin0) K46q nin0)
        have f60 := (Fld.keep (Fld.keep (Fld.keep F20_description K27q nin0) K37q nin0) K46q nin0)
        have f61 := (Exa.keep f47 K46q)
        have f62 := (Exa.keep Y37_1 K46q)
        have hK57 := (backOfSH (s := s) (vm0 := T46.vm) (R := room_1) (p := p) (e := e) (below := below) (args := #[(.int p0), (.int p1), (.int p2), (.int p3), (.int p4), (.int p5)]) (len := 3) (W := 1) (rm_ai l Z a0 hw [] w_COMPACT_STRINGS w_SIOOBE_FORMATTER b20 b27 b37 b46 T46.heap n0 (own_old_le O46) ST O46 f56 ge_b20 f58 f59 f60 f61 f62 Y46_1) hZ (ww48 hw) (ww2 hw) (by decide) (by decide) (own_EW hw) C46.1)
        obtain ⟨_, _, ⟨T57, L57, k57, n57⟩, -, X57, hS57, hg57, ⟨Lc57, hQ57, l57, y57, z57, hC57⟩, st57⟩ := X46.specialBackS hx (y := y_7) rfl hown (mvT hZ (ww46 hw)) (mvT hZ (ww47 hw)) (mvT hZ (ww48 hw)) (by decide) hK57 (g := (mkF m 77 ls19 [(.ref b46), (.ref b37), (.ref b27), (.ref b20), (.ref b20)])) rfl (by rw [hml, hls19]; rfl) (Steps.refl _) (a := b20) (argsL := [(.ref b27), (.ref b37), (.ref b46)]) (rest := [(.ref b20)]) (lenOf pd_7 rfl) rfl (by show 2 * 0 + _ ≤ _; exact Nat.le_of_eq rfl) (hb hby at_77) (fun _ _ => ⟨rfl, rfl, (by decide : 44 + 6 ≤ _), (by decide : 190 + 112 ≤ _)⟩)
        dsimp only [Pt.U, Pt.locs, Pt.cells, Pt.slots] at X57 l57 y57 z57 st57 hQ57 hS57 hg57 hC57
        subst l57 y57 z57
        obtain ⟨X57, hS, hZ, hown⟩ := rebS (s := s) hS hk46 X57 hS57 hg57 hZ hown
        obtain ⟨rfl, N57q, K57q, Y57_0, Y57_1, Y57_2, Y57_3⟩ := hQ57
        have N57 := Fr.app N46 N57q
        obtain ⟨lc57, X57, N57⟩ := own_gen X57 N57
        have cz57 : CHr Z own_EL T46.vm T46.heap T57.vm T57.heap := hC57
        have C57 : CHr Z own_EL s.vm h0 T57.vm T57.heap := C46.trans cz57
        have O57 := O46.keep K57q (allS ge_b20 all0)
        have hk57 : _ ≤ T57.heap.size := Nat.le_refl _
        refine step (fun t k => st57.trans k) ?_
        show G T57 (mkF m 80 ls19 [(.ref b20)])
        obtain ⟨ls63, hls63⟩  := own_sl #[.val (.int p0), .val (.int p1), .val (.int p2), .val (.int p3), .val (.int p4), .val (.int p5), .val (.int z6), .val (.int z7), .val (.int z8), .val (.ref b4), .val (.ref b20), .unset, .unset, .unset]
        refine step (fun t k => XS.astore X57.here hx rfl (hb hby at_80) rfl rfl (l' := ls63) (by rw [hls19, hls63]; rfl) k) ?_
        show G T57 (mkF m 82 ls63 [])
        refine step (fun t k => XS.iloadN X57.here hx rfl (hb hby at_82) (by rw [hls63]; rfl) k) ?_
        show G T57 (mkF m 83 ls63 [(.int p0)])
        have hK64 := (backOf (R := room_1) (p := p) (e := e) (below := below) (args := #[(.int p0), (.int p1), (.int p2), (.int p3), (.int p4), (.int p5)]) (len := 3) (W := 0) (rm_key l Z a0 hw [] p0 T57.heap n0 (own_old_le O57) O57) hZ (ww66 hw) (ww5 hw) (by decide) (by decide))
        obtain ⟨_, _, ⟨T64, L64, k64, n64⟩, -, X64, ⟨Lc64, hQ64, l64, y64, z64⟩, st64⟩ := Jvm.LawKit.callS X57 hx (y := y_2) hown (mvT hZ (ww64 hw)) (mvT hZ (ww65 hw)) (mvT hZ (ww5 hw)) (mvT hZ (ww66 hw)) (by decide) hK64 (g := (mkF m 83 ls63 [(.int p0)])) rfl (by rw [hml, hls63]; rfl) (argsL := [(.int p0)]) (rest := []) (lenOf pd_0 rfl) rfl (by show 2 * 0 + _ ≤ _; exact Nat.le_of_eq rfl) (hb hby at_83) (fun _ _ => ⟨rfl, rfl, (by decide : 50 + 0 ≤ _), (by decide : 302 + 0 ≤ _)⟩)
        dsimp only [Pt.U, Pt.locs, Pt.cells, Pt.slots] at X64 l64 y64 z64 st64 hQ64
        subst l64 y64 z64
        obtain ⟨rfl, N64q, e64⟩ := hQ64
        have N64 := Fr.app N57 N64q
        obtain ⟨lc64, X64, N64⟩ := own_gen X64 N64
        refine step (fun t k => st64 t k) ?_
        show G T64 (mkF m 86 ls63 [(.int (f_key p0))])
        refine step (fun t k => XS.iload X64.here hx rfl (hb hby at_86) (by rw [hls63]; rfl) k) ?_
        show G T64 (mkF m 88 ls63 [(.int z6), (.int (f_key p0))])
        have hK65 := (backOf (R := room_1) (p := p) (e := e) (below := below) (args := #[(.int p0), (.int p1), (.int p2), (.int p3), (.int p4), (.int p5)]) (len := 3) (W := 1) (rm_key l Z a0 hw [] z6 T57.heap n0 (own_old_le O57) O57) hZ (ww66 hw) (ww5 hw) (by decide) (by decide))
        obtain ⟨_, _, ⟨T65, L65, k65, n65⟩, -, X65, ⟨Lc65, hQ65, l65, y65, z65⟩, st65⟩ := Jvm.LawKit.callS X64 hx (y := y_2) hown (mvT hZ (ww64 hw)) (mvT hZ (ww65 hw)) (mvT hZ (ww5 hw)) (mvT hZ (ww66 hw)) (by decide) hK65 (g := (mkF m 88 ls63 [(.int z6), (.int (f_key p0))])) rfl (by rw [hml, hls63]; rfl) (argsL := [(.int z6)]) (rest := [(.int (f_key p0))]) (lenOf pd_0 rfl) rfl (by show 2 * 0 + _ ≤ _; exact Nat.le_of_eq rfl) (hb hby at_88) (fun _ _ => ⟨rfl, e64, (by decide : 50 + 0 ≤ _), (by decide : 302 + 0 ≤ _)⟩)
        dsimp only [Pt.U, Pt.locs, Pt.cells, Pt.slots] at X65 l65 y65 z65 st65 hQ65
        subst l65 y65 z65
        obtain ⟨rfl, N65q, e65⟩ := hQ65
        have N65 := Fr.app N64 N65q
        obtain ⟨lc65, X65, N65⟩ := own_gen X65 N65
        refine step (fun t k => st65 t k) ?_
        show G T65 (mkF m 91 ls63 [(.int (f_key z6)), (.int (f_key p0))])
        by_cases hc66 : (f_key p0) = (f_key z6)
        · skip
          refine step (fun t k => XS.icmpNo X65.here hx rfl (hb hby at_91) rfl (teq hc66).2 k) ?_
          show G T65 (mkF m 94 ls63 [])
          refine step (fun t k => XS.iloadN X65.here hx rfl (hb hby at_94) (by rw [hls63]; rfl) k) ?_
          show G T65 (mkF m 95 ls63 [(.int p1)])
          have hK67 := (backOf (R := room_1) (p := p) (e := e) (below := below) (args := #[(.int p0), (.int p1), (.int p2), (.int p3), (.int p4), (.int p5)]) (len := 3) (W := 0) (rm_key l Z a0 hw [] p1 T57.heap n0 (own_old_le O57) O57) hZ (ww66 hw) (ww5 hw) (by decide) (by decide))
          obtain ⟨_, _, ⟨T67, L67, k67, n67⟩, -, X67, ⟨Lc67, hQ67, l67, y67, z67⟩, st67⟩ := Jvm.LawKit.callS X65 hx (y := y_2) hown (mvT hZ (ww64 hw)) (mvT hZ (ww65 hw)) (mvT hZ (ww5 hw)) (mvT hZ (ww66 hw)) (by decide) hK67 (g := (mkF m 95 ls63 [(.int p1)])) rfl (by rw [hml, hls63]; rfl) (argsL := [(.int p1)]) (rest := []) (lenOf pd_0 rfl) rfl (by show 2 * 0 + _ ≤ _; exact Nat.le_of_eq rfl) (hb hby at_95) (fun _ _ => ⟨rfl, e65, (by decide : 50 + 0 ≤ _), (by decide : 302 + 0 ≤ _)⟩)
          dsimp only [Pt.U, Pt.locs, Pt.cells, Pt.slots] at X67 l67 y67 z67 st67 hQ67
          subst l67 y67 z67
          obtain ⟨rfl, N67q, e67⟩ := hQ67
          have N67 := Fr.app N65 N67q
          obtain ⟨lc67, X67, N67⟩ := own_gen X67 N67
          refine step (fun t k => st67 t k) ?_
          show G T67 (mkF m 98 ls63 [(.int (f_key p1))])
          refine step (fun t k => XS.iload X67.here hx rfl (hb hby at_98) (by rw [hls63]; rfl) k) ?_
          show G T67 (mkF m 100 ls63 [(.int z7), (.int (f_key p1))])
          have hK68 := (backOf (R := room_1) (p := p) (e := e) (below := below) (args := #[(.int p0), (.int p1), (.int p2), (.int p3), (.int p4), (.int p5)]) (len := 3) (W := 1) (rm_key l Z a0 hw [] z7 T57.heap n0 (own_old_le O57) O57) hZ (ww66 hw) (ww5 hw) (by decide) (by decide))
          obtain ⟨_, _, ⟨T68, L68, k68, n68⟩, -, X68, ⟨Lc68, hQ68, l68, y68, z68⟩, st68⟩ := Jvm.LawKit.callS X67 hx (y := y_2) hown (mvT hZ (ww64 hw)) (mvT hZ (ww65 hw)) (mvT hZ (ww5 hw)) (mvT hZ (ww66 hw)) (by decide) hK68 (g := (mkF m 100 ls63 [(.int z7), (.int (f_key p1))])) rfl (by rw [hml, hls63]; rfl) (argsL := [(.int z7)]) (rest := [(.int (f_key p1))]) (lenOf pd_0 rfl) rfl (by show 2 * 0 + _ ≤ _; exact Nat.le_of_eq rfl) (hb hby at_100) (fun _ _ => ⟨rfl, e67, (by decide : 50 + 0 ≤ _), (by decide : 302 + 0 ≤ _)⟩)
          dsimp only [Pt.U, Pt.locs, Pt.cells, Pt.slots] at X68 l68 y68 z68 st68 hQ68
          subst l68 y68 z68
          obtain ⟨rfl, N68q, e68⟩ := hQ68
          have N68 := Fr.app N67 N68q
          obtain ⟨lc68, X68, N68⟩ := own_gen X68 N68
          refine step (fun t k => st68 t k) ?_
          show G T68 (mkF m 103 ls63 [(.int (f_key z7)), (.int (f_key p1))])
          by_cases hc69 : (f_key p1) = (f_key z7)
          · skip
            refine step (fun t k => XS.icmpNo X68.here hx rfl (hb hby at_103) rfl (teq hc69).2 k) ?_
            show G T68 (mkF m 106 ls63 [])
            refine step (fun t k => XS.iloadN X68.here hx rfl (hb hby at_106) (by rw [hls63]; rfl) k) ?_
            show G T68 (mkF m 107 ls63 [(.int p2)])
            have hK70 := (backOf (R := room_1) (p := p) (e := e) (below := below) (args := #[(.int p0), (.int p1), (.int p2), (.int p3), (.int p4), (.int p5)]) (len := 3) (W := 0) (rm_key l Z a0 hw [] p2 T57.heap n0 (own_old_le O57) O57) hZ (ww66 hw) (ww5 hw) (by decide) (by decide))
            obtain ⟨_, _, ⟨T70, L70, k70, n70⟩, -, X70, ⟨Lc70, hQ70, l70, y70, z70⟩, st70⟩ := Jvm.LawKit.callS X68 hx (y := y_2) hown (mvT hZ (ww64 hw)) (mvT hZ (ww65 hw)) (mvT hZ (ww5 hw)) (mvT hZ (ww66 hw)) (by decide) hK70 (g := (mkF m 107 ls63 [(.int p2)])) rfl (by rw [hml, hls63]; rfl) (argsL := [(.int p2)]) (rest := []) (lenOf pd_0 rfl) rfl (by show 2 * 0 + _ ≤ _; exact Nat.le_of_eq rfl) (hb hby at_107) (fun _ _ => ⟨rfl, e68, (by decide : 50 + 0 ≤ _), (by decide : 302 + 0 ≤ _)⟩)
            dsimp only [Pt.U, Pt.locs, Pt.cells, Pt.slots] at X70 l70 y70 z70 st70 hQ70
            subst l70 y70 z70
            obtain ⟨rfl, N70q, e70⟩ := hQ70
            have N70 := Fr.app N68 N70q
            obtain ⟨lc70, X70, N70⟩ := own_gen X70 N70
            refine step (fun t k => st70 t k) ?_
            show G T70 (mkF m 110 ls63 [(.int (f_key p2))])
            refine step (fun t k => XS.iload X70.here hx rfl (hb hby at_110) (by rw [hls63]; rfl) k) ?_
            show G T70 (mkF m 112 ls63 [(.int z8), (.int (f_key p2))])
            have hK71 := (backOf (R := room_1) (p := p) (e := e) (below := below) (args := #[(.int p0), (.int p1), (.int p2), (.int p3), (.int p4), (.int p5)]) (len := 3) (W := 1) (rm_key l Z a0 hw [] z8 T57.heap n0 (own_old_le O57) O57) hZ (ww66 hw) (ww5 hw) (by decide) (by decide))
            obtain ⟨_, _, ⟨T71, L71, k71, n71⟩, -, X71, ⟨Lc71, hQ71, l71, y71, z71⟩, st71⟩ := Jvm.LawKit.callS X70 hx (y := y_2) hown (mvT hZ (ww64 hw)) (mvT hZ (ww65 hw)) (mvT hZ (ww5 hw)) (mvT hZ (ww66 hw)) (by decide) hK71 (g := (mkF m 112 ls63 [(.int z8), (.int (f_key p2))])) rfl (by rw [hml, hls63]; rfl) (argsL := [(.int z8)]) (rest := [(.int (f_key p2))]) (lenOf pd_0 rfl) rfl (by show 2 * 0 + _ ≤ _; exact Nat.le_of_eq rfl) (hb hby at_112) (fun _ _ => ⟨rfl, e70, (by decide : 50 + 0 ≤ _), (by decide : 302 + 0 ≤ _)⟩)
            dsimp only [Pt.U, Pt.locs, Pt.cells, Pt.slots] at X71 l71 y71 z71 st71 hQ71
            subst l71 y71 z71
            obtain ⟨rfl, N71q, e71⟩ := hQ71
            have N71 := Fr.app N70 N71q
            obtain ⟨lc71, X71, N71⟩ := own_gen X71 N71
            refine step (fun t k => st71 t k) ?_
            show G T71 (mkF m 115 ls63 [(.int (f_key z8)), (.int (f_key p2))])
            by_cases hc72 : (f_key p2) = (f_key z8)
            · skip
              refine step (fun t k => XS.icmpNo X71.here hx rfl (hb hby at_115) rfl (teq hc72).2 k) ?_
              show G T71 (mkF m 118 ls63 [])
              refine step (fun t k => XS.iconst X71.here hx rfl (hb hby at_118) k) ?_
              show G T71 (mkF m 119 ls63 [(.int 1)])
              refine step (fun t k => XS.goto X71.here hx rfl (pc0 := 119) (pc' := 123) rfl (hb hby at_119) (by decide) (by decide) k) ?_
              show G T71 (mkF m 123 ls63 [(.int 1)])
              obtain ⟨ls73, hls73⟩  := own_sl #[.val (.int p0), .val (.int p1), .val (.int p2), .val (.int p3), .val (.int p4), .val (.int p5), .val (.int z6), .val (.int z7), .val (.int z8), .val (.ref b4), .val (.ref b20), .val (.int 1), .unset, .unset]
              refine step (fun t k => XS.istore X71.here hx rfl (hb hby at_123) rfl (l' := ls73) (by rw [hls63, hls73]; rfl) k) ?_
              show G T71 (mkF m 125 ls73 [])
              refine step (fun t k => XS.iloadN X71.here hx rfl (hb hby at_125) (by rw [hls73]; rfl) k) ?_
              show G T71 (mkF m 126 ls73 [(.int p3)])
              refine step (fun t k => XS.bipush X71.here hx rfl (hb hby at_126) k) ?_
              show G T71 (mkF m 128 ls73 [(.int 28), (.int p3)])
              refine step (fun t k => XS.iushr X71.here hx rfl (hb hby at_128) rfl k) ?_
              show G T71 (mkF m 129 ls73 [(.int ((p3.toUInt32 >>> ((28 : Int32) &&& 31).toUInt32).toInt32))])
              refine step (fun t k => XS.iconst X71.here hx rfl (hb hby at_129) k) ?_
              show G T71 (mkF m 130 ls73 [(.int 3), (.int ((p3.toUInt32 >>> ((28 : Int32) &&& 31).toUInt32).toInt32))])
              refine step (fun t k => XS.iand X71.here hx rfl (hb hby at_130) rfl k) ?_
              show G T71 (mkF m 131 ls73 [(.int (((p3.toUInt32 >>> ((28 : Int32) &&& 31).toUInt32).toInt32) &&& (3 : Int32)))])
              obtain ⟨ls74, hls74⟩  := own_sl #[.val (.int p0), .val (.int p1), .val (.int p2), .val (.int p3), .val (.int p4), .val (.int p5), .val (.int z6), .val (.int z7), .val (.int z8), .val (.ref b4), .val (.ref b20), .val (.int 1), .val (.int (((p3.toUInt32 >>> ((28 : Int32) &&& 31).toUInt32).toInt32) &&& (3 : Int32))), .unset]
              refine step (fun t k => XS.istore X71.here hx rfl (hb hby at_131) rfl (l' := ls74) (by rw [hls73, hls74]; rfl) k) ?_
              show G T71 (mkF m 133 ls74 [])
              refine step (fun t k => XS.iload X71.here hx rfl (hb hby at_133) (by rw [hls74]; rfl) k) ?_
              show G T71 (mkF m 135 ls74 [(.int (((p3.toUInt32 >>> ((28 : Int32) &&& 31).toUInt32).toInt32) &&& (3 : Int32)))])
              refine step (fun t k => XS.iconst X71.here hx rfl (hb hby at_135) k) ?_
              show G T71 (mkF m 136 ls74 [(.int 2), (.int (((p3.toUInt32 >>> ((28 : Int32) &&& 31).toUInt32).toInt32) &&& (3 : Int32)))])
              by_cases hc75 : (((p3.toUInt32 >>> ((28 : Int32) &&& 31).toUInt32).toInt32) &&& (3 : Int32)) = (2 : Int32)
              · skip
                refine step (fun t k => XS.icmpNo X71.here hx rfl (hb hby at_136) rfl (teq hc75).2 k) ?_
                show G T71 (mkF m 139 ls74 [])
                refine step (fun t k => XS.aload X71.here hx rfl (hb hby at_139) (by rw [hls74]; rfl) rfl k) ?_
                show G T71 (mkF m 141 ls74 [(.ref b4)])
                refine step (fun t k => XS.aconstNull X71.here hx rfl (hb hby at_141) k) ?_
                show G T71 (mkF m 142 ls74 [.null, (.ref b4)])
                have hK76 := (backOf (R := room_1) (p := p) (e := e) (below := below) (args := #[(.int p0), (.int p1), (.int p2), (.int p3), (.int p4), (.int p5)]) (len := 3) (W := 0) (rm_en l Z a0 hw [] b4 T57.heap n0 (own_old_le O57) O57) hZ (ww71 hw) (ww2 hw) (by decide) (by decide))
                have f77 := (Exa.keep f55 K57q)
                obtain ⟨cq76, kq76, q76a, q76b, q76c⟩ := isOf hZ e71 f77
                obtain ⟨_, _, ⟨T76, L76, k76, n76⟩, -, X76, ⟨Lc76, hQ76, l76, y76, z76⟩, st76⟩ := X71.virtualBack hx (y := y_8) (z := y_8) hown (mvT hZ (ww67 hw)) (mvT hZ (ww68 hw)) (notFace_of_selects (args := #[]) (mvT hZ (ww70 hw))) (mvT hZ (ww70 hw)) (mvT hZ (ww69 hw)) (by decide) hK76 q76a q76c (g := (mkF m 142 ls74 [.null, (.ref b4)])) rfl (by rw [hml, hls74]; rfl) (Steps.refl _) (argsL := [.null]) (rest := []) (lenOf pd_5 rfl) rfl (by show 2 * 0 + _ ≤ _; exact Nat.le_of_eq rfl) (hb hby at_142) (fun _ _ => ⟨rfl, e71, (by decide : 50 + 0 ≤ _), (by decide : 302 + 0 ≤ _)⟩)
                dsimp only [Pt.U, Pt.locs, Pt.cells, Pt.slots] at X76 l76 y76 z76 st76 hQ76
                subst l76 y76 z76
                obtain ⟨rfl, N76q, e76⟩ := hQ76
                have N76 := Fr.app N71 N76q
                obtain ⟨lc76, X76, N76⟩ := own_gen X76 N76
                refine step (fun t k => st76.trans k) ?_
                show G T76 (mkF m 145 ls74 [(.int (f_en b4))])
                have r78 : (f_en b4) = (0 : Int32) := rfl
                rw [r78]
                show G T76 (mkF m 145 ls74 [(.int 0)])
                refine step (fun t k => XS.ifNo X76.here hx rfl (hb hby at_145) rfl ((if0 _ _).trans (teq (by decide : (0 : Int32) = (0 : Int32))).2) k) ?_
                show G T76 (mkF m 148 ls74 [])
                refine step (fun t k => XS.iconst X76.here hx rfl (hb hby at_148) k) ?_
                show G T76 (mkF m 149 ls74 [(.int 1)])
                refine step (fun t k => XS.goto X76.here hx rfl (pc0 := 149) (pc' := 153) rfl (hb hby at_149) (by decide) (by decide) k) ?_
                show G T76 (mkF m 153 ls74 [(.int 1)])
                exact ret (v := some (.int 1)) X76 hS hk57 C57 hZ (fun h => by rw [Bd.returns] at h; cases h) (fun fs hr => retN X76 hx (t := .boolean) Bd.returns (by simp) (hb hby at_153) hr) e76 ⟨rfl, N76⟩ (by decide) (by decide)
              · skip
                refine step (fun t k => XS.icmpYes X71.here hx rfl (pc0 := 136) (pc' := 154) rfl (hb hby at_136) rfl (feq hc75).2 (by decide) (by decide) k) ?_
                show G T71 (mkF m 154 ls74 [])
                refine step (fun t k => XS.iload X71.here hx rfl (hb hby at_154) (by rw [hls74]; rfl) k) ?_
                show G T71 (mkF m 156 ls74 [(.int (((p3.toUInt32 >>> ((28 : Int32) &&& 31).toUInt32).toInt32) &&& (3 : Int32)))])
                refine step (fun t k => XS.iconst X71.here hx rfl (hb hby at_156) k) ?_
                show G T71 (mkF m 157 ls74 [(.int 3), (.int (((p3.toUInt32 >>> ((28 : Int32) &&& 31).toUInt32).toInt32) &&& (3 : Int32)))])
                by_cases hc79 : (((p3.toUInt32 >>> ((28 : Int32) &&& 31).toUInt32).toInt32) &&& (3 : Int32)) = (3 : Int32)
                · skip
                  refine step (fun t k => XS.icmpNo X71.here hx rfl (hb hby at_157) rfl (teq hc79).2 k) ?_
                  show G T71 (mkF m 160 ls74 [])
                  refine step (fun t k => XS.iloadN X71.here hx rfl (hb hby at_160) (by rw [hls74]; rfl) k) ?_
                  show G T71 (mkF m 161 ls74 [(.int p0)])
                  have hK80 := (backOfSH (s := s) (vm0 := T57.vm) (R := room_1) (p := p) (e := e) (below := below) (args := #[(.int p0), (.int p1), (.int p2), (.int p3), (.int p4), (.int p5)]) (len := 3) (W := 0) (rm_str l Z a0 hw [] w_COMPACT_STRINGS w_SIOOBE_FORMATTER p0 T57.heap n0 (own_old_le O57) ST O57) hZ (ww6 hw) (ww5 hw) (by decide) (by decide) (own_EW hw) C57.1)
                  obtain ⟨_, _, ⟨T80, L80, k80, n80⟩, -, X80, hS80, hg80, ⟨Lc80, hQ80, l80, y80, z80, hC80⟩, st80⟩ := callSS X71 hx (y := y_5) hown (mvT hZ (ww3 hw)) (mvT hZ (ww4 hw)) (mvT hZ (ww5 hw)) (mvT hZ (ww6 hw)) (by decide) hK80 (g := (mkF m 161 ls74 [(.int p0)])) rfl (by rw [hml, hls74]; rfl) (argsL := [(.int p0)]) (rest := []) (lenOf pd_6 rfl) rfl (by show 2 * 0 + _ ≤ _; exact Nat.le_of_eq rfl) (hb hby at_161) (fun _ _ => ⟨rfl, e71, (by decide : 50 + 6 ≤ _), (by decide : 302 + 12 ≤ _)⟩)
                  dsimp only [Pt.U, Pt.locs, Pt.cells, Pt.slots] at X80 l80 y80 z80 st80 hQ80 hS80 hg80 hC80
                  subst l80 y80 z80
                  obtain ⟨X80, hS, hZ, hown⟩ := rebS (s := s) hS (by rw [e71]; exact hk57) X80 hS80 hg80 hZ hown
                  have f81 := (Exa.keep f61 K57q)
                  have f82 := (Exa.keep f62 K57q)
                  have f83 := (Exa.keep f55 K57q)
                  have f84 := (Exa.keep Y46_1 K57q)
                  have f85 := (Exa.keep (Exa.keep f48 K46q) K57q)
                  have f86 := (Exa.keep (Exa.keep f49 K46q) K57q)
                  have f87 := (Exa.keep (Exa.keep f50 K46q) K57q)
                  have f88 := (Arv.keep (Arv.keep f51 K46q nin0) K57q (ninS (Ne.symm ne_b20_t_27) nin0))
                  have f89 := (Arv.keep (Arv.keep Y37_4 K46q nin0) K57q (ninS (Ne.symm ne_b20_t_37) nin0))
                  have f90 := (Arv.keep Y46_4 K57q (ninS (Ne.symm ne_b20_t_46) nin0))
                  have f91 := (Arv.keep (Arv.keep f52 K46q nin0) K57q (ninS (Nat.ne_of_lt lt_t_5_b20) nin0))
                  have f92 := (Arv.keep (Arv.keep f53 K46q nin0) K57q (ninS (Nat.ne_of_lt lt_t_7_b20) nin0))
                  have f93 := (Arv.keep (Arv.keep f54 K46q nin0) K57q (ninS (Nat.ne_of_lt lt_t_9_b20) nin0))
                  obtain ⟨b80, t_80, kk_80, n_80, vs_80, rfl, N80q, K80q, Y80_0, Y80_1, Y80_2, Y80_3, Y80_4, Y80_5⟩ := hQ80
                  have N80 := Fr.app N71 N80q
                  obtain ⟨lc80, X80, N80⟩ := own_gen X80 N80
                  have cz80 : CHr Z own_EL T57.vm T57.heap T80.vm T80.heap := hC80
                  have C80 : CHr Z own_EL s.vm h0 T80.vm T80.heap := C57.trans cz80
                  have O80 := O57.keep K80q all0
                  have ge_b80 : n0 ≤ b80 := Nat.le_trans (own_old_le O57) Y80_0
                  have lt_b20_b80 : b20 < b80 := Nat.lt_of_lt_of_le Y57_0.lt Y80_0
                  have lt_b27_b80 : b27 < b80 := Nat.lt_of_lt_of_le f81.lt Y80_0
                  have lt_b37_b80 : b37 < b80 := Nat.lt_of_lt_of_le f82.lt Y80_0
                  have lt_b4_b80 : b4 < b80 := Nat.lt_of_lt_of_le f83.lt Y80_0
                  have lt_b46_b80 : b46 < b80 := Nat.lt_of_lt_of_le f84.lt Y80_0
                  have lt_b5_b80 : b5 < b80 := Nat.lt_of_lt_of_le f85.lt Y80_0
                  have lt_b7_b80 : b7 < b80 := Nat.lt_of_lt_of_le f86.lt Y80_0
                  have lt_b9_b80 : b9 < b80 := Nat.lt_of_lt_of_le f87.lt Y80_0
                  have lt_t_27_b80 : t_27 < b80 := Nat.lt_of_lt_of_le f88.lt Y80_0
                  have lt_t_37_b80 : t_37 < b80 := Nat.lt_of_lt_of_le f89.lt Y80_0
                  have lt_t_46_b80 : t_46 < b80 := Nat.lt_of_lt_of_le f90.lt Y80_0
                  have lt_t_5_b80 : t_5 < b80 := Nat.lt_of_lt_of_le f91.lt Y80_0
                  have lt_t_7_b80 : t_7 < b80 := Nat.lt_of_lt_of_le f92.lt Y80_0
                  have lt_t_9_b80 : t_9 < b80 := Nat.lt_of_lt_of_le f93.lt Y80_0
                  have hk80 : _ ≤ T80.heap.size := Nat.le_refl _
                  have f94 := (Exa.keep f83 K80q)
                  have ne_b4_t_80 : b4 ≠ t_80 := own_ne_arv f94 (ww1 hw) Y80_4
                  have f95 := (Exa.keep Y57_0 K80q)
                  have ne_b20_t_80 : b20 ≠ t_80 := own_ne_arv f95 (ww1 hw) Y80_4
                  refine step (fun t k => st80.trans k) ?_
                  show G T80 (mkF m 164 ls74 [(.ref b80)])
                  obtain ⟨ls96, hls96⟩  := own_sl #[.val (.int p0), .val (.int p1), .val (.int p2), .val (.int p3), .val (.int p4), .val (.int p5), .val (.int z6), .val (.int z7), .val (.int z8), .val (.ref b4), .val (.ref b20), .val (.int 1), .val (.int (((p3.toUInt32 >>> ((28 : Int32) &&& 31).toUInt32).toInt32) &&& (3 : Int32))), .val (.ref b80)]
                  refine step (fun t k => XS.astore X80.here hx rfl (hb hby at_164) rfl rfl (l' := ls96) (by rw [hls74, hls96]; rfl) k) ?_
                  show G T80 (mkF m 166 ls96 [])
                  refine step (fun t k => XS.aload X80.here hx rfl (hb hby at_166) (by rw [hls96]; rfl) rfl k) ?_
                  show G T80 (mkF m 168 ls96 [(.ref b4)])
                  refine step (fun t k => XS.aload X80.here hx rfl (hb hby at_168) (by rw [hls96]; rfl) rfl k) ?_
                  show G T80 (mkF m 170 ls96 [(.ref b80), (.ref b4)])
                  have hK97 := (backOf (R := room_1) (p := p) (e := e) (below := below) (args := #[(.int p0), (.int p1), (.int p2), (.int p3), (.int p4), (.int p5)]) (len := 3) (W := 0) (rm_es l Z a0 hw [] b4 b80 T80.heap n0 (own_old_le O80) O80 Y80_1) hZ (ww71 hw) (ww2 hw) (by decide) (by decide))
                  obtain ⟨cq97, kq97, q97a, q97b, q97c⟩ := isOf hZ rfl f94
                  obtain ⟨_, _, ⟨T97, L97, k97, n97⟩, -, X97, ⟨Lc97, hQ97, l97, y97, z97⟩, st97⟩ := X80.virtualBack hx (y := y_8) (z := y_8) hown (mvT hZ (ww67 hw)) (mvT hZ (ww68 hw)) (notFace_of_selects (args := #[]) (mvT hZ (ww70 hw))) (mvT hZ (ww70 hw)) (mvT hZ (ww69 hw)) (by decide) hK97 q97a q97c (g := (mkF m 170 ls96 [(.ref b80), (.ref b4)])) rfl (by rw [hml, hls96]; rfl) (Steps.refl _) (argsL := [(.ref b80)]) (rest := []) (lenOf pd_5 rfl) rfl (by show 2 * 0 + _ ≤ _; exact Nat.le_of_eq rfl) (hb hby at_170) (fun _ _ => ⟨rfl, rfl, (by decide : 56 + 0 ≤ _), (by decide : 314 + 0 ≤ _)⟩)
                  dsimp only [Pt.U, Pt.locs, Pt.cells, Pt.slots] at X97 l97 y97 z97 st97 hQ97
                  subst l97 y97 z97
                  obtain ⟨rfl, N97q, e97⟩ := hQ97
                  have N97 := Fr.app N80 N97q
                  obtain ⟨lc97, X97, N97⟩ := own_gen X97 N97
                  refine step (fun t k => st97.trans k) ?_
                  show G T97 (mkF m 173 ls96 [(.int (f_es b4 b80))])
                  have r98 : (f_es b4 b80) = (0 : Int32) := rfl
                  rw [r98]
                  show G T97 (mkF m 173 ls96 [(.int 0)])
                  refine step (fun t k => XS.ifNo X97.here hx rfl (hb hby at_173) rfl ((if0 _ _).trans (teq (by decide : (0 : Int32) = (0 : Int32))).2) k) ?_
                  show G T97 (mkF m 176 ls96 [])
                  refine step (fun t k => XS.iconst X97.here hx rfl (hb hby at_176) k) ?_
                  show G T97 (mkF m 177 ls96 [(.int 1)])
                  refine step (fun t k => XS.goto X97.here hx rfl (pc0 := 177) (pc' := 181) rfl (hb hby at_177) (by decide) (by decide) k) ?_
                  show G T97 (mkF m 181 ls96 [(.int 1)])
                  exact ret (v := some (.int 1)) X97 hS hk80 C80 hZ (fun h => by rw [Bd.returns] at h; cases h) (fun fs hr => retN X97 hx (t := .boolean) Bd.returns (by simp) (hb hby at_181) hr) e97 ⟨rfl, N97⟩ (by decide) (by decide)
                · skip
                  refine step (fun t k => XS.icmpYes X71.here hx rfl (pc0 := 157) (pc' := 182) rfl (hb hby at_157) rfl (feq hc79).2 (by decide) (by decide) k) ?_
                  show G T71 (mkF m 182 ls74 [])
                  refine step (fun t k => XS.aload X71.here hx rfl (hb hby at_182) (by rw [hls74]; rfl) rfl k) ?_
                  show G T71 (mkF m 184 ls74 [(.ref b4)])
                  refine step (fun t k => XS.aload X71.here hx rfl (hb hby at_184) (by rw [hls74]; rfl) rfl k) ?_
                  show G T71 (mkF m 186 ls74 [(.ref b20), (.ref b4)])
                  have f100 := (Exa.keep f55 K57q)
                  have f101 := (Fld.keep (Fld.keep (Fld.keep (Fld.keep (Fld.ext E20 Y13_1) K27q nin0) K37q nin0) K46q nin0) K57q (ninS (Nat.ne_of_lt lt_b4_b20) nin0))
                  have f102 := (Fld.keep (Fld.keep (Fld.keep (Fld.keep (Fld.ext E20 Y13_2) K27q nin0) K37q nin0) K46q nin0) K57q (ninS (Nat.ne_of_lt lt_b4_b20) nin0))
                  have f103 := (Fld.keep (Fld.keep (Fld.keep (Fld.keep (Fld.ext E20 Y13_3) K27q nin0) K37q nin0) K46q nin0) K57q (ninS (Nat.ne_of_lt lt_b4_b20) nin0))
                  have f104 := (Exa.keep (Exa.keep f48 K46q) K57q)
                  have f105 := (Fld.keep (Fld.keep (Fld.keep (Fld.keep (Fld.ext E20 (Fld.keep (Fld.keep (Fld.keep Y5_2 K7q nin0) K9q nin0) K13q (ninS (Nat.ne_of_gt lt_b4_b5) nin0))) K27q nin0) K37q nin0) K46q nin0) K57q (ninS (Nat.ne_of_lt lt_b5_b20) nin0))
                  have f106 := (Fld.keep (Fld.keep (Fld.keep (Fld.keep (Fld.ext E20 (Fld.keep (Fld.keep (Fld.keep Y5_3 K7q nin0) K9q nin0) K13q (ninS (Nat.ne_of_gt lt_b4_b5) nin0))) K27q nin0) K37q nin0) K46q nin0) K57q (ninS (Nat.ne_of_lt lt_b5_b20) nin0))
                  have f107 := (Arv.keep (Arv.keep f52 K46q nin0) K57q (ninS (Nat.ne_of_lt lt_t_5_b20) nin0))
                  have f108 := (Exa.keep (Exa.keep f49 K46q) K57q)
                  have f109 := (Fld.keep (Fld.keep (Fld.keep (Fld.keep (Fld.ext E20 (Fld.keep (Fld.keep Y7_2 K9q nin0) K13q (ninS (Nat.ne_of_gt lt_b4_b7) nin0))) K27q nin0) K37q nin0) K46q nin0) K57q (ninS (Nat.ne_of_lt lt_b7_b20) nin0))
                  have f110 := (Fld.keep (Fld.keep (Fld.keep (Fld.keep (Fld.ext E20 (Fld.keep (Fld.keep Y7_3 K9q nin0) K13q (ninS (Nat.ne_of_gt lt_b4_b7) nin0))) K27q nin0) K37q nin0) K46q nin0) K57q (ninS (Nat.ne_of_lt lt_b7_b20) nin0))
                  have f111 := (Arv.keep (Arv.keep f53 K46q nin0) K57q (ninS (Nat.ne_of_lt lt_t_7_b20) nin0))
                  have f112 := (Exa.keep (Exa.keep f50 K46q) K57q)
                  have f113 := (Fld.keep (Fld.keep (Fld.keep (Fld.keep (Fld.ext E20 (Fld.keep Y9_2 K13q (ninS (Nat.ne_of_gt lt_b4_b9) nin0))) K27q nin0) K37q nin0) K46q nin0) K57q (ninS (Nat.ne_of_lt lt_b9_b20) nin0))
                  have f114 := (Fld.keep (Fld.keep (Fld.keep (Fld.keep (Fld.ext E20 (Fld.keep Y9_3 K13q (ninS (Nat.ne_of_gt lt_b4_b9) nin0))) K27q nin0) K37q nin0) K46q nin0) K57q (ninS (Nat.ne_of_lt lt_b9_b20) nin0))
                  have f115 := (Arv.keep (Arv.keep f54 K46q nin0) K57q (ninS (Nat.ne_of_lt lt_t_9_b20) nin0))
                  have f116 := (Exa.keep f61 K57q)
                  have f117 := (Fld.keep (Fld.keep (Fld.keep Y27_2 K37q nin0) K46q nin0) K57q (ninS (Nat.ne_of_gt lt_b20_b27) nin0))
                  have f118 := (Fld.keep (Fld.keep (Fld.keep Y27_3 K37q nin0) K46q nin0) K57q (ninS (Nat.ne_of_gt lt_b20_b27) nin0))
                  have f119 := (Arv.keep (Arv.keep f51 K46q nin0) K57q (ninS (Ne.symm ne_b20_t_27) nin0))
                  have f120 := (Exa.keep f62 K57q)
                  have f121 := (Fld.keep (Fld.keep Y37_2 K46q nin0) K57q (ninS (Nat.ne_of_gt lt_b20_b37) nin0))
                  have f122 := (Fld.keep (Fld.keep Y37_3 K46q nin0) K57q (ninS (Nat.ne_of_gt lt_b20_b37) nin0))
                  have f123 := (Arv.keep (Arv.keep Y37_4 K46q nin0) K57q (ninS (Ne.symm ne_b20_t_37) nin0))
                  have f124 := (Exa.keep Y46_1 K57q)
                  have f125 := (Fld.keep Y46_2 K57q (ninS (Nat.ne_of_gt lt_b20_b46) nin0))
                  have f126 := (Fld.keep Y46_3 K57q (ninS (Nat.ne_of_gt lt_b20_b46) nin0))
                  have f127 := (Arv.keep Y46_4 K57q (ninS (Ne.symm ne_b20_t_46) nin0))
                  have hK99 := (backOf (R := room_1) (p := p) (e := e) (below := below) (args := #[(.int p0), (.int p1), (.int p2), (.int p3), (.int p4), (.int p5)]) (len := 3) (W := 0) (rm_eq l Z a0 hw [] w_COMPACT_STRINGS w_SIOOBE_FORMATTER b4 b20 b5 t_5 kk_5 n_5 vs_5 (own_cs p0) b7 t_7 kk_7 n_7 vs_7 (own_cs p1) b9 t_9 kk_9 n_9 vs_9 (own_cs p2) b27 t_27 kk_27 n_27 vs_27 (own_cs z6) b37 t_37 kk_37 n_37 vs_37 (own_cs z7) b46 t_46 kk_46 n_46 vs_46 (own_cs z8) T57.heap n0 (own_old_le O57) ST O57 f100 Y57_0 f101 f102 f103 Y57_1 Y57_2 Y57_3 f104 f105 f106 f107 Y5_5 f108 f109 f110 f111 Y7_5 f112 f113 f114 f115 Y9_5 f116 f117 f118 f119 Y27_5 f120 f121 f122 f123 Y37_5 f124 f125 f126 f127 Y46_5) hZ (ww71 hw) (ww2 hw) (by decide) (by decide))
                  obtain ⟨cq99, kq99, q99a, q99b, q99c⟩ := isOf hZ e71 f100
                  obtain ⟨_, _, ⟨T99, L99, k99, n99⟩, -, X99, ⟨Lc99, hQ99, l99, y99, z99⟩, st99⟩ := X71.virtualBack hx (y := y_8) (z := y_8) hown (mvT hZ (ww67 hw)) (mvT hZ (ww68 hw)) (notFace_of_selects (args := #[]) (mvT hZ (ww70 hw))) (mvT hZ (ww70 hw)) (mvT hZ (ww69 hw)) (by decide) hK99 q99a q99c (g := (mkF m 186 ls74 [(.ref b20), (.ref b4)])) rfl (by rw [hml, hls74]; rfl) (Steps.refl _) (argsL := [(.ref b20)]) (rest := []) (lenOf pd_5 rfl) rfl (by show 2 * 0 + _ ≤ _; exact Nat.le_of_eq rfl) (hb hby at_186) (fun _ _ => ⟨rfl, e71, (by decide : 50 + 0 ≤ _), (by decide : 302 + 0 ≤ _)⟩)
                  dsimp only [Pt.U, Pt.locs, Pt.cells, Pt.slots] at X99 l99 y99 z99 st99 hQ99
                  subst l99 y99 z99
                  obtain ⟨r_99, rfl, N99q, K99q, Y99_0⟩ := hQ99
                  have N99 := Fr.app N71 N99q
                  obtain ⟨lc99, X99, N99⟩ := own_gen X99 N99
                  have cz99 : CHr Z own_EL T57.vm T57.heap T57.vm T99.heap := CHr.keep K99q all0 C57.1
                  have C99 : CHr Z own_EL s.vm h0 T57.vm T99.heap := C57.trans cz99
                  have O99 := O57.keep K99q all0
                  have hk99 : _ ≤ T99.heap.size := Nat.le_trans hk57 K99q.1
                  obtain rfl : r_99 = (1 : Int32) := own_eqY Y99_0 ⟨(own_key _ _).mp hc66, (own_key _ _).mp hc69, (own_key _ _).mp hc72⟩
                  refine step (fun t k => st99.trans k) ?_
                  show G T99 (mkF m 189 ls74 [(.int 1)])
                  refine step (fun t k => XS.iload X99.here hx rfl (hb hby at_189) (by rw [hls74]; rfl) k) ?_
                  show G T99 (mkF m 191 ls74 [(.int 1), (.int 1)])
                  refine step (fun t k => XS.icmpNo X99.here hx rfl (hb hby at_191) rfl (teq (by decide : (1 : Int32) = (1 : Int32))).2 k) ?_
                  show G T99 (mkF m 194 ls74 [])
                  refine step (fun t k => XS.aload X99.here hx rfl (hb hby at_194) (by rw [hls74]; rfl) rfl k) ?_
                  show G T99 (mkF m 196 ls74 [(.ref b20)])
                  refine step (fun t k => XS.aload X99.here hx rfl (hb hby at_196) (by rw [hls74]; rfl) rfl k) ?_
                  show G T99 (mkF m 198 ls74 [(.ref b4), (.ref b20)])
                  have f129 := (Exa.keep Y57_0 K99q)
                  have f130 := (Exa.keep f100 K99q)
                  have f131 := (Fld.keep Y57_1 K99q nin0)
                  have f132 := (Fld.keep Y57_2 K99q nin0)
                  have f133 := (Fld.keep Y57_3 K99q nin0)
                  have f134 := (Fld.keep f101 K99q nin0)
                  have f135 := (Fld.keep f102 K99q nin0)
                  have f136 := (Fld.keep f103 K99q nin0)
                  have f137 := (Exa.keep f116 K99q)
                  have f138 := (Fld.keep f117 K99q nin0)
                  have f139 := (Fld.keep f118 K99q nin0)
                  have f140 := (Arv.keep f119 K99q nin0)
                  have f141 := (Exa.keep f120 K99q)
                  have f142 := (Fld.keep f121 K99q nin0)
                  have f143 := (Fld.keep f122 K99q nin0)
                  have f144 := (Arv.keep f123 K99q nin0)
                  have f145 := (Exa.keep f124 K99q)
                  have f146 := (Fld.keep f125 K99q nin0)
                  have f147 := (Fld.keep f126 K99q nin0)
                  have f148 := (Arv.keep f127 K99q nin0)
                  have f149 := (Exa.keep f104 K99q)
                  have f150 := (Fld.keep f105 K99q nin0)
                  have f151 := (Fld.keep f106 K99q nin0)
                  have f152 := (Arv.keep f107 K99q nin0)
                  have f153 := (Exa.keep f108 K99q)
                  have f154 := (Fld.keep f109 K99q nin0)
                  have f155 := (Fld.keep f110 K99q nin0)
                  have f156 := (Arv.keep f111 K99q nin0)
                  have f157 := (Exa.keep f112 K99q)
                  have f158 := (Fld.keep f113 K99q nin0)
                  have f159 := (Fld.keep f114 K99q nin0)
                  have f160 := (Arv.keep f115 K99q nin0)
                  have hK128 := (backOf (R := room_1) (p := p) (e := e) (below := below) (args := #[(.int p0), (.int p1), (.int p2), (.int p3), (.int p4), (.int p5)]) (len := 3) (W := 0) (rm_eq l Z a0 hw [] w_COMPACT_STRINGS w_SIOOBE_FORMATTER b20 b4 b27 t_27 kk_27 n_27 vs_27 (own_cs z6) b37 t_37 kk_37 n_37 vs_37 (own_cs z7) b46 t_46 kk_46 n_46 vs_46 (own_cs z8) b5 t_5 kk_5 n_5 vs_5 (own_cs p0) b7 t_7 kk_7 n_7 vs_7 (own_cs p1) b9 t_9 kk_9 n_9 vs_9 (own_cs p2) T99.heap n0 (own_old_le O99) ST O99 f129 f130 f131 f132 f133 f134 f135 f136 f137 f138 f139 f140 Y27_5 f141 f142 f143 f144 Y37_5 f145 f146 f147 f148 Y46_5 f149 f150 f151 f152 Y5_5 f153 f154 f155 f156 Y7_5 f157 f158 f159 f160 Y9_5) hZ (ww71 hw) (ww2 hw) (by decide) (by decide))
                  obtain ⟨cq128, kq128, q128a, q128b, q128c⟩ := isOf hZ rfl f129
                  obtain ⟨_, _, ⟨T128, L128, k128, n128⟩, -, X128, ⟨Lc128, hQ128, l128, y128, z128⟩, st128⟩ := X99.virtualBack hx (y := y_8) (z := y_8) hown (mvT hZ (ww67 hw)) (mvT hZ (ww68 hw)) (notFace_of_selects (args := #[]) (mvT hZ (ww70 hw))) (mvT hZ (ww70 hw)) (mvT hZ (ww69 hw)) (by decide) hK128 q128a q128c (g := (mkF m 198 ls74 [(.ref b4), (.ref b20)])) rfl (by rw [hml, hls74]; rfl) (Steps.refl _) (argsL := [(.ref b4)]) (rest := []) (lenOf pd_5 rfl) rfl (by show 2 * 0 + _ ≤ _; exact Nat.le_of_eq rfl) (hb hby at_198) (fun _ _ => ⟨rfl, rfl, (by decide : 50 + 0 ≤ _), (by decide : 302 + 0 ≤ _)⟩)
                  dsimp only [Pt.U, Pt.locs, Pt.cells, Pt.slots] at X128 l128 y128 z128 st128 hQ128
                  subst l128 y128 z128
                  obtain ⟨r_128, rfl, N128q, K128q, Y128_0⟩ := hQ128
                  have N128 := Fr.app N99 N128q
                  obtain ⟨lc128, X128, N128⟩ := own_gen X128 N128
                  have cz128 : CHr Z own_EL T57.vm T99.heap T57.vm T128.heap := CHr.keep K128q all0 C99.1
                  have C128 : CHr Z own_EL s.vm h0 T57.vm T128.heap := C99.trans cz128
                  have O128 := O99.keep K128q all0
                  have hk128 : _ ≤ T128.heap.size := Nat.le_trans hk99 K128q.1
                  obtain rfl : r_128 = (1 : Int32) := own_eqY Y128_0 ⟨(own_key _ _).mp hc66.symm, (own_key _ _).mp hc69.symm, (own_key _ _).mp hc72.symm⟩
                  refine step (fun t k => st128.trans k) ?_
                  show G T128 (mkF m 201 ls74 [(.int 1)])
                  refine step (fun t k => XS.iload X128.here hx rfl (hb hby at_201) (by rw [hls74]; rfl) k) ?_
                  show G T128 (mkF m 203 ls74 [(.int 1), (.int 1)])
                  refine step (fun t k => XS.icmpNo X128.here hx rfl (hb hby at_203) rfl (teq (by decide : (1 : Int32) = (1 : Int32))).2 k) ?_
                  show G T128 (mkF m 206 ls74 [])
                  refine step (fun t k => XS.iconst X128.here hx rfl (hb hby at_206) k) ?_
                  show G T128 (mkF m 207 ls74 [(.int 1)])
                  refine step (fun t k => XS.goto X128.here hx rfl (pc0 := 207) (pc' := 211) rfl (hb hby at_207) (by decide) (by decide) k) ?_
                  show G T128 (mkF m 211 ls74 [(.int 1)])
                  exact ret (v := some (.int 1)) X128 hS hk128 C128 hZ (fun h => by rw [Bd.returns] at h; cases h) (fun fs hr => retN X128 hx (t := .boolean) Bd.returns (by simp) (hb hby at_211) hr) rfl ⟨rfl, N128⟩ (by decide) (by decide)
            · skip
              refine step (fun t k => XS.icmpYes X71.here hx rfl (pc0 := 115) (pc' := 122) rfl (hb hby at_115) rfl (feq hc72).2 (by decide) (by decide) k) ?_
              show G T71 (mkF m 122 ls63 [])
              refine step (fun t k => XS.iconst X71.here hx rfl (hb hby at_122) k) ?_
              show G T71 (mkF m 123 ls63 [(.int 0)])
              obtain ⟨ls161, hls161⟩  := own_sl #[.val (.int p0), .val (.int p1), .val (.int p2), .val (.int p3), .val (.int p4), .val (.int p5), .val (.int z6), .val (.int z7), .val (.int z8), .val (.ref b4), .val (.ref b20), .val (.int 0), .unset, .unset]
              refine step (fun t k => XS.istore X71.here hx rfl (hb hby at_123) rfl (l' := ls161) (by rw [hls63, hls161]; rfl) k) ?_
              show G T71 (mkF m 125 ls161 [])
              refine step (fun t k => XS.iloadN X71.here hx rfl (hb hby at_125) (by rw [hls161]; rfl) k) ?_
              show G T71 (mkF m 126 ls161 [(.int p3)])
              refine step (fun t k => XS.bipush X71.here hx rfl (hb hby at_126) k) ?_
              show G T71 (mkF m 128 ls161 [(.int 28), (.int p3)])
              refine step (fun t k => XS.iushr X71.here hx rfl (hb hby at_128) rfl k) ?_
              show G T71 (mkF m 129 ls161 [(.int ((p3.toUInt32 >>> ((28 : Int32) &&& 31).toUInt32).toInt32))])
              refine step (fun t k => XS.iconst X71.here hx rfl (hb hby at_129) k) ?_
              show G T71 (mkF m 130 ls161 [(.int 3), (.int ((p3.toUInt32 >>> ((28 : Int32) &&& 31).toUInt32).toInt32))])
              refine step (fun t k => XS.iand X71.here hx rfl (hb hby at_130) rfl k) ?_
              show G T71 (mkF m 131 ls161 [(.int (((p3.toUInt32 >>> ((28 : Int32) &&& 31).toUInt32).toInt32) &&& (3 : Int32)))])
              obtain ⟨ls162, hls162⟩  := own_sl #[.val (.int p0), .val (.int p1), .val (.int p2), .val (.int p3), .val (.int p4), .val (.int p5), .val (.int z6), .val (.int z7), .val (.int z8), .val (.ref b4), .val (.ref b20), .val (.int 0), .val (.int (((p3.toUInt32 >>> ((28 : Int32) &&& 31).toUInt32).toInt32) &&& (3 : Int32))), .unset]
              refine step (fun t k => XS.istore X71.here hx rfl (hb hby at_131) rfl (l' := ls162) (by rw [hls161, hls162]; rfl) k) ?_
              show G T71 (mkF m 133 ls162 [])
              refine step (fun t k => XS.iload X71.here hx rfl (hb hby at_133) (by rw [hls162]; rfl) k) ?_
              show G T71 (mkF m 135 ls162 [(.int (((p3.toUInt32 >>> ((28 : Int32) &&& 31).toUInt32).toInt32) &&& (3 : Int32)))])
              refine step (fun t k => XS.iconst X71.here hx rfl (hb hby at_135) k) ?_
              show G T71 (mkF m 136 ls162 [(.int 2), (.int (((p3.toUInt32 >>> ((28 : Int32) &&& 31).toUInt32).toInt32) &&& (3 : Int32)))])
              by_cases hc163 : (((p3.toUInt32 >>> ((28 : Int32) &&& 31).toUInt32).toInt32) &&& (3 : Int32)) = (2 : Int32)
              · skip
                refine step (fun t k => XS.icmpNo X71.here hx rfl (hb hby at_136) rfl (teq hc163).2 k) ?_
                show G T71 (mkF m 139 ls162 [])
                refine step (fun t k => XS.aload X71.here hx rfl (hb hby at_139) (by rw [hls162]; rfl) rfl k) ?_
                show G T71 (mkF m 141 ls162 [(.ref b4)])
                refine step (fun t k => XS.aconstNull X71.here hx rfl (hb hby at_141) k) ?_
                show G T71 (mkF m 142 ls162 [.null, (.ref b4)])
                have hK164 := (backOf (R := room_1) (p := p) (e := e) (below := below) (args := #[(.int p0), (.int p1), (.int p2), (.int p3), (.int p4), (.int p5)]) (len := 3) (W := 0) (rm_en l Z a0 hw [] b4 T57.heap n0 (own_old_le O57) O57) hZ (ww71 hw) (ww2 hw) (by decide) (by decide))
                have f165 := (Exa.keep f55 K57q)
                obtain ⟨cq164, kq164, q164a, q164b, q164c⟩ := isOf hZ e71 f165
                obtain ⟨_, _, ⟨T164, L164, k164, n164⟩, -, X164, ⟨Lc164, hQ164, l164, y164, z164⟩, st164⟩ := X71.virtualBack hx (y := y_8) (z := y_8) hown (mvT hZ (ww67 hw)) (mvT hZ (ww68 hw)) (notFace_of_selects (args := #[]) (mvT hZ (ww70 hw))) (mvT hZ (ww70 hw)) (mvT hZ (ww69 hw)) (by decide) hK164 q164a q164c (g := (mkF m 142 ls162 [.null, (.ref b4)])) rfl (by rw [hml, hls162]; rfl) (Steps.refl _) (argsL := [.null]) (rest := []) (lenOf pd_5 rfl) rfl (by show 2 * 0 + _ ≤ _; exact Nat.le_of_eq rfl) (hb hby at_142) (fun _ _ => ⟨rfl, e71, (by decide : 50 + 0 ≤ _), (by decide : 302 + 0 ≤ _)⟩)
                dsimp only [Pt.U, Pt.locs, Pt.cells, Pt.slots] at X164 l164 y164 z164 st164 hQ164
                subst l164 y164 z164
                obtain ⟨rfl, N164q, e164⟩ := hQ164
                have N164 := Fr.app N71 N164q
                obtain ⟨lc164, X164, N164⟩ := own_gen X164 N164
                refine step (fun t k => st164.trans k) ?_
                show G T164 (mkF m 145 ls162 [(.int (f_en b4))])
                have r166 : (f_en b4) = (0 : Int32) := rfl
                rw [r166]
                show G T164 (mkF m 145 ls162 [(.int 0)])
                refine step (fun t k => XS.ifNo X164.here hx rfl (hb hby at_145) rfl ((if0 _ _).trans (teq (by decide : (0 : Int32) = (0 : Int32))).2) k) ?_
                show G T164 (mkF m 148 ls162 [])
                refine step (fun t k => XS.iconst X164.here hx rfl (hb hby at_148) k) ?_
                show G T164 (mkF m 149 ls162 [(.int 1)])
                refine step (fun t k => XS.goto X164.here hx rfl (pc0 := 149) (pc' := 153) rfl (hb hby at_149) (by decide) (by decide) k) ?_
                show G T164 (mkF m 153 ls162 [(.int 1)])
                exact ret (v := some (.int 1)) X164 hS hk57 C57 hZ (fun h => by rw [Bd.returns] at h; cases h) (fun fs hr => retN X164 hx (t := .boolean) Bd.returns (by simp) (hb hby at_153) hr) e164 ⟨rfl, N164⟩ (by decide) (by decide)
              · skip
                refine step (fun t k => XS.icmpYes X71.here hx rfl (pc0 := 136) (pc' := 154) rfl (hb hby at_136) rfl (feq hc163).2 (by decide) (by decide) k) ?_
                show G T71 (mkF m 154 ls162 [])
                refine step (fun t k => XS.iload X71.here hx rfl (hb hby at_154) (by rw [hls162]; rfl) k) ?_
                show G T71 (mkF m 156 ls162 [(.int (((p3.toUInt32 >>> ((28 : Int32) &&& 31).toUInt32).toInt32) &&& (3 : Int32)))])
                refine step (fun t k => XS.iconst X71.here hx rfl (hb hby at_156) k) ?_
                show G T71 (mkF m 157 ls162 [(.int 3), (.int (((p3.toUInt32 >>> ((28 : Int32) &&& 31).toUInt32).toInt32) &&& (3 : Int32)))])
                by_cases hc167 : (((p3.toUInt32 >>> ((28 : Int32) &&& 31).toUInt32).toInt32) &&& (3 : Int32)) = (3 : Int32)
                · skip
                  refine step (fun t k => XS.icmpNo X71.here hx rfl (hb hby at_157) rfl (teq hc167).2 k) ?_
                  show G T71 (mkF m 160 ls162 [])
                  refine step (fun t k => XS.iloadN X71.here hx rfl (hb hby at_160) (by rw [hls162]; rfl) k) ?_
                  show G T71 (mkF m 161 ls162 [(.int p0)])
                  have hK168 := (backOfSH (s := s) (vm0 := T57.vm) (R := room_1) (p := p) (e := e) (below := below) (args := #[(.int p0), (.int p1), (.int p2), (.int p3), (.int p4), (.int p5)]) (len := 3) (W := 0) (rm_str l Z a0 hw [] w_COMPACT_STRINGS w_SIOOBE_FORMATTER p0 T57.heap n0 (own_old_le O57) ST O57) hZ (ww6 hw) (ww5 hw) (by decide) (by decide) (own_EW hw) C57.1)
                  obtain ⟨_, _, ⟨T168, L168, k168, n168⟩, -, X168, hS168, hg168, ⟨Lc168, hQ168, l168, y168, z168, hC168⟩, st168⟩ := callSS X71 hx (y := y_5) hown (mvT hZ (ww3 hw)) (mvT hZ (ww4 hw)) (mvT hZ (ww5 hw)) (mvT hZ (ww6 hw)) (by decide) hK168 (g := (mkF m 161 ls162 [(.int p0)])) rfl (by rw [hml, hls162]; rfl) (argsL := [(.int p0)]) (rest := []) (lenOf pd_6 rfl) rfl (by show 2 * 0 + _ ≤ _; exact Nat.le_of_eq rfl) (hb hby at_161) (fun _ _ => ⟨rfl, e71, (by decide : 50 + 6 ≤ _), (by decide : 302 + 12 ≤ _)⟩)
                  dsimp only [Pt.U, Pt.locs, Pt.cells, Pt.slots] at X168 l168 y168 z168 st168 hQ168 hS168 hg168 hC168
                  subst l168 y168 z168
                  obtain ⟨X168, hS, hZ, hown⟩ := rebS (s := s) hS (by rw [e71]; exact hk57) X168 hS168 hg168 hZ hown
                  have f169 := (Exa.keep f61 K57q)
                  have f170 := (Exa.keep f62 K57q)
                  have f171 := (Exa.keep f55 K57q)
                  have f172 := (Exa.keep Y46_1 K57q)
                  have f173 := (Exa.keep (Exa.keep f48 K46q) K57q)
                  have f174 := (Exa.keep (Exa.keep f49 K46q) K57q)
                  have f175 := (Exa.keep (Exa.keep f50 K46q) K57q)
                  have f176 := (Arv.keep (Arv.keep f51 K46q nin0) K57q (ninS (Ne.symm ne_b20_t_27) nin0))
                  have f177 := (Arv.keep (Arv.keep Y37_4 K46q nin0) K57q (ninS (Ne.symm ne_b20_t_37) nin0))
                  have f178 := (Arv.keep Y46_4 K57q (ninS (Ne.symm ne_b20_t_46) nin0))
                  have f179 := (Arv.keep (Arv.keep f52 K46q nin0) K57q (ninS (Nat.ne_of_lt lt_t_5_b20) nin0))
                  have f180 := (Arv.keep (Arv.keep f53 K46q nin0) K57q (ninS (Nat.ne_of_lt lt_t_7_b20) nin0))
                  have f181 := (Arv.keep (Arv.keep f54 K46q nin0) K57q (ninS (Nat.ne_of_lt lt_t_9_b20) nin0))
                  obtain ⟨b168, t_168, kk_168, n_168, vs_168, rfl, N168q, K168q, Y168_0, Y168_1, Y168_2, Y168_3, Y168_4, Y168_5⟩ := hQ168
                  have N168 := Fr.app N71 N168q
                  obtain ⟨lc168, X168, N168⟩ := own_gen X168 N168
                  have cz168 : CHr Z own_EL T57.vm T57.heap T168.vm T168.heap := hC168
                  have C168 : CHr Z own_EL s.vm h0 T168.vm T168.heap := C57.trans cz168
                  have O168 := O57.keep K168q all0
                  have ge_b168 : n0 ≤ b168 := Nat.le_trans (own_old_le O57) Y168_0
                  have lt_b20_b168 : b20 < b168 := Nat.lt_of_lt_of_le Y57_0.lt Y168_0
                  have lt_b27_b168 : b27 < b168 := Nat.lt_of_lt_of_le f169.lt Y168_0
                  have lt_b37_b168 : b37 < b168 := Nat.lt_of_lt_of_le f170.lt Y168_0
                  have lt_b4_b168 : b4 < b168 := Nat.lt_of_lt_of_le f171.lt Y168_0
                  have lt_b46_b168 : b46 < b168 := Nat.lt_of_lt_of_le f172.lt Y168_0
                  have lt_b5_b168 : b5 < b168 := Nat.lt_of_lt_of_le f173.lt Y168_0
                  have lt_b7_b168 : b7 < b168 := Nat.lt_of_lt_of_le f174.lt Y168_0
                  have lt_b9_b168 : b9 < b168 := Nat.lt_of_lt_of_le f175.lt Y168_0
                  have lt_t_27_b168 : t_27 < b168 := Nat.lt_of_lt_of_le f176.lt Y168_0
                  have lt_t_37_b168 : t_37 < b168 := Nat.lt_of_lt_of_le f177.lt Y168_0
                  have lt_t_46_b168 : t_46 < b168 := Nat.lt_of_lt_of_le f178.lt Y168_0
                  have lt_t_5_b168 : t_5 < b168 := Nat.lt_of_lt_of_le f179.lt Y168_0
                  have lt_t_7_b168 : t_7 < b168 := Nat.lt_of_lt_of_le f180.lt Y168_0
                  have lt_t_9_b168 : t_9 < b168 := Nat.lt_of_lt_of_le f181.lt Y168_0
                  have hk168 : _ ≤ T168.heap.size := Nat.le_refl _
                  have f182 := (Exa.keep f171 K168q)
                  have ne_b4_t_168 : b4 ≠ t_168 := own_ne_arv f182 (ww1 hw) Y168_4
                  have f183 := (Exa.keep Y57_0 K168q)
                  have ne_b20_t_168 : b20 ≠ t_168 := own_ne_arv f183 (ww1 hw) Y168_4
                  refine step (fun t k => st168.trans k) ?_
                  show G T168 (mkF m 164 ls162 [(.ref b168)])
                  obtain ⟨ls184, hls184⟩  := own_sl #[.val (.int p0), .val (.int p1), .val (.int p2), .val (.int p3), .val (.int p4), .val (.int p5), .val (.int z6), .val (.int z7), .val (.int z8), .val (.ref b4), .val (.ref b20), .val (.int 0), .val (.int (((p3.toUInt32 >>> ((28 : Int32) &&& 31).toUInt32).toInt32) &&& (3 : Int32))), .val (.ref b168)]
                  refine step (fun t k => XS.astore X168.here hx rfl (hb hby at_164) rfl rfl (l' := ls184) (by rw [hls162, hls184]; rfl) k) ?_
                  show G T168 (mkF m 166 ls184 [])
                  refine step (fun t k => XS.aload X168.here hx rfl (hb hby at_166) (by rw [hls184]; rfl) rfl k) ?_
                  show G T168 (mkF m 168 ls184 [(.ref b4)])
                  refine step (fun t k => XS.aload X168.here hx rfl (hb hby at_168) (by rw [hls184]; rfl) rfl k) ?_
                  show G T168 (mkF m 170 ls184 [(.ref b168), (.ref b4)])
                  have hK185 := (backOf (R := room_1) (p := p) (e := e) (below := below) (args := #[(.int p0), (.int p1), (.int p2), (.int p3), (.int p4), (.int p5)]) (len := 3) (W := 0) (rm_es l Z a0 hw [] b4 b168 T168.heap n0 (own_old_le O168) O168 Y168_1) hZ (ww71 hw) (ww2 hw) (by decide) (by decide))
                  obtain ⟨cq185, kq185, q185a, q185b, q185c⟩ := isOf hZ rfl f182
                  obtain ⟨_, _, ⟨T185, L185, k185, n185⟩, -, X185, ⟨Lc185, hQ185, l185, y185, z185⟩, st185⟩ := X168.virtualBack hx (y := y_8) (z := y_8) hown (mvT hZ (ww67 hw)) (mvT hZ (ww68 hw)) (notFace_of_selects (args := #[]) (mvT hZ (ww70 hw))) (mvT hZ (ww70 hw)) (mvT hZ (ww69 hw)) (by decide) hK185 q185a q185c (g := (mkF m 170 ls184 [(.ref b168), (.ref b4)])) rfl (by rw [hml, hls184]; rfl) (Steps.refl _) (argsL := [(.ref b168)]) (rest := []) (lenOf pd_5 rfl) rfl (by show 2 * 0 + _ ≤ _; exact Nat.le_of_eq rfl) (hb hby at_170) (fun _ _ => ⟨rfl, rfl, (by decide : 56 + 0 ≤ _), (by decide : 314 + 0 ≤ _)⟩)
                  dsimp only [Pt.U, Pt.locs, Pt.cells, Pt.slots] at X185 l185 y185 z185 st185 hQ185
                  subst l185 y185 z185
                  obtain ⟨rfl, N185q, e185⟩ := hQ185
                  have N185 := Fr.app N168 N185q
                  obtain ⟨lc185, X185, N185⟩ := own_gen X185 N185
                  refine step (fun t k => st185.trans k) ?_
                  show G T185 (mkF m 173 ls184 [(.int (f_es b4 b168))])
                  have r186 : (f_es b4 b168) = (0 : Int32) := rfl
                  rw [r186]
                  show G T185 (mkF m 173 ls184 [(.int 0)])
                  refine step (fun t k => XS.ifNo X185.here hx rfl (hb hby at_173) rfl ((if0 _ _).trans (teq (by decide : (0 : Int32) = (0 : Int32))).2) k) ?_
                  show G T185 (mkF m 176 ls184 [])
                  refine step (fun t k => XS.iconst X185.here hx rfl (hb hby at_176) k) ?_
                  show G T185 (mkF m 177 ls184 [(.int 1)])
                  refine step (fun t k => XS.goto X185.here hx rfl (pc0 := 177) (pc' := 181) rfl (hb hby at_177) (by decide) (by decide) k) ?_
                  show G T185 (mkF m 181 ls184 [(.int 1)])
                  exact ret (v := some (.int 1)) X185 hS hk168 C168 hZ (fun h => by rw [Bd.returns] at h; cases h) (fun fs hr => retN X185 hx (t := .boolean) Bd.returns (by simp) (hb hby at_181) hr) e185 ⟨rfl, N185⟩ (by decide) (by decide)
                · skip
                  refine step (fun t k => XS.icmpYes X71.here hx rfl (pc0 := 157) (pc' := 182) rfl (hb hby at_157) rfl (feq hc167).2 (by decide) (by decide) k) ?_
                  show G T71 (mkF m 182 ls162 [])
                  refine step (fun t k => XS.aload X71.here hx rfl (hb hby at_182) (by rw [hls162]; rfl) rfl k) ?_
                  show G T71 (mkF m 184 ls162 [(.ref b4)])
                  refine step (fun t k => XS.aload X71.here hx rfl (hb hby at_184) (by rw [hls162]; rfl) rfl k) ?_
                  show G T71 (mkF m 186 ls162 [(.ref b20), (.ref b4)])
                  have f188 := (Exa.keep f55 K57q)
                  have f189 := (Fld.keep (Fld.keep (Fld.keep (Fld.keep (Fld.ext E20 Y13_1) K27q nin0) K37q nin0) K46q nin0) K57q (ninS (Nat.ne_of_lt lt_b4_b20) nin0))
                  have f190 := (Fld.keep (Fld.keep (Fld.keep (Fld.keep (Fld.ext E20 Y13_2) K27q nin0) K37q nin0) K46q nin0) K57q (ninS (Nat.ne_of_lt lt_b4_b20) nin0))
                  have f191 := (Fld.keep (Fld.keep (Fld.keep (Fld.keep (Fld.ext E20 Y13_3) K27q nin0) K37q nin0) K46q nin0) K57q (ninS (Nat.ne_of_lt lt_b4_b20) nin0))
                  have f192 := (Exa.keep (Exa.keep f48 K46q) K57q)
                  have f193 := (Fld.keep (Fld.keep (Fld.keep (Fld.keep (Fld.ext E20 (Fld.keep (Fld.keep (Fld.keep Y5_2 K7q nin0) K9q nin0) K13q (ninS (Nat.ne_of_gt lt_b4_b5) nin0))) K27q nin0) K37q nin0) K46q nin0) K57q (ninS (Nat.ne_of_lt lt_b5_b20) nin0))
                  have f194 := (Fld.keep (Fld.keep (Fld.keep (Fld.keep (Fld.ext E20 (Fld.keep (Fld.keep (Fld.keep Y5_3 K7q nin0) K9q nin0) K13q (ninS (Nat.ne_of_gt lt_b4_b5) nin0))) K27q nin0) K37q nin0) K46q nin0) K57q (ninS (Nat.ne_of_lt lt_b5_b20) nin0))
                  have f195 := (Arv.keep (Arv.keep f52 K46q nin0) K57q (ninS (Nat.ne_of_lt lt_t_5_b20) nin0))
                  have f196 := (Exa.keep (Exa.keep f49 K46q) K57q)
                  have f197 := (Fld.keep (Fld.keep (Fld.keep (Fld.keep (Fld.ext E20 (Fld.keep (Fld.keep Y7_2 K9q nin0) K13q (ninS (Nat.ne_of_gt lt_b4_b7) nin0))) K27q nin0) K37q nin0) K46q nin0) K57q (ninS (Nat.ne_of_lt lt_b7_b20) nin0))
                  have f198 := (Fld.keep (Fld.keep (Fld.keep (Fld.keep (Fld.ext E20 (Fld.keep (Fld.keep Y7_3 K9q nin0) K13q (ninS (Nat.ne_of_gt lt_b4_b7) nin0))) K27q nin0) K37q nin0) K46q nin0) K57q (ninS (Nat.ne_of_lt lt_b7_b20) nin0))
                  have f199 := (Arv.keep (Arv.keep f53 K46q nin0) K57q (ninS (Nat.ne_of_lt lt_t_7_b20) nin0))
                  have f200 := (Exa.keep (Exa.keep f50 K46q) K57q)
                  have f201 := (Fld.keep (Fld.keep (Fld.keep (Fld.keep (Fld.ext E20 (Fld.keep Y9_2 K13q (ninS (Nat.ne_of_gt lt_b4_b9) nin0))) K27q nin0) K37q nin0) K46q nin0) K57q (ninS (Nat.ne_of_lt lt_b9_b20) nin0))
                  have f202 := (Fld.keep (Fld.keep (Fld.keep (Fld.keep (Fld.ext E20 (Fld.keep Y9_3 K13q (ninS (Nat.ne_of_gt lt_b4_b9) nin0))) K27q nin0) K37q nin0) K46q nin0) K57q (ninS (Nat.ne_of_lt lt_b9_b20) nin0))
                  have f203 := (Arv.keep (Arv.keep f54 K46q nin0) K57q (ninS (Nat.ne_of_lt lt_t_9_b20) nin0))
                  have f204 := (Exa.keep f61 K57q)
                  have f205 := (Fld.keep (Fld.keep (Fld.keep Y27_2 K37q nin0) K46q nin0) K57q (ninS (Nat.ne_of_gt lt_b20_b27) nin0))
                  have f206 := (Fld.keep (Fld.keep (Fld.keep Y27_3 K37q nin0) K46q nin0) K57q (ninS (Nat.ne_of_gt lt_b20_b27) nin0))
                  have f207 := (Arv.keep (Arv.keep f51 K46q nin0) K57q (ninS (Ne.symm ne_b20_t_27) nin0))
                  have f208 := (Exa.keep f62 K57q)
                  have f209 := (Fld.keep (Fld.keep Y37_2 K46q nin0) K57q (ninS (Nat.ne_of_gt lt_b20_b37) nin0))
                  have f210 := (Fld.keep (Fld.keep Y37_3 K46q nin0) K57q (ninS (Nat.ne_of_gt lt_b20_b37) nin0))
                  have f211 := (Arv.keep (Arv.keep Y37_4 K46q nin0) K57q (ninS (Ne.symm ne_b20_t_37) nin0))
                  have f212 := (Exa.keep Y46_1 K57q)
                  have f213 := (Fld.keep Y46_2 K57q (ninS (Nat.ne_of_gt lt_b20_b46) nin0))
                  have f214 := (Fld.keep Y46_3 K57q (ninS (Nat.ne_of_gt lt_b20_b46) nin0))
                  have f215 := (Arv.keep Y46_4 K57q (ninS (Ne.symm ne_b20_t_46) nin0))
                  have hK187 := (backOf (R := room_1) (p := p) (e := e) (below := below) (args := #[(.int p0), (.int p1), (.int p2), (.int p3), (.int p4), (.int p5)]) (len := 3) (W := 0) (rm_eq l Z a0 hw [] w_COMPACT_STRINGS w_SIOOBE_FORMATTER b4 b20 b5 t_5 kk_5 n_5 vs_5 (own_cs p0) b7 t_7 kk_7 n_7 vs_7 (own_cs p1) b9 t_9 kk_9 n_9 vs_9 (own_cs p2) b27 t_27 kk_27 n_27 vs_27 (own_cs z6) b37 t_37 kk_37 n_37 vs_37 (own_cs z7) b46 t_46 kk_46 n_46 vs_46 (own_cs z8) T57.heap n0 (own_old_le O57) ST O57 f188 Y57_0 f189 f190 f191 Y57_1 Y57_2 Y57_3 f192 f193 f194 f195 Y5_5 f196 f197 f198 f199 Y7_5 f200 f201 f202 f203 Y9_5 f204 f205 f206 f207 Y27_5 f208 f209 f210 f211 Y37_5 f212 f213 f214 f215 Y46_5) hZ (ww71 hw) (ww2 hw) (by decide) (by decide))
                  obtain ⟨cq187, kq187, q187a, q187b, q187c⟩ := isOf hZ e71 f188
                  obtain ⟨_, _, ⟨T187, L187, k187, n187⟩, -, X187, ⟨Lc187, hQ187, l187, y187, z187⟩, st187⟩ := X71.virtualBack hx (y := y_8) (z := y_8) hown (mvT hZ (ww67 hw)) (mvT hZ (ww68 hw)) (notFace_of_selects (args := #[]) (mvT hZ (ww70 hw))) (mvT hZ (ww70 hw)) (mvT hZ (ww69 hw)) (by decide) hK187 q187a q187c (g := (mkF m 186 ls162 [(.ref b20), (.ref b4)])) rfl (by rw [hml, hls162]; rfl) (Steps.refl _) (argsL := [(.ref b20)]) (rest := []) (lenOf pd_5 rfl) rfl (by show 2 * 0 + _ ≤ _; exact Nat.le_of_eq rfl) (hb hby at_186) (fun _ _ => ⟨rfl, e71, (by decide : 50 + 0 ≤ _), (by decide : 302 + 0 ≤ _)⟩)
                  dsimp only [Pt.U, Pt.locs, Pt.cells, Pt.slots] at X187 l187 y187 z187 st187 hQ187
                  subst l187 y187 z187
                  obtain ⟨r_187, rfl, N187q, K187q, Y187_0⟩ := hQ187
                  have N187 := Fr.app N71 N187q
                  obtain ⟨lc187, X187, N187⟩ := own_gen X187 N187
                  have cz187 : CHr Z own_EL T57.vm T57.heap T57.vm T187.heap := CHr.keep K187q all0 C57.1
                  have C187 : CHr Z own_EL s.vm h0 T57.vm T187.heap := C57.trans cz187
                  have O187 := O57.keep K187q all0
                  have hk187 : _ ≤ T187.heap.size := Nat.le_trans hk57 K187q.1
                  obtain rfl : r_187 = (0 : Int32) := own_eqN Y187_0 (fun q => hc72 ((own_key _ _).mpr q.2.2))
                  refine step (fun t k => st187.trans k) ?_
                  show G T187 (mkF m 189 ls162 [(.int 0)])
                  refine step (fun t k => XS.iload X187.here hx rfl (hb hby at_189) (by rw [hls162]; rfl) k) ?_
                  show G T187 (mkF m 191 ls162 [(.int 0), (.int 0)])
                  refine step (fun t k => XS.icmpNo X187.here hx rfl (hb hby at_191) rfl (teq (by decide : (0 : Int32) = (0 : Int32))).2 k) ?_
                  show G T187 (mkF m 194 ls162 [])
                  refine step (fun t k => XS.aload X187.here hx rfl (hb hby at_194) (by rw [hls162]; rfl) rfl k) ?_
                  show G T187 (mkF m 196 ls162 [(.ref b20)])
                  refine step (fun t k => XS.aload X187.here hx rfl (hb hby at_196) (by rw [hls162]; rfl) rfl k) ?_
                  show G T187 (mkF m 198 ls162 [(.ref b4), (.ref b20)])
                  have f217 := (Exa.keep Y57_0 K187q)
                  have f218 := (Exa.keep f188 K187q)
                  have f219 := (Fld.keep Y57_1 K187q nin0)
                  have f220 := (Fld.keep Y57_2 K187q nin0)
                  have f221 := (Fld.keep Y57_3 K187q nin0)
                  have f222 := (Fld.keep f189 K187q nin0)
                  have f223 := (Fld.keep f190 K187q nin0)
                  have f224 := (Fld.keep f191 K187q nin0)
                  have f225 := (Exa.keep f204 K187q)
                  have f226 := (Fld.keep f205 K187q nin0)
                  have f227 := (Fld.keep f206 K187q nin0)
                  have f228 := (Arv.keep f207 K187q nin0)
                  have f229 := (Exa.keep f208 K187q)
                  have f230 := (Fld.keep f209 K187q nin0)
                  have f231 := (Fld.keep f210 K187q nin0)
                  have f232 := (Arv.keep f211 K187q nin0)
                  have f233 := (Exa.keep f212 K187q)
                  have f234 := (Fld.keep f213 K187q nin0)
                  have f235 := (Fld.keep f214 K187q nin0)
                  have f236 := (Arv.keep f215 K187q nin0)
                  have f237 := (Exa.keep f192 K187q)
                  have f238 := (Fld.keep f193 K187q nin0)
                  have f239 := (Fld.keep f194 K187q nin0)
                  have f240 := (Arv.keep f195 K187q nin0)
                  have f241 := (Exa.keep f196 K187q)
                  have f242 := (Fld.keep f197 K187q nin0)
                  have f243 := (Fld.keep f198 K187q nin0)
                  have f244 := (Arv.keep f199 K187q nin0)
                  have f245 := (Exa.keep f200 K187q)
                  have f246 := (Fld.keep f201 K187q nin0)
                  have f247 := (Fld.keep f202 K187q nin0)
                  have f248 := (Arv.keep f203 K187q nin0)
                  have hK216 := (backOf (R := room_1) (p := p) (e := e) (below := below) (args := #[(.int p0), (.int p1), (.int p2), (.int p3), (.int p4), (.int p5)]) (len := 3) (W := 0) (rm_eq l Z a0 hw [] w_COMPACT_STRINGS w_SIOOBE_FORMATTER b20 b4 b27 t_27 kk_27 n_27 vs_27 (own_cs z6) b37 t_37 kk_37 n_37 vs_37 (own_cs z7) b46 t_46 kk_46 n_46 vs_46 (own_cs z8) b5 t_5 kk_5 n_5 vs_5 (own_cs p0) b7 t_7 kk_7 n_7 vs_7 (own_cs p1) b9 t_9 kk_9 n_9 vs_9 (own_cs p2) T187.heap n0 (own_old_le O187) ST O187 f217 f218 f219 f220 f221 f222 f223 f224 f225 f226 f227 f228 Y27_5 f229 f230 f231 f232 Y37_5 f233 f234 f235 f236 Y46_5 f237 f238 f239 f240 Y5_5 f241 f242 f243 f244 Y7_5 f245 f246 f247 f248 Y9_5) hZ (ww71 hw) (ww2 hw) (by decide) (by decide))
                  obtain ⟨cq216, kq216, q216a, q216b, q216c⟩ := isOf hZ rfl f217
                  obtain ⟨_, _, ⟨T216, L216, k216, n216⟩, -, X216, ⟨Lc216, hQ216, l216, y216, z216⟩, st216⟩ := X187.virtualBack hx (y := y_8) (z := y_8) hown (mvT hZ (ww67 hw)) (mvT hZ (ww68 hw)) (notFace_of_selects (args := #[]) (mvT hZ (ww70 hw))) (mvT hZ (ww70 hw)) (mvT hZ (ww69 hw)) (by decide) hK216 q216a q216c (g := (mkF m 198 ls162 [(.ref b4), (.ref b20)])) rfl (by rw [hml, hls162]; rfl) (Steps.refl _) (argsL := [(.ref b4)]) (rest := []) (lenOf pd_5 rfl) rfl (by show 2 * 0 + _ ≤ _; exact Nat.le_of_eq rfl) (hb hby at_198) (fun _ _ => ⟨rfl, rfl, (by decide : 50 + 0 ≤ _), (by decide : 302 + 0 ≤ _)⟩)
                  dsimp only [Pt.U, Pt.locs, Pt.cells, Pt.slots] at X216 l216 y216 z216 st216 hQ216
                  subst l216 y216 z216
                  obtain ⟨r_216, rfl, N216q, K216q, Y216_0⟩ := hQ216
                  have N216 := Fr.app N187 N216q
                  obtain ⟨lc216, X216, N216⟩ := own_gen X216 N216
                  have cz216 : CHr Z own_EL T57.vm T187.heap T57.vm T216.heap := CHr.keep K216q all0 C187.1
                  have C216 : CHr Z own_EL s.vm h0 T57.vm T216.heap := C187.trans cz216
                  have O216 := O187.keep K216q all0
                  have hk216 : _ ≤ T216.heap.size := Nat.le_trans hk187 K216q.1
                  obtain rfl : r_216 = (0 : Int32) := own_eqN Y216_0 (fun q => hc72 ((own_key _ _).mpr q.2.2.symm))
                  refine step (fun t k => st216.trans k) ?_
                  show G T216 (mkF m 201 ls162 [(.int 0)])
                  refine step (fun t k => XS.iload X216.here hx rfl (hb hby at_201) (by rw [hls162]; rfl) k) ?_
                  show G T216 (mkF m 203 ls162 [(.int 0), (.int 0)])
                  refine step (fun t k => XS.icmpNo X216.here hx rfl (hb hby at_203) rfl (teq (by decide : (0 : Int32) = (0 : Int32))).2 k) ?_
                  show G T216 (mkF m 206 ls162 [])
                  refine step (fun t k => XS.iconst X216.here hx rfl (hb hby at_206) k) ?_
                  show G T216 (mkF m 207 ls162 [(.int 1)])
                  refine step (fun t k => XS.goto X216.here hx rfl (pc0 := 207) (pc' := 211) rfl (hb hby at_207) (by decide) (by decide) k) ?_
                  show G T216 (mkF m 211 ls162 [(.int 1)])
                  exact ret (v := some (.int 1)) X216 hS hk216 C216 hZ (fun h => by rw [Bd.returns] at h; cases h) (fun fs hr => retN X216 hx (t := .boolean) Bd.returns (by simp) (hb hby at_211) hr) rfl ⟨rfl, N216⟩ (by decide) (by decide)
          · skip
            refine step (fun t k => XS.icmpYes X68.here hx rfl (pc0 := 103) (pc' := 122) rfl (hb hby at_103) rfl (feq hc69).2 (by decide) (by decide) k) ?_
            show G T68 (mkF m 122 ls63 [])
            refine step (fun t k => XS.iconst X68.here hx rfl (hb hby at_122) k) ?_
            show G T68 (mkF m 123 ls63 [(.int 0)])
            obtain ⟨ls249, hls249⟩  := own_sl #[.val (.int p0), .val (.int p1), .val (.int p2), .val (.int p3), .val (.int p4), .val (.int p5), .val (.int z6), .val (.int z7), .val (.int z8), .val (.ref b4), .val (.ref b20), .val (.int 0), .unset, .unset]
            refine step (fun t k => XS.istore X68.here hx rfl (hb hby at_123) rfl (l' := ls249) (by rw [hls63, hls249]; rfl) k) ?_
            show G T68 (mkF m 125 ls249 [])
            refine step (fun t k => XS.iloadN X68.here hx rfl (hb hby at_125) (by rw [hls249]; rfl) k) ?_
            show G T68 (mkF m 126 ls249 [(.int p3)])
            refine step (fun t k => XS.bipush X68.here hx rfl (hb hby at_126) k) ?_
            show G T68 (mkF m 128 ls249 [(.int 28), (.int p3)])
            refine step (fun t k => XS.iushr X68.here hx rfl (hb hby at_128) rfl k) ?_
            show G T68 (mkF m 129 ls249 [(.int ((p3.toUInt32 >>> ((28 : Int32) &&& 31).toUInt32).toInt32))])
            refine step (fun t k => XS.iconst X68.here hx rfl (hb hby at_129) k) ?_
            show G T68 (mkF m 130 ls249 [(.int 3), (.int ((p3.toUInt32 >>> ((28 : Int32) &&& 31).toUInt32).toInt32))])
            refine step (fun t k => XS.iand X68.here hx rfl (hb hby at_130) rfl k) ?_
            show G T68 (mkF m 131 ls249 [(.int (((p3.toUInt32 >>> ((28 : Int32) &&& 31).toUInt32).toInt32) &&& (3 : Int32)))])
            obtain ⟨ls250, hls250⟩  := own_sl #[.val (.int p0), .val (.int p1), .val (.int p2), .val (.int p3), .val (.int p4), .val (.int p5), .val (.int z6), .val (.int z7), .val (.int z8), .val (.ref b4), .val (.ref b20), .val (.int 0), .val (.int (((p3.toUInt32 >>> ((28 : Int32) &&& 31).toUInt32).toInt32) &&& (3 : Int32))), .unset]
            refine step (fun t k => XS.istore X68.here hx rfl (hb hby at_131) rfl (l' := ls250) (by rw [hls249, hls250]; rfl) k) ?_
            show G T68 (mkF m 133 ls250 [])
            refine step (fun t k => XS.iload X68.here hx rfl (hb hby at_133) (by rw [hls250]; rfl) k) ?_
            show G T68 (mkF m 135 ls250 [(.int (((p3.toUInt32 >>> ((28 : Int32) &&& 31).toUInt32).toInt32) &&& (3 : Int32)))])
            refine step (fun t k => XS.iconst X68.here hx rfl (hb hby at_135) k) ?_
            show G T68 (mkF m 136 ls250 [(.int 2), (.int (((p3.toUInt32 >>> ((28 : Int32) &&& 31).toUInt32).toInt32) &&& (3 : Int32)))])
            by_cases hc251 : (((p3.toUInt32 >>> ((28 : Int32) &&& 31).toUInt32).toInt32) &&& (3 : Int32)) = (2 : Int32)
            · skip
              refine step (fun t k => XS.icmpNo X68.here hx rfl (hb hby at_136) rfl (teq hc251).2 k) ?_
              show G T68 (mkF m 139 ls250 [])
              refine step (fun t k => XS.aload X68.here hx rfl (hb hby at_139) (by rw [hls250]; rfl) rfl k) ?_
              show G T68 (mkF m 141 ls250 [(.ref b4)])
              refine step (fun t k => XS.aconstNull X68.here hx rfl (hb hby at_141) k) ?_
              show G T68 (mkF m 142 ls250 [.null, (.ref b4)])
              have hK252 := (backOf (R := room_1) (p := p) (e := e) (below := below) (args := #[(.int p0), (.int p1), (.int p2), (.int p3), (.int p4), (.int p5)]) (len := 3) (W := 0) (rm_en l Z a0 hw [] b4 T57.heap n0 (own_old_le O57) O57) hZ (ww71 hw) (ww2 hw) (by decide) (by decide))
              have f253 := (Exa.keep f55 K57q)
              obtain ⟨cq252, kq252, q252a, q252b, q252c⟩ := isOf hZ e68 f253
              obtain ⟨_, _, ⟨T252, L252, k252, n252⟩, -, X252, ⟨Lc252, hQ252, l252, y252, z252⟩, st252⟩ := X68.virtualBack hx (y := y_8) (z := y_8) hown (mvT hZ (ww67 hw)) (mvT hZ (ww68 hw)) (notFace_of_selects (args := #[]) (mvT hZ (ww70 hw))) (mvT hZ (ww70 hw)) (mvT hZ (ww69 hw)) (by decide) hK252 q252a q252c (g := (mkF m 142 ls250 [.null, (.ref b4)])) rfl (by rw [hml, hls250]; rfl) (Steps.refl _) (argsL := [.null]) (rest := []) (lenOf pd_5 rfl) rfl (by show 2 * 0 + _ ≤ _; exact Nat.le_of_eq rfl) (hb hby at_142) (fun _ _ => ⟨rfl, e68, (by decide : 50 + 0 ≤ _), (by decide : 302 + 0 ≤ _)⟩)
              dsimp only [Pt.U, Pt.locs, Pt.cells, Pt.slots] at X252 l252 y252 z252 st252 hQ252
              subst l252 y252 z252
              obtain ⟨rfl, N252q, e252⟩ := hQ252
              have N252 := Fr.app N68 N252q
              obtain ⟨lc252, X252, N252⟩ := own_gen X252 N252
              refine step (fun t k => st252.trans k) ?_
              show G T252 (mkF m 145 ls250 [(.int (f_en b4))])
              have r254 : (f_en b4) = (0 : Int32) := rfl
              rw [r254]
              show G T252 (mkF m 145 ls250 [(.int 0)])
              refine step (fun t k => XS.ifNo X252.here hx rfl (hb hby at_145) rfl ((if0 _ _).trans (teq (by decide : (0 : Int32) = (0 : Int32))).2) k) ?_
              show G T252 (mkF m 148 ls250 [])
              refine step (fun t k => XS.iconst X252.here hx rfl (hb hby at_148) k) ?_
              show G T252 (mkF m 149 ls250 [(.int 1)])
              refine step (fun t k => XS.goto X252.here hx rfl (pc0 := 149) (pc' := 153) rfl (hb hby at_149) (by decide) (by decide) k) ?_
              show G T252 (mkF m 153 ls250 [(.int 1)])
              exact ret (v := some (.int 1)) X252 hS hk57 C57 hZ (fun h => by rw [Bd.returns] at h; cases h) (fun fs hr => retN X252 hx (t := .boolean) Bd.returns (by simp) (hb hby at_153) hr) e252 ⟨rfl, N252⟩ (by decide) (by decide)
            · skip
              refine step (fun t k => XS.icmpYes X68.here hx rfl (pc0 := 136) (pc' := 154) rfl (hb hby at_136) rfl (feq hc251).2 (by decide) (by decide) k) ?_
              show G T68 (mkF m 154 ls250 [])
              refine step (fun t k => XS.iload X68.here hx rfl (hb hby at_154) (by rw [hls250]; rfl) k) ?_
              show G T68 (mkF m 156 ls250 [(.int (((p3.toUInt32 >>> ((28 : Int32) &&& 31).toUInt32).toInt32) &&& (3 : Int32)))])
              refine step (fun t k => XS.iconst X68.here hx rfl (hb hby at_156) k) ?_
              show G T68 (mkF m 157 ls250 [(.int 3), (.int (((p3.toUInt32 >>> ((28 : Int32) &&& 31).toUInt32).toInt32) &&& (3 : Int32)))])
              by_cases hc255 : (((p3.toUInt32 >>> ((28 : Int32) &&& 31).toUInt32).toInt32) &&& (3 : Int32)) = (3 : Int32)
              · skip
                refine step (fun t k => XS.icmpNo X68.here hx rfl (hb hby at_157) rfl (teq hc255).2 k) ?_
                show G T68 (mkF m 160 ls250 [])
                refine step (fun t k => XS.iloadN X68.here hx rfl (hb hby at_160) (by rw [hls250]; rfl) k) ?_
                show G T68 (mkF m 161 ls250 [(.int p0)])
                have hK256 := (backOfSH (s := s) (vm0 := T57.vm) (R := room_1) (p := p) (e := e) (below := below) (args := #[(.int p0), (.int p1), (.int p2), (.int p3), (.int p4), (.int p5)]) (len := 3) (W := 0) (rm_str l Z a0 hw [] w_COMPACT_STRINGS w_SIOOBE_FORMATTER p0 T57.heap n0 (own_old_le O57) ST O57) hZ (ww6 hw) (ww5 hw) (by decide) (by decide) (own_EW hw) C57.1)
                obtain ⟨_, _, ⟨T256, L256, k256, n256⟩, -, X256, hS256, hg256, ⟨Lc256, hQ256, l256, y256, z256, hC256⟩, st256⟩ := callSS X68 hx (y := y_5) hown (mvT hZ (ww3 hw)) (mvT hZ (ww4 hw)) (mvT hZ (ww5 hw)) (mvT hZ (ww6 hw)) (by decide) hK256 (g := (mkF m 161 ls250 [(.int p0)])) rfl (by rw [hml, hls250]; rfl) (argsL := [(.int p0)]) (rest := []) (lenOf pd_6 rfl) rfl (by show 2 * 0 + _ ≤ _; exact Nat.le_of_eq rfl) (hb hby at_161) (fun _ _ => ⟨rfl, e68, (by decide : 50 + 6 ≤ _), (by decide : 302 + 12 ≤ _)⟩)
                dsimp only [Pt.U, Pt.locs, Pt.cells, Pt.slots] at X256 l256 y256 z256 st256 hQ256 hS256 hg256 hC256
                subst l256 y256 z256
                obtain ⟨X256, hS, hZ, hown⟩ := rebS (s := s) hS (by rw [e68]; exact hk57) X256 hS256 hg256 hZ hown
                have f257 := (Exa.keep f61 K57q)
                have f258 := (Exa.keep f62 K57q)
                have f259 := (Exa.keep f55 K57q)
                have f260 := (Exa.keep Y46_1 K57q)
                have f261 := (Exa.keep (Exa.keep f48 K46q) K57q)
                have f262 := (Exa.keep (Exa.keep f49 K46q) K57q)
                have f263 := (Exa.keep (Exa.keep f50 K46q) K57q)
                have f264 := (Arv.keep (Arv.keep f51 K46q nin0) K57q (ninS (Ne.symm ne_b20_t_27) nin0))
                have f265 := (Arv.keep (Arv.keep Y37_4 K46q nin0) K57q (ninS (Ne.symm ne_b20_t_37) nin0))
                have f266 := (Arv.keep Y46_4 K57q (ninS (Ne.symm ne_b20_t_46) nin0))
                have f267 := (Arv.keep (Arv.keep f52 K46q nin0) K57q (ninS (Nat.ne_of_lt lt_t_5_b20) nin0))
                have f268 := (Arv.keep (Arv.keep f53 K46q nin0) K57q (ninS (Nat.ne_of_lt lt_t_7_b20) nin0))
                have f269 := (Arv.keep (Arv.keep f54 K46q nin0) K57q (ninS (Nat.ne_of_lt lt_t_9_b20) nin0))
                obtain ⟨b256, t_256, kk_256, n_256, vs_256, rfl, N256q, K256q, Y256_0, Y256_1, Y256_2, Y256_3, Y256_4, Y256_5⟩ := hQ256
                have N256 := Fr.app N68 N256q
                obtain ⟨lc256, X256, N256⟩ := own_gen X256 N256
                have cz256 : CHr Z own_EL T57.vm T57.heap T256.vm T256.heap := hC256
                have C256 : CHr Z own_EL s.vm h0 T256.vm T256.heap := C57.trans cz256
                have O256 := O57.keep K256q all0
                have ge_b256 : n0 ≤ b256 := Nat.le_trans (own_old_le O57) Y256_0
                have lt_b20_b256 : b20 < b256 := Nat.lt_of_lt_of_le Y57_0.lt Y256_0
                have lt_b27_b256 : b27 < b256 := Nat.lt_of_lt_of_le f257.lt Y256_0
                have lt_b37_b256 : b37 < b256 := Nat.lt_of_lt_of_le f258.lt Y256_0
                have lt_b4_b256 : b4 < b256 := Nat.lt_of_lt_of_le f259.lt Y256_0
                have lt_b46_b256 : b46 < b256 := Nat.lt_of_lt_of_le f260.lt Y256_0
                have lt_b5_b256 : b5 < b256 := Nat.lt_of_lt_of_le f261.lt Y256_0
                have lt_b7_b256 : b7 < b256 := Nat.lt_of_lt_of_le f262.lt Y256_0
                have lt_b9_b256 : b9 < b256 := Nat.lt_of_lt_of_le f263.lt Y256_0
                have lt_t_27_b256 : t_27 < b256 := Nat.lt_of_lt_of_le f264.lt Y256_0
                have lt_t_37_b256 : t_37 < b256 := Nat.lt_of_lt_of_le f265.lt Y256_0
                have lt_t_46_b256 : t_46 < b256 := Nat.lt_of_lt_of_le f266.lt Y256_0
                have lt_t_5_b256 : t_5 < b256 := Nat.lt_of_lt_of_le f267.lt Y256_0
                have lt_t_7_b256 : t_7 < b256 := Nat.lt_of_lt_of_le f268.lt Y256_0
                have lt_t_9_b256 : t_9 < b256 := Nat.lt_of_lt_of_le f269.lt Y256_0
                have hk256 : _ ≤ T256.heap.size := Nat.le_refl _
                have f270 := (Exa.keep f259 K256q)
                have ne_b4_t_256 : b4 ≠ t_256 := own_ne_arv f270 (ww1 hw) Y256_4
                have f271 := (Exa.keep Y57_0 K256q)
                have ne_b20_t_256 : b20 ≠ t_256 := own_ne_arv f271 (ww1 hw) Y256_4
                refine step (fun t k => st256.trans k) ?_
                show G T256 (mkF m 164 ls250 [(.ref b256)])
                obtain ⟨ls272, hls272⟩  := own_sl #[.val (.int p0), .val (.int p1), .val (.int p2), .val (.int p3), .val (.int p4), .val (.int p5), .val (.int z6), .val (.int z7), .val (.int z8), .val (.ref b4), .val (.ref b20), .val (.int 0), .val (.int (((p3.toUInt32 >>> ((28 : Int32) &&& 31).toUInt32).toInt32) &&& (3 : Int32))), .val (.ref b256)]
                refine step (fun t k => XS.astore X256.here hx rfl (hb hby at_164) rfl rfl (l' := ls272) (by rw [hls250, hls272]; rfl) k) ?_
                show G T256 (mkF m 166 ls272 [])
                refine step (fun t k => XS.aload X256.here hx rfl (hb hby at_166) (by rw [hls272]; rfl) rfl k) ?_
                show G T256 (mkF m 168 ls272 [(.ref b4)])
                refine step (fun t k => XS.aload X256.here hx rfl (hb hby at_168) (by rw [hls272]; rfl) rfl k) ?_
                show G T256 (mkF m 170 ls272 [(.ref b256), (.ref b4)])
                have hK273 := (backOf (R := room_1) (p := p) (e := e) (below := below) (args := #[(.int p0), (.int p1), (.int p2), (.int p3), (.int p4), (.int p5)]) (len := 3) (W := 0) (rm_es l Z a0 hw [] b4 b256 T256.heap n0 (own_old_le O256) O256 Y256_1) hZ (ww71 hw) (ww2 hw) (by decide) (by decide))
                obtain ⟨cq273, kq273, q273a, q273b, q273c⟩ := isOf hZ rfl f270
                obtain ⟨_, _, ⟨T273, L273, k273, n273⟩, -, X273, ⟨Lc273, hQ273, l273, y273, z273⟩, st273⟩ := X256.virtualBack hx (y := y_8) (z := y_8) hown (mvT hZ (ww67 hw)) (mvT hZ (ww68 hw)) (notFace_of_selects (args := #[]) (mvT hZ (ww70 hw))) (mvT hZ (ww70 hw)) (mvT hZ (ww69 hw)) (by decide) hK273 q273a q273c (g := (mkF m 170 ls272 [(.ref b256), (.ref b4)])) rfl (by rw [hml, hls272]; rfl) (Steps.refl _) (argsL := [(.ref b256)]) (rest := []) (lenOf pd_5 rfl) rfl (by show 2 * 0 + _ ≤ _; exact Nat.le_of_eq rfl) (hb hby at_170) (fun _ _ => ⟨rfl, rfl, (by decide : 56 + 0 ≤ _), (by decide : 314 + 0 ≤ _)⟩)
                dsimp only [Pt.U, Pt.locs, Pt.cells, Pt.slots] at X273 l273 y273 z273 st273 hQ273
                subst l273 y273 z273
                obtain ⟨rfl, N273q, e273⟩ := hQ273
                have N273 := Fr.app N256 N273q
                obtain ⟨lc273, X273, N273⟩ := own_gen X273 N273
                refine step (fun t k => st273.trans k) ?_
                show G T273 (mkF m 173 ls272 [(.int (f_es b4 b256))])
                have r274 : (f_es b4 b256) = (0 : Int32) := rfl
                rw [r274]
                show G T273 (mkF m 173 ls272 [(.int 0)])
                refine step (fun t k => XS.ifNo X273.here hx rfl (hb hby at_173) rfl ((if0 _ _).trans (teq (by decide : (0 : Int32) = (0 : Int32))).2) k) ?_
                show G T273 (mkF m 176 ls272 [])
                refine step (fun t k => XS.iconst X273.here hx rfl (hb hby at_176) k) ?_
                show G T273 (mkF m 177 ls272 [(.int 1)])
                refine step (fun t k => XS.goto X273.here hx rfl (pc0 := 177) (pc' := 181) rfl (hb hby at_177) (by decide) (by decide) k) ?_
                show G T273 (mkF m 181 ls272 [(.int 1)])
                exact ret (v := some (.int 1)) X273 hS hk256 C256 hZ (fun h => by rw [Bd.returns] at h; cases h) (fun fs hr => retN X273 hx (t := .boolean) Bd.returns (by simp) (hb hby at_181) hr) e273 ⟨rfl, N273⟩ (by decide) (by decide)
              · skip
                refine step (fun t k => XS.icmpYes X68.here hx rfl (pc0 := 157) (pc' := 182) rfl (hb hby at_157) rfl (feq hc255).2 (by decide) (by decide) k) ?_
                show G T68 (mkF m 182 ls250 [])
                refine step (fun t k => XS.aload X68.here hx rfl (hb hby at_182) (by rw [hls250]; rfl) rfl k) ?_
                show G T68 (mkF m 184 ls250 [(.ref b4)])
                refine step (fun t k => XS.aload X68.here hx rfl (hb hby at_184) (by rw [hls250]; rfl) rfl k) ?_
                show G T68 (mkF m 186 ls250 [(.ref b20), (.ref b4)])
                have f276 := (Exa.keep f55 K57q)
                have f277 := (Fld.keep (Fld.keep (Fld.keep (Fld.keep (Fld.ext E20 Y13_1) K27q nin0) K37q nin0) K46q nin0) K57q (ninS (Nat.ne_of_lt lt_b4_b20) nin0))
                have f278 := (Fld.keep (Fld.keep (Fld.keep (Fld.keep (Fld.ext E20 Y13_2) K27q nin0) K37q nin0) K46q nin0) K57q (ninS (Nat.ne_of_lt lt_b4_b20) nin0))
                have f279 := (Fld.keep (Fld.keep (Fld.keep (Fld.keep (Fld.ext E20 Y13_3) K27q nin0) K37q nin0) K46q nin0) K57q (ninS (Nat.ne_of_lt lt_b4_b20) nin0))
                have f280 := (Exa.keep (Exa.keep f48 K46q) K57q)
                have f281 := (Fld.keep (Fld.keep (Fld.keep (Fld.keep (Fld.ext E20 (Fld.keep (Fld.keep (Fld.keep Y5_2 K7q nin0) K9q nin0) K13q (ninS (Nat.ne_of_gt lt_b4_b5) nin0))) K27q nin0) K37q nin0) K46q nin0) K57q (ninS (Nat.ne_of_lt lt_b5_b20) nin0))
                have f282 := (Fld.keep (Fld.keep (Fld.keep (Fld.keep (Fld.ext E20 (Fld.keep (Fld.keep (Fld.keep Y5_3 K7q nin0) K9q nin0) K13q (ninS (Nat.ne_of_gt lt_b4_b5) nin0))) K27q nin0) K37q nin0) K46q nin0) K57q (ninS (Nat.ne_of_lt lt_b5_b20) nin0))
                have f283 := (Arv.keep (Arv.keep f52 K46q nin0) K57q (ninS (Nat.ne_of_lt lt_t_5_b20) nin0))
                have f284 := (Exa.keep (Exa.keep f49 K46q) K57q)
                have f285 := (Fld.keep (Fld.keep (Fld.keep (Fld.keep (Fld.ext E20 (Fld.keep (Fld.keep Y7_2 K9q nin0) K13q (ninS (Nat.ne_of_gt lt_b4_b7) nin0))) K27q nin0) K37q nin0) K46q nin0) K57q (ninS (Nat.ne_of_lt lt_b7_b20) nin0))
                have f286 := (Fld.keep (Fld.keep (Fld.keep (Fld.keep (Fld.ext E20 (Fld.keep (Fld.keep Y7_3 K9q nin0) K13q (ninS (Nat.ne_of_gt lt_b4_b7) nin0))) K27q nin0) K37q nin0) K46q nin0) K57q (ninS (Nat.ne_of_lt lt_b7_b20) nin0))
                have f287 := (Arv.keep (Arv.keep f53 K46q nin0) K57q (ninS (Nat.ne_of_lt lt_t_7_b20) nin0))
                have f288 := (Exa.keep (Exa.keep f50 K46q) K57q)
                have f289 := (Fld.keep (Fld.keep (Fld.keep (Fld.keep (Fld.ext E20 (Fld.keep Y9_2 K13q (ninS (Nat.ne_of_gt lt_b4_b9) nin0))) K27q nin0) K37q nin0) K46q nin0) K57q (ninS (Nat.ne_of_lt lt_b9_b20) nin0))
                have f290 := (Fld.keep (Fld.keep (Fld.keep (Fld.keep (Fld.ext E20 (Fld.keep Y9_3 K13q (ninS (Nat.ne_of_gt lt_b4_b9) nin0))) K27q nin0) K37q nin0) K46q nin0) K57q (ninS (Nat.ne_of_lt lt_b9_b20) nin0))
                have f291 := (Arv.keep (Arv.keep f54 K46q nin0) K57q (ninS (Nat.ne_of_lt lt_t_9_b20) nin0))
                have f292 := (Exa.keep f61 K57q)
                have f293 := (Fld.keep (Fld.keep (Fld.keep Y27_2 K37q nin0) K46q nin0) K57q (ninS (Nat.ne_of_gt lt_b20_b27) nin0))
                have f294 := (Fld.keep (Fld.keep (Fld.keep Y27_3 K37q nin0) K46q nin0) K57q (ninS (Nat.ne_of_gt lt_b20_b27) nin0))
                have f295 := (Arv.keep (Arv.keep f51 K46q nin0) K57q (ninS (Ne.symm ne_b20_t_27) nin0))
                have f296 := (Exa.keep f62 K57q)
                have f297 := (Fld.keep (Fld.keep Y37_2 K46q nin0) K57q (ninS (Nat.ne_of_gt lt_b20_b37) nin0))
                have f298 := (Fld.keep (Fld.keep Y37_3 K46q nin0) K57q (ninS (Nat.ne_of_gt lt_b20_b37) nin0))
                have f299 := (Arv.keep (Arv.keep Y37_4 K46q nin0) K57q (ninS (Ne.symm ne_b20_t_37) nin0))
                have f300 := (Exa.keep Y46_1 K57q)
                have f301 := (Fld.keep Y46_2 K57q (ninS (Nat.ne_of_gt lt_b20_b46) nin0))
                have f302 := (Fld.keep Y46_3 K57q (ninS (Nat.ne_of_gt lt_b20_b46) nin0))
                have f303 := (Arv.keep Y46_4 K57q (ninS (Ne.symm ne_b20_t_46) nin0))
                have hK275 := (backOf (R := room_1) (p := p) (e := e) (below := below) (args := #[(.int p0), (.int p1), (.int p2), (.int p3), (.int p4), (.int p5)]) (len := 3) (W := 0) (rm_eq l Z a0 hw [] w_COMPACT_STRINGS w_SIOOBE_FORMATTER b4 b20 b5 t_5 kk_5 n_5 vs_5 (own_cs p0) b7 t_7 kk_7 n_7 vs_7 (own_cs p1) b9 t_9 kk_9 n_9 vs_9 (own_cs p2) b27 t_27 kk_27 n_27 vs_27 (own_cs z6) b37 t_37 kk_37 n_37 vs_37 (own_cs z7) b46 t_46 kk_46 n_46 vs_46 (own_cs z8) T57.heap n0 (own_old_le O57) ST O57 f276 Y57_0 f277 f278 f279 Y57_1 Y57_2 Y57_3 f280 f281 f282 f283 Y5_5 f284 f285 f286 f287 Y7_5 f288 f289 f290 f291 Y9_5 f292 f293 f294 f295 Y27_5 f296 f297 f298 f299 Y37_5 f300 f301 f302 f303 Y46_5) hZ (ww71 hw) (ww2 hw) (by decide) (by decide))
                obtain ⟨cq275, kq275, q275a, q275b, q275c⟩ := isOf hZ e68 f276
                obtain ⟨_, _, ⟨T275, L275, k275, n275⟩, -, X275, ⟨Lc275, hQ275, l275, y275, z275⟩, st275⟩ := X68.virtualBack hx (y := y_8) (z := y_8) hown (mvT hZ (ww67 hw)) (mvT hZ (ww68 hw)) (notFace_of_selects (args := #[]) (mvT hZ (ww70 hw))) (mvT hZ (ww70 hw)) (mvT hZ (ww69 hw)) (by decide) hK275 q275a q275c (g := (mkF m 186 ls250 [(.ref b20), (.ref b4)])) rfl (by rw [hml, hls250]; rfl) (Steps.refl _) (argsL := [(.ref b20)]) (rest := []) (lenOf pd_5 rfl) rfl (by show 2 * 0 + _ ≤ _; exact Nat.le_of_eq rfl) (hb hby at_186) (fun _ _ => ⟨rfl, e68, (by decide : 50 + 0 ≤ _), (by decide : 302 + 0 ≤ _)⟩)
                dsimp only [Pt.U, Pt.locs, Pt.cells, Pt.slots] at X275 l275 y275 z275 st275 hQ275
                subst l275 y275 z275
                obtain ⟨r_275, rfl, N275q, K275q, Y275_0⟩ := hQ275
                have N275 := Fr.app N68 N275q
                obtain ⟨lc275, X275, N275⟩ := own_gen X275 N275
                have cz275 : CHr Z own_EL T57.vm T57.heap T57.vm T275.heap := CHr.keep K275q all0 C57.1
                have C275 : CHr Z own_EL s.vm h0 T57.vm T275.heap := C57.trans cz275
                have O275 := O57.keep K275q all0
                have hk275 : _ ≤ T275.heap.size := Nat.le_trans hk57 K275q.1
                obtain rfl : r_275 = (0 : Int32) := own_eqN Y275_0 (fun q => hc69 ((own_key _ _).mpr q.2.1))
                refine step (fun t k => st275.trans k) ?_
                show G T275 (mkF m 189 ls250 [(.int 0)])
                refine step (fun t k => XS.iload X275.here hx rfl (hb hby at_189) (by rw [hls250]; rfl) k) ?_
                show G T275 (mkF m 191 ls250 [(.int 0), (.int 0)])
                refine step (fun t k => XS.icmpNo X275.here hx rfl (hb hby at_191) rfl (teq (by decide : (0 : Int32) = (0 : Int32))).2 k) ?_
                show G T275 (mkF m 194 ls250 [])
                refine step (fun t k => XS.aload X275.here hx rfl (hb hby at_194) (by rw [hls250]; rfl) rfl k) ?_
                show G T275 (mkF m 196 ls250 [(.ref b20)])
                refine step (fun t k => XS.aload X275.here hx rfl (hb hby at_196) (by rw [hls250]; rfl) rfl k) ?_
                show G T275 (mkF m 198 ls250 [(.ref b4), (.ref b20)])
                have f305 := (Exa.keep Y57_0 K275q)
                have f306 := (Exa.keep f276 K275q)
                have f307 := (Fld.keep Y57_1 K275q nin0)
                have f308 := (Fld.keep Y57_2 K275q nin0)
                have f309 := (Fld.keep Y57_3 K275q nin0)
                have f310 := (Fld.keep f277 K275q nin0)
                have f311 := (Fld.keep f278 K275q nin0)
                have f312 := (Fld.keep f279 K275q nin0)
                have f313 := (Exa.keep f292 K275q)
                have f314 := (Fld.keep f293 K275q nin0)
                have f315 := (Fld.keep f294 K275q nin0)
                have f316 := (Arv.keep f295 K275q nin0)
                have f317 := (Exa.keep f296 K275q)
                have f318 := (Fld.keep f297 K275q nin0)
                have f319 := (Fld.keep f298 K275q nin0)
                have f320 := (Arv.keep f299 K275q nin0)
                have f321 := (Exa.keep f300 K275q)
                have f322 := (Fld.keep f301 K275q nin0)
                have f323 := (Fld.keep f302 K275q nin0)
                have f324 := (Arv.keep f303 K275q nin0)
                have f325 := (Exa.keep f280 K275q)
                have f326 := (Fld.keep f281 K275q nin0)
                have f327 := (Fld.keep f282 K275q nin0)
                have f328 := (Arv.keep f283 K275q nin0)
                have f329 := (Exa.keep f284 K275q)
                have f330 := (Fld.keep f285 K275q nin0)
                have f331 := (Fld.keep f286 K275q nin0)
                have f332 := (Arv.keep f287 K275q nin0)
                have f333 := (Exa.keep f288 K275q)
                have f334 := (Fld.keep f289 K275q nin0)
                have f335 := (Fld.keep f290 K275q nin0)
                have f336 := (Arv.keep f291 K275q nin0)
                have hK304 := (backOf (R := room_1) (p := p) (e := e) (below := below) (args := #[(.int p0), (.int p1), (.int p2), (.int p3), (.int p4), (.int p5)]) (len := 3) (W := 0) (rm_eq l Z a0 hw [] w_COMPACT_STRINGS w_SIOOBE_FORMATTER b20 b4 b27 t_27 kk_27 n_27 vs_27 (own_cs z6) b37 t_37 kk_37 n_37 vs_37 (own_cs z7) b46 t_46 kk_46 n_46 vs_46 (own_cs z8) b5 t_5 kk_5 n_5 vs_5 (own_cs p0) b7 t_7 kk_7 n_7 vs_7 (own_cs p1) b9 t_9 kk_9 n_9 vs_9 (own_cs p2) T275.heap n0 (own_old_le O275) ST O275 f305 f306 f307 f308 f309 f310 f311 f312 f313 f314 f315 f316 Y27_5 f317 f318 f319 f320 Y37_5 f321 f322 f323 f324 Y46_5 f325 f326 f327 f328 Y5_5 f329 f330 f331 f332 Y7_5 f333 f334 f335 f336 Y9_5) hZ (ww71 hw) (ww2 hw) (by decide) (by decide))
                obtain ⟨cq304, kq304, q304a, q304b, q304c⟩ := isOf hZ rfl f305
                obtain ⟨_, _, ⟨T304, L304, k304, n304⟩, -, X304, ⟨Lc304, hQ304, l304, y304, z304⟩, st304⟩ := X275.virtualBack hx (y := y_8) (z := y_8) hown (mvT hZ (ww67 hw)) (mvT hZ (ww68 hw)) (notFace_of_selects (args := #[]) (mvT hZ (ww70 hw))) (mvT hZ (ww70 hw)) (mvT hZ (ww69 hw)) (by decide) hK304 q304a q304c (g := (mkF m 198 ls250 [(.ref b4), (.ref b20)])) rfl (by rw [hml, hls250]; rfl) (Steps.refl _) (argsL := [(.ref b4)]) (rest := []) (lenOf pd_5 rfl) rfl (by show 2 * 0 + _ ≤ _; exact Nat.le_of_eq rfl) (hb hby at_198) (fun _ _ => ⟨rfl, rfl, (by decide : 50 + 0 ≤ _), (by decide : 302 + 0 ≤ _)⟩)
                dsimp only [Pt.U, Pt.locs, Pt.cells, Pt.slots] at X304 l304 y304 z304 st304 hQ304
                subst l304 y304 z304
                obtain ⟨r_304, rfl, N304q, K304q, Y304_0⟩ := hQ304
                have N304 := Fr.app N275 N304q
                obtain ⟨lc304, X304, N304⟩ := own_gen X304 N304
                have cz304 : CHr Z own_EL T57.vm T275.heap T57.vm T304.heap := CHr.keep K304q all0 C275.1
                have C304 : CHr Z own_EL s.vm h0 T57.vm T304.heap := C275.trans cz304
                have O304 := O275.keep K304q all0
                have hk304 : _ ≤ T304.heap.size := Nat.le_trans hk275 K304q.1
                obtain rfl : r_304 = (0 : Int32) := own_eqN Y304_0 (fun q => hc69 ((own_key _ _).mpr q.2.1.symm))
                refine step (fun t k => st304.trans k) ?_
                show G T304 (mkF m 201 ls250 [(.int 0)])
                refine step (fun t k => XS.iload X304.here hx rfl (hb hby at_201) (by rw [hls250]; rfl) k) ?_
                show G T304 (mkF m 203 ls250 [(.int 0), (.int 0)])
                refine step (fun t k => XS.icmpNo X304.here hx rfl (hb hby at_203) rfl (teq (by decide : (0 : Int32) = (0 : Int32))).2 k) ?_
                show G T304 (mkF m 206 ls250 [])
                refine step (fun t k => XS.iconst X304.here hx rfl (hb hby at_206) k) ?_
                show G T304 (mkF m 207 ls250 [(.int 1)])
                refine step (fun t k => XS.goto X304.here hx rfl (pc0 := 207) (pc' := 211) rfl (hb hby at_207) (by decide) (by decide) k) ?_
                show G T304 (mkF m 211 ls250 [(.int 1)])
                exact ret (v := some (.int 1)) X304 hS hk304 C304 hZ (fun h => by rw [Bd.returns] at h; cases h) (fun fs hr => retN X304 hx (t := .boolean) Bd.returns (by simp) (hb hby at_211) hr) rfl ⟨rfl, N304⟩ (by decide) (by decide)
        · skip
          refine step (fun t k => XS.icmpYes X65.here hx rfl (pc0 := 91) (pc' := 122) rfl (hb hby at_91) rfl (feq hc66).2 (by decide) (by decide) k) ?_
          show G T65 (mkF m 122 ls63 [])
          refine step (fun t k => XS.iconst X65.here hx rfl (hb hby at_122) k) ?_
          show G T65 (mkF m 123 ls63 [(.int 0)])
          obtain ⟨ls337, hls337⟩  := own_sl #[.val (.int p0), .val (.int p1), .val (.int p2), .val (.int p3), .val (.int p4), .val (.int p5), .val (.int z6), .val (.int z7), .val (.int z8), .val (.ref b4), .val (.ref b20), .val (.int 0), .unset, .unset]
          refine step (fun t k => XS.istore X65.here hx rfl (hb hby at_123) rfl (l' := ls337) (by rw [hls63, hls337]; rfl) k) ?_
          show G T65 (mkF m 125 ls337 [])
          refine step (fun t k => XS.iloadN X65.here hx rfl (hb hby at_125) (by rw [hls337]; rfl) k) ?_
          show G T65 (mkF m 126 ls337 [(.int p3)])
          refine step (fun t k => XS.bipush X65.here hx rfl (hb hby at_126) k) ?_
          show G T65 (mkF m 128 ls337 [(.int 28), (.int p3)])
          refine step (fun t k => XS.iushr X65.here hx rfl (hb hby at_128) rfl k) ?_
          show G T65 (mkF m 129 ls337 [(.int ((p3.toUInt32 >>> ((28 : Int32) &&& 31).toUInt32).toInt32))])
          refine step (fun t k => XS.iconst X65.here hx rfl (hb hby at_129) k) ?_
          show G T65 (mkF m 130 ls337 [(.int 3), (.int ((p3.toUInt32 >>> ((28 : Int32) &&& 31).toUInt32).toInt32))])
          refine step (fun t k => XS.iand X65.here hx rfl (hb hby at_130) rfl k) ?_
          show G T65 (mkF m 131 ls337 [(.int (((p3.toUInt32 >>> ((28 : Int32) &&& 31).toUInt32).toInt32) &&& (3 : Int32)))])
          obtain ⟨ls338, hls338⟩  := own_sl #[.val (.int p0), .val (.int p1), .val (.int p2), .val (.int p3), .val (.int p4), .val (.int p5), .val (.int z6), .val (.int z7), .val (.int z8), .val (.ref b4), .val (.ref b20), .val (.int 0), .val (.int (((p3.toUInt32 >>> ((28 : Int32) &&& 31).toUInt32).toInt32) &&& (3 : Int32))), .unset]
          refine step (fun t k => XS.istore X65.here hx rfl (hb hby at_131) rfl (l' := ls338) (by rw [hls337, hls338]; rfl) k) ?_
          show G T65 (mkF m 133 ls338 [])
          refine step (fun t k => XS.iload X65.here hx rfl (hb hby at_133) (by rw [hls338]; rfl) k) ?_
          show G T65 (mkF m 135 ls338 [(.int (((p3.toUInt32 >>> ((28 : Int32) &&& 31).toUInt32).toInt32) &&& (3 : Int32)))])
          refine step (fun t k => XS.iconst X65.here hx rfl (hb hby at_135) k) ?_
          show G T65 (mkF m 136 ls338 [(.int 2), (.int (((p3.toUInt32 >>> ((28 : Int32) &&& 31).toUInt32).toInt32) &&& (3 : Int32)))])
          by_cases hc339 : (((p3.toUInt32 >>> ((28 : Int32) &&& 31).toUInt32).toInt32) &&& (3 : Int32)) = (2 : Int32)
          · skip
            refine step (fun t k => XS.icmpNo X65.here hx rfl (hb hby at_136) rfl (teq hc339).2 k) ?_
            show G T65 (mkF m 139 ls338 [])
            refine step (fun t k => XS.aload X65.here hx rfl (hb hby at_139) (by rw [hls338]; rfl) rfl k) ?_
            show G T65 (mkF m 141 ls338 [(.ref b4)])
            refine step (fun t k => XS.aconstNull X65.here hx rfl (hb hby at_141) k) ?_
            show G T65 (mkF m 142 ls338 [.null, (.ref b4)])
            have hK340 := (backOf (R := room_1) (p := p) (e := e) (below := below) (args := #[(.int p0), (.int p1), (.int p2), (.int p3), (.int p4), (.int p5)]) (len := 3) (W := 0) (rm_en l Z a0 hw [] b4 T57.heap n0 (own_old_le O57) O57) hZ (ww71 hw) (ww2 hw) (by decide) (by decide))
            have f341 := (Exa.keep f55 K57q)
            obtain ⟨cq340, kq340, q340a, q340b, q340c⟩ := isOf hZ e65 f341
            obtain ⟨_, _, ⟨T340, L340, k340, n340⟩, -, X340, ⟨Lc340, hQ340, l340, y340, z340⟩, st340⟩ := X65.virtualBack hx (y := y_8) (z := y_8) hown (mvT hZ (ww67 hw)) (mvT hZ (ww68 hw)) (notFace_of_selects (args := #[]) (mvT hZ (ww70 hw))) (mvT hZ (ww70 hw)) (mvT hZ (ww69 hw)) (by decide) hK340 q340a q340c (g := (mkF m 142 ls338 [.null, (.ref b4)])) rfl (by rw [hml, hls338]; rfl) (Steps.refl _) (argsL := [.null]) (rest := []) (lenOf pd_5 rfl) rfl (by show 2 * 0 + _ ≤ _; exact Nat.le_of_eq rfl) (hb hby at_142) (fun _ _ => ⟨rfl, e65, (by decide : 50 + 0 ≤ _), (by decide : 302 + 0 ≤ _)⟩)
            dsimp only [Pt.U, Pt.locs, Pt.cells, Pt.slots] at X340 l340 y340 z340 st340 hQ340
            subst l340 y340 z340
            obtain ⟨rfl, N340q, e340⟩ := hQ340
            have N340 := Fr.app N65 N340q
            obtain ⟨lc340, X340, N340⟩ := own_gen X340 N340
            refine step (fun t k => st340.trans k) ?_
            show G T340 (mkF m 145 ls338 [(.int (f_en b4))])
            have r342 : (f_en b4) = (0 : Int32) := rfl
            rw [r342]
            show G T340 (mkF m 145 ls338 [(.int 0)])
            refine step (fun t k => XS.ifNo X340.here hx rfl (hb hby at_145) rfl ((if0 _ _).trans (teq (by decide : (0 : Int32) = (0 : Int32))).2) k) ?_
            show G T340 (mkF m 148 ls338 [])
            refine step (fun t k => XS.iconst X340.here hx rfl (hb hby at_148) k) ?_
            show G T340 (mkF m 149 ls338 [(.int 1)])
            refine step (fun t k => XS.goto X340.here hx rfl (pc0 := 149) (pc' := 153) rfl (hb hby at_149) (by decide) (by decide) k) ?_
            show G T340 (mkF m 153 ls338 [(.int 1)])
            exact ret (v := some (.int 1)) X340 hS hk57 C57 hZ (fun h => by rw [Bd.returns] at h; cases h) (fun fs hr => retN X340 hx (t := .boolean) Bd.returns (by simp) (hb hby at_153) hr) e340 ⟨rfl, N340⟩ (by decide) (by decide)
          · skip
            refine step (fun t k => XS.icmpYes X65.here hx rfl (pc0 := 136) (pc' := 154) rfl (hb hby at_136) rfl (feq hc339).2 (by decide) (by decide) k) ?_
            show G T65 (mkF m 154 ls338 [])
            refine step (fun t k => XS.iload X65.here hx rfl (hb hby at_154) (by rw [hls338]; rfl) k) ?_
            show G T65 (mkF m 156 ls338 [(.int (((p3.toUInt32 >>> ((28 : Int32) &&& 31).toUInt32).toInt32) &&& (3 : Int32)))])
            refine step (fun t k => XS.iconst X65.here hx rfl (hb hby at_156) k) ?_
            show G T65 (mkF m 157 ls338 [(.int 3), (.int (((p3.toUInt32 >>> ((28 : Int32) &&& 31).toUInt32).toInt32) &&& (3 : Int32)))])
            by_cases hc343 : (((p3.toUInt32 >>> ((28 : Int32) &&& 31).toUInt32).toInt32) &&& (3 : Int32)) = (3 : Int32)
            · skip
              refine step (fun t k => XS.icmpNo X65.here hx rfl (hb hby at_157) rfl (teq hc343).2 k) ?_
              show G T65 (mkF m 160 ls338 [])
              refine step (fun t k => XS.iloadN X65.here hx rfl (hb hby at_160) (by rw [hls338]; rfl) k) ?_
              show G T65 (mkF m 161 ls338 [(.int p0)])
              have hK344 := (backOfSH (s := s) (vm0 := T57.vm) (R := room_1) (p := p) (e := e) (below := below) (args := #[(.int p0), (.int p1), (.int p2), (.int p3), (.int p4), (.int p5)]) (len := 3) (W := 0) (rm_str l Z a0 hw [] w_COMPACT_STRINGS w_SIOOBE_FORMATTER p0 T57.heap n0 (own_old_le O57) ST O57) hZ (ww6 hw) (ww5 hw) (by decide) (by decide) (own_EW hw) C57.1)
              obtain ⟨_, _, ⟨T344, L344, k344, n344⟩, -, X344, hS344, hg344, ⟨Lc344, hQ344, l344, y344, z344, hC344⟩, st344⟩ := callSS X65 hx (y := y_5) hown (mvT hZ (ww3 hw)) (mvT hZ (ww4 hw)) (mvT hZ (ww5 hw)) (mvT hZ (ww6 hw)) (by decide) hK344 (g := (mkF m 161 ls338 [(.int p0)])) rfl (by rw [hml, hls338]; rfl) (argsL := [(.int p0)]) (rest := []) (lenOf pd_6 rfl) rfl (by show 2 * 0 + _ ≤ _; exact Nat.le_of_eq rfl) (hb hby at_161) (fun _ _ => ⟨rfl, e65, (by decide : 50 + 6 ≤ _), (by decide : 302 + 12 ≤ _)⟩)
              dsimp only [Pt.U, Pt.locs, Pt.cells, Pt.slots] at X344 l344 y344 z344 st344 hQ344 hS344 hg344 hC344
              subst l344 y344 z344
              obtain ⟨X344, hS, hZ, hown⟩ := rebS (s := s) hS (by rw [e65]; exact hk57) X344 hS344 hg344 hZ hown
              have f345 := (Exa.keep f61 K57q)
              have f346 := (Exa.keep f62 K57q)
              have f347 := (Exa.keep f55 K57q)
              have f348 := (Exa.keep Y46_1 K57q)
              have f349 := (Exa.keep (Exa.keep f48 K46q) K57q)
              have f350 := (Exa.keep (Exa.keep f49 K46q) K57q)
              have f351 := (Exa.keep (Exa.keep f50 K46q) K57q)
              have f352 := (Arv.keep (Arv.keep f51 K46q nin0) K57q (ninS (Ne.symm ne_b20_t_27) nin0))
              have f353 := (Arv.keep (Arv.keep Y37_4 K46q nin0) K57q (ninS (Ne.symm ne_b20_t_37) nin0))
              have f354 := (Arv.keep Y46_4 K57q (ninS (Ne.symm ne_b20_t_46) nin0))
              have f355 := (Arv.keep (Arv.keep f52 K46q nin0) K57q (ninS (Nat.ne_of_lt lt_t_5_b20) nin0))
              have f356 := (Arv.keep (Arv.keep f53 K46q nin0) K57q (ninS (Nat.ne_of_lt lt_t_7_b20) nin0))
              have f357 := (Arv.keep (Arv.keep f54 K46q nin0) K57q (ninS (Nat.ne_of_lt lt_t_9_b20) nin0))
              obtain ⟨b344, t_344, kk_344, n_344, vs_344, rfl, N344q, K344q, Y344_0, Y344_1, Y344_2, Y344_3, Y344_4, Y344_5⟩ := hQ344
              have N344 := Fr.app N65 N344q
              obtain ⟨lc344, X344, N344⟩ := own_gen X344 N344
              have cz344 : CHr Z own_EL T57.vm T57.heap T344.vm T344.heap := hC344
              have C344 : CHr Z own_EL s.vm h0 T344.vm T344.heap := C57.trans cz344
              have O344 := O57.keep K344q all0
              have ge_b344 : n0 ≤ b344 := Nat.le_trans (own_old_le O57) Y344_0
              have lt_b20_b344 : b20 < b344 := Nat.lt_of_lt_of_le Y57_0.lt Y344_0
              have lt_b27_b344 : b27 < b344 := Nat.lt_of_lt_of_le f345.lt Y344_0
              have lt_b37_b344 : b37 < b344 := Nat.lt_of_lt_of_le f346.lt Y344_0
              have lt_b4_b344 : b4 < b344 := Nat.lt_of_lt_of_le f347.lt Y344_0
              have lt_b46_b344 : b46 < b344 := Nat.lt_of_lt_of_le f348.lt Y344_0
              have lt_b5_b344 : b5 < b344 := Nat.lt_of_lt_of_le f349.lt Y344_0
              have lt_b7_b344 : b7 < b344 := Nat.lt_of_lt_of_le f350.lt Y344_0
              have lt_b9_b344 : b9 < b344 := Nat.lt_of_lt_of_le f351.lt Y344_0
              have lt_t_27_b344 : t_27 < b344 := Nat.lt_of_lt_of_le f352.lt Y344_0
              have lt_t_37_b344 : t_37 < b344 := Nat.lt_of_lt_of_le f353.lt Y344_0
              have lt_t_46_b344 : t_46 < b344 := Nat.lt_of_lt_of_le f354.lt Y344_0
              have lt_t_5_b344 : t_5 < b344 := Nat.lt_of_lt_of_le f355.lt Y344_0
              have lt_t_7_b344 : t_7 < b344 := Nat.lt_of_lt_of_le f356.lt Y344_0
              have lt_t_9_b344 : t_9 < b344 := Nat.lt_of_lt_of_le f357.lt Y344_0
              have hk344 : _ ≤ T344.heap.size := Nat.le_refl _
              have f358 := (Exa.keep f347 K344q)
              have ne_b4_t_344 : b4 ≠ t_344 := own_ne_arv f358 (ww1 hw) Y344_4
              have f359 := (Exa.keep Y57_0 K344q)
              have ne_b20_t_344 : b20 ≠ t_344 := own_ne_arv f359 (ww1 hw) Y344_4
              refine step (fun t k => st344.trans k) ?_
              show G T344 (mkF m 164 ls338 [(.ref b344)])
              obtain ⟨ls360, hls360⟩  := own_sl #[.val (.int p0), .val (.int p1), .val (.int p2), .val (.int p3), .val (.int p4), .val (.int p5), .val (.int z6), .val (.int z7), .val (.int z8), .val (.ref b4), .val (.ref b20), .val (.int 0), .val (.int (((p3.toUInt32 >>> ((28 : Int32) &&& 31).toUInt32).toInt32) &&& (3 : Int32))), .val (.ref b344)]
              refine step (fun t k => XS.astore X344.here hx rfl (hb hby at_164) rfl rfl (l' := ls360) (by rw [hls338, hls360]; rfl) k) ?_
              show G T344 (mkF m 166 ls360 [])
              refine step (fun t k => XS.aload X344.here hx rfl (hb hby at_166) (by rw [hls360]; rfl) rfl k) ?_
              show G T344 (mkF m 168 ls360 [(.ref b4)])
              refine step (fun t k => XS.aload X344.here hx rfl (hb hby at_168) (by rw [hls360]; rfl) rfl k) ?_
              show G T344 (mkF m 170 ls360 [(.ref b344), (.ref b4)])
              have hK361 := (backOf (R := room_1) (p := p) (e := e) (below := below) (args := #[(.int p0), (.int p1), (.int p2), (.int p3), (.int p4), (.int p5)]) (len := 3) (W := 0) (rm_es l Z a0 hw [] b4 b344 T344.heap n0 (own_old_le O344) O344 Y344_1) hZ (ww71 hw) (ww2 hw) (by decide) (by decide))
              obtain ⟨cq361, kq361, q361a, q361b, q361c⟩ := isOf hZ rfl f358
              obtain ⟨_, _, ⟨T361, L361, k361, n361⟩, -, X361, ⟨Lc361, hQ361, l361, y361, z361⟩, st361⟩ := X344.virtualBack hx (y := y_8) (z := y_8) hown (mvT hZ (ww67 hw)) (mvT hZ (ww68 hw)) (notFace_of_selects (args := #[]) (mvT hZ (ww70 hw))) (mvT hZ (ww70 hw)) (mvT hZ (ww69 hw)) (by decide) hK361 q361a q361c (g := (mkF m 170 ls360 [(.ref b344), (.ref b4)])) rfl (by rw [hml, hls360]; rfl) (Steps.refl _) (argsL := [(.ref b344)]) (rest := []) (lenOf pd_5 rfl) rfl (by show 2 * 0 + _ ≤ _; exact Nat.le_of_eq rfl) (hb hby at_170) (fun _ _ => ⟨rfl, rfl, (by decide : 56 + 0 ≤ _), (by decide : 314 + 0 ≤ _)⟩)
              dsimp only [Pt.U, Pt.locs, Pt.cells, Pt.slots] at X361 l361 y361 z361 st361 hQ361
              subst l361 y361 z361
              obtain ⟨rfl, N361q, e361⟩ := hQ361
              have N361 := Fr.app N344 N361q
              obtain ⟨lc361, X361, N361⟩ := own_gen X361 N361
              refine step (fun t k => st361.trans k) ?_
              show G T361 (mkF m 173 ls360 [(.int (f_es b4 b344))])
              have r362 : (f_es b4 b344) = (0 : Int32) := rfl
              rw [r362]
              show G T361 (mkF m 173 ls360 [(.int 0)])
              refine step (fun t k => XS.ifNo X361.here hx rfl (hb hby at_173) rfl ((if0 _ _).trans (teq (by decide : (0 : Int32) = (0 : Int32))).2) k) ?_
              show G T361 (mkF m 176 ls360 [])
              refine step (fun t k => XS.iconst X361.here hx rfl (hb hby at_176) k) ?_
              show G T361 (mkF m 177 ls360 [(.int 1)])
              refine step (fun t k => XS.goto X361.here hx rfl (pc0 := 177) (pc' := 181) rfl (hb hby at_177) (by decide) (by decide) k) ?_
              show G T361 (mkF m 181 ls360 [(.int 1)])
              exact ret (v := some (.int 1)) X361 hS hk344 C344 hZ (fun h => by rw [Bd.returns] at h; cases h) (fun fs hr => retN X361 hx (t := .boolean) Bd.returns (by simp) (hb hby at_181) hr) e361 ⟨rfl, N361⟩ (by decide) (by decide)
            · skip
              refine step (fun t k => XS.icmpYes X65.here hx rfl (pc0 := 157) (pc' := 182) rfl (hb hby at_157) rfl (feq hc343).2 (by decide) (by decide) k) ?_
              show G T65 (mkF m 182 ls338 [])
              refine step (fun t k => XS.aload X65.here hx rfl (hb hby at_182) (by rw [hls338]; rfl) rfl k) ?_
              show G T65 (mkF m 184 ls338 [(.ref b4)])
              refine step (fun t k => XS.aload X65.here hx rfl (hb hby at_184) (by rw [hls338]; rfl) rfl k) ?_
              show G T65 (mkF m 186 ls338 [(.ref b20), (.ref b4)])
              have f364 := (Exa.keep f55 K57q)
              have f365 := (Fld.keep (Fld.keep (Fld.keep (Fld.keep (Fld.ext E20 Y13_1) K27q nin0) K37q nin0) K46q nin0) K57q (ninS (Nat.ne_of_lt lt_b4_b20) nin0))
              have f366 := (Fld.keep (Fld.keep (Fld.keep (Fld.keep (Fld.ext E20 Y13_2) K27q nin0) K37q nin0) K46q nin0) K57q (ninS (Nat.ne_of_lt lt_b4_b20) nin0))
              have f367 := (Fld.keep (Fld.keep (Fld.keep (Fld.keep (Fld.ext E20 Y13_3) K27q nin0) K37q nin0) K46q nin0) K57q (ninS (Nat.ne_of_lt lt_b4_b20) nin0))
              have f368 := (Exa.keep (Exa.keep f48 K46q) K57q)
              have f369 := (Fld.keep (Fld.keep (Fld.keep (Fld.keep (Fld.ext E20 (Fld.keep (Fld.keep (Fld.keep Y5_2 K7q nin0) K9q nin0) K13q (ninS (Nat.ne_of_gt lt_b4_b5) nin0))) K27q nin0) K37q nin0) K46q nin0) K57q (ninS (Nat.ne_of_lt lt_b5_b20) nin0))
              have f370 := (Fld.keep (Fld.keep (Fld.keep (Fld.keep (Fld.ext E20 (Fld.keep (Fld.keep (Fld.keep Y5_3 K7q nin0) K9q nin0) K13q (ninS (Nat.ne_of_gt lt_b4_b5) nin0))) K27q nin0) K37q nin0) K46q nin0) K57q (ninS (Nat.ne_of_lt lt_b5_b20) nin0))
              have f371 := (Arv.keep (Arv.keep f52 K46q nin0) K57q (ninS (Nat.ne_of_lt lt_t_5_b20) nin0))
              have f372 := (Exa.keep (Exa.keep f49 K46q) K57q)
              have f373 := (Fld.keep (Fld.keep (Fld.keep (Fld.keep (Fld.ext E20 (Fld.keep (Fld.keep Y7_2 K9q nin0) K13q (ninS (Nat.ne_of_gt lt_b4_b7) nin0))) K27q nin0) K37q nin0) K46q nin0) K57q (ninS (Nat.ne_of_lt lt_b7_b20) nin0))
              have f374 := (Fld.keep (Fld.keep (Fld.keep (Fld.keep (Fld.ext E20 (Fld.keep (Fld.keep Y7_3 K9q nin0) K13q (ninS (Nat.ne_of_gt lt_b4_b7) nin0))) K27q nin0) K37q nin0) K46q nin0) K57q (ninS (Nat.ne_of_lt lt_b7_b20) nin0))
              have f375 := (Arv.keep (Arv.keep f53 K46q nin0) K57q (ninS (Nat.ne_of_lt lt_t_7_b20) nin0))
              have f376 := (Exa.keep (Exa.keep f50 K46q) K57q)
              have f377 := (Fld.keep (Fld.keep (Fld.keep (Fld.keep (Fld.ext E20 (Fld.keep Y9_2 K13q (ninS (Nat.ne_of_gt lt_b4_b9) nin0))) K27q nin0) K37q nin0) K46q nin0) K57q (ninS (Nat.ne_of_lt lt_b9_b20) nin0))
              have f378 := (Fld.keep (Fld.keep (Fld.keep (Fld.keep (Fld.ext E20 (Fld.keep Y9_3 K13q (ninS (Nat.ne_of_gt lt_b4_b9) nin0))) K27q nin0) K37q nin0) K46q nin0) K57q (ninS (Nat.ne_of_lt lt_b9_b20) nin0))
              have f379 := (Arv.keep (Arv.keep f54 K46q nin0) K57q (ninS (Nat.ne_of_lt lt_t_9_b20) nin0))
              have f380 := (Exa.keep f61 K57q)
              have f381 := (Fld.keep (Fld.keep (Fld.keep Y27_2 K37q nin0) K46q nin0) K57q (ninS (Nat.ne_of_gt lt_b20_b27) nin0))
              have f382 := (Fld.keep (Fld.keep (Fld.keep Y27_3 K37q nin0) K46q nin0) K57q (ninS (Nat.ne_of_gt lt_b20_b27) nin0))
              have f383 := (Arv.keep (Arv.keep f51 K46q nin0) K57q (ninS (Ne.symm ne_b20_t_27) nin0))
              have f384 := (Exa.keep f62 K57q)
              have f385 := (Fld.keep (Fld.keep Y37_2 K46q nin0) K57q (ninS (Nat.ne_of_gt lt_b20_b37) nin0))
              have f386 := (Fld.keep (Fld.keep Y37_3 K46q nin0) K57q (ninS (Nat.ne_of_gt lt_b20_b37) nin0))
              have f387 := (Arv.keep (Arv.keep Y37_4 K46q nin0) K57q (ninS (Ne.symm ne_b20_t_37) nin0))
              have f388 := (Exa.keep Y46_1 K57q)
              have f389 := (Fld.keep Y46_2 K57q (ninS (Nat.ne_of_gt lt_b20_b46) nin0))
              have f390 := (Fld.keep Y46_3 K57q (ninS (Nat.ne_of_gt lt_b20_b46) nin0))
              have f391 := (Arv.keep Y46_4 K57q (ninS (Ne.symm ne_b20_t_46) nin0))
              have hK363 := (backOf (R := room_1) (p := p) (e := e) (below := below) (args := #[(.int p0), (.int p1), (.int p2), (.int p3), (.int p4), (.int p5)]) (len := 3) (W := 0) (rm_eq l Z a0 hw [] w_COMPACT_STRINGS w_SIOOBE_FORMATTER b4 b20 b5 t_5 kk_5 n_5 vs_5 (own_cs p0) b7 t_7 kk_7 n_7 vs_7 (own_cs p1) b9 t_9 kk_9 n_9 vs_9 (own_cs p2) b27 t_27 kk_27 n_27 vs_27 (own_cs z6) b37 t_37 kk_37 n_37 vs_37 (own_cs z7) b46 t_46 kk_46 n_46 vs_46 (own_cs z8) T57.heap n0 (own_old_le O57) ST O57 f364 Y57_0 f365 f366 f367 Y57_1 Y57_2 Y57_3 f368 f369 f370 f371 Y5_5 f372 f373 f374 f375 Y7_5 f376 f377 f378 f379 Y9_5 f380 f381 f382 f383 Y27_5 f384 f385 f386 f387 Y37_5 f388 f389 f390 f391 Y46_5) hZ (ww71 hw) (ww2 hw) (by decide) (by decide))
              obtain ⟨cq363, kq363, q363a, q363b, q363c⟩ := isOf hZ e65 f364
              obtain ⟨_, _, ⟨T363, L363, k363, n363⟩, -, X363, ⟨Lc363, hQ363, l363, y363, z363⟩, st363⟩ := X65.virtualBack hx (y := y_8) (z := y_8) hown (mvT hZ (ww67 hw)) (mvT hZ (ww68 hw)) (notFace_of_selects (args := #[]) (mvT hZ (ww70 hw))) (mvT hZ (ww70 hw)) (mvT hZ (ww69 hw)) (by decide) hK363 q363a q363c (g := (mkF m 186 ls338 [(.ref b20), (.ref b4)])) rfl (by rw [hml, hls338]; rfl) (Steps.refl _) (argsL := [(.ref b20)]) (rest := []) (lenOf pd_5 rfl) rfl (by show 2 * 0 + _ ≤ _; exact Nat.le_of_eq rfl) (hb hby at_186) (fun _ _ => ⟨rfl, e65, (by decide : 50 + 0 ≤ _), (by decide : 302 + 0 ≤ _)⟩)
              dsimp only [Pt.U, Pt.locs, Pt.cells, Pt.slots] at X363 l363 y363 z363 st363 hQ363
              subst l363 y363 z363
              obtain ⟨r_363, rfl, N363q, K363q, Y363_0⟩ := hQ363
              have N363 := Fr.app N65 N363q
              obtain ⟨lc363, X363, N363⟩ := own_gen X363 N363
              have cz363 : CHr Z own_EL T57.vm T57.heap T57.vm T363.heap := CHr.keep K363q all0 C57.1
              have C363 : CHr Z own_EL s.vm h0 T57.vm T363.heap := C57.trans cz363
              have O363 := O57.keep K363q all0
              have hk363 : _ ≤ T363.heap.size := Nat.le_trans hk57 K363q.1
              obtain rfl : r_363 = (0 : Int32) := own_eqN Y363_0 (fun q => hc66 ((own_key _ _).mpr q.1))
              refine step (fun t k => st363.trans k) ?_
              show G T363 (mkF m 189 ls338 [(.int 0)])
              refine step (fun t k => XS.iload X363.here hx rfl (hb hby at_189) (by rw [hls338]; rfl) k) ?_
              show G T363 (mkF m 191 ls338 [(.int 0), (.int 0)])
              refine step (fun t k => XS.icmpNo X363.here hx rfl (hb hby at_191) rfl (teq (by decide : (0 : Int32) = (0 : Int32))).2 k) ?_
              show G T363 (mkF m 194 ls338 [])
              refine step (fun t k => XS.aload X363.here hx rfl (hb hby at_194) (by rw [hls338]; rfl) rfl k) ?_
              show G T363 (mkF m 196 ls338 [(.ref b20)])
              refine step (fun t k => XS.aload X363.here hx rfl (hb hby at_196) (by rw [hls338]; rfl) rfl k) ?_
              show G T363 (mkF m 198 ls338 [(.ref b4), (.ref b20)])
              have f393 := (Exa.keep Y57_0 K363q)
              have f394 := (Exa.keep f364 K363q)
              have f395 := (Fld.keep Y57_1 K363q nin0)
              have f396 := (Fld.keep Y57_2 K363q nin0)
              have f397 := (Fld.keep Y57_3 K363q nin0)
              have f398 := (Fld.keep f365 K363q nin0)
              have f399 := (Fld.keep f366 K363q nin0)
              have f400 := (Fld.keep f367 K363q nin0)
              have f401 := (Exa.keep f380 K363q)
              have f402 := (Fld.keep f381 K363q nin0)
              have f403 := (Fld.keep f382 K363q nin0)
              have f404 := (Arv.keep f383 K363q nin0)
              have f405 := (Exa.keep f384 K363q)
              have f406 := (Fld.keep f385 K363q nin0)
              have f407 := (Fld.keep f386 K363q nin0)
              have f408 := (Arv.keep f387 K363q nin0)
              have f409 := (Exa.keep f388 K363q)
              have f410 := (Fld.keep f389 K363q nin0)
              have f411 := (Fld.keep f390 K363q nin0)
              have f412 := (Arv.keep f391 K363q nin0)
              have f413 := (Exa.keep f368 K363q)
              have f414 := (Fld.keep f369 K363q nin0)
              have f415 := (Fld.keep f370 K363q nin0)
              have f416 := (Arv.keep f371 K363q nin0)
              have f417 := (Exa.keep f372 K363q)
              have f418 := (Fld.keep f373 K363q nin0)
              have f419 := (Fld.keep f374 K363q nin0)
              have f420 := (Arv.keep f375 K363q nin0)
              have f421 := (Exa.keep f376 K363q)
              have f422 := (Fld.keep f377 K363q nin0)
              have f423 := (Fld.keep f378 K363q nin0)
              have f424 := (Arv.keep f379 K363q nin0)
              have hK392 := (backOf (R := room_1) (p := p) (e := e) (below := below) (args := #[(.int p0), (.int p1), (.int p2), (.int p3), (.int p4), (.int p5)]) (len := 3) (W := 0) (rm_eq l Z a0 hw [] w_COMPACT_STRINGS w_SIOOBE_FORMATTER b20 b4 b27 t_27 kk_27 n_27 vs_27 (own_cs z6) b37 t_37 kk_37 n_37 vs_37 (own_cs z7) b46 t_46 kk_46 n_46 vs_46 (own_cs z8) b5 t_5 kk_5 n_5 vs_5 (own_cs p0) b7 t_7 kk_7 n_7 vs_7 (own_cs p1) b9 t_9 kk_9 n_9 vs_9 (own_cs p2) T363.heap n0 (own_old_le O363) ST O363 f393 f394 f395 f396 f397 f398 f399 f400 f401 f402 f403 f404 Y27_5 f405 f406 f407 f408 Y37_5 f409 f410 f411 f412 Y46_5 f413 f414 f415 f416 Y5_5 f417 f418 f419 f420 Y7_5 f421 f422 f423 f424 Y9_5) hZ (ww71 hw) (ww2 hw) (by decide) (by decide))
              obtain ⟨cq392, kq392, q392a, q392b, q392c⟩ := isOf hZ rfl f393
              obtain ⟨_, _, ⟨T392, L392, k392, n392⟩, -, X392, ⟨Lc392, hQ392, l392, y392, z392⟩, st392⟩ := X363.virtualBack hx (y := y_8) (z := y_8) hown (mvT hZ (ww67 hw)) (mvT hZ (ww68 hw)) (notFace_of_selects (args := #[]) (mvT hZ (ww70 hw))) (mvT hZ (ww70 hw)) (mvT hZ (ww69 hw)) (by decide) hK392 q392a q392c (g := (mkF m 198 ls338 [(.ref b4), (.ref b20)])) rfl (by rw [hml, hls338]; rfl) (Steps.refl _) (argsL := [(.ref b4)]) (rest := []) (lenOf pd_5 rfl) rfl (by show 2 * 0 + _ ≤ _; exact Nat.le_of_eq rfl) (hb hby at_198) (fun _ _ => ⟨rfl, rfl, (by decide : 50 + 0 ≤ _), (by decide : 302 + 0 ≤ _)⟩)
              dsimp only [Pt.U, Pt.locs, Pt.cells, Pt.slots] at X392 l392 y392 z392 st392 hQ392
              subst l392 y392 z392
              obtain ⟨r_392, rfl, N392q, K392q, Y392_0⟩ := hQ392
              have N392 := Fr.app N363 N392q
              obtain ⟨lc392, X392, N392⟩ := own_gen X392 N392
              have cz392 : CHr Z own_EL T57.vm T363.heap T57.vm T392.heap := CHr.keep K392q all0 C363.1
              have C392 : CHr Z own_EL s.vm h0 T57.vm T392.heap := C363.trans cz392
              have O392 := O363.keep K392q all0
              have hk392 : _ ≤ T392.heap.size := Nat.le_trans hk363 K392q.1
              obtain rfl : r_392 = (0 : Int32) := own_eqN Y392_0 (fun q => hc66 ((own_key _ _).mpr q.1.symm))
              refine step (fun t k => st392.trans k) ?_
              show G T392 (mkF m 201 ls338 [(.int 0)])
              refine step (fun t k => XS.iload X392.here hx rfl (hb hby at_201) (by rw [hls338]; rfl) k) ?_
              show G T392 (mkF m 203 ls338 [(.int 0), (.int 0)])
              refine step (fun t k => XS.icmpNo X392.here hx rfl (hb hby at_203) rfl (teq (by decide : (0 : Int32) = (0 : Int32))).2 k) ?_
              show G T392 (mkF m 206 ls338 [])
              refine step (fun t k => XS.iconst X392.here hx rfl (hb hby at_206) k) ?_
              show G T392 (mkF m 207 ls338 [(.int 1)])
              refine step (fun t k => XS.goto X392.here hx rfl (pc0 := 207) (pc' := 211) rfl (hb hby at_207) (by decide) (by decide) k) ?_
              show G T392 (mkF m 211 ls338 [(.int 1)])
              exact ret (v := some (.int 1)) X392 hS hk392 C392 hZ (fun h => by rw [Bd.returns] at h; cases h) (fun fs hr => retN X392 hx (t := .boolean) Bd.returns (by simp) (hb hby at_211) hr) rfl ⟨rfl, N392⟩ (by decide) (by decide)
      refine step (fun t k => XS.iload X0.here hx rfl (hb hby at_24) (by rw [hls2]; rfl) k) ?_
      show G s₁ (mkF m 26 ls2 [(.int p5)])
      by_cases hc425 : p5 < (0 : Int32)
      · skip
        refine step (fun t k => XS.ifNo X0.here hx rfl (hb hby at_26) rfl ((if0 _ _).trans (tlt hc425).2.1) k) ?_
        show G s₁ (mkF m 29 ls2 [])
        refine step (fun t k => XS.iloadN X0.here hx rfl (hb hby at_29) (by rw [hls2]; rfl) k) ?_
        show G s₁ (mkF m 30 ls2 [(.int p2)])
        refine step (fun t k => XS.goto X0.here hx rfl (pc0 := 30) (pc' := 35) rfl (hb hby at_30) (by decide) (by decide) k) ?_
        show G s₁ (mkF m 35 ls2 [(.int p2)])
        exact J35 _
      · skip
        refine step (fun t k => XS.ifYes X0.here hx rfl (pc0 := 26) (pc' := 33) rfl (hb hby at_26) rfl ((if0 _ _).trans (flt hc425).2.1) (by decide) (by decide) k) ?_
        show G s₁ (mkF m 33 ls2 [])
        refine step (fun t k => XS.iload X0.here hx rfl (hb hby at_33) (by rw [hls2]; rfl) k) ?_
        show G s₁ (mkF m 35 ls2 [(.int p5)])
        exact J35 _
    refine step (fun t k => XS.iload X0.here hx rfl (hb hby at_11) (by rw [hls1]; rfl) k) ?_
    show G s₁ (mkF m 13 ls1 [(.int p4)])
    by_cases hc426 : p4 < (0 : Int32)
    · skip
      refine step (fun t k => XS.ifNo X0.here hx rfl (hb hby at_13) rfl ((if0 _ _).trans (tlt hc426).2.1) k) ?_
      show G s₁ (mkF m 16 ls1 [])
      refine step (fun t k => XS.iloadN X0.here hx rfl (hb hby at_16) (by rw [hls1]; rfl) k) ?_
      show G s₁ (mkF m 17 ls1 [(.int p1)])
      refine step (fun t k => XS.goto X0.here hx rfl (pc0 := 17) (pc' := 22) rfl (hb hby at_17) (by decide) (by decide) k) ?_
      show G s₁ (mkF m 22 ls1 [(.int p1)])
      exact J22 _
    · skip
      refine step (fun t k => XS.ifYes X0.here hx rfl (pc0 := 13) (pc' := 20) rfl (hb hby at_13) rfl ((if0 _ _).trans (flt hc426).2.1) (by decide) (by decide) k) ?_
      show G s₁ (mkF m 20 ls1 [])
      refine step (fun t k => XS.iload X0.here hx rfl (hb hby at_20) (by rw [hls1]; rfl) k) ?_
      show G s₁ (mkF m 22 ls1 [(.int p4)])
      exact J22 _
  refine step (fun t k => XS.iloadN X0.here hx rfl (hb hby at_0) (by rw [hls0]; rfl) k) ?_
  show G s₁ (mkF m 1 ls0 [(.int p3)])
  by_cases hc427 : p3 < (0 : Int32)
  · skip
    refine step (fun t k => XS.ifNo X0.here hx rfl (hb hby at_1) rfl ((if0 _ _).trans (tlt hc427).2.1) k) ?_
    show G s₁ (mkF m 4 ls0 [])
    refine step (fun t k => XS.iloadN X0.here hx rfl (hb hby at_4) (by rw [hls0]; rfl) k) ?_
    show G s₁ (mkF m 5 ls0 [(.int p0)])
    refine step (fun t k => XS.goto X0.here hx rfl (pc0 := 5) (pc' := 9) rfl (hb hby at_5) (by decide) (by decide) k) ?_
    show G s₁ (mkF m 9 ls0 [(.int p0)])
    exact J9 _
  · skip
    refine step (fun t k => XS.ifYes X0.here hx rfl (pc0 := 1) (pc' := 8) rfl (hb hby at_1) rfl ((if0 _ _).trans (flt hc427).2.1) (by decide) (by decide) k) ?_
    show G s₁ (mkF m 8 ls0 [])
    refine step (fun t k => XS.iloadN X0.here hx rfl (hb hby at_8) (by rw [hls0]; rfl) k) ?_
    show G s₁ (mkF m 9 ls0 [(.int p3)])
    exact J9 _
theorem ww25 {Z : State} {a0 : Array Value} (hw : ∀ d ∈ tables_1, d.before a0 Z = true) : Jvm.Cond.before (Jvm.Cond.arrayClass Jvm.ClassFile.FieldType.byte) a0 Z = true := hw _ (List.mem_of_getElem? (i := 25) rfl)
set_option maxRecDepth 65536 in
set_option maxHeartbeats 40000000 in
theorem comes_1 {Post : Tables → Env → Array Value → State → Outcome → State → Prop} (hpost : ∀ tb e args s v u, (limb_1_1.after args s (.returned v) u = true ∧ limb_1_2.after args s (.returned v) u = true ∧ True) → ReturnedEndW s (.returned v) u (Jvm.fieldLocs frame_1_writes args s ++ Jvm.arrayLocs frame_1_arrays args s ++ Jvm.staticLocs frame_1_statics s) 64 4352 → Post tb e args s (.returned v) u) :
    ArmFor flags0 classFile x code maxLocals ret World_1 tables_1 room_1 Calls_1 rest_1 Pre_1 Post := by
  intro l hfl _ _ p e ha hc hk s m args below hf hA hF happ hP
  obtain ⟨hcalls, hrest, hpre⟩ := hP
  obtain ⟨-, -, -, hnamed, -, -, -, hat⟩ := (Spec.applies_iff hf).mp happ
  obtain ⟨hg, hn⟩ := and_e (Cond.before_iff.mp (show (Jvm.Cond.and given_1 narrow_1).before args s = true from hpre))
  obtain ⟨g1a, g1b⟩ := and_e hg
  obtain ⟨g2a, g2b⟩ := and_e g1b
  obtain ⟨g3a, g3b⟩ := and_e g2b
  obtain ⟨g4a, g4b⟩ := and_e g3b
  obtain ⟨g5a, g5b⟩ := and_e g4b
  obtain ⟨g6a, g6b⟩ := and_e g5b
  obtain ⟨w0, w1, w2, w3, w4, w5, rfl⟩ : ∃ w0 w1 w2 w3 w4 w5 : Value, args = #[w0, w1, w2, w3, w4, w5] := by
    have hs : args.size = 6 := by simpa [Cond.value, given_1] using g1a
    obtain ⟨L⟩ := args
    match L, hs with
    | [w0, w1, w2, w3, w4, w5], _ => exact ⟨w0, w1, w2, w3, w4, w5, rfl⟩
  have hw := fun d (hd : d ∈ tables_1) => atoms_spec (ws := Jvm.Cond.code x code maxLocals ret :: tables_1) hat d (List.mem_cons_of_mem _ hd)
  have hfit : Fit s := fun {y c} hc i hi => by
    obtain ⟨ha, rfl⟩ := Array.getElem?_eq_some_iff.mp hc
    have q := List.all_eq_true.mp ((Array.all_eq_true_iff_forall_mem.mp hF) _ (Array.getElem_mem ha)) i (List.mem_range.mpr hi)
    simpa [Array.getElem?_eq_getElem hi] using q
  obtain ⟨hsets, hown0⟩ := atoms_of _ (rest_1_c_eq ▸ (show rest_1_c.before _ s = true from hrest))
  obtain ⟨i0, ei0⟩ := is_v g2a
  obtain rfl : w0 = (.int i0) := Option.some.inj ei0
  obtain ⟨i1, ei1⟩ := is_v g3a
  obtain rfl : w1 = (.int i1) := Option.some.inj ei1
  obtain ⟨i2, ei2⟩ := is_v g4a
  obtain rfl : w2 = (.int i2) := Option.some.inj ei2
  obtain ⟨i3, ei3⟩ := is_v g5a
  obtain rfl : w3 = (.int i3) := Option.some.inj ei3
  obtain ⟨i4, ei4⟩ := is_v g6a
  obtain rfl : w4 = (.int i4) := Option.some.inj ei4
  obtain ⟨i5, ei5⟩ := is_v g6b
  obtain rfl : w5 = (.int i5) := Option.some.inj ei5
  obtain ⟨w_COMPACT_STRINGS, ev_COMPACT_STRINGS⟩ := is_v (Cond.before_iff.mp (hsets _ (List.mem_of_getElem? (i := 1) rfl)))
  obtain ⟨w_SIOOBE_FORMATTER, ev_SIOOBE_FORMATTER, rf_SIOOBE_FORMATTER⟩ := isR_v (Cond.before_iff.mp (hsets _ (List.mem_of_getElem? (i := 8) rfl)))
  have hCH : CHv s own_EL s.vm s.heap := CHv.start (own_EW hw) (fun p hp => (show Jvm.Lit.constsHeld consts_1 s from hcalls.1) p ((by decide : ∀ p ∈ own_EL, p ∈ consts_1) p hp)) (show Jvm.Lit.compactW.before _ s = true from hsets _ (List.mem_of_getElem? (i := 2) rfl)) (ww25 hw) (ww12 hw)
  obtain ⟨n, o, h1, h2, h3, _, L, rfl, ⟨rfl, N⟩, -, hq⟩ := rm_law l s _ hw tables_1 w_COMPACT_STRINGS w_SIOOBE_FORMATTER i0 i1 i2 i3 i4 i5 s.heap s.heap.size (Nat.le_refl _) ⟨Sta.start ev_COMPACT_STRINGS (Or.inl (hsets _ (List.mem_of_getElem? (i := 0) rfl))), Sta.start ev_SIOOBE_FORMATTER (Or.inl (hsets _ (List.mem_of_getElem? (i := 7) rfl))), rf_SIOOBE_FORMATTER, own_nz ev_COMPACT_STRINGS (Cond.before_iff.mp (hsets _ (List.mem_of_getElem? (i := 2) rfl)))⟩ (Old.start s)  p e ha hc hk s m _ below hf ((Spec.applies_iff_loose hf).mp happ).1 ⟨rfl, State.Warmed39.refl s, rfl, hCH⟩ trivial
  refine ⟨n, _, h1, h2, h3, hpost _ _ _ _ _ _ ⟨Cond.after_iff.mpr rfl, Cond.after_iff.mpr (eq_i res_at (Term.int_eval (1)) rfl), trivial⟩ ⟨hq.1, hq.2.1, hq.2.2.1, (hq.2.2.2.sift fun y hy => Or.inr (N y hy)).mono (by decide) (by decide)⟩⟩
theorem main_1_1 : Claimed_1_1 := comes_1 fun _ _ _ _ _ _ h hF => ⟨h.1, hF⟩
theorem main_1_2 : Claimed_1_2 := comes_1 fun _ _ _ _ _ _ h hF => ⟨h.2.1, hF⟩
end Jvm.Pilot.@@N@@
namespace Jvm.Pilot.@@N@@
open Jvm Jvm.ClassFile Sem Op Lib Jvm.Free Jvm.Stand Jvm.Pilot.@@N@@.Jvm.D
/-! MADE BY PROGRAM (witnessworld.py) out of the Statement's table words and the real class files: 21 classes; the members and pool entries that the words name. The judged class is class 1, her method 5. -/
namespace start1
open Jvm.ClassFile
def u (s : String) : CpInfo := .utf8 (stringToUtf16 s)
/-- a pool by its gaps: so many unusable entries, then the entry; so many at the end -/
def gap : Nat → List CpInfo → List CpInfo
  | 0, r => r
  | n + 1, r => .unusable :: gap n r
def poolList (es : List (Nat × CpInfo)) (last : Nat) : List CpInfo := es.foldr (fun e r => gap e.1 (e.2 :: r)) (gap last [])
def pool (es : List (Nat × CpInfo)) (last : Nat) : Array CpInfo := ⟨poolList es last⟩
def fileOf (pool : Array CpInfo) (this : Nat) (attrs : Array Attribute := #[]) (ms : Array MethodInfo := #[]) (fl : Nat := 33) (sup : Nat := 0) (ifs : Array Nat := #[]) (fds : Array FieldInfo := #[]) : ClassFile where
  minorVersion := 0
  majorVersion := 65
  constantPool := pool
  accessFlags := fl
  thisClass := this
  superClass := sup
  interfaces := ifs
  fields := fds
  methods := ms
  attributes := attrs
def plain (name : String) (sup : Option ClassId) : Class where
  name := name
  kind := .ordinary
  loader := none
  accessFlags := 33
  super := sup
  interfaces := #[]
  cf := none
  fields := #[]
  methods := #[]
  instanceTypes := #[]
  staticTypes := #[]
  resolved := #[]
  callSites := []
  init := .initialized
  statics := none
  mirror := none

def pool0 : Array CpInfo := pool [(5, u "<init>"), (0, u "()V"), (1, .class_ 10), (1, u "java/lang/Object")] 113

def k0c0 : Code := { maxStack := 0, maxLocals := 1, code := object_method_1_code, exceptionTable := #[], attributes := #[] }
def k0m0 : Method := { name := "<init>", desc := "()V", sig := { parameters := [], returnType := none }, accessFlags := 1, code := some k0c0 }
/-- java/lang/Object -/
def k0 : Class := { plain "java/lang/Object" none with
  accessFlags := 33
  interfaces := #[]
  cf := some (fileOf pool0 8 #[] #[{ accessFlags := 1, nameIndex := 5, descriptorIndex := 6, attributes := #[] }] 33 0 #[] #[])
  fields := #[]
  methods := #[k0m0]
  instanceTypes := #[]
  staticTypes := #[]
  resolved := Array.replicate 124 none
  statics := none }

def pool1 : Array CpInfo := pool [(2, .class_ 4), (1, u "java/lang/Object"), (0, u "<init>"), (0, u "()V"), (0, .methodref 8 9), (0, .class_ 10), (0, .nameAndType 11 12), (0, u "com/example/bordereau/bordereau/archive/AgencyEqualsPinLaw"), (0, u "len"), (0, u "(I)I"), (0, .methodref 8 14), (0, .nameAndType 15 16), (0, u "ch"), (0, u "(II)C"), (0, .class_ 18), (0, u "java/lang/String"), (0, .methodref 17 20), (0, .nameAndType 5 21), (0, u "([C)V"), (0, .class_ 23), (0, u "com/example/bordereau/bordereau/archive/Agency"), (0, .methodref 8 25), (0, .nameAndType 26 27), (0, u "str"), (0, u "(I)Ljava/lang/String;"), (0, .methodref 22 29), (0, .nameAndType 5 30), (0, u "(Ljava/lang/String;Ljava/lang/String;Ljava/lang/String;)V"), (0, .methodref 8 32), (0, .nameAndType 33 12), (0, u "key"), (0, .methodref 22 35), (0, .nameAndType 36 37), (0, u "equals"), (0, u "(Ljava/lang/Object;)Z"), (5, u "law"), (0, u "(IIIIII)Z")] 2

def k1m0 : Method := { name := "<init>", desc := "()V", sig := { parameters := [], returnType := none }, accessFlags := 1, code := none }
def k1c1 : Code := { maxStack := 2, maxLocals := 1, code := method_2_code, exceptionTable := #[], attributes := #[] }
def k1m1 : Method := { name := "len", desc := "(I)I", sig := { parameters := [.int], returnType := some .int }, accessFlags := 10, code := some k1c1 }
def k1c2 : Code := { maxStack := 4, maxLocals := 2, code := method_3_code, exceptionTable := #[], attributes := #[] }
def k1m2 : Method := { name := "ch", desc := "(II)C", sig := { parameters := [.int, .int], returnType := some .char }, accessFlags := 10, code := some k1c2 }
def k1c3 : Code := { maxStack := 4, maxLocals := 3, code := method_4_code, exceptionTable := #[], attributes := #[] }
def k1m3 : Method := { name := "str", desc := "(I)Ljava/lang/String;", sig := { parameters := [.int], returnType := some (.object "java/lang/String") }, accessFlags := 10, code := some k1c3 }
def k1c4 : Code := { maxStack := 3, maxLocals := 3, code := method_5_code, exceptionTable := #[], attributes := #[] }
def k1m4 : Method := { name := "key", desc := "(I)I", sig := { parameters := [.int], returnType := some .int }, accessFlags := 10, code := some k1c4 }
def k1c5 : Code := { maxStack := 5, maxLocals := 14, code := code, exceptionTable := #[], attributes := #[] }
def k1m5 : Method := { name := "law", desc := "(IIIIII)Z", sig := { parameters := [.int, .int, .int, .int, .int, .int], returnType := some .boolean }, accessFlags := 9, code := some k1c5 }
/-- com/example/bordereau/bordereau/archive/AgencyEqualsPinLaw -/
def k1 : Class := { plain "com/example/bordereau/bordereau/archive/AgencyEqualsPinLaw" (some 0) with
  accessFlags := 49
  interfaces := #[]
  cf := some (fileOf pool1 8 #[] #[{ accessFlags := 1, nameIndex := 5, descriptorIndex := 6, attributes := #[] }, { accessFlags := 10, nameIndex := 11, descriptorIndex := 12, attributes := #[] }, { accessFlags := 10, nameIndex := 15, descriptorIndex := 16, attributes := #[] }, { accessFlags := 10, nameIndex := 26, descriptorIndex := 27, attributes := #[] }, { accessFlags := 10, nameIndex := 33, descriptorIndex := 12, attributes := #[] }, { accessFlags := 9, nameIndex := 43, descriptorIndex := 44, attributes := #[] }] 49 2 #[] #[])
  fields := #[]
  methods := #[k1m0, k1m1, k1m2, k1m3, k1m4, k1m5]
  instanceTypes := #[]
  staticTypes := #[]
  resolved := Array.replicate 47 none
  statics := none }

def pool2 : Array CpInfo := pool [(1, .methodref 2 3), (0, .class_ 4), (0, .nameAndType 5 6), (0, u "java/lang/Object"), (0, u "<init>"), (0, u "()V"), (0, .string 8), (0, u "identifier"), (0, .methodref 10 11), (0, .class_ 12), (0, .nameAndType 13 14), (0, u "java/util/Objects"), (0, u "requireNonNull"), (0, u "(Ljava/lang/Object;Ljava/lang/String;)Ljava/lang/Object;"), (0, .class_ 16), (0, u "java/lang/String"), (0, .fieldref 18 19), (0, .class_ 20), (0, .nameAndType 8 21), (0, u "com/example/bordereau/bordereau/archive/Agency"), (0, u "Ljava/lang/String;"), (0, .string 23), (0, u "name"), (0, .fieldref 18 25), (0, .nameAndType 23 21), (0, .string 27), (0, u "description"), (0, .fieldref 18 29), (0, .nameAndType 27 21), (0, .methodref 15 31), (0, .nameAndType 32 33), (0, u "equals"), (0, u "(Ljava/lang/Object;)Z"), (8, u "(Ljava/lang/String;Ljava/lang/String;Ljava/lang/String;)V")] 24

def k2c0 : Code := { maxStack := 3, maxLocals := 4, code := prog_1_method_1_code, exceptionTable := #[], attributes := #[] }
def k2m0 : Method := { name := "<init>", desc := "(Ljava/lang/String;Ljava/lang/String;Ljava/lang/String;)V", sig := { parameters := [(.object "java/lang/String"), (.object "java/lang/String"), (.object "java/lang/String")], returnType := none }, accessFlags := 1, code := some k2c0 }
def k2c1 : Code := { maxStack := 2, maxLocals := 3, code := prog_1_method_5_code, exceptionTable := #[], attributes := #[] }
def k2m1 : Method := { name := "equals", desc := "(Ljava/lang/Object;)Z", sig := { parameters := [(.object "java/lang/Object")], returnType := some .boolean }, accessFlags := 1, code := some k2c1 }
/-- com/example/bordereau/bordereau/archive/Agency -/
def k2 : Class := { plain "com/example/bordereau/bordereau/archive/Agency" (some 0) with
  accessFlags := 49
  interfaces := #[]
  cf := some (fileOf pool2 18 #[] #[{ accessFlags := 1, nameIndex := 5, descriptorIndex := 42, attributes := #[] }, { accessFlags := 1, nameIndex := 32, descriptorIndex := 33, attributes := #[] }] 49 2 #[] #[{ accessFlags := 18, nameIndex := 8, descriptorIndex := 21, attributes := #[] }, { accessFlags := 18, nameIndex := 23, descriptorIndex := 21, attributes := #[] }, { accessFlags := 18, nameIndex := 27, descriptorIndex := 21, attributes := #[] }])
  fields := #[{ name := "identifier", type := (.object "java/lang/String"), accessFlags := 18, slot := 0, constantValue := 0 }, { name := "name", type := (.object "java/lang/String"), accessFlags := 18, slot := 1, constantValue := 0 }, { name := "description", type := (.object "java/lang/String"), accessFlags := 18, slot := 2, constantValue := 0 }]
  methods := #[k2m0, k2m1]
  instanceTypes := #[(.object "java/lang/String"), (.object "java/lang/String"), (.object "java/lang/String")]
  staticTypes := #[]
  resolved := Array.replicate 67 none
  statics := none }

def pool3 : Array CpInfo := pool [(1, .class_ 2), (0, u "java/io/Serializable"), (0, .class_ 4), (0, u "java/lang/Object")] 2

/-- java/io/Serializable -/
def k3 : Class := { plain "java/io/Serializable" (some 0) with
  accessFlags := 1537
  interfaces := #[]
  cf := some (fileOf pool3 1 #[] #[] 1537 3 #[] #[])
  fields := #[]
  methods := #[]
  instanceTypes := #[]
  staticTypes := #[]
  resolved := Array.replicate 7 none
  statics := none }

def pool4 : Array CpInfo := pool [(1, .class_ 2), (0, u "java/lang/Comparable"), (0, .class_ 4), (0, u "java/lang/Object")] 7

/-- java/lang/Comparable -/
def k4 : Class := { plain "java/lang/Comparable" (some 0) with
  accessFlags := 1537
  interfaces := #[]
  cf := some (fileOf pool4 1 #[] #[] 1537 3 #[] #[])
  fields := #[]
  methods := #[]
  instanceTypes := #[]
  staticTypes := #[]
  resolved := Array.replicate 12 none
  statics := none }

def pool5 : Array CpInfo := pool [(2, .class_ 4), (1, u "java/lang/CharSequence"), (42, .class_ 48), (0, u "java/lang/CharSequence$1CodePointIterator"), (10, .class_ 60), (0, u "java/lang/CharSequence$1CharIterator"), (5, .class_ 67), (0, u "java/lang/Object")] 63

/-- java/lang/CharSequence -/
def k5 : Class := { plain "java/lang/CharSequence" (some 0) with
  accessFlags := 1537
  interfaces := #[]
  cf := some (fileOf pool5 2 #[.nestMembers #[47, 59]] #[] 1537 66 #[] #[])
  fields := #[]
  methods := #[]
  instanceTypes := #[]
  staticTypes := #[]
  resolved := Array.replicate 131 none
  statics := none }

def pool6 : Array CpInfo := pool [(1, .class_ 2), (0, u "java/lang/constant/Constable"), (0, .class_ 4), (0, u "java/lang/Object")] 6

/-- java/lang/constant/Constable -/
def k6 : Class := { plain "java/lang/constant/Constable" (some 0) with
  accessFlags := 1537
  interfaces := #[]
  cf := some (fileOf pool6 1 #[] #[] 1537 3 #[] #[])
  fields := #[]
  methods := #[]
  instanceTypes := #[]
  staticTypes := #[]
  resolved := Array.replicate 11 none
  statics := none }

def pool7 : Array CpInfo := pool [(1, .class_ 2), (0, u "java/lang/constant/ConstantDesc"), (0, .class_ 4), (0, u "java/lang/Object")] 32

/-- java/lang/constant/ConstantDesc -/
def k7 : Class := { plain "java/lang/constant/ConstantDesc" (some 0) with
  accessFlags := 1537
  interfaces := #[]
  cf := some (fileOf pool7 1 #[] #[] 1537 3 #[] #[])
  fields := #[]
  methods := #[]
  instanceTypes := #[]
  staticTypes := #[]
  resolved := Array.replicate 37 none
  statics := none }

def pool8 : Array CpInfo := pool [(1, .methodref 2 3), (0, .class_ 4), (0, .nameAndType 5 6), (0, u "java/lang/Object"), (0, u "<init>"), (0, u "()V"), (0, .string 8), (0, u ""), (0, .fieldref 10 11), (0, .class_ 12), (0, .nameAndType 13 14), (0, u "java/lang/String"), (0, u "value"), (0, u "[B"), (0, .fieldref 10 16), (0, .nameAndType 17 18), (0, u "coder"), (0, u "B"), (2, u "hash"), (0, u "I"), (2, u "hashIsZero"), (0, u "Z"), (0, .methodref 10 28), (0, .nameAndType 5 29), (0, u "([CIILjava/lang/Void;)V"), (8, .fieldref 10 39), (0, .nameAndType 40 26), (0, u "COMPACT_STRINGS"), (1, .class_ 44), (1, u "java/lang/StringUTF16"), (0, u "compress"), (1, .methodref 42 48), (0, .nameAndType 49 50), (0, u "coderFromArrayLen"), (0, u "([BI)B"), (56, .class_ 109), (1, u "java/lang/StringLatin1"), (67, .methodref 42 178), (0, .nameAndType 45 179), (0, u "([CII)[B"), (361, .methodref 107 542), (0, .nameAndType 543 544), (0, u "equals"), (0, u "([B[B)Z"), (28, u "(Ljava/lang/Object;)Z"), (1, .class_ 576), (0, u "java/lang/CharSequence"), (22, u "CASE_INSENSITIVE_ORDER"), (0, u "Ljava/util/Comparator;"), (409, u "([C)V"), (90, u "serialPersistentFields"), (0, u "[Ljava/io/ObjectStreamField;"), (0, .class_ 1104), (0, u "java/lang/String$CaseInsensitiveComparator"), (1, .class_ 1107), (0, u "java/io/Serializable"), (0, .class_ 1109), (0, u "java/lang/Comparable"), (0, .class_ 1111), (0, u "java/lang/constant/Constable"), (0, .class_ 1113), (0, u "java/lang/constant/ConstantDesc"), (2, u "serialVersionUID"), (0, u "J"), (3, u "REPL"), (0, u "C"), (2, u "LATIN1"), (1, u "UTF16")] 323

def k8m0 : Method := { name := "<init>", desc := "()V", sig := { parameters := [], returnType := none }, accessFlags := 1, code := none }
def k8c1 : Code := { maxStack := 5, maxLocals := 2, code := jdk_42_method_3_code, exceptionTable := #[], attributes := #[] }
def k8m1 : Method := { name := "<init>", desc := "([C)V", sig := { parameters := [(.array .char)], returnType := none }, accessFlags := 1, code := some k8c1 }
def k8c2 : Code := { maxStack := 2, maxLocals := 3, code := jdk_42_method_66_code, exceptionTable := #[], attributes := #[] }
def k8m2 : Method := { name := "equals", desc := "(Ljava/lang/Object;)Z", sig := { parameters := [(.object "java/lang/Object")], returnType := some .boolean }, accessFlags := 1, code := some k8c2 }
def k8c3 : Code := { maxStack := 4, maxLocals := 6, code := jdk_42_method_149_code, exceptionTable := #[], attributes := #[] }
def k8m3 : Method := { name := "<init>", desc := "([CIILjava/lang/Void;)V", sig := { parameters := [(.array .char), .int, .int, (.object "java/lang/Void")], returnType := none }, accessFlags := 2, code := some k8c3 }
/-- java/lang/String -/
def k8 : Class := { plain "java/lang/String" (some 0) with
  accessFlags := 49
  interfaces := #[3, 4, 5, 6, 7]
  cf := some (fileOf pool8 10 #[.nestMembers #[1103]] #[{ accessFlags := 1, nameIndex := 5, descriptorIndex := 6, attributes := #[] }, { accessFlags := 1, nameIndex := 5, descriptorIndex := 1010, attributes := #[] }, { accessFlags := 1, nameIndex := 543, descriptorIndex := 573, attributes := #[] }, { accessFlags := 2, nameIndex := 5, descriptorIndex := 29, attributes := #[] }] 49 2 #[1106, 1108, 575, 1110, 1112] #[{ accessFlags := 18, nameIndex := 13, descriptorIndex := 14, attributes := #[] }, { accessFlags := 18, nameIndex := 17, descriptorIndex := 18, attributes := #[] }, { accessFlags := 2, nameIndex := 21, descriptorIndex := 22, attributes := #[] }, { accessFlags := 2, nameIndex := 25, descriptorIndex := 26, attributes := #[] }, { accessFlags := 26, nameIndex := 1116, descriptorIndex := 1117, attributes := #[] }, { accessFlags := 24, nameIndex := 40, descriptorIndex := 26, attributes := #[] }, { accessFlags := 26, nameIndex := 1101, descriptorIndex := 1102, attributes := #[] }, { accessFlags := 26, nameIndex := 1121, descriptorIndex := 1122, attributes := #[] }, { accessFlags := 25, nameIndex := 599, descriptorIndex := 600, attributes := #[] }, { accessFlags := 24, nameIndex := 1125, descriptorIndex := 18, attributes := #[] }, { accessFlags := 24, nameIndex := 1127, descriptorIndex := 18, attributes := #[] }])
  fields := #[{ name := "value", type := (.array .byte), accessFlags := 18, slot := 0, constantValue := 0 }, { name := "coder", type := .byte, accessFlags := 18, slot := 1, constantValue := 0 }, { name := "hash", type := .int, accessFlags := 2, slot := 2, constantValue := 0 }, { name := "hashIsZero", type := .boolean, accessFlags := 2, slot := 3, constantValue := 0 }, { name := "serialVersionUID", type := .long, accessFlags := 26, slot := 0, constantValue := 0 }, { name := "COMPACT_STRINGS", type := .boolean, accessFlags := 24, slot := 1, constantValue := 0 }, { name := "serialPersistentFields", type := (.array (.object "java/io/ObjectStreamField")), accessFlags := 26, slot := 2, constantValue := 0 }, { name := "REPL", type := .char, accessFlags := 26, slot := 3, constantValue := 0 }, { name := "CASE_INSENSITIVE_ORDER", type := (.object "java/util/Comparator"), accessFlags := 25, slot := 4, constantValue := 0 }, { name := "LATIN1", type := .byte, accessFlags := 24, slot := 5, constantValue := 0 }, { name := "UTF16", type := .byte, accessFlags := 24, slot := 6, constantValue := 0 }]
  methods := #[k8m0, k8m1, k8m2, k8m3]
  instanceTypes := #[(.array .byte), .byte, .int, .boolean]
  staticTypes := #[.long, .boolean, (.array (.object "java/io/ObjectStreamField")), .char, (.object "java/util/Comparator"), .byte, .byte]
  resolved := Array.replicate 1451 none
  statics := some 0 }

def pool9 : Array CpInfo := pool [(6, .class_ 8), (1, u "java/lang/Object"), (0, u "<init>"), (0, u "()V"), (1, .class_ 14), (1, u "java/lang/StringUTF16"), (31, u "$assertionsDisabled"), (0, u "Z"), (13, u "HI_BYTE_SHIFT"), (0, u "I"), (2, u "LO_BYTE_SHIFT"), (49, .methodref 12 116), (0, .nameAndType 117 118), (0, u "compress"), (0, u "([CI[BII)I"), (3, u "([CII)[B"), (138, u "coderFromArrayLen"), (0, u "([BI)B"), (106, .class_ 371), (1, u "java/lang/StringUTF16$LinesSpliterator"), (58, u "MAX_LENGTH"), (196, .class_ 628), (0, u "java/lang/StringUTF16$CodePointsSpliterator"), (0, .class_ 630), (0, u "java/lang/StringUTF16$CharsSpliterator")] 4

def k9m0 : Method := { name := "<init>", desc := "()V", sig := { parameters := [], returnType := none }, accessFlags := 0, code := none }
def k9c1 : Code := { maxStack := 2, maxLocals := 2, code := jdk_52_method_15_code, exceptionTable := #[], attributes := #[] }
def k9m1 : Method := { name := "coderFromArrayLen", desc := "([BI)B", sig := { parameters := [(.array .byte), .int], returnType := some .byte }, accessFlags := 8, code := some k9c1 }
def k9c2 : Code := { maxStack := 5, maxLocals := 6, code := jdk_52_method_16_code, exceptionTable := #[], attributes := #[] }
def k9m2 : Method := { name := "compress", desc := "([CII)[B", sig := { parameters := [(.array .char), .int, .int], returnType := some (.array .byte) }, accessFlags := 9, code := some k9c2 }
def k9c3 : Code := { maxStack := 3, maxLocals := 7, code := jdk_52_method_21_code, exceptionTable := #[], attributes := #[] }
def k9m3 : Method := { name := "compress", desc := "([CI[BII)I", sig := { parameters := [(.array .char), .int, (.array .byte), .int, .int], returnType := some .int }, accessFlags := 9, code := some k9c3 }
/-- java/lang/StringUTF16 -/
def k9 : Class := { plain "java/lang/StringUTF16" (some 0) with
  accessFlags := 48
  interfaces := #[]
  cf := some (fileOf pool9 12 #[.nestMembers #[627, 629, 369]] #[{ accessFlags := 0, nameIndex := 9, descriptorIndex := 10, attributes := #[] }, { accessFlags := 8, nameIndex := 261, descriptorIndex := 262, attributes := #[] }, { accessFlags := 9, nameIndex := 117, descriptorIndex := 122, attributes := #[] }, { accessFlags := 9, nameIndex := 117, descriptorIndex := 118, attributes := #[] }] 48 6 #[] #[{ accessFlags := 26, nameIndex := 61, descriptorIndex := 62, attributes := #[] }, { accessFlags := 26, nameIndex := 65, descriptorIndex := 62, attributes := #[] }, { accessFlags := 24, nameIndex := 430, descriptorIndex := 62, attributes := #[] }, { accessFlags := 4120, nameIndex := 46, descriptorIndex := 47, attributes := #[] }])
  fields := #[{ name := "HI_BYTE_SHIFT", type := .int, accessFlags := 26, slot := 0, constantValue := 0 }, { name := "LO_BYTE_SHIFT", type := .int, accessFlags := 26, slot := 1, constantValue := 0 }, { name := "MAX_LENGTH", type := .int, accessFlags := 24, slot := 2, constantValue := 0 }, { name := "$assertionsDisabled", type := .boolean, accessFlags := 4120, slot := 3, constantValue := 0 }]
  methods := #[k9m0, k9m1, k9m2, k9m3]
  instanceTypes := #[]
  staticTypes := #[.int, .int, .int, .boolean]
  resolved := Array.replicate 635 none
  statics := none }

def pool10 : Array CpInfo := pool [(2, .class_ 4), (1, u "java/lang/Object"), (0, u "<init>"), (0, u "()V"), (35, .class_ 44), (1, u "java/util/Objects"), (0, u "requireNonNull"), (48, u "(Ljava/lang/Object;Ljava/lang/String;)Ljava/lang/Object;")] 89

def k10m0 : Method := { name := "<init>", desc := "()V", sig := { parameters := [], returnType := none }, accessFlags := 2, code := none }
def k10c1 : Code := { maxStack := 3, maxLocals := 2, code := jdk_31_method_11_code, exceptionTable := #[], attributes := #[] }
def k10m1 : Method := { name := "requireNonNull", desc := "(Ljava/lang/Object;Ljava/lang/String;)Ljava/lang/Object;", sig := { parameters := [(.object "java/lang/Object"), (.object "java/lang/String")], returnType := some (.object "java/lang/Object") }, accessFlags := 9, code := some k10c1 }
/-- java/util/Objects -/
def k10 : Class := { plain "java/util/Objects" (some 0) with
  accessFlags := 49
  interfaces := #[]
  cf := some (fileOf pool10 42 #[] #[{ accessFlags := 2, nameIndex := 5, descriptorIndex := 6, attributes := #[] }, { accessFlags := 9, nameIndex := 45, descriptorIndex := 94, attributes := #[] }] 49 2 #[] #[])
  fields := #[]
  methods := #[k10m0, k10m1]
  instanceTypes := #[]
  staticTypes := #[]
  resolved := Array.replicate 184 none
  statics := none }

def pool11 : Array CpInfo := pool [(4, .class_ 6), (1, u "java/lang/Object"), (0, u "<init>"), (0, u "()V"), (5, .class_ 16), (1, u "java/lang/StringLatin1"), (104, u "$assertionsDisabled"), (0, u "Z"), (98, .class_ 223), (1, u "java/lang/StringLatin1$LinesSpliterator"), (57, u "equals"), (0, u "([B[B)Z"), (107, .class_ 391), (0, u "java/lang/StringLatin1$CharsSpliterator")] 3

def k11m0 : Method := { name := "<init>", desc := "()V", sig := { parameters := [], returnType := none }, accessFlags := 0, code := none }
def k11c1 : Code := { maxStack := 3, maxLocals := 3, code := jdk_43_method_13_code, exceptionTable := #[], attributes := #[] }
def k11m1 : Method := { name := "equals", desc := "([B[B)Z", sig := { parameters := [(.array .byte), (.array .byte)], returnType := some .boolean }, accessFlags := 9, code := some k11c1 }
/-- java/lang/StringLatin1 -/
def k11 : Class := { plain "java/lang/StringLatin1" (some 0) with
  accessFlags := 48
  interfaces := #[]
  cf := some (fileOf pool11 14 #[.nestMembers #[390, 221]] #[{ accessFlags := 0, nameIndex := 7, descriptorIndex := 8, attributes := #[] }, { accessFlags := 9, nameIndex := 281, descriptorIndex := 282, attributes := #[] }] 48 4 #[] #[{ accessFlags := 4120, nameIndex := 121, descriptorIndex := 122, attributes := #[] }])
  fields := #[{ name := "$assertionsDisabled", type := .boolean, accessFlags := 4120, slot := 0, constantValue := 0 }]
  methods := #[k11m0, k11m1]
  instanceTypes := #[]
  staticTypes := #[.boolean]
  resolved := Array.replicate 395 none
  statics := none }

def pool12 : Array CpInfo := pool [(2, .class_ 4), (1, u "java/lang/Object"), (0, u "<init>"), (0, u "()V"), (17, .class_ 26), (1, u "jdk/internal/util/Preconditions"), (28, .class_ 56), (0, u "jdk/internal/util/Preconditions$4"), (57, .class_ 115), (0, u "jdk/internal/util/Preconditions$1"), (7, u "SIOOBE_FORMATTER"), (0, u "Ljava/util/function/BiFunction;"), (0, .class_ 126), (0, u "jdk/internal/util/Preconditions$2"), (3, u "AIOOBE_FORMATTER"), (0, .class_ 132), (0, u "jdk/internal/util/Preconditions$3"), (3, u "IOOBE_FORMATTER")] 57

def k12m0 : Method := { name := "<init>", desc := "()V", sig := { parameters := [], returnType := none }, accessFlags := 1, code := none }
/-- jdk/internal/util/Preconditions -/
def k12 : Class := { plain "jdk/internal/util/Preconditions" (some 0) with
  accessFlags := 33
  interfaces := #[]
  cf := some (fileOf pool12 24 #[.nestMembers #[55, 131, 125, 114]] #[{ accessFlags := 1, nameIndex := 5, descriptorIndex := 6, attributes := #[] }] 33 2 #[] #[{ accessFlags := 25, nameIndex := 123, descriptorIndex := 124, attributes := #[] }, { accessFlags := 25, nameIndex := 130, descriptorIndex := 124, attributes := #[] }, { accessFlags := 25, nameIndex := 136, descriptorIndex := 124, attributes := #[] }])
  fields := #[{ name := "SIOOBE_FORMATTER", type := (.object "java/util/function/BiFunction"), accessFlags := 25, slot := 0, constantValue := 0 }, { name := "AIOOBE_FORMATTER", type := (.object "java/util/function/BiFunction"), accessFlags := 25, slot := 1, constantValue := 0 }, { name := "IOOBE_FORMATTER", type := (.object "java/util/function/BiFunction"), accessFlags := 25, slot := 2, constantValue := 0 }]
  methods := #[k12m0]
  instanceTypes := #[]
  staticTypes := #[(.object "java/util/function/BiFunction"), (.object "java/util/function/BiFunction"), (.object "java/util/function/BiFunction")]
  resolved := Array.replicate 194 none
  statics := some 1 }

def pool13 : Array CpInfo := pool [(9, u "<init>"), (6, .class_ 18), (1, u "java/lang/Object"), (0, u "()V"), (1, .class_ 23), (1, u "jdk/internal/util/ArraysSupport"), (0, u "LOG2_ARRAY_LONG_INDEX_SCALE"), (0, u "I"), (2, u "U"), (0, u "Ljdk/internal/misc/Unsafe;"), (8, u "BIG_ENDIAN"), (0, u "Z"), (8, u "LOG2_BYTE_BIT_SIZE"), (4, u "LOG2_ARRAY_INT_INDEX_SCALE"), (54, u "JLA"), (0, u "Ljdk/internal/access/JavaLangAccess;"), (11, u "LOG2_ARRAY_BOOLEAN_INDEX_SCALE"), (9, u "LOG2_ARRAY_BYTE_INDEX_SCALE"), (5, u "LOG2_ARRAY_CHAR_INDEX_SCALE"), (5, u "LOG2_ARRAY_SHORT_INDEX_SCALE"), (18, u "LOG2_ARRAY_FLOAT_INDEX_SCALE"), (24, u "LOG2_ARRAY_DOUBLE_INDEX_SCALE"), (89, u "T_BOOLEAN"), (2, u "T_CHAR"), (1, u "T_FLOAT"), (1, u "T_DOUBLE"), (1, u "T_BYTE"), (1, u "T_SHORT"), (1, u "T_INT"), (1, u "T_LONG"), (1, u "SOFT_MAX_ARRAY_LENGTH")] 83

def k13m0 : Method := { name := "<init>", desc := "()V", sig := { parameters := [], returnType := none }, accessFlags := 2, code := none }
/-- jdk/internal/util/ArraysSupport -/
def k13 : Class := { plain "jdk/internal/util/ArraysSupport" (some 0) with
  accessFlags := 33
  interfaces := #[]
  cf := some (fileOf pool13 21 #[] #[{ accessFlags := 2, nameIndex := 9, descriptorIndex := 19, attributes := #[] }] 33 16 #[] #[{ accessFlags := 24, nameIndex := 28, descriptorIndex := 29, attributes := #[] }, { accessFlags := 26, nameIndex := 38, descriptorIndex := 39, attributes := #[] }, { accessFlags := 25, nameIndex := 121, descriptorIndex := 25, attributes := #[] }, { accessFlags := 25, nameIndex := 131, descriptorIndex := 25, attributes := #[] }, { accessFlags := 25, nameIndex := 137, descriptorIndex := 25, attributes := #[] }, { accessFlags := 25, nameIndex := 143, descriptorIndex := 25, attributes := #[] }, { accessFlags := 25, nameIndex := 53, descriptorIndex := 25, attributes := #[] }, { accessFlags := 25, nameIndex := 24, descriptorIndex := 25, attributes := #[] }, { accessFlags := 25, nameIndex := 162, descriptorIndex := 25, attributes := #[] }, { accessFlags := 25, nameIndex := 187, descriptorIndex := 25, attributes := #[] }, { accessFlags := 26, nameIndex := 48, descriptorIndex := 25, attributes := #[] }, { accessFlags := 25, nameIndex := 277, descriptorIndex := 25, attributes := #[] }, { accessFlags := 25, nameIndex := 280, descriptorIndex := 25, attributes := #[] }, { accessFlags := 25, nameIndex := 282, descriptorIndex := 25, attributes := #[] }, { accessFlags := 25, nameIndex := 284, descriptorIndex := 25, attributes := #[] }, { accessFlags := 25, nameIndex := 286, descriptorIndex := 25, attributes := #[] }, { accessFlags := 25, nameIndex := 288, descriptorIndex := 25, attributes := #[] }, { accessFlags := 25, nameIndex := 290, descriptorIndex := 25, attributes := #[] }, { accessFlags := 25, nameIndex := 292, descriptorIndex := 25, attributes := #[] }, { accessFlags := 26, nameIndex := 108, descriptorIndex := 109, attributes := #[] }, { accessFlags := 25, nameIndex := 294, descriptorIndex := 25, attributes := #[] }])
  fields := #[{ name := "U", type := (.object "jdk/internal/misc/Unsafe"), accessFlags := 24, slot := 0, constantValue := 0 }, { name := "BIG_ENDIAN", type := .boolean, accessFlags := 26, slot := 1, constantValue := 0 }, { name := "LOG2_ARRAY_BOOLEAN_INDEX_SCALE", type := .int, accessFlags := 25, slot := 2, constantValue := 0 }, { name := "LOG2_ARRAY_BYTE_INDEX_SCALE", type := .int, accessFlags := 25, slot := 3, constantValue := 0 }, { name := "LOG2_ARRAY_CHAR_INDEX_SCALE", type := .int, accessFlags := 25, slot := 4, constantValue := 0 }, { name := "LOG2_ARRAY_SHORT_INDEX_SCALE", type := .int, accessFlags := 25, slot := 5, constantValue := 0 }, { name := "LOG2_ARRAY_INT_INDEX_SCALE", type := .int, accessFlags := 25, slot := 6, constantValue := 0 }, { name := "LOG2_ARRAY_LONG_INDEX_SCALE", type := .int, accessFlags := 25, slot := 7, constantValue := 0 }, { name := "LOG2_ARRAY_FLOAT_INDEX_SCALE", type := .int, accessFlags := 25, slot := 8, constantValue := 0 }, { name := "LOG2_ARRAY_DOUBLE_INDEX_SCALE", type := .int, accessFlags := 25, slot := 9, constantValue := 0 }, { name := "LOG2_BYTE_BIT_SIZE", type := .int, accessFlags := 26, slot := 10, constantValue := 0 }, { name := "T_BOOLEAN", type := .int, accessFlags := 25, slot := 11, constantValue := 0 }, { name := "T_CHAR", type := .int, accessFlags := 25, slot := 12, constantValue := 0 }, { name := "T_FLOAT", type := .int, accessFlags := 25, slot := 13, constantValue := 0 }, { name := "T_DOUBLE", type := .int, accessFlags := 25, slot := 14, constantValue := 0 }, { name := "T_BYTE", type := .int, accessFlags := 25, slot := 15, constantValue := 0 }, { name := "T_SHORT", type := .int, accessFlags := 25, slot := 16, constantValue := 0 }, { name := "T_INT", type := .int, accessFlags := 25, slot := 17, constantValue := 0 }, { name := "T_LONG", type := .int, accessFlags := 25, slot := 18, constantValue := 0 }, { name := "JLA", type := (.object "jdk/internal/access/JavaLangAccess"), accessFlags := 26, slot := 19, constantValue := 0 }, { name := "SOFT_MAX_ARRAY_LENGTH", type := .int, accessFlags := 25, slot := 20, constantValue := 0 }]
  methods := #[k13m0]
  instanceTypes := #[]
  staticTypes := #[(.object "jdk/internal/misc/Unsafe"), .boolean, .int, .int, .int, .int, .int, .int, .int, .int, .int, .int, .int, .int, .int, .int, .int, .int, .int, (.object "jdk/internal/access/JavaLangAccess"), .int]
  resolved := Array.replicate 378 none
  statics := none }

def pool14 : Array CpInfo := pool [(1, u "java/lang/Cloneable"), (0, .class_ 1), (0, u "java/lang/Object"), (0, .class_ 3)] 3

/-- java/lang/Cloneable -/
def k14 : Class := { plain "java/lang/Cloneable" (some 0) with
  accessFlags := 1537
  interfaces := #[]
  cf := some (fileOf pool14 2 #[] #[] 1537 4 #[] #[])
  fields := #[]
  methods := #[]
  instanceTypes := #[]
  staticTypes := #[]
  resolved := Array.replicate 8 none
  statics := none }

/-- the primitive byte -/
def k15 : Class := { plain "byte" none with kind := .primitive 'B', accessFlags := 0x411 }
/-- [B -/
def k16 : Class := { plain "[B" (some 0) with kind := .array 15 .byte, interfaces := #[14, 3], accessFlags := 1041 }

/-- the primitive char -/
def k17 : Class := { plain "char" none with kind := .primitive 'C', accessFlags := 0x411 }
/-- [C -/
def k18 : Class := { plain "[C" (some 0) with kind := .array 17 .char, interfaces := #[14, 3], accessFlags := 1041 }

/-- the primitive int -/
def k19 : Class := { plain "int" none with kind := .primitive 'I', accessFlags := 0x411 }
/-- [I -/
def k20 : Class := { plain "[I" (some 0) with kind := .array 19 .int, interfaces := #[14, 3], accessFlags := 1041 }

def heap : Heap := #[{ cls := 8, slots := #[.long 0, .int 1, .null, .int 0, .null, .int 0, .int 0], vm := .statics 8 },
  { cls := 12, slots := #[.null, .null, .null], vm := .statics 12 }]
def classes : Array Class := #[k0, k1, k2, k3, k4, k5, k6, k7, k8, k9, k10, k11, k12, k13, k14, k15, k16, k17, k18, k19, k20]
def interned : List (Array UInt16 × Addr) := []
def slotsUsed : Nat := 10
def theMethod : MethodId := ⟨1, 5⟩
def args0 : Array Value := #[.int 0, .int 1, .int 2, .int 3, .int 4, .int 5]
def aboutOver (below : List Frame) : State where
  vm := { classes := classes, interned := interned.toArray }
  heap := heap
  slotsUsed := slotsUsed
  threads := #[{ frames := .invoking theMethod args0 :: below }]
def below0 : List Frame := [.native { method := ⟨0, 0⟩, args := #[] }]
def about1 : State := aboutOver below0
def p0 : Program := .bare "" "" ""
def e0 : Env := launch0.env 0 0 0
theorem w_frames : about1.frames = Frame.invoking theMethod args0 :: below0 := rfl
set_option maxRecDepth 65536 in
theorem w_args : argsFit about1.vm theMethod args0 = true := by decide +kernel
set_option maxRecDepth 65536 in
theorem w_heap : heapFits about1 = true := by decide +kernel
set_option maxRecDepth 65536 in
theorem w_runnable : about1.curStatus? = some .runnable := by decide +kernel
set_option maxRecDepth 65536 in
theorem w_alone : about1.alone = true := by decide +kernel
set_option maxRecDepth 65536 in
theorem w_named : about1.methodNamed? x = some theMethod := by decide +kernel
set_option maxRecDepth 65536 in
theorem w_hears : about1.hears theMethod below0 = true := by decide +kernel
set_option maxRecDepth 65536 in
theorem w_ripe : about1.ripe theMethod args0 below0 = true := by decide +kernel
theorem w_running : about1.status = .running := rfl
set_option maxRecDepth 65536 in
theorem w_room : about1.hasRoom e0.platform room_1 = true :=
  launch0.hasRoom_least _ room_1 (by decide +kernel) (by decide +kernel) (by decide +kernel) (by decide +kernel) (by decide +kernel) (by decide +kernel)
theorem allAtoms_all (ts : List Jvm.Cond) (a : Array Jvm.Value) (st : Jvm.State) : (allAtoms ts).before a st = ts.all (fun c => c.before a st) := by
  induction ts with
  | nil => rfl
  | cons c t ih =>
    show (Jvm.Cond.and c (allAtoms t)).before a st = _
    rw [Jvm.Cond.before_and, ih, List.all_cons]
def words1 : List Jvm.Cond := Jvm.Cond.code x code maxLocals ret :: tables_1
/-- a 'code' word, met by the world's own term for the bytes: nothing is compared byte by byte -/
theorem code_word {y : MethodName} {bytes : ByteArray} {mx : Nat} {rt : Option FieldType} {a : Array Value} {s : State} {m : MethodId} {meth : Method} {c : Code} (h1 : s.methodNamed? y = some m) (h2 : s.vm.method? m = some meth) (h3 : meth.code = some c) (h4 : c.code = bytes)
    (h5 : (c.maxLocals == mx && c.exceptionTable.isEmpty && decide (c.maxStack ≤ mostOperands) && decide (meth.sig.returnType = rt) && !meth.locks && decide (parseMethodDescriptor y.desc = some meth.sig)) = true) : (Jvm.Cond.code y bytes mx rt).before a s = true := by
  simp only [Bool.and_eq_true, beq_iff_eq, Bool.not_eq_true', decide_eq_true_eq] at h5
  obtain ⟨⟨⟨⟨⟨g1, g2⟩, g3⟩, g4⟩, g5⟩, g6⟩ := h5
  simp [Cond.before, Cond.holds, Cond.value, h1, h2, h3, h4, g1, g2, g3, g4, g5, g6]
def isCode : Jvm.Cond → Bool
  | .code _ _ _ _ => true
  | _ => false
theorem all_split {L : List Jvm.Cond} {P : Jvm.Cond → Bool} (h1 : L.all (fun c => isCode c || P c) = true) (h2 : ∀ c ∈ L.filter isCode, P c = true) : L.all P = true := by
  refine List.all_eq_true.mpr fun c hc => ?_
  have h := List.all_eq_true.mp h1 c hc
  rcases Bool.eq_false_or_eq_true (isCode c) with hi | hi
  · exact h2 c (List.mem_filter.mpr ⟨hc, hi⟩)
  · simpa [hi] using h
set_option maxRecDepth 65536 in
theorem w_c0 : (Jvm.Cond.code x code maxLocals ret).before args0 about1 = true := code_word (m := ⟨1, 5⟩) (meth := k1m5) (c := k1c5) (by decide +kernel) rfl rfl rfl (by decide +kernel)
set_option maxRecDepth 65536 in
theorem w_c1 : (Jvm.Cond.code ({ cls := "com/example/bordereau/bordereau/archive/AgencyEqualsPinLaw", name := "str", desc := "(I)Ljava/lang/String;" } : Jvm.MethodName) method_4_code (3 : Nat) (Option.some (Jvm.ClassFile.FieldType.object "java/lang/String"))).before args0 about1 = true := code_word (m := ⟨1, 3⟩) (meth := k1m3) (c := k1c3) (by decide +kernel) rfl rfl rfl (by decide +kernel)
set_option maxRecDepth 65536 in
theorem w_c2 : (Jvm.Cond.code ({ cls := "com/example/bordereau/bordereau/archive/AgencyEqualsPinLaw", name := "len", desc := "(I)I" } : Jvm.MethodName) method_2_code (1 : Nat) (Option.some Jvm.ClassFile.FieldType.int)).before args0 about1 = true := code_word (m := ⟨1, 1⟩) (meth := k1m1) (c := k1c1) (by decide +kernel) rfl rfl rfl (by decide +kernel)
set_option maxRecDepth 65536 in
theorem w_c3 : (Jvm.Cond.code ({ cls := "java/lang/String", name := "<init>", desc := "([C)V" } : Jvm.MethodName) jdk_42_method_3_code (2 : Nat) (Option.none : Option Jvm.ClassFile.FieldType)).before args0 about1 = true := code_word (m := ⟨8, 1⟩) (meth := k8m1) (c := k8c1) (by decide +kernel) rfl rfl rfl (by decide +kernel)
set_option maxRecDepth 65536 in
theorem w_c4 : (Jvm.Cond.code ({ cls := "java/lang/String", name := "<init>", desc := "([CIILjava/lang/Void;)V" } : Jvm.MethodName) jdk_42_method_149_code (6 : Nat) (Option.none : Option Jvm.ClassFile.FieldType)).before args0 about1 = true := code_word (m := ⟨8, 3⟩) (meth := k8m3) (c := k8c3) (by decide +kernel) rfl rfl rfl (by decide +kernel)
set_option maxRecDepth 65536 in
theorem w_c5 : (Jvm.Cond.code ({ cls := "java/lang/Object", name := "<init>", desc := "()V" } : Jvm.MethodName) object_method_1_code (1 : Nat) (Option.none : Option Jvm.ClassFile.FieldType)).before args0 about1 = true := code_word (m := ⟨0, 0⟩) (meth := k0m0) (c := k0c0) (by decide +kernel) rfl rfl rfl (by decide +kernel)
set_option maxRecDepth 65536 in
theorem w_c6 : (Jvm.Cond.code ({ cls := "com/example/bordereau/bordereau/archive/AgencyEqualsPinLaw", name := "ch", desc := "(II)C" } : Jvm.MethodName) method_3_code (2 : Nat) (Option.some Jvm.ClassFile.FieldType.char)).before args0 about1 = true := code_word (m := ⟨1, 2⟩) (meth := k1m2) (c := k1c2) (by decide +kernel) rfl rfl rfl (by decide +kernel)
set_option maxRecDepth 65536 in
theorem w_c7 : (Jvm.Cond.code ({ cls := "java/lang/StringUTF16", name := "compress", desc := "([CII)[B" } : Jvm.MethodName) jdk_52_method_16_code (6 : Nat) (Option.some (Jvm.ClassFile.FieldType.array Jvm.ClassFile.FieldType.byte))).before args0 about1 = true := code_word (m := ⟨9, 2⟩) (meth := k9m2) (c := k9c2) (by decide +kernel) rfl rfl rfl (by decide +kernel)
set_option maxRecDepth 65536 in
theorem w_c8 : (Jvm.Cond.code ({ cls := "java/lang/StringUTF16", name := "compress", desc := "([CI[BII)I" } : Jvm.MethodName) jdk_52_method_21_code (7 : Nat) (Option.some Jvm.ClassFile.FieldType.int)).before args0 about1 = true := code_word (m := ⟨9, 3⟩) (meth := k9m3) (c := k9c3) (by decide +kernel) rfl rfl rfl (by decide +kernel)
set_option maxRecDepth 65536 in
theorem w_c9 : (Jvm.Cond.code ({ cls := "java/lang/StringUTF16", name := "coderFromArrayLen", desc := "([BI)B" } : Jvm.MethodName) jdk_52_method_15_code (2 : Nat) (Option.some Jvm.ClassFile.FieldType.byte)).before args0 about1 = true := code_word (m := ⟨9, 1⟩) (meth := k9m1) (c := k9c1) (by decide +kernel) rfl rfl rfl (by decide +kernel)
set_option maxRecDepth 65536 in
theorem w_c10 : (Jvm.Cond.code ({ cls := "com/example/bordereau/bordereau/archive/Agency", name := "<init>", desc := "(Ljava/lang/String;Ljava/lang/String;Ljava/lang/String;)V" } : Jvm.MethodName) prog_1_method_1_code (4 : Nat) (Option.none : Option Jvm.ClassFile.FieldType)).before args0 about1 = true := code_word (m := ⟨2, 0⟩) (meth := k2m0) (c := k2c0) (by decide +kernel) rfl rfl rfl (by decide +kernel)
set_option maxRecDepth 65536 in
theorem w_c11 : (Jvm.Cond.code ({ cls := "java/util/Objects", name := "requireNonNull", desc := "(Ljava/lang/Object;Ljava/lang/String;)Ljava/lang/Object;" } : Jvm.MethodName) jdk_31_method_11_code (2 : Nat) (Option.some (Jvm.ClassFile.FieldType.object "java/lang/Object"))).before args0 about1 = true := code_word (m := ⟨10, 1⟩) (meth := k10m1) (c := k10c1) (by decide +kernel) rfl rfl rfl (by decide +kernel)
set_option maxRecDepth 65536 in
theorem w_c12 : (Jvm.Cond.code ({ cls := "com/example/bordereau/bordereau/archive/AgencyEqualsPinLaw", name := "key", desc := "(I)I" } : Jvm.MethodName) method_5_code (3 : Nat) (Option.some Jvm.ClassFile.FieldType.int)).before args0 about1 = true := code_word (m := ⟨1, 4⟩) (meth := k1m4) (c := k1c4) (by decide +kernel) rfl rfl rfl (by decide +kernel)
set_option maxRecDepth 65536 in
theorem w_c13 : (Jvm.Cond.code ({ cls := "com/example/bordereau/bordereau/archive/Agency", name := "equals", desc := "(Ljava/lang/Object;)Z" } : Jvm.MethodName) prog_1_method_5_code (3 : Nat) (Option.some Jvm.ClassFile.FieldType.boolean)).before args0 about1 = true := code_word (m := ⟨2, 1⟩) (meth := k2m1) (c := k2c1) (by decide +kernel) rfl rfl rfl (by decide +kernel)
set_option maxRecDepth 65536 in
theorem w_c14 : (Jvm.Cond.code ({ cls := "java/lang/String", name := "equals", desc := "(Ljava/lang/Object;)Z" } : Jvm.MethodName) jdk_42_method_66_code (3 : Nat) (Option.some Jvm.ClassFile.FieldType.boolean)).before args0 about1 = true := code_word (m := ⟨8, 2⟩) (meth := k8m2) (c := k8c2) (by decide +kernel) rfl rfl rfl (by decide +kernel)
set_option maxRecDepth 65536 in
theorem w_c15 : (Jvm.Cond.code ({ cls := "java/lang/StringLatin1", name := "equals", desc := "([B[B)Z" } : Jvm.MethodName) jdk_43_method_13_code (3 : Nat) (Option.some Jvm.ClassFile.FieldType.boolean)).before args0 about1 = true := code_word (m := ⟨11, 1⟩) (meth := k11m1) (c := k11c1) (by decide +kernel) rfl rfl rfl (by decide +kernel)
def codes1 : List Jvm.Cond := [Jvm.Cond.code x code maxLocals ret, Jvm.Cond.code ({ cls := "com/example/bordereau/bordereau/archive/AgencyEqualsPinLaw", name := "str", desc := "(I)Ljava/lang/String;" } : Jvm.MethodName) method_4_code (3 : Nat) (Option.some (Jvm.ClassFile.FieldType.object "java/lang/String")), Jvm.Cond.code ({ cls := "com/example/bordereau/bordereau/archive/AgencyEqualsPinLaw", name := "len", desc := "(I)I" } : Jvm.MethodName) method_2_code (1 : Nat) (Option.some Jvm.ClassFile.FieldType.int), Jvm.Cond.code ({ cls := "java/lang/String", name := "<init>", desc := "([C)V" } : Jvm.MethodName) jdk_42_method_3_code (2 : Nat) (Option.none : Option Jvm.ClassFile.FieldType), Jvm.Cond.code ({ cls := "java/lang/String", name := "<init>", desc := "([CIILjava/lang/Void;)V" } : Jvm.MethodName) jdk_42_method_149_code (6 : Nat) (Option.none : Option Jvm.ClassFile.FieldType), Jvm.Cond.code ({ cls := "java/lang/Object", name := "<init>", desc := "()V" } : Jvm.MethodName) object_method_1_code (1 : Nat) (Option.none : Option Jvm.ClassFile.FieldType), Jvm.Cond.code ({ cls := "com/example/bordereau/bordereau/archive/AgencyEqualsPinLaw", name := "ch", desc := "(II)C" } : Jvm.MethodName) method_3_code (2 : Nat) (Option.some Jvm.ClassFile.FieldType.char), Jvm.Cond.code ({ cls := "java/lang/StringUTF16", name := "compress", desc := "([CII)[B" } : Jvm.MethodName) jdk_52_method_16_code (6 : Nat) (Option.some (Jvm.ClassFile.FieldType.array Jvm.ClassFile.FieldType.byte)), Jvm.Cond.code ({ cls := "java/lang/StringUTF16", name := "compress", desc := "([CI[BII)I" } : Jvm.MethodName) jdk_52_method_21_code (7 : Nat) (Option.some Jvm.ClassFile.FieldType.int), Jvm.Cond.code ({ cls := "java/lang/StringUTF16", name := "coderFromArrayLen", desc := "([BI)B" } : Jvm.MethodName) jdk_52_method_15_code (2 : Nat) (Option.some Jvm.ClassFile.FieldType.byte), Jvm.Cond.code ({ cls := "com/example/bordereau/bordereau/archive/Agency", name := "<init>", desc := "(Ljava/lang/String;Ljava/lang/String;Ljava/lang/String;)V" } : Jvm.MethodName) prog_1_method_1_code (4 : Nat) (Option.none : Option Jvm.ClassFile.FieldType), Jvm.Cond.code ({ cls := "java/util/Objects", name := "requireNonNull", desc := "(Ljava/lang/Object;Ljava/lang/String;)Ljava/lang/Object;" } : Jvm.MethodName) jdk_31_method_11_code (2 : Nat) (Option.some (Jvm.ClassFile.FieldType.object "java/lang/Object")), Jvm.Cond.code ({ cls := "com/example/bordereau/bordereau/archive/AgencyEqualsPinLaw", name := "key", desc := "(I)I" } : Jvm.MethodName) method_5_code (3 : Nat) (Option.some Jvm.ClassFile.FieldType.int), Jvm.Cond.code ({ cls := "com/example/bordereau/bordereau/archive/Agency", name := "equals", desc := "(Ljava/lang/Object;)Z" } : Jvm.MethodName) prog_1_method_5_code (3 : Nat) (Option.some Jvm.ClassFile.FieldType.boolean), Jvm.Cond.code ({ cls := "java/lang/String", name := "equals", desc := "(Ljava/lang/Object;)Z" } : Jvm.MethodName) jdk_42_method_66_code (3 : Nat) (Option.some Jvm.ClassFile.FieldType.boolean), Jvm.Cond.code ({ cls := "java/lang/StringLatin1", name := "equals", desc := "([B[B)Z" } : Jvm.MethodName) jdk_43_method_13_code (3 : Nat) (Option.some Jvm.ClassFile.FieldType.boolean)]
set_option maxRecDepth 65536 in
theorem codes_eq : words1.filter isCode = codes1 := rfl
theorem w_codes : ∀ c ∈ words1.filter isCode, c.before args0 about1 = true := by
  rw [codes_eq]
  intro c hc
  simp only [codes1, List.mem_cons, List.not_mem_nil, or_false] at hc
  rcases hc with rfl | rfl | rfl | rfl | rfl | rfl | rfl | rfl | rfl | rfl | rfl | rfl | rfl | rfl | rfl | rfl
  · exact w_c0
  · exact w_c1
  · exact w_c2
  · exact w_c3
  · exact w_c4
  · exact w_c5
  · exact w_c6
  · exact w_c7
  · exact w_c8
  · exact w_c9
  · exact w_c10
  · exact w_c11
  · exact w_c12
  · exact w_c13
  · exact w_c14
  · exact w_c15
set_option maxRecDepth 65536 in
theorem w_t1 : (words1.take 24).all (fun c => isCode c || c.before args0 about1) = true := by decide +kernel
set_option maxRecDepth 65536 in
theorem w_t2 : ((words1.drop 24).take 24).all (fun c => isCode c || c.before args0 about1) = true := by decide +kernel
set_option maxRecDepth 65536 in
theorem w_t3 : (((words1.drop 24).drop 24).take 24).all (fun c => isCode c || c.before args0 about1) = true := by decide +kernel
set_option maxRecDepth 65536 in
theorem w_t4 : (((words1.drop 24).drop 24).drop 24).all (fun c => isCode c || c.before args0 about1) = true := by decide +kernel
theorem w_tables : (allAtoms (Jvm.Cond.code x code maxLocals ret :: tables_1)).before args0 about1 = true := by
  rw [allAtoms_all]
  show words1.all (fun c => c.before args0 about1) = true
  refine all_split ?_ w_codes
  rw [← List.take_append_drop 24 words1, List.all_append, w_t1, ← List.take_append_drop 24 (words1.drop 24), List.all_append, w_t2, ← List.take_append_drop 24 ((words1.drop 24).drop 24), List.all_append, w_t3, w_t4]
  rfl
set_option maxRecDepth 65536 in
theorem w_rest : rest_1_c.before args0 about1 = true := by decide +kernel
set_option maxRecDepth 65536 in
theorem w_case : (Jvm.Cond.and given_1 narrow_1).before args0 about1 = true := by decide +kernel
set_option maxRecDepth 65536 in
theorem w_consts : constsHeld consts_1 about1 := Jvm.Lit.constsHeldB_iff.mp (by decide +kernel)
theorem w_applies : (headSpec (Jvm.Cond.code x code maxLocals ret :: tables_1) room_1).applies x e0.platform about1 = true :=
  (Spec.applies_iff w_frames).mpr ⟨w_running, w_runnable, w_alone, w_named, w_hears, w_ripe, w_room, w_tables⟩
theorem atStart : AtStart classFile x code maxLocals ret World_1 tables_1 room_1 Calls_1 rest_1 Pre_1 launch0 p0 e0 about1 theMethod args0 below0 :=
  ⟨lists_1, trivial, launch0.admits_env _ _ _, launch0.least_env, fairChoices_fair.cas, fairChoices_fair.clock, w_frames, w_args, w_heap, w_applies, ⟨w_consts, trivial⟩, w_rest, w_case⟩
end start1
theorem witness_1 : WitnessClaimed_1 := ⟨start1.p0, start1.e0, start1.about1, start1.theMethod, start1.args0, start1.below0, start1.atStart⟩
end Jvm.Pilot.@@N@@
