import JvmDerived
import JvmDerived.Pilot.@@N@@Statement
import JvmDerived.Pilot.@@N@@Code
set_option linter.unusedVariables false
set_option linter.unusedSimpArgs false
namespace Jvm.RoadKit
open Sem ClassFile Op Lib Jvm.Stand Jvm.Free Jvm.LawKit
section New
variable {p : Program} {l : Launch} {e : Env} {R : Room} {s : State} {m : MethodId} {args : Array Value} {below : List Frame} {meth : Method} {c : Code} {T : State} {locs : List Loc} {cells slots : Nat}
theorem retI (X : Stand p l e R s m args below meth c T locs cells slots) (hx : p.tables.exec = Jvm.exec) {pc : Nat} {Ls : Array Slot} {z : Int32} {rest : List Value} (hret : meth.sig.returnType = some .int) (hd : decode c.code pc = .ok (.ireturn, 1)) {fs : List Frame}
    (hl : ∀ (f : JFrame) (acts : List Action), f.method = m → f.locked = none → f.entered = [] → (doReturn e (T.setTop f) acts (some (.int z))).1 = T.setFrames fs) : Steps p.tables e below (T.setTop (mkF m pc Ls (.int z :: rest))) (T.setFrames fs) :=
  retOut X hx hret rfl (Or.inl ⟨rfl, Or.inl rfl, z, rfl⟩) hd hl
theorem retL (X : Stand p l e R s m args below meth c T locs cells slots) (hx : p.tables.exec = Jvm.exec) {pc : Nat} {Ls : Array Slot} {z : Int64} {rest : List Value} (hret : meth.sig.returnType = some .long) (hd : decode c.code pc = .ok (.lreturn, 1)) {fs : List Frame}
    (hl : ∀ (f : JFrame) (acts : List Action), f.method = m → f.locked = none → f.entered = [] → (doReturn e (T.setTop f) acts (some (.long z))).1 = T.setFrames fs) : Steps p.tables e below (T.setTop (mkF m pc Ls (.long z :: rest))) (T.setFrames fs) :=
  retOut X hx hret rfl (Or.inr (Or.inl ⟨rfl, rfl, z, rfl⟩)) hd hl
theorem own_retD (X : Stand p l e R s m args below meth c T locs cells slots) (hx : p.tables.exec = Jvm.exec) {pc : Nat} {Ls : Array Slot} {z : UInt64} {rest : List Value} (hret : meth.sig.returnType = some .double) (hd : decode c.code pc = .ok (.dreturn, 1)) {fs : List Frame}
    (hl : ∀ (f : JFrame) (acts : List Action), f.method = m → f.locked = none → f.entered = [] → (doReturn e (T.setTop f) acts (some (.double z))).1 = T.setFrames fs) : Steps p.tables e below (T.setTop (mkF m pc Ls (.double z :: rest))) (T.setFrames fs) :=
  retOut X hx hret rfl (Or.inr (Or.inr (Or.inl ⟨rfl, rfl, z, rfl⟩))) hd hl
theorem own_nar {t : FieldType} {w : Value} (ht : t.isReference = true) (hw : w.isRef = true) : narrow t w = w := by
  cases t <;> first | (cases ht; done) | (cases w <;> first | rfl | (cases hw; done))
theorem retA (X : Stand p l e R s m args below meth c T locs cells slots) (hx : p.tables.exec = Jvm.exec) {pc : Nat} {Ls : Array Slot} {w : Value} {t : FieldType} {rest : List Value} (hret : meth.sig.returnType = some t) (ht : t.isReference = true) (hw : w.isRef = true) (hd : decode c.code pc = .ok (.areturn, 1)) {fs : List Frame}
    (hl : ∀ (f : JFrame) (acts : List Action), f.method = m → f.locked = none → f.entered = [] → (doReturn e (T.setTop f) acts (some w)).1 = T.setFrames fs) : Steps p.tables e below (T.setTop (mkF m pc Ls (w :: rest))) (T.setFrames fs) :=
  retOut X hx hret (own_nar ht hw) (Or.inr (Or.inr (Or.inr (Or.inr ⟨rfl, ht, hw⟩)))) hd hl
/-- the rest of a walk, as a predicate on where it stands -/
theorem own_open (K N : Nat) (Q : Option Value → Heap → List Loc → Prop) (hlocks : meth.locks = false) :
    ∃ G : State → JFrame → Prop,
      (∀ {T T' : State} {g g' : JFrame}, (∀ t, Steps p.tables e below (T'.setTop g') t → Steps p.tables e below (T.setTop g) t) → G T' g' → G T g) ∧
      (∀ {T : State} {g : JFrame} {locs : List Loc} {cells slots : Nat} {v : Option Value} {h : Heap}, Stand p l e R s m args below meth c T locs cells slots → (meth.sig.returnType = none → v = none) →
        (∀ fs, (∀ (f : JFrame) (acts : List Action), f.method = m → f.locked = none → f.entered = [] → (doReturn e (T.setTop f) acts v).1 = T.setFrames fs) → Steps p.tables e below (T.setTop g) (T.setFrames fs)) → T.heap = h → Q v h locs → cells ≤ K → slots ≤ N → G T g) ∧
      (∀ {T : State} {g : JFrame}, G T g → ∃ t o, Steps p.tables e below (T.setTop g) t ∧ t.status = .running ∧ Ended t below o ∧ ∃ v L, o = .returned v ∧ Q v t.heap L ∧ FrameEnd s o t L K N) := by
  refine ⟨fun T g => ∃ t o, Steps p.tables e below (T.setTop g) t ∧ t.status = .running ∧ Ended t below o ∧ ∃ v L, o = .returned v ∧ Q v t.heap L ∧ FrameEnd s o t L K N, ?_, ?_, fun h => h⟩
  · intro T T' g g' hs hG
    obtain ⟨t, o, h1, h2⟩ := hG
    exact ⟨t, o, hs t h1, h2⟩
  · intro T g locs cells slots v h X hv hst hT hQ hk hn
    obtain ⟨fs, hr, hrun, hended, hW, hsame⟩ := X.leave hv hlocks
    exact ⟨_, _, hst fs hr, hrun, hended, v, locs, rfl, by show Q v T.heap locs; rw [hT]; exact hQ, ⟨_, rfl⟩, hW, hsame.mono hk hn⟩
theorem own_openW (K N : Nat) (Q : Option Value → Heap → List Loc → Prop) (hlocks : meth.locks = false) :
    ∃ G : State → JFrame → Prop,
      (∀ {T T' : State} {g g' : JFrame}, (∀ t, Steps p.tables e below (T'.setTop g') t → Steps p.tables e below (T.setTop g) t) → G T' g' → G T g) ∧
      (∀ {T : State} {g : JFrame} {locs : List Loc} {cells slots : Nat} {v : Option Value} {h : Heap} {vm0 : Vm} {k0 : Nat}, Stand p l e R (s.setVm vm0) m args below meth c T locs cells slots → s.Since vm0 k0 → k0 ≤ h.size → (meth.sig.returnType = none → v = none) →
        (∀ fs, (∀ (f : JFrame) (acts : List Action), f.method = m → f.locked = none → f.entered = [] → (doReturn e (T.setTop f) acts v).1 = T.setFrames fs) → Steps p.tables e below (T.setTop g) (T.setFrames fs)) → T.heap = h → Q v h locs → cells ≤ K → slots ≤ N → G T g) ∧
      (∀ {T : State} {g : JFrame}, G T g → ∃ t o, Steps p.tables e below (T.setTop g) t ∧ t.status = .running ∧ Ended t below o ∧ ∃ v L, o = .returned v ∧ Q v t.heap L ∧ ReturnedEndW s o t L K N) := by
  refine ⟨fun T g => ∃ t o, Steps p.tables e below (T.setTop g) t ∧ t.status = .running ∧ Ended t below o ∧ ∃ v L, o = .returned v ∧ Q v t.heap L ∧ ReturnedEndW s o t L K N, ?_, ?_, fun h => h⟩
  · intro T T' g g' hs hG
    obtain ⟨t, o, h1, h2⟩ := hG
    exact ⟨t, o, hs t h1, h2⟩
  · intro T g locs cells slots v h vm0 k0 X hS hk0 hv hst hT hQ hk hn
    obtain ⟨fs, hr, hrun, hended, hW⟩ := X.leaveW hS (by rw [hT]; exact hk0) hv hlocks
    exact ⟨_, _, hst fs hr, hrun, hended, v, locs, rfl, by show Q v T.heap locs; rw [hT]; exact hQ, hW.1, hW.2.1, hW.2.2.1, hW.2.2.2.mono hk hn⟩
theorem own_sl (a : Array Slot) : ∃ z, z = a := ⟨_, rfl⟩
theorem own_xlt {x y : Int32} : x < y ↔ x.toInt < y.toInt := Int32.lt_iff_toInt_lt
theorem own_xeq {x y : Int32} : x = y ↔ x.toInt = y.toInt := Int32.toInt_inj.symm
theorem own_xltL {x y : Int64} : x < y ↔ x.toInt < y.toInt := Int64.lt_iff_toInt_lt
theorem own_xeqL {x y : Int64} : x = y ↔ x.toInt = y.toInt := Int64.toInt_inj.symm
theorem own_old_le {Z : State} {n0 : Nat} {h : Heap} (O : Old Z n0 h) : n0 ≤ h.size := O.1 ▸ O.2.1
theorem own_oldne {Z : State} {n0 : Nat} {h : Heap} {a b : Addr} (O : Old Z n0 h) (q : a < Z.heap.size) (r : n0 ≤ b) : a ≠ b := O.ne q r
theorem own_fldI {Z : State} {args : Array Value} {t : Term} {C f d : String} {a : Addr} {k : Int32} (ht : t.eval args Z none [] Z = some (.ref a)) (h : (Cond.eq (.field t C f d) (.int k)).value args Z none Z [] = some true) : Fld Z Z.heap a C f d (.int k) := by
  refine Fld.start ?_
  rw [← fld_at (C := C) (n := f) (dd := d) ht]
  obtain ⟨x, y, h1, h2, h3, h4⟩ := cmp_v (Or.inl h)
  have h5 : y = .int k := Option.some.inj (h2.symm.trans (Term.int_eval k))
  subst h5
  obtain ⟨z, rfl⟩ := h4
  have := gotT (P := z = k) (by simp [Cond.value, h1, h2]) h
  rw [h1, this]
theorem own_fldD {Z : State} {args : Array Value} {t : Term} {C f d : String} {a : Addr} {k : Int64} {b : UInt64} (hb : k.toUInt64 = b) (ht : t.eval args Z none [] Z = some (.ref a)) (h : (Cond.eq (.field t C f d) (.op1 .bitsD (.long k))).value args Z none Z [] = some true) : Fld Z Z.heap a C f d (.double b) := by
  refine Fld.start ?_
  rw [← fld_at (C := C) (n := f) (dd := d) ht]
  obtain ⟨x, y, h1, h2, h3, h4⟩ := cmp_v (Or.inl h)
  have h5 : y = .double k.toUInt64 := Option.some.inj (h2.symm.trans rfl)
  subst h5
  obtain ⟨z, rfl⟩ := h4
  have := gotT (P := z = k.toUInt64) (by simp [Cond.value, h1, h2]) h
  rw [h1, this, hb]
theorem own_dnn {a b : UInt64} (ha : Jvm.Free.Fl.NoNaN64 a) (hb : FP.Core.DFin b) (hz : ¬ FP.Core.DZero b) : Jvm.Free.Fl.NoNaN64 (FP.ddiv a b) := by
  refine Jvm.Free.Fl.val64_no.mpr fun q => ?_
  have q2 := (FP.Core.quotient_nan FP.Core.b64 _ _).mp ((FP.Core.val64_ddiv a b).symm.trans q)
  rcases q2 with h | h | ⟨s, t, h1, h2⟩ | ⟨s, t, q, r, h1, h2⟩
  · exact Jvm.Free.Fl.val64_no.mp ha h
  · exact hb.ne_nan h
  · exact hb.ne_inf t h2
  · exact hz ⟨t, r, h2⟩
theorem own_i2dn (x : Int32) : Jvm.Free.Fl.NoNaN64 (FP.i2d x) := Jvm.Free.Fl.noNaN64_no.mpr (FP.Core.i2d_fin x).notNaN
theorem own_i2dz {x : Int32} (h : x ≠ 0) : ¬ FP.Core.DZero (FP.i2d x) := fun q => FP.Core.i2d_ne_zero h ((FP.Core.zero_bits2 _).mp q)
theorem own_and255 (x : Int32) : ¬ (x &&& (255 : Int32)) < 0 ∧ ¬ (255 : Int32) < (x &&& (255 : Int32)) := by
  have c1 := c_mask x (255 : Int32) 8 (by decide) (by decide)
  have q0 : (0 : Int32).toInt = 0 := by decide
  have q1 : (255 : Int32).toInt = 255 := by decide
  rw [own_xlt, own_xlt]
  omega
theorem own_l255 (x : Int64) : ¬ (x &&& (255 : Int64)).toInt32 < 0 ∧ ¬ (255 : Int32) < (x &&& (255 : Int64)).toInt32 := by
  have c1 := c_maskL x (255 : Int64) 8 (by decide) (by decide)
  have c2 := c_l2i (x &&& (255 : Int64))
  have r := rng32 (x &&& (255 : Int64)).toInt32
  have q0 : (0 : Int32).toInt = 0 := by decide
  have q1 : (255 : Int32).toInt = 255 := by decide
  rw [own_xlt, own_xlt]
  omega
theorem own_i2c {x : Int32} (h : ¬ x < 0 ∧ ¬ (255 : Int32) < x) : x.toUInt32.toUInt16.toUInt32.toInt32 = x := by
  have c1 := c_i2c x
  have q0 : (0 : Int32).toInt = 0 := by decide
  have q1 : (255 : Int32).toInt = 255 := by decide
  rw [own_xlt, own_xlt] at h
  rw [own_xeq]
  omega
theorem own_narc {x : Int32} (h : ¬ x < 0 ∧ ¬ (255 : Int32) < x) : nar .char x = x := own_i2c h
theorem own_nz {Z : State} {args : Array Value} {t : Term} {z : Int32} (ht : t.eval args Z none [] Z = some (.int z)) (h : (Cond.not (Cond.eq t (.int 0))).value args Z none Z [] = some true) : ¬ z = (0 : Int32) :=
  gotF (P := z = (0 : Int32)) (by simp [Cond.value, ht, Term.int_eval]) (not_v h)
theorem own_evI {Z : State} {args : Array Value} {u : Term} {k : Int32} (h : (Cond.eq u (.int k)).value args Z none Z [] = some true) : u.eval args Z none [] Z = some (.int k) := by
  obtain ⟨x, y, h1, h2, h3, h4⟩ := cmp_v (Or.inl h)
  have h5 : y = .int k := Option.some.inj (h2.symm.trans (Term.int_eval k))
  subst h5
  obtain ⟨z, rfl⟩ := h4
  have := gotT (P := z = k) (by simp [Cond.value, h1, h2]) h
  rw [h1, this]
theorem own_slotI {Z : State} {args : Array Value} {t : Term} {a : Addr} {i k : Int32} {cl : Cell} (ht : t.eval args Z none [] Z = some (.ref a)) (hc : Z.heap[a]? = some cl) (h : (Cond.eq (.elem t (.int i)) (.int k)).value args Z none Z [] = some true) : cl.slots[i.toNatClampNeg]? = some (.int k) :=
  (elem_in (own_evI h) ht (Term.int_eval i) hc).2
theorem own_lenI {Z : State} {args : Array Value} {t : Term} {a : Addr} {n : Int32} {cl : Cell} {ty : FieldType} (ht : t.eval args Z none [] Z = some (.ref a)) (A : Arr Z Z.heap a cl ty) (h : (Cond.eq (.length t) (.int n)).value args Z none Z [] = some true) : cl.slots.size < 2 ^ 31 ∧ cl.slots.size.toInt32 = n := by
  have hh := A.fin (Vm.Alike.refl _)
  have q := own_evI h
  simp only [Term.eval, ht, hh, Option.bind_eq_bind, Option.bind_some] at q
  split at q
  · rename_i hlt
    exact ⟨hlt, Value.int.inj (Option.some.inj q)⟩
  · cases q
theorem own_fldN {Z : State} {args : Array Value} {t : Term} {C f d : String} {a : Addr} (ht : t.eval args Z none [] Z = some (.ref a)) (h : (Cond.eq (.field t C f d) .null).value args Z none Z [] = some true) : Fld Z Z.heap a C f d .null := by
  refine Fld.start ?_
  rw [← fld_at (C := C) (n := f) (dd := d) ht]
  exact null_v h
theorem own_selpriv {Z s : State} {a0 args : Array Value} {y : MethodName} {n : Nat} (hZ : Z.Warmed39 s.vm) (wp : (Cond.privateMethod y).before a0 Z = true) (wi : (Cond.instanceMethod y).before a0 Z = true) (wk : (Cond.instantiable y.cls n).before a0 Z = true) (hy : y.cls ≠ "java/lang/invoke/MethodHandle" ∧ y.cls ≠ "java/lang/invoke/VarHandle") : (Cond.selects y.cls y y).before args s = true := by
  obtain ⟨c, k, h1, h2, -, h3, -⟩ := Cond.instantiable_spec (mv (s := s) (args := args) hZ wk)
  exact selects_self_of_private h1 h2 (Bool.or_eq_false_iff.mp h3).1 (Cond.privateMethod_at (mvP hZ wp (args := args))) (mv hZ wi) hy
theorem own_ne_arv {Z : State} {h : Heap} {a b : Addr} {C : String} {a0 : Array Value} {i : Nat} {k : ClassId} {ty : FieldType} {n : Int32} {vs : List Value} {dv : Value} (F : Exa Z h a C) (wi : (Cond.instantiable C i).before a0 Z = true) (V : Arv Z h b k ty n vs dv) : a ≠ b := by
  obtain ⟨cl, A, -⟩ := V
  exact ne_arr F wi A
theorem own_arr_keep {Z : State} {h h' : Heap} {a : Addr} {cl : Cell} {ty : FieldType} {ws : List Addr} (F : Arr Z h a cl ty) (K : Keep h h' ws) (q : a ∉ ws) : Arr Z h' a cl ty := ⟨K.2.1 a cl F.1 q, F.2⟩
section Arrays
variable {Z : State} {h : Heap} {a : Addr} {k : ClassId} {n : Int32} {vs : List Value} {dv : Value} {g : JFrame} {rest : List Value} {j : Int32} {v : Value}
theorem own_len {ty : FieldType} (X : Stand p l e R s m args below meth c T locs cells slots) (hx : p.tables.exec = Jvm.exec) (hZ : Z.Warmed39 s.vm) (eT : T.heap = h) (V : Arv Z h a k ty n vs dv) (hg : g.method = m) (hs : g.stack = .ref a :: rest) (hd : decode c.code g.pc = .ok (.arraylength, 1)) (target : State)
    (hr : Steps p.tables e below (T.setTop { g with pc := g.pc + 1, stack := .int n :: rest }) target) : Steps p.tables e below (T.setTop g) target := by
  obtain ⟨cl, A, -, S, N, -, -⟩ := V
  refine X.arraylength hx (by rw [eT]; exact A.1) (State.isArrayOf_alike hZ.alike A.2.1) hg hs hd target ?_
  rw [len_of S N]; exact hr
theorem own_ldI (X : Stand p l e R s m args below meth c T locs cells slots) (hx : p.tables.exec = Jvm.exec) (hZ : Z.Warmed39 s.vm) (eT : T.heap = h) (V : Arv Z h a k .int n vs dv) (hj : ¬ j < 0 ∧ j < n) (hv : vs.getD j.toNatClampNeg dv = v) (hg : g.method = m) (hs : g.stack = .int j :: .ref a :: rest) (hd : decode c.code g.pc = .ok (.iaload, 1)) (target : State)
    (hr : Steps p.tables e below (T.setTop { g with pc := g.pc + 1, stack := v :: rest }) target) : Steps p.tables e below (T.setTop g) target := by
  obtain ⟨cl, A, -, S, N, H, -⟩ := V
  have hin := inb_of S hj
  exact X.iaload hx (by rw [eT]; exact A.1) (State.isArrayOf_alike hZ.alike A.2.1) A.2.2 hin (H.at hin hv) hg hs hd target hr
theorem own_ldJ (X : Stand p l e R s m args below meth c T locs cells slots) (hx : p.tables.exec = Jvm.exec) (hZ : Z.Warmed39 s.vm) (eT : T.heap = h) (V : Arv Z h a k .long n vs dv) (hj : ¬ j < 0 ∧ j < n) (hv : vs.getD j.toNatClampNeg dv = v) (hg : g.method = m) (hs : g.stack = .int j :: .ref a :: rest) (hd : decode c.code g.pc = .ok (.laload, 1)) (target : State)
    (hr : Steps p.tables e below (T.setTop { g with pc := g.pc + 1, stack := v :: rest }) target) : Steps p.tables e below (T.setTop g) target := by
  obtain ⟨cl, A, -, S, N, H, -⟩ := V
  have hin := inb_of S hj
  exact X.laload hx (by rw [eT]; exact A.1) (State.isArrayOf_alike hZ.alike A.2.1) A.2.2 hin (H.at hin hv) hg hs hd target hr
theorem own_ldC (X : Stand p l e R s m args below meth c T locs cells slots) (hx : p.tables.exec = Jvm.exec) (hZ : Z.Warmed39 s.vm) (eT : T.heap = h) (V : Arv Z h a k .char n vs dv) (hj : ¬ j < 0 ∧ j < n) (hv : vs.getD j.toNatClampNeg dv = v) (hg : g.method = m) (hs : g.stack = .int j :: .ref a :: rest) (hd : decode c.code g.pc = .ok (.caload, 1)) (target : State)
    (hr : Steps p.tables e below (T.setTop { g with pc := g.pc + 1, stack := v :: rest }) target) : Steps p.tables e below (T.setTop g) target := by
  obtain ⟨cl, A, -, S, N, H, -⟩ := V
  have hin := inb_of S hj
  exact X.caload hx (by rw [eT]; exact A.1) (State.isArrayOf_alike hZ.alike A.2.1) A.2.2 hin (H.at hin hv) hg hs hd target hr
theorem own_ldB (X : Stand p l e R s m args below meth c T locs cells slots) (hx : p.tables.exec = Jvm.exec) (hZ : Z.Warmed39 s.vm) (eT : T.heap = h) (V : Arv Z h a k .byte n vs dv) (hj : ¬ j < 0 ∧ j < n) (hv : vs.getD j.toNatClampNeg dv = v) (hg : g.method = m) (hs : g.stack = .int j :: .ref a :: rest) (hd : decode c.code g.pc = .ok (.baload, 1)) (target : State)
    (hr : Steps p.tables e below (T.setTop { g with pc := g.pc + 1, stack := v :: rest }) target) : Steps p.tables e below (T.setTop g) target := by
  obtain ⟨cl, A, -, S, N, H, -⟩ := V
  have hin := inb_of S hj
  exact X.baloadBytes hx (by rw [eT]; exact A.1) (State.isArrayOf_alike hZ.alike A.2.1) A.2.2 hin (H.at hin hv) hg hs hd target hr
theorem own_ldR {ty : FieldType} (X : Stand p l e R s m args below meth c T locs cells slots) (hx : p.tables.exec = Jvm.exec) (hZ : Z.Warmed39 s.vm) (eT : T.heap = h) (V : Arv Z h a k ty n vs dv) (hj : ¬ j < 0 ∧ j < n) (hv : vs.getD j.toNatClampNeg dv = v) (hty : ty.isReference = true) (hg : g.method = m) (hs : g.stack = .int j :: .ref a :: rest) (hd : decode c.code g.pc = .ok (.aaload, 1)) (target : State)
    (hr : Steps p.tables e below (T.setTop { g with pc := g.pc + 1, stack := v :: rest }) target) : Steps p.tables e below (T.setTop g) target := by
  obtain ⟨cl, A, -, S, N, H, -⟩ := V
  have hin := inb_of S hj
  exact X.aaload hx (by rw [eT]; exact A.1) (State.isArrayOf_alike hZ.alike A.2.1) hty A.2.2 hin (H.at hin hv) hg hs hd target hr
theorem own_stI {x : Int32} (X : Stand p l e R s m args below meth c T locs cells slots) (hx : p.tables.exec = Jvm.exec) (hZ : Z.Warmed39 s.vm) (eT : T.heap = h) (V : Arv Z h a k .int n vs dv) (hj : ¬ j < 0 ∧ j < n) {i : Nat} (hji : j.toNatClampNeg = i) (hi : i < vs.length) (hg : g.method = m) (hs : g.stack = .int x :: .int j :: .ref a :: rest) (hd : decode c.code g.pc = .ok (.iastore, 1)) :
    ∃ T' h', Stand p l e R s m args below meth c T' (locs ++ [⟨a, j.toNatClampNeg⟩]) cells slots ∧ T'.heap = h' ∧ Wr h h' a j.toNatClampNeg (.int x) ∧ Arv Z h' a k .int n (vs.set i (.int x)) dv ∧ ∀ target, Steps p.tables e below (T'.setTop { g with pc := g.pc + 1, stack := rest }) target → Steps p.tables e below (T.setTop g) target := by
  obtain ⟨cl, A, q, S, N, H, Gf⟩ := V
  obtain ⟨T', h', X', e', W', st⟩ := stI X hx hZ eT A (inb_of S hj) hg hs hd
  exact ⟨T', h', X', e', W', Arv.set A q S N H Gf rfl W' i hji hi, st⟩
theorem own_stJ {x : Int64} (X : Stand p l e R s m args below meth c T locs cells slots) (hx : p.tables.exec = Jvm.exec) (hZ : Z.Warmed39 s.vm) (eT : T.heap = h) (V : Arv Z h a k .long n vs dv) (hj : ¬ j < 0 ∧ j < n) {i : Nat} (hji : j.toNatClampNeg = i) (hi : i < vs.length) (hg : g.method = m) (hs : g.stack = .long x :: .int j :: .ref a :: rest) (hd : decode c.code g.pc = .ok (.lastore, 1)) :
    ∃ T' h', Stand p l e R s m args below meth c T' (locs ++ [⟨a, j.toNatClampNeg⟩]) cells slots ∧ T'.heap = h' ∧ Wr h h' a j.toNatClampNeg (.long x) ∧ Arv Z h' a k .long n (vs.set i (.long x)) dv ∧ ∀ target, Steps p.tables e below (T'.setTop { g with pc := g.pc + 1, stack := rest }) target → Steps p.tables e below (T.setTop g) target := by
  obtain ⟨cl, A, q, S, N, H, Gf⟩ := V
  obtain ⟨T', h', X', e', W', st⟩ := stJ X hx hZ eT A (inb_of S hj) hg hs hd
  exact ⟨T', h', X', e', W', Arv.set A q S N H Gf rfl W' i hji hi, st⟩
theorem own_stC {x : Int32} (X : Stand p l e R s m args below meth c T locs cells slots) (hx : p.tables.exec = Jvm.exec) (hZ : Z.Warmed39 s.vm) (eT : T.heap = h) (V : Arv Z h a k .char n vs dv) (hj : ¬ j < 0 ∧ j < n) {i : Nat} (hji : j.toNatClampNeg = i) (hi : i < vs.length) (hg : g.method = m) (hs : g.stack = .int x :: .int j :: .ref a :: rest) (hd : decode c.code g.pc = .ok (.castore, 1)) :
    ∃ T' h', Stand p l e R s m args below meth c T' (locs ++ [⟨a, j.toNatClampNeg⟩]) cells slots ∧ T'.heap = h' ∧ Wr h h' a j.toNatClampNeg (.int (nar .char x)) ∧ Arv Z h' a k .char n (vs.set i (.int (nar .char x))) dv ∧ ∀ target, Steps p.tables e below (T'.setTop { g with pc := g.pc + 1, stack := rest }) target → Steps p.tables e below (T.setTop g) target := by
  obtain ⟨cl, A, q, S, N, H, Gf⟩ := V
  obtain ⟨T', h', X', e', W', st⟩ := stC X hx hZ eT A (inb_of S hj) hg hs hd
  exact ⟨T', h', X', e', W', Arv.set A q S N H Gf (fits_nar_char _) W' i hji hi, st⟩
theorem own_stB {x : Int32} (X : Stand p l e R s m args below meth c T locs cells slots) (hx : p.tables.exec = Jvm.exec) (hZ : Z.Warmed39 s.vm) (eT : T.heap = h) (V : Arv Z h a k .byte n vs dv) (hj : ¬ j < 0 ∧ j < n) {i : Nat} (hji : j.toNatClampNeg = i) (hi : i < vs.length) (hg : g.method = m) (hs : g.stack = .int x :: .int j :: .ref a :: rest) (hd : decode c.code g.pc = .ok (.bastore, 1)) :
    ∃ T' h', Stand p l e R s m args below meth c T' (locs ++ [⟨a, j.toNatClampNeg⟩]) cells slots ∧ T'.heap = h' ∧ Wr h h' a j.toNatClampNeg (.int (nar .byte x)) ∧ Arv Z h' a k .byte n (vs.set i (.int (nar .byte x))) dv ∧ ∀ target, Steps p.tables e below (T'.setTop { g with pc := g.pc + 1, stack := rest }) target → Steps p.tables e below (T.setTop g) target := by
  obtain ⟨cl, A, q, S, N, H, Gf⟩ := V
  obtain ⟨T', h', X', e', W', st⟩ := stB X hx hZ eT A (inb_of S hj) hg hs hd
  exact ⟨T', h', X', e', W', Arv.set A q S N H Gf (fits_nar_byte _) W' i hji hi, st⟩
theorem own_stR {K : String} (X : Stand p l e R s m args below meth c T locs cells slots) (hx : p.tables.exec = Jvm.exec) (hZ : Z.Warmed39 s.vm) (eT : T.heap = h) (V : Arv Z h a k (.object K) n vs dv) (hj : ¬ j < 0 ∧ j < n) {i : Nat} (hji : j.toNatClampNeg = i) (hi : i < vs.length) (hS : ∀ {cl : Cell}, Arr Z h a cl (.object K) → cl.cls = k → Sto Z h a v) (hg : g.method = m) (hs : g.stack = v :: .int j :: .ref a :: rest) (hd : decode c.code g.pc = .ok (.aastore, 1)) (hf : fits (.object K) v = true := by rfl) :
    ∃ T' h', Stand p l e R s m args below meth c T' (locs ++ [⟨a, j.toNatClampNeg⟩]) cells slots ∧ T'.heap = h' ∧ Wr h h' a j.toNatClampNeg v ∧ Arv Z h' a k (.object K) n (vs.set i v) dv ∧ ∀ target, Steps p.tables e below (T'.setTop { g with pc := g.pc + 1, stack := rest }) target → Steps p.tables e below (T.setTop g) target := by
  obtain ⟨cl, A, q, S, N, H, Gf⟩ := V
  obtain ⟨T', h', X', e', W', st⟩ := stR X hx hZ eT A (inb_of S hj) rfl (hS A q) hg hs hd
  exact ⟨T', h', X', e', W', Arv.set A q S N H Gf hf W' i hji hi, st⟩
end Arrays
end New
end Jvm.RoadKit
namespace Jvm.Pilot.@@N@@
open Jvm Jvm.ClassFile Sem Op Lib Jvm.Free Jvm.Stand Jvm.LawKit Jvm.RoadKit Bundle Jvm.Pilot.@@N@@.Jvm.D
abbrev cn_0 : String := "com/example/imbakan/imbakan/geo/Metrics"
abbrev cn_1 : String := "com/example/imbakan/imbakan/geo/Distance"
abbrev cn_2 : String := "Lcom/example/imbakan/imbakan/geo/Metrics;"
abbrev cn_3 : String := "com/example/imbakan/imbakan/geo/DistanceGetNormalizedValuePinLaw"
abbrev cn_4 : String := "(DLcom/example/imbakan/imbakan/geo/Metrics;)V"
def own_St (Z : State) (w_NEUTRAL : Addr) (w_KILOMETERS : Addr) (w_MILES : Addr) : Prop := (Sta Z Z.heap cn_0 "NEUTRAL" cn_2 (.ref w_NEUTRAL)) ∧ (Exa Z Z.heap w_NEUTRAL cn_0) ∧ (Sta Z Z.heap cn_0 "KILOMETERS" cn_2 (.ref w_KILOMETERS)) ∧ (Exa Z Z.heap w_KILOMETERS cn_0) ∧ (Sta Z Z.heap cn_0 "MILES" cn_2 (.ref w_MILES)) ∧ (Exa Z Z.heap w_MILES cn_0) ∧ (Fld Z Z.heap w_NEUTRAL cn_0 "multiplier" "D" (.double (4607182418800017408 : UInt64))) ∧ (Fld Z Z.heap w_KILOMETERS cn_0 "multiplier" "D" (.double (4663734850496141197 : UInt64))) ∧ (Fld Z Z.heap w_MILES cn_0 "multiplier" "D" (.double (4660933564248916754 : UInt64)))
theorem own_St.k0 {Z : State} {w_NEUTRAL : Addr} {w_KILOMETERS : Addr} {w_MILES : Addr} (ST : own_St Z w_NEUTRAL w_KILOMETERS w_MILES) : Sta Z Z.heap cn_0 "NEUTRAL" cn_2 (.ref w_NEUTRAL) := ST.1
theorem own_St.k1 {Z : State} {w_NEUTRAL : Addr} {w_KILOMETERS : Addr} {w_MILES : Addr} (ST : own_St Z w_NEUTRAL w_KILOMETERS w_MILES) : Exa Z Z.heap w_NEUTRAL cn_0 := ST.2.1
theorem own_St.k2 {Z : State} {w_NEUTRAL : Addr} {w_KILOMETERS : Addr} {w_MILES : Addr} (ST : own_St Z w_NEUTRAL w_KILOMETERS w_MILES) : Sta Z Z.heap cn_0 "KILOMETERS" cn_2 (.ref w_KILOMETERS) := ST.2.2.1
theorem own_St.k3 {Z : State} {w_NEUTRAL : Addr} {w_KILOMETERS : Addr} {w_MILES : Addr} (ST : own_St Z w_NEUTRAL w_KILOMETERS w_MILES) : Exa Z Z.heap w_KILOMETERS cn_0 := ST.2.2.2.1
theorem own_St.k4 {Z : State} {w_NEUTRAL : Addr} {w_KILOMETERS : Addr} {w_MILES : Addr} (ST : own_St Z w_NEUTRAL w_KILOMETERS w_MILES) : Sta Z Z.heap cn_0 "MILES" cn_2 (.ref w_MILES) := ST.2.2.2.2.1
theorem own_St.k5 {Z : State} {w_NEUTRAL : Addr} {w_KILOMETERS : Addr} {w_MILES : Addr} (ST : own_St Z w_NEUTRAL w_KILOMETERS w_MILES) : Exa Z Z.heap w_MILES cn_0 := ST.2.2.2.2.2.1
theorem own_St.k6 {Z : State} {w_NEUTRAL : Addr} {w_KILOMETERS : Addr} {w_MILES : Addr} (ST : own_St Z w_NEUTRAL w_KILOMETERS w_MILES) : Fld Z Z.heap w_NEUTRAL cn_0 "multiplier" "D" (.double (4607182418800017408 : UInt64)) := ST.2.2.2.2.2.2.1
theorem own_St.k7 {Z : State} {w_NEUTRAL : Addr} {w_KILOMETERS : Addr} {w_MILES : Addr} (ST : own_St Z w_NEUTRAL w_KILOMETERS w_MILES) : Fld Z Z.heap w_KILOMETERS cn_0 "multiplier" "D" (.double (4663734850496141197 : UInt64)) := ST.2.2.2.2.2.2.2.1
theorem own_St.k8 {Z : State} {w_NEUTRAL : Addr} {w_KILOMETERS : Addr} {w_MILES : Addr} (ST : own_St Z w_NEUTRAL w_KILOMETERS w_MILES) : Fld Z Z.heap w_MILES cn_0 "multiplier" "D" (.double (4660933564248916754 : UInt64)) := ST.2.2.2.2.2.2.2.2
theorem ww3 {Z : State} {a0 : Array Value} (hw : ∀ d ∈ tables_1, d.before a0 Z = true) : Jvm.Cond.before (Jvm.Cond.laysStatic cn_0 "NEUTRAL" cn_2) a0 Z = true := hw _ (List.mem_of_getElem? (i := 3) rfl)
theorem ww2 {Z : State} {a0 : Array Value} (hw : ∀ d ∈ tables_1, d.before a0 Z = true) : Jvm.Cond.before (Jvm.Cond.initialized cn_0) a0 Z = true := hw _ (List.mem_of_getElem? (i := 2) rfl)
theorem ww30 {Z : State} {a0 : Array Value} (hw : ∀ d ∈ tables_1, d.before a0 Z = true) : Jvm.Cond.before (Jvm.Cond.laysStatic cn_0 "KILOMETERS" cn_2) a0 Z = true := hw _ (List.mem_of_getElem? (i := 30) rfl)
theorem ww33 {Z : State} {a0 : Array Value} (hw : ∀ d ∈ tables_1, d.before a0 Z = true) : Jvm.Cond.before (Jvm.Cond.laysStatic cn_0 "MILES" cn_2) a0 Z = true := hw _ (List.mem_of_getElem? (i := 33) rfl)
theorem d0_0 : decode prog_3_method_2_code 0 = .ok (.aload_n 0, 1) := by decide +kernel
theorem d0_1 : decode prog_3_method_2_code 1 = .ok (.invokespecial 13, 3) := by decide +kernel
theorem ww10 {Z : State} {a0 : Array Value} (hw : ∀ d ∈ tables_1, d.before a0 Z = true) : Jvm.Cond.before (Jvm.Cond.methodLink cn_1 (13 : Nat) ({ cls := "java/lang/Object", name := "<init>", desc := "()V" } : Jvm.MethodName)) a0 Z = true := hw _ (List.mem_of_getElem? (i := 10) rfl)
theorem ww11 {Z : State} {a0 : Array Value} (hw : ∀ d ∈ tables_1, d.before a0 Z = true) : Jvm.Cond.before (Jvm.Cond.instanceMethod ({ cls := "java/lang/Object", name := "<init>", desc := "()V" } : Jvm.MethodName)) a0 Z = true := hw _ (List.mem_of_getElem? (i := 11) rfl)
theorem ww12 {Z : State} {a0 : Array Value} (hw : ∀ d ∈ tables_1, d.before a0 Z = true) : Jvm.Cond.before (Jvm.Cond.code ({ cls := "java/lang/Object", name := "<init>", desc := "()V" } : Jvm.MethodName) object_method_1_code (1 : Nat) (Option.none : Option Jvm.ClassFile.FieldType)) a0 Z = true := hw _ (List.mem_of_getElem? (i := 12) rfl)
theorem d0_4 : decode prog_3_method_2_code 4 = .ok (.aload_n 3, 1) := by decide +kernel
theorem d0_5 : decode prog_3_method_2_code 5 = .ok (.ifnonnull 13, 3) := by decide +kernel
theorem d0_18 : decode prog_3_method_2_code 18 = .ok (.aload_n 0, 1) := by decide +kernel
theorem d0_19 : decode prog_3_method_2_code 19 = .ok (.dload_n 1, 1) := by decide +kernel
theorem d0_20 : decode prog_3_method_2_code 20 = .ok (.putfield 25, 3) := by decide +kernel
theorem ww13 {Z : State} {a0 : Array Value} (hw : ∀ d ∈ tables_1, d.before a0 Z = true) : Jvm.Cond.before (Jvm.Cond.fieldLink cn_1 (25 : Nat) cn_1 "value" "D") a0 Z = true := hw _ (List.mem_of_getElem? (i := 13) rfl)
theorem ww14 {Z : State} {a0 : Array Value} (hw : ∀ d ∈ tables_1, d.before a0 Z = true) : Jvm.Cond.before (Jvm.Cond.laysFinal cn_1 cn_1 "value" "D") a0 Z = true := hw _ (List.mem_of_getElem? (i := 14) rfl)
theorem ww5 {Z : State} {a0 : Array Value} (hw : ∀ d ∈ tables_1, d.before a0 Z = true) : Jvm.Cond.before (Jvm.Cond.instantiable cn_1 (2 : Nat)) a0 Z = true := hw _ (List.mem_of_getElem? (i := 5) rfl)
theorem d0_23 : decode prog_3_method_2_code 23 = .ok (.aload_n 0, 1) := by decide +kernel
theorem d0_24 : decode prog_3_method_2_code 24 = .ok (.aload_n 3, 1) := by decide +kernel
theorem d0_25 : decode prog_3_method_2_code 25 = .ok (.putfield 29, 3) := by decide +kernel
theorem ww15 {Z : State} {a0 : Array Value} (hw : ∀ d ∈ tables_1, d.before a0 Z = true) : Jvm.Cond.before (Jvm.Cond.fieldLink cn_1 (29 : Nat) cn_1 "metric" cn_2) a0 Z = true := hw _ (List.mem_of_getElem? (i := 15) rfl)
theorem ww16 {Z : State} {a0 : Array Value} (hw : ∀ d ∈ tables_1, d.before a0 Z = true) : Jvm.Cond.before (Jvm.Cond.laysFinal cn_1 cn_1 "metric" cn_2) a0 Z = true := hw _ (List.mem_of_getElem? (i := 16) rfl)
theorem d0_28 : decode prog_3_method_2_code 28 = .ok (.return_, 1) := by decide +kernel
abbrev rr_init : Room := { frames := 1, cells := 0, slots := 0, locals := 12 }
abbrev y_0 : MethodName := ⟨cn_1, "<init>", cn_4⟩
theorem pn_0 : plainName cn_1 = true := by first | (simp [plainName, overriddenIn]; done) | decide +kernel
theorem ef_init (m : MethodId) (o0 : Addr) (z1 : UInt64) (o2 : Addr) : entryFrame m #[(.ref o0), (.double z1), (.ref o2)] 4 = mkF m 0 #[.val (.ref o0), .val (.double z1), .second, .val (.ref o2)] [] := by first | (simp [entryFrame, mkF, argsToLocals, Value.category]; done) | rfl
def Q_init (Z : State) (w_NEUTRAL : Addr) (w_KILOMETERS : Addr) (w_MILES : Addr) (o0 : Addr) (z1 : UInt64) (o2 : Addr) (h0 : Heap) (n0 : Nat) (v : Option Value) (h : Heap) (L : List Loc) : Prop := v = none ∧ Fr n0 L ∧ Keep h0 h [o0] ∧ Exa Z h o0 cn_1 ∧ Fld Z h o0 cn_1 "value" "D" (.double z1) ∧ Fld Z h o0 cn_1 "metric" cn_2 (.ref o2)
set_option maxRecDepth 65536 in
set_option maxHeartbeats 40000000 in
theorem rm_init (l : Launch) (Z : State) (a0 : Array Value) (hw : ∀ d ∈ tables_1, d.before a0 Z = true) (ws : List Jvm.Cond) (w_NEUTRAL : Addr) (w_KILOMETERS : Addr) (w_MILES : Addr) (o0 : Addr) (z1 : UInt64) (o2 : Addr) (h0 : Heap) (n0 : Nat) (Z0 : n0 ≤ h0.size) (ST : own_St Z w_NEUTRAL w_KILOMETERS w_MILES) (O0 : Old Z n0 h0) (Ex : Exa Z h0 o0 cn_1) (geo : n0 ≤ o0) (Fv : Fld Z h0 o0 cn_1 "value" "D" (.double (0 : UInt64))) (Fm : Fld Z h0 o0 cn_1 "metric" cn_2 .null) :
    MetFree l y_0 (head1 (Jvm.Cond.code y_0 prog_3_method_2_code 4 none :: ws) rr_init) (fun a U => a = #[(.ref o0), (.double z1), (.ref o2)] ∧ Z.Warmed39 U.vm ∧ U.heap = h0) (fun _ _ _ _ _ => True) (fun _ U o U' => ∃ v L, o = .returned v ∧ Q_init Z w_NEUTRAL w_KILOMETERS w_MILES o0 z1 o2 h0 n0 v U'.heap L ∧ FrameEnd U o U' L rr_init.cells rr_init.slots) := by
  refine MetFree.of_bodySF (plainFor_of_name pn_0) hisR ?_
  intro p e s m args below meth c s₁ Bd hml0 hP hK
  obtain ⟨rfl, hZ, hh⟩ := hP
  have hx := Bd.exec
  have hby := Bd.bytes
  have hml : c.maxLocals = 4 := hml0
  have hown : s.vm.findClass cn_1 = some m.cls := findClass_of_methodNamed Bd.named
  have hnm := (name_of_methodNamed Bd.named Bd.method).1
  have X0 : Stand p l e rr_init s m #[(.ref o0), (.double z1), (.ref o2)] below meth c s₁ [] 0 0 := Stand.of_body Bd
  have e0 : s₁.heap = h0 := by rw [← hh, Bd.state]; rfl
  have N0 := Fr.nil n0
  have K0 : Keep h0 h0 [o0] := Keep.refl _ _
  obtain ⟨G, step, ret, fin⟩ := own_open (p := p) (l := l) (e := e) (R := rr_init) (s := s) (m := m) (args := #[(.ref o0), (.double z1), (.ref o2)]) (below := below) (meth := meth) (c := c) (rr_init.cells) (rr_init.slots) (Q_init Z w_NEUTRAL w_KILOMETERS w_MILES o0 z1 o2 h0 n0) Bd.notSynchronized
  refine fin (g := entryFrame m #[(.ref o0), (.double z1), (.ref o2)] 4) ?_
  rw [ef_init m o0 z1 o2]
  show G s₁ (mkF m 0 #[.val (.ref o0), .val (.double z1), .second, .val (.ref o2)] [])
  refine step (fun t k => XS.aloadN X0.here hx rfl (hb hby d0_0) rfl rfl k) ?_
  show G s₁ (mkF m 1 #[.val (.ref o0), .val (.double z1), .second, .val (.ref o2)] [(.ref o0)])
  obtain ⟨T1, X1, e1, st1⟩ := initO X0 hx hZ hown (ww10 hw) (ww11 hw) (ww12 hw) e0 (g := (mkF m 1 #[.val (.ref o0), .val (.double z1), .second, .val (.ref o2)] [(.ref o0)])) rfl (by rw [hml]; rfl) rfl (hb hby d0_1) (by decide) (W := 0) (by show 2 * 0 + _ ≤ _; exact Nat.le_of_eq rfl) (by decide)
  refine step st1 ?_
  show G T1 (mkF m 4 #[.val (.ref o0), .val (.double z1), .second, .val (.ref o2)] [])
  refine step (fun t k => XS.aloadN X1.here hx rfl (hb hby d0_4) rfl rfl k) ?_
  show G T1 (mkF m 5 #[.val (.ref o0), .val (.double z1), .second, .val (.ref o2)] [(.ref o2)])
  refine step (fun t k => XS.ifnonnullYes X1.here hx rfl (pc0 := 5) (pc' := 18) rfl (hb hby d0_5) rfl (by decide) (by decide) k) ?_
  show G T1 (mkF m 18 #[.val (.ref o0), .val (.double z1), .second, .val (.ref o2)] [])
  refine step (fun t k => XS.aloadN X1.here hx rfl (hb hby d0_18) rfl rfl k) ?_
  show G T1 (mkF m 19 #[.val (.ref o0), .val (.double z1), .second, .val (.ref o2)] [(.ref o0)])
  refine step (fun t k => XS.dloadN X1.here hx rfl (hb hby d0_19) rfl k) ?_
  show G T1 (mkF m 20 #[.val (.ref o0), .val (.double z1), .second, .val (.ref o2)] [(.double z1), (.ref o0)])
  obtain ⟨T2, h2, X2, e2, W2, st2⟩ := putF X1 hx hZ hown (host := "") (Or.inl (ww13 hw)) Via.refl e1 Fv Ex (Or.inr ⟨(ww14 hw), rfl, hnm⟩) (ww5 hw) (ty := .double) (by decide) rfl rfl (g := (mkF m 20 #[.val (.ref o0), .val (.double z1), .second, .val (.ref o2)] [(.double z1), (.ref o0)])) rfl rfl (hb hby d0_20)
  have F2 : Fld Z h2 o0 cn_1 "value" "D" (.double z1) := Fld.same W2 Fv
  have N2 := Fr.snoc X2 N0 geo
  have O2 := O0.wr W2 geo
  have K2 : Keep h0 h2 [o0] := K0.wr W2 (Or.inl (List.mem_of_getElem? (i := 0) rfl))
  refine step st2 ?_
  show G T2 (mkF m 23 #[.val (.ref o0), .val (.double z1), .second, .val (.ref o2)] [])
  refine step (fun t k => XS.aloadN X2.here hx rfl (hb hby d0_23) rfl rfl k) ?_
  show G T2 (mkF m 24 #[.val (.ref o0), .val (.double z1), .second, .val (.ref o2)] [(.ref o0)])
  refine step (fun t k => XS.aloadN X2.here hx rfl (hb hby d0_24) rfl rfl k) ?_
  show G T2 (mkF m 25 #[.val (.ref o0), .val (.double z1), .second, .val (.ref o2)] [(.ref o2), (.ref o0)])
  have f4 := (Fld.other W2 Fm (Or.inr (slot_ne (Or.inr (ww16 hw)) (Or.inr (ww14 hw)) (by decide) (t := (.object cn_0)) (t' := .double) (by decide) (by decide))))
  have f5 := (Exa.wr W2 Ex)
  obtain ⟨T3, h3, X3, e3, W3, st3⟩ := putF X2 hx hZ hown (host := "") (Or.inl (ww15 hw)) Via.refl e2 f4 f5 (Or.inr ⟨(ww16 hw), rfl, hnm⟩) (ww5 hw) (ty := (.object cn_0)) (by decide) rfl rfl (g := (mkF m 25 #[.val (.ref o0), .val (.double z1), .second, .val (.ref o2)] [(.ref o2), (.ref o0)])) rfl rfl (hb hby d0_25)
  have F3 : Fld Z h3 o0 cn_1 "metric" cn_2 (.ref o2) := Fld.same W3 f4
  have N3 := Fr.snoc X3 N2 geo
  have O3 := O2.wr W3 geo
  have K3 : Keep h0 h3 [o0] := K2.wr W3 (Or.inl (List.mem_of_getElem? (i := 0) rfl))
  refine step st3 ?_
  show G T3 (mkF m 28 #[.val (.ref o0), .val (.double z1), .second, .val (.ref o2)] [])
  have f6 := (Exa.wr W3 f5)
  have f7 := (Fld.other W3 F2 (Or.inr (slot_ne (Or.inr (ww14 hw)) (Or.inr (ww16 hw)) (by decide) (t := .double) (t' := (.object cn_0)) (by decide) (by decide))))
  exact ret (v := none) X3 (fun _ => rfl) (fun fs hr => X3.returnOut hx Bd.returns (hb hby d0_28) hr) e3 ⟨rfl, N3, K3, f6, f7, F3⟩ (by decide) (by decide)
theorem d1_0 : decode prog_13_method_4_code 0 = .ok (.aload_n 0, 1) := by decide +kernel
theorem d1_1 : decode prog_13_method_4_code 1 = .ok (.getfield 32, 3) := by decide +kernel
theorem ww27 {Z : State} {a0 : Array Value} (hw : ∀ d ∈ tables_1, d.before a0 Z = true) : Jvm.Cond.before (Jvm.Cond.fieldLink cn_0 (32 : Nat) cn_0 "multiplier" "D") a0 Z = true := hw _ (List.mem_of_getElem? (i := 27) rfl)
theorem d1_4 : decode prog_13_method_4_code 4 = .ok (.dreturn, 1) := by decide +kernel
abbrev rr_mul : Room := { frames := 0, cells := 0, slots := 0, locals := 0 }
abbrev y_1 : MethodName := ⟨cn_0, "getMultiplier", "()D"⟩
theorem pn_1 : plainName cn_0 = true := by first | (simp [plainName, overriddenIn]; done) | decide +kernel
theorem ef_mul (m : MethodId) (o0 : Addr) : entryFrame m #[(.ref o0)] 1 = mkF m 0 #[.val (.ref o0)] [] := by first | (simp [entryFrame, mkF, argsToLocals, Value.category]; done) | rfl
def f_mul (w_NEUTRAL : Addr) (w_KILOMETERS : Addr) (w_MILES : Addr) (o0 : Addr) (zm : UInt64) : UInt64 := zm
def Q_mul (Z : State) (w_NEUTRAL : Addr) (w_KILOMETERS : Addr) (w_MILES : Addr) (o0 : Addr) (zm : UInt64) (h0 : Heap) (n0 : Nat) (v : Option Value) (h : Heap) (L : List Loc) : Prop := v = some (.double (f_mul w_NEUTRAL w_KILOMETERS w_MILES o0 zm)) ∧ Fr n0 L ∧ h = h0
set_option maxRecDepth 65536 in
set_option maxHeartbeats 40000000 in
theorem rm_mul (l : Launch) (Z : State) (a0 : Array Value) (hw : ∀ d ∈ tables_1, d.before a0 Z = true) (ws : List Jvm.Cond) (w_NEUTRAL : Addr) (w_KILOMETERS : Addr) (w_MILES : Addr) (o0 : Addr) (zm : UInt64) (h0 : Heap) (n0 : Nat) (Z0 : n0 ≤ h0.size) (ST : own_St Z w_NEUTRAL w_KILOMETERS w_MILES) (O0 : Old Z n0 h0) (Fu : Fld Z h0 o0 cn_0 "multiplier" "D" (.double zm)) :
    MetFree l y_1 (head1 (Jvm.Cond.code y_1 prog_13_method_4_code 1 (some .double) :: ws) rr_mul) (fun a U => a = #[(.ref o0)] ∧ Z.Warmed39 U.vm ∧ U.heap = h0) (fun _ _ _ _ _ => True) (fun _ U o U' => ∃ v L, o = .returned v ∧ Q_mul Z w_NEUTRAL w_KILOMETERS w_MILES o0 zm h0 n0 v U'.heap L ∧ FrameEnd U o U' L rr_mul.cells rr_mul.slots) := by
  refine MetFree.of_bodySF (plainFor_of_name pn_1) hisR ?_
  intro p e s m args below meth c s₁ Bd hml0 hP hK
  obtain ⟨rfl, hZ, hh⟩ := hP
  have hx := Bd.exec
  have hby := Bd.bytes
  have hml : c.maxLocals = 1 := hml0
  have hown : s.vm.findClass cn_0 = some m.cls := findClass_of_methodNamed Bd.named
  have hnm := (name_of_methodNamed Bd.named Bd.method).1
  have X0 : Stand p l e rr_mul s m #[(.ref o0)] below meth c s₁ [] 0 0 := Stand.of_body Bd
  have e0 : s₁.heap = h0 := by rw [← hh, Bd.state]; rfl
  have N0 := Fr.nil n0
  obtain ⟨G, step, ret, fin⟩ := own_open (p := p) (l := l) (e := e) (R := rr_mul) (s := s) (m := m) (args := #[(.ref o0)]) (below := below) (meth := meth) (c := c) (rr_mul.cells) (rr_mul.slots) (Q_mul Z w_NEUTRAL w_KILOMETERS w_MILES o0 zm h0 n0) Bd.notSynchronized
  refine fin (g := entryFrame m #[(.ref o0)] 1) ?_
  rw [ef_mul m o0]
  show G s₁ (mkF m 0 #[.val (.ref o0)] [])
  refine step (fun t k => XS.aloadN X0.here hx rfl (hb hby d1_0) rfl rfl k) ?_
  show G s₁ (mkF m 1 #[.val (.ref o0)] [(.ref o0)])
  obtain ⟨T1, X1, e1, st1⟩ := getF X0 hx hZ hown (host := "") (Or.inl (ww27 hw)) Via.refl e0 Fu (g := (mkF m 1 #[.val (.ref o0)] [(.ref o0)])) rfl rfl (hb hby d1_1)
  refine step st1 ?_
  show G T1 (mkF m 4 #[.val (.ref o0)] [(.double zm)])
  exact ret (v := some (.double zm)) X1 (fun h => by rw [Bd.returns] at h; cases h) (fun fs hr => own_retD X1 hx Bd.returns (hb hby d1_4) hr) e1 ⟨rfl, N0, rfl⟩ (by decide) (by decide)
theorem d2_0 : decode prog_3_method_5_code 0 = .ok (.aload_n 0, 1) := by decide +kernel
theorem d2_1 : decode prog_3_method_5_code 1 = .ok (.getfield 25, 3) := by decide +kernel
theorem d2_4 : decode prog_3_method_5_code 4 = .ok (.aload_n 0, 1) := by decide +kernel
theorem d2_5 : decode prog_3_method_5_code 5 = .ok (.getfield 29, 3) := by decide +kernel
theorem d2_8 : decode prog_3_method_5_code 8 = .ok (.invokevirtual 32, 3) := by decide +kernel
theorem ww22 {Z : State} {a0 : Array Value} (hw : ∀ d ∈ tables_1, d.before a0 Z = true) : Jvm.Cond.before (Jvm.Cond.methodLink cn_1 (32 : Nat) ({ cls := cn_0, name := "getMultiplier", desc := "()D" } : Jvm.MethodName)) a0 Z = true := hw _ (List.mem_of_getElem? (i := 22) rfl)
theorem ww25 {Z : State} {a0 : Array Value} (hw : ∀ d ∈ tables_1, d.before a0 Z = true) : Jvm.Cond.before (Jvm.Cond.selects cn_0 ({ cls := cn_0, name := "getMultiplier", desc := "()D" } : Jvm.MethodName) ({ cls := cn_0, name := "getMultiplier", desc := "()D" } : Jvm.MethodName)) a0 Z = true := hw _ (List.mem_of_getElem? (i := 25) rfl)
theorem ww26 {Z : State} {a0 : Array Value} (hw : ∀ d ∈ tables_1, d.before a0 Z = true) : Jvm.Cond.before (Jvm.Cond.code ({ cls := cn_0, name := "getMultiplier", desc := "()D" } : Jvm.MethodName) prog_13_method_4_code (1 : Nat) (Option.some Jvm.ClassFile.FieldType.double)) a0 Z = true := hw _ (List.mem_of_getElem? (i := 26) rfl)
theorem pd_0 : parseMethodDescriptor "()D" = some ⟨[], some .double⟩ := by decide +kernel
theorem ww23 {Z : State} {a0 : Array Value} (hw : ∀ d ∈ tables_1, d.before a0 Z = true) : Jvm.Cond.before (Jvm.Cond.declares ({ cls := cn_0, name := "getMultiplier", desc := "()D" } : Jvm.MethodName)) a0 Z = true := hw _ (List.mem_of_getElem? (i := 23) rfl)
theorem ww24 {Z : State} {a0 : Array Value} (hw : ∀ d ∈ tables_1, d.before a0 Z = true) : Jvm.Cond.before (Jvm.Cond.instanceMethod ({ cls := cn_0, name := "getMultiplier", desc := "()D" } : Jvm.MethodName)) a0 Z = true := hw _ (List.mem_of_getElem? (i := 24) rfl)
theorem d2_11 : decode prog_3_method_5_code 11 = .ok (.ddiv, 1) := by decide +kernel
theorem d2_12 : decode prog_3_method_5_code 12 = .ok (.dreturn, 1) := by decide +kernel
abbrev rr_nor : Room := { frames := 1, cells := 0, slots := 0, locals := 14 }
abbrev y_2 : MethodName := ⟨cn_1, "getNormalizedValue", "()D"⟩
theorem ef_nor (m : MethodId) (o0 : Addr) : entryFrame m #[(.ref o0)] 1 = mkF m 0 #[.val (.ref o0)] [] := by first | (simp [entryFrame, mkF, argsToLocals, Value.category]; done) | rfl
def f_nor (w_NEUTRAL : Addr) (w_KILOMETERS : Addr) (w_MILES : Addr) (o0 : Addr) (zv : UInt64) (om : Addr) (zm : UInt64) : UInt64 := (FP.ddiv zv zm)
def Q_nor (Z : State) (w_NEUTRAL : Addr) (w_KILOMETERS : Addr) (w_MILES : Addr) (o0 : Addr) (zv : UInt64) (om : Addr) (zm : UInt64) (h0 : Heap) (n0 : Nat) (v : Option Value) (h : Heap) (L : List Loc) : Prop := v = some (.double (f_nor w_NEUTRAL w_KILOMETERS w_MILES o0 zv om zm)) ∧ Fr n0 L ∧ h = h0
set_option maxRecDepth 65536 in
set_option maxHeartbeats 40000000 in
theorem rm_nor (l : Launch) (Z : State) (a0 : Array Value) (hw : ∀ d ∈ tables_1, d.before a0 Z = true) (ws : List Jvm.Cond) (w_NEUTRAL : Addr) (w_KILOMETERS : Addr) (w_MILES : Addr) (o0 : Addr) (zv : UInt64) (om : Addr) (zm : UInt64) (h0 : Heap) (n0 : Nat) (Z0 : n0 ≤ h0.size) (ST : own_St Z w_NEUTRAL w_KILOMETERS w_MILES) (O0 : Old Z n0 h0) (Fv : Fld Z h0 o0 cn_1 "value" "D" (.double zv)) (Fm : Fld Z h0 o0 cn_1 "metric" cn_2 (.ref om)) (Em : Exa Z h0 om cn_0) (Fu : Fld Z h0 om cn_0 "multiplier" "D" (.double zm)) (hnn : Jvm.Free.Fl.NoNaN64 (FP.ddiv zv zm)) :
    MetFree l y_2 (head1 (Jvm.Cond.code y_2 prog_3_method_5_code 1 (some .double) :: ws) rr_nor) (fun a U => a = #[(.ref o0)] ∧ Z.Warmed39 U.vm ∧ U.heap = h0) (fun _ _ _ _ _ => True) (fun _ U o U' => ∃ v L, o = .returned v ∧ Q_nor Z w_NEUTRAL w_KILOMETERS w_MILES o0 zv om zm h0 n0 v U'.heap L ∧ FrameEnd U o U' L rr_nor.cells rr_nor.slots) := by
  refine MetFree.of_bodySF (plainFor_of_name pn_0) hisR ?_
  intro p e s m args below meth c s₁ Bd hml0 hP hK
  obtain ⟨rfl, hZ, hh⟩ := hP
  have hx := Bd.exec
  have hby := Bd.bytes
  have hml : c.maxLocals = 1 := hml0
  have hown : s.vm.findClass cn_1 = some m.cls := findClass_of_methodNamed Bd.named
  have hnm := (name_of_methodNamed Bd.named Bd.method).1
  have X0 : Stand p l e rr_nor s m #[(.ref o0)] below meth c s₁ [] 0 0 := Stand.of_body Bd
  have e0 : s₁.heap = h0 := by rw [← hh, Bd.state]; rfl
  have N0 := Fr.nil n0
  obtain ⟨G, step, ret, fin⟩ := own_open (p := p) (l := l) (e := e) (R := rr_nor) (s := s) (m := m) (args := #[(.ref o0)]) (below := below) (meth := meth) (c := c) (rr_nor.cells) (rr_nor.slots) (Q_nor Z w_NEUTRAL w_KILOMETERS w_MILES o0 zv om zm h0 n0) Bd.notSynchronized
  refine fin (g := entryFrame m #[(.ref o0)] 1) ?_
  rw [ef_nor m o0]
  show G s₁ (mkF m 0 #[.val (.ref o0)] [])
  refine step (fun t k => XS.aloadN X0.here hx rfl (hb hby d2_0) rfl rfl k) ?_
  show G s₁ (mkF m 1 #[.val (.ref o0)] [(.ref o0)])
  obtain ⟨T1, X1, e1, st1⟩ := getF X0 hx hZ hown (host := "") (Or.inl (ww13 hw)) Via.refl e0 Fv (g := (mkF m 1 #[.val (.ref o0)] [(.ref o0)])) rfl rfl (hb hby d2_1)
  refine step st1 ?_
  show G T1 (mkF m 4 #[.val (.ref o0)] [(.double zv)])
  refine step (fun t k => XS.aloadN X1.here hx rfl (hb hby d2_4) rfl rfl k) ?_
  show G T1 (mkF m 5 #[.val (.ref o0)] [(.ref o0), (.double zv)])
  obtain ⟨T2, X2, e2, st2⟩ := getF X1 hx hZ hown (host := "") (Or.inl (ww15 hw)) Via.refl e1 Fm (g := (mkF m 5 #[.val (.ref o0)] [(.ref o0), (.double zv)])) rfl rfl (hb hby d2_5)
  refine step st2 ?_
  show G T2 (mkF m 8 #[.val (.ref o0)] [(.ref om), (.double zv)])
  obtain ⟨cq3, kq3, q3a, q3b, q3c⟩ := isOf hZ e2 Em
  obtain ⟨_, _, ⟨T3, L3, k3, n3⟩, -, X3, ⟨Lc3, hQ3, l3, y3, z3⟩, st3⟩ := X2.virtualBack hx (y := y_1) (z := y_1) hown (mvT hZ (ww22 hw)) (mvT hZ (ww23 hw)) (notFace_of_selects (args := #[]) (mvT hZ (ww25 hw))) (mvT hZ (ww25 hw)) (mvT hZ (ww24 hw)) (by decide) (backOf (W := 2) (rm_mul l Z a0 hw [] w_NEUTRAL w_KILOMETERS w_MILES om zm h0 n0 (own_old_le O0) ST O0 Fu) hZ (ww26 hw) (ww2 hw) (by decide) (by decide)) q3a q3c (g := (mkF m 8 #[.val (.ref o0)] [(.ref om), (.double zv)])) rfl (by rw [hml]; rfl) (Steps.refl _) (argsL := []) (rest := [(.double zv)]) (lenOf pd_0 rfl) rfl (by show 2 * 0 + _ ≤ _; exact Nat.le_of_eq rfl) (hb hby d2_8) (fun _ _ => ⟨rfl, e2, (by decide : 0 + 0 ≤ _), (by decide : 0 + 0 ≤ _)⟩)
  dsimp only [Pt.U, Pt.locs, Pt.cells, Pt.slots] at X3 l3 y3 z3 st3 hQ3
  subst l3 y3 z3
  obtain ⟨rfl, N3q, e3⟩ := hQ3
  have N3 := Fr.app N0 N3q
  refine step (fun t k => st3.trans k) ?_
  show G T3 (mkF m 11 #[.val (.ref o0)] [(.double (f_mul w_NEUTRAL w_KILOMETERS w_MILES om zm)), (.double zv)])
  have r4 : (f_mul w_NEUTRAL w_KILOMETERS w_MILES om zm) = zm := rfl
  rw [r4]
  show G T3 (mkF m 11 #[.val (.ref o0)] [(.double zm), (.double zv)])
  refine step (fun t k => XS.ddivS X3.here hx rfl (hb hby d2_11) rfl hnn rfl k) ?_
  show G T3 (mkF m 12 #[.val (.ref o0)] [(.double (FP.ddiv zv zm))])
  exact ret (v := some (.double (FP.ddiv zv zm))) X3 (fun h => by rw [Bd.returns] at h; cases h) (fun fs hr => own_retD X3 hx Bd.returns (hb hby d2_12) hr) e3 ⟨rfl, N3, rfl⟩ (by decide) (by decide)
theorem own_sh (k : Int32) : (1 : Int32) <<< ((k &&& (7 : Int32)) &&& 31) ≠ 0 := by
  have c1 := c_mask k (7 : Int32) 3 (by decide) (by decide)
  have h : (k &&& (7 : Int32)) = (0 : Int32) ∨ (k &&& (7 : Int32)) = (1 : Int32) ∨ (k &&& (7 : Int32)) = (2 : Int32) ∨ (k &&& (7 : Int32)) = (3 : Int32) ∨ (k &&& (7 : Int32)) = (4 : Int32) ∨ (k &&& (7 : Int32)) = (5 : Int32) ∨ (k &&& (7 : Int32)) = (6 : Int32) ∨ (k &&& (7 : Int32)) = (7 : Int32) := by
    have q0 : (0 : Int32).toInt = 0 := by decide
    have q1 : (1 : Int32).toInt = 1 := by decide
    have q2 : (2 : Int32).toInt = 2 := by decide
    have q3 : (3 : Int32).toInt = 3 := by decide
    have q4 : (4 : Int32).toInt = 4 := by decide
    have q5 : (5 : Int32).toInt = 5 := by decide
    have q6 : (6 : Int32).toInt = 6 := by decide
    have q7 : (7 : Int32).toInt = 7 := by decide
    simp only [own_xeq, q0, q1, q2, q3, q4, q5, q6, q7]
    omega
  rcases h with h | h | h | h | h | h | h | h <;> rw [h] <;> decide
theorem ww0 {Z : State} {a0 : Array Value} (hw : ∀ d ∈ tables_1, d.before a0 Z = true) : Jvm.Cond.before (Jvm.Cond.constant cn_3 (7 : Nat) (2147483647 : Int32)) a0 Z = true := hw _ (List.mem_of_getElem? (i := 0) rfl)
theorem ww29 {Z : State} {a0 : Array Value} (hw : ∀ d ∈ tables_1, d.before a0 Z = true) : Jvm.Cond.before (Jvm.Cond.fieldLink cn_3 (8 : Nat) cn_0 "KILOMETERS" cn_2) a0 Z = true := hw _ (List.mem_of_getElem? (i := 29) rfl)
theorem ww31 {Z : State} {a0 : Array Value} (hw : ∀ d ∈ tables_1, d.before a0 Z = true) : Jvm.Cond.before (Jvm.Cond.constantDouble cn_3 (14 : Nat) (4663734850496141197 : UInt64)) a0 Z = true := hw _ (List.mem_of_getElem? (i := 31) rfl)
theorem ww4 {Z : State} {a0 : Array Value} (hw : ∀ d ∈ tables_1, d.before a0 Z = true) : Jvm.Cond.before (Jvm.Cond.classLink cn_3 (24 : Nat) cn_1) a0 Z = true := hw _ (List.mem_of_getElem? (i := 4) rfl)
theorem ww6 {Z : State} {a0 : Array Value} (hw : ∀ d ∈ tables_1, d.before a0 Z = true) : Jvm.Cond.before (Jvm.Cond.initialized cn_1) a0 Z = true := hw _ (List.mem_of_getElem? (i := 6) rfl)
theorem ww7 {Z : State} {a0 : Array Value} (hw : ∀ d ∈ tables_1, d.before a0 Z = true) : Jvm.Cond.before (Jvm.Cond.methodLink cn_3 (26 : Nat) ({ cls := cn_1, name := "<init>", desc := cn_4 } : Jvm.MethodName)) a0 Z = true := hw _ (List.mem_of_getElem? (i := 7) rfl)
theorem ww9 {Z : State} {a0 : Array Value} (hw : ∀ d ∈ tables_1, d.before a0 Z = true) : Jvm.Cond.before (Jvm.Cond.code ({ cls := cn_1, name := "<init>", desc := cn_4 } : Jvm.MethodName) prog_3_method_2_code (4 : Nat) (Option.none : Option Jvm.ClassFile.FieldType)) a0 Z = true := hw _ (List.mem_of_getElem? (i := 9) rfl)
theorem pd_1 : parseMethodDescriptor cn_4 = some ⟨[.double, (.object cn_0)], none⟩ := by decide +kernel
theorem ww8 {Z : State} {a0 : Array Value} (hw : ∀ d ∈ tables_1, d.before a0 Z = true) : Jvm.Cond.before (Jvm.Cond.instanceMethod ({ cls := cn_1, name := "<init>", desc := cn_4 } : Jvm.MethodName)) a0 Z = true := hw _ (List.mem_of_getElem? (i := 8) rfl)
theorem ww17 {Z : State} {a0 : Array Value} (hw : ∀ d ∈ tables_1, d.before a0 Z = true) : Jvm.Cond.before (Jvm.Cond.methodLink cn_3 (29 : Nat) ({ cls := cn_1, name := "getNormalizedValue", desc := "()D" } : Jvm.MethodName)) a0 Z = true := hw _ (List.mem_of_getElem? (i := 17) rfl)
theorem ww20 {Z : State} {a0 : Array Value} (hw : ∀ d ∈ tables_1, d.before a0 Z = true) : Jvm.Cond.before (Jvm.Cond.selects cn_1 ({ cls := cn_1, name := "getNormalizedValue", desc := "()D" } : Jvm.MethodName) ({ cls := cn_1, name := "getNormalizedValue", desc := "()D" } : Jvm.MethodName)) a0 Z = true := hw _ (List.mem_of_getElem? (i := 20) rfl)
theorem ww21 {Z : State} {a0 : Array Value} (hw : ∀ d ∈ tables_1, d.before a0 Z = true) : Jvm.Cond.before (Jvm.Cond.code ({ cls := cn_1, name := "getNormalizedValue", desc := "()D" } : Jvm.MethodName) prog_3_method_5_code (1 : Nat) (Option.some Jvm.ClassFile.FieldType.double)) a0 Z = true := hw _ (List.mem_of_getElem? (i := 21) rfl)
theorem ww18 {Z : State} {a0 : Array Value} (hw : ∀ d ∈ tables_1, d.before a0 Z = true) : Jvm.Cond.before (Jvm.Cond.declares ({ cls := cn_1, name := "getNormalizedValue", desc := "()D" } : Jvm.MethodName)) a0 Z = true := hw _ (List.mem_of_getElem? (i := 18) rfl)
theorem ww19 {Z : State} {a0 : Array Value} (hw : ∀ d ∈ tables_1, d.before a0 Z = true) : Jvm.Cond.before (Jvm.Cond.instanceMethod ({ cls := cn_1, name := "getNormalizedValue", desc := "()D" } : Jvm.MethodName)) a0 Z = true := hw _ (List.mem_of_getElem? (i := 19) rfl)
theorem ww32 {Z : State} {a0 : Array Value} (hw : ∀ d ∈ tables_1, d.before a0 Z = true) : Jvm.Cond.before (Jvm.Cond.fieldLink cn_3 (16 : Nat) cn_0 "MILES" cn_2) a0 Z = true := hw _ (List.mem_of_getElem? (i := 32) rfl)
theorem ww34 {Z : State} {a0 : Array Value} (hw : ∀ d ∈ tables_1, d.before a0 Z = true) : Jvm.Cond.before (Jvm.Cond.constantDouble cn_3 (19 : Nat) (4660933564248916754 : UInt64)) a0 Z = true := hw _ (List.mem_of_getElem? (i := 34) rfl)
theorem ww1 {Z : State} {a0 : Array Value} (hw : ∀ d ∈ tables_1, d.before a0 Z = true) : Jvm.Cond.before (Jvm.Cond.fieldLink cn_3 (21 : Nat) cn_0 "NEUTRAL" cn_2) a0 Z = true := hw _ (List.mem_of_getElem? (i := 1) rfl)
abbrev y_3 : MethodName := ⟨cn_3, "law", "(III)Z"⟩
theorem pn_2 : plainName cn_3 = true := by first | (simp [plainName, overriddenIn]; done) | decide +kernel
theorem ef_law (m : MethodId) (p0 : Int32) (p1 : Int32) (p2 : Int32) : entryFrame m #[(.int p0), (.int p1), (.int p2)] maxLocals = mkF m 0 #[.val (.int p0), .val (.int p1), .val (.int p2), .unset, .unset, .unset, .unset, .unset, .unset, .unset] [] := by first | (simp [entryFrame, mkF, argsToLocals, Value.category, maxLocals]; done) | rfl
def Q_law (Z : State) (w_NEUTRAL : Addr) (w_KILOMETERS : Addr) (w_MILES : Addr) (p0 : Int32) (p1 : Int32) (p2 : Int32) (h0 : Heap) (n0 : Nat) (v : Option Value) (h : Heap) (L : List Loc) : Prop := v = some (.int 1) ∧ Fr n0 L
set_option maxRecDepth 65536 in
set_option maxHeartbeats 40000000 in
theorem rm_law (l : Launch) (Z : State) (a0 : Array Value) (hw : ∀ d ∈ tables_1, d.before a0 Z = true) (ws : List Jvm.Cond) (w_NEUTRAL : Addr) (w_KILOMETERS : Addr) (w_MILES : Addr) (p0 : Int32) (p1 : Int32) (p2 : Int32) (h0 : Heap) (n0 : Nat) (Z0 : n0 ≤ h0.size) (ST : own_St Z w_NEUTRAL w_KILOMETERS w_MILES) (O0 : Old Z n0 h0) :
    MetFree l x (head1 (Jvm.Cond.code x code maxLocals ret :: ws) room_1) (fun a U => a = #[(.int p0), (.int p1), (.int p2)] ∧ Z.Warmed39 U.vm ∧ U.heap = h0) (fun _ _ _ _ _ => True) (fun _ U o U' => ∃ v L, o = .returned v ∧ Q_law Z w_NEUTRAL w_KILOMETERS w_MILES p0 p1 p2 h0 n0 v U'.heap L ∧ FrameEnd U o U' L 1 2) := by
  refine MetFree.of_bodySF (plainFor_of_name pn_2) hisR ?_
  intro p e s m args below meth c s₁ Bd hml0 hP hK
  obtain ⟨rfl, hZ, hh⟩ := hP
  have hx := Bd.exec
  have hby := Bd.bytes
  have hml : c.maxLocals = 10 := hml0
  have hown : s.vm.findClass cn_3 = some m.cls := findClass_of_methodNamed Bd.named
  have hnm := (name_of_methodNamed Bd.named Bd.method).1
  have X0 : Stand p l e room_1 s m #[(.int p0), (.int p1), (.int p2)] below meth c s₁ [] 0 0 := Stand.of_body Bd
  have e0 : s₁.heap = h0 := by rw [← hh, Bd.state]; rfl
  have N0 := Fr.nil n0
  obtain ⟨G, step, ret, fin⟩ := own_open (p := p) (l := l) (e := e) (R := room_1) (s := s) (m := m) (args := #[(.int p0), (.int p1), (.int p2)]) (below := below) (meth := meth) (c := c) (1) (2) (Q_law Z w_NEUTRAL w_KILOMETERS w_MILES p0 p1 p2 h0 n0) Bd.notSynchronized
  refine fin (g := entryFrame m #[(.int p0), (.int p1), (.int p2)] maxLocals) ?_
  rw [ef_law m p0 p1 p2]
  obtain ⟨ls0, hls0⟩  := own_sl #[.val (.int p0), .val (.int p1), .val (.int p2), .unset, .unset, .unset, .unset, .unset, .unset, .unset]
  suffices hG0 : G s₁ (mkF m 0 ls0 []) by rw [hls0] at hG0; exact hG0
  show G s₁ (mkF m 0 ls0 [])
  refine step (fun t k => XS.iloadN X0.here hx rfl (hb hby at_0) (by rw [hls0]; rfl) k) ?_
  show G s₁ (mkF m 1 ls0 [(.int p0)])
  refine step (fun t k => XS.i2dS X0.here hx rfl (hb hby at_1) rfl rfl k) ?_
  show G s₁ (mkF m 2 ls0 [(.double (FP.i2d p0))])
  refine step (fun t k => XS.iconst X0.here hx rfl (hb hby at_2) k) ?_
  show G s₁ (mkF m 3 ls0 [(.int 1), (.double (FP.i2d p0))])
  refine step (fun t k => XS.iloadN X0.here hx rfl (hb hby at_3) (by rw [hls0]; rfl) k) ?_
  show G s₁ (mkF m 4 ls0 [(.int p1), (.int 1), (.double (FP.i2d p0))])
  refine step (fun t k => XS.bipush X0.here hx rfl (hb hby at_4) k) ?_
  show G s₁ (mkF m 6 ls0 [(.int 7), (.int p1), (.int 1), (.double (FP.i2d p0))])
  refine step (fun t k => XS.iand X0.here hx rfl (hb hby at_6) rfl k) ?_
  show G s₁ (mkF m 7 ls0 [(.int (p1 &&& (7 : Int32))), (.int 1), (.double (FP.i2d p0))])
  refine step (fun t k => XS.ishl X0.here hx rfl (hb hby at_7) rfl k) ?_
  show G s₁ (mkF m 8 ls0 [(.int ((1 : Int32) <<< ((p1 &&& (7 : Int32)) &&& 31))), (.double (FP.i2d p0))])
  refine step (fun t k => XS.i2dS X0.here hx rfl (hb hby at_8) rfl rfl k) ?_
  show G s₁ (mkF m 9 ls0 [(.double (FP.i2d ((1 : Int32) <<< ((p1 &&& (7 : Int32)) &&& 31)))), (.double (FP.i2d p0))])
  refine step (fun t k => XS.ddivS X0.here hx rfl (hb hby at_9) rfl (own_dnn (own_i2dn _) (FP.Core.i2d_fin _) (own_i2dz (own_sh _))) rfl k) ?_
  show G s₁ (mkF m 10 ls0 [(.double (FP.ddiv (FP.i2d p0) (FP.i2d ((1 : Int32) <<< ((p1 &&& (7 : Int32)) &&& 31)))))])
  obtain ⟨zz, hzz⟩ : ∃ z : UInt64, z = (FP.ddiv (FP.i2d p0) (FP.i2d ((1 : Int32) <<< ((p1 &&& (7 : Int32)) &&& 31)))) := ⟨_, rfl⟩
  have hvn : Jvm.Free.Fl.NoNaN64 zz := hzz ▸ own_dnn (own_i2dn _) (FP.Core.i2d_fin _) (own_i2dz (own_sh _))
  rw [← hzz]
  show G s₁ (mkF m 10 ls0 [(.double zz)])
  obtain ⟨ls1, hls1⟩  := own_sl #[.val (.int p0), .val (.int p1), .val (.int p2), .val (.double zz), .second, .unset, .unset, .unset, .unset, .unset]
  refine step (fun t k => XS.dstoreN X0.here hx rfl (hb hby at_10) rfl (l' := ls1) (by rw [hls0, hls1]; rfl) k) ?_
  show G s₁ (mkF m 11 ls1 [])
  refine step (fun t k => XS.iloadN X0.here hx rfl (hb hby at_11) (by rw [hls1]; rfl) k) ?_
  show G s₁ (mkF m 12 ls1 [(.int p2)])
  have q2 := X0.ldcInt hx hown (mvT hZ (ww0 hw)) (g := (mkF m 12 ls1 [(.int p2)])) rfl (hb hby at_12)
  refine step q2 ?_
  show G s₁ (mkF m 14 ls1 [(.int 2147483647), (.int p2)])
  refine step (fun t k => XS.iand X0.here hx rfl (hb hby at_14) rfl k) ?_
  show G s₁ (mkF m 15 ls1 [(.int (p2 &&& (2147483647 : Int32)))])
  refine step (fun t k => XS.iconst X0.here hx rfl (hb hby at_15) k) ?_
  show G s₁ (mkF m 16 ls1 [(.int 3), (.int (p2 &&& (2147483647 : Int32)))])
  refine step (fun t k => iremM X0 hx rfl (hb hby at_16) rfl (by decide) k) ?_
  show G s₁ (mkF m 17 ls1 [(.int ((p2 &&& (2147483647 : Int32)) % (3 : Int32)))])
  obtain ⟨ls3, hls3⟩  := own_sl #[.val (.int p0), .val (.int p1), .val (.int p2), .val (.double zz), .second, .val (.int ((p2 &&& (2147483647 : Int32)) % (3 : Int32))), .unset, .unset, .unset, .unset]
  refine step (fun t k => XS.istore X0.here hx rfl (hb hby at_17) rfl (l' := ls3) (by rw [hls1, hls3]; rfl) k) ?_
  show G s₁ (mkF m 19 ls3 [])
  refine step (fun t k => XS.iload X0.here hx rfl (hb hby at_19) (by rw [hls3]; rfl) k) ?_
  show G s₁ (mkF m 21 ls3 [(.int ((p2 &&& (2147483647 : Int32)) % (3 : Int32)))])
  by_cases hc4 : ((p2 &&& (2147483647 : Int32)) % (3 : Int32)) = (0 : Int32)
  · skip
    refine step (fun t k => XS.ifNo X0.here hx rfl (hb hby at_21) rfl ((if0 _ _).trans (teq hc4).2) k) ?_
    show G s₁ (mkF m 24 ls3 [])
    obtain ⟨T5, X5, e5, st5⟩ := getS2 X0 hx hZ hown (host := "") (Or.inl (ww29 hw)) Via.refl e0 (Sta.ext O0.2 ST.k2) (g := (mkF m 24 ls3 [])) rfl (hb hby at_24)
    refine step st5 ?_
    show G T5 (mkF m 27 ls3 [(.ref w_KILOMETERS)])
    obtain ⟨ls6, hls6⟩  := own_sl #[.val (.int p0), .val (.int p1), .val (.int p2), .val (.double zz), .second, .val (.int ((p2 &&& (2147483647 : Int32)) % (3 : Int32))), .val (.ref w_KILOMETERS), .unset, .unset, .unset]
    refine step (fun t k => XS.astore X5.here hx rfl (hb hby at_27) rfl rfl (l' := ls6) (by rw [hls3, hls6]; rfl) k) ?_
    show G T5 (mkF m 29 ls6 [])
    refine step (fun t k => XS.dloadN X5.here hx rfl (hb hby at_29) (by rw [hls6]; rfl) k) ?_
    show G T5 (mkF m 30 ls6 [(.double zz)])
    have q7 := X5.ldc2DoubleC hx hown (mvT hZ (ww31 hw)) (g := (mkF m 30 ls6 [(.double zz)])) rfl (hb hby at_30)
    refine step q7 ?_
    show G T5 (mkF m 33 ls6 [(.double (4663734850496141197 : UInt64)), (.double zz)])
    refine step (fun t k => XS.ddivS X5.here hx rfl (hb hby at_33) rfl (own_dnn hvn ((FP.Core.fin_bits _).mpr (by decide)) (fun q => absurd ((FP.Core.zero_bits2 _).mp q) (by decide))) rfl k) ?_
    show G T5 (mkF m 34 ls6 [(.double (FP.ddiv zz (4663734850496141197 : UInt64)))])
    obtain ⟨ls8, hls8⟩  := own_sl #[.val (.int p0), .val (.int p1), .val (.int p2), .val (.double zz), .second, .val (.int ((p2 &&& (2147483647 : Int32)) % (3 : Int32))), .val (.ref w_KILOMETERS), .val (.double (FP.ddiv zz (4663734850496141197 : UInt64))), .second, .unset]
    refine step (fun t k => XS.dstore X5.here hx rfl (hb hby at_34) rfl (l' := ls8) (by rw [hls6, hls8]; rfl) k) ?_
    show G T5 (mkF m 36 ls8 [])
    refine step (fun t k => XS.goto X5.here hx rfl (pc0 := 36) (pc' := 68) rfl (hb hby at_36) (by decide) (by decide) k) ?_
    show G T5 (mkF m 68 ls8 [])
    obtain ⟨T9, h9, X9, e9, E9, A9, D9, -, st9⟩ := newO X5 hx hZ hown (ww4 hw) (ww5 hw) (ww6 hw) e5 (g := (mkF m 68 ls8 [])) rfl (hb hby at_68) (by decide) (by decide)
    obtain ⟨b9, g9⟩ : ∃ z, z = h0.size := ⟨_, rfl⟩
    rw [← g9] at A9 D9 st9
    have ge_b9 : n0 ≤ b9 := Nat.le_trans (own_old_le O0) (Nat.le_of_eq g9.symm)
    have O9 := O0.ext E9
    have F9_value : Fld Z h9 b9 cn_1 "value" "D" (.double (0 : UInt64)) := D9 (Or.inr (ww14 hw)) (ty := .double) (by decide)
    have F9_metric : Fld Z h9 b9 cn_1 "metric" cn_2 .null := D9 (Or.inr (ww16 hw)) (ty := (.object cn_0)) (by decide)
    refine step st9 ?_
    show G T9 (mkF m 71 ls8 [(.ref b9)])
    refine step (fun t k => XS.dup X9.here hx rfl (hb hby at_71) rfl rfl k) ?_
    show G T9 (mkF m 72 ls8 [(.ref b9), (.ref b9)])
    refine step (fun t k => XS.dloadN X9.here hx rfl (hb hby at_72) (by rw [hls8]; rfl) k) ?_
    show G T9 (mkF m 73 ls8 [(.double zz), (.ref b9), (.ref b9)])
    refine step (fun t k => XS.aload X9.here hx rfl (hb hby at_73) (by rw [hls8]; rfl) rfl k) ?_
    show G T9 (mkF m 75 ls8 [(.ref w_KILOMETERS), (.double zz), (.ref b9), (.ref b9)])
    obtain ⟨_, _, ⟨T10, L10, k10, n10⟩, -, X10, ⟨Lc10, hQ10, l10, y10, z10⟩, st10⟩ := X9.specialBack hx (y := y_0) rfl hown (mvT hZ (ww7 hw)) (mvT hZ (ww8 hw)) (mvT hZ (ww9 hw)) (by decide) (backOf (W := 1) (rm_init l Z a0 hw [] w_NEUTRAL w_KILOMETERS w_MILES b9 zz w_KILOMETERS h9 n0 (own_old_le O9) ST O9 A9 ge_b9 F9_value F9_metric) hZ (ww9 hw) (ww6 hw) (by decide) (by decide)) (g := (mkF m 75 ls8 [(.ref w_KILOMETERS), (.double zz), (.ref b9), (.ref b9)])) rfl (by rw [hml, hls8]; rfl) (Steps.refl _) (a := b9) (argsL := [(.double zz), (.ref w_KILOMETERS)]) (rest := [(.ref b9)]) (lenOf pd_1 rfl) rfl (by show 2 * 0 + _ ≤ _; exact Nat.le_of_eq rfl) (hb hby at_75) (fun _ _ => ⟨rfl, e9, (by decide : 1 + 0 ≤ _), (by decide : 2 + 0 ≤ _)⟩)
    dsimp only [Pt.U, Pt.locs, Pt.cells, Pt.slots] at X10 l10 y10 z10 st10 hQ10
    subst l10 y10 z10
    obtain ⟨rfl, N10q, K10q, Y10_0, Y10_1, Y10_2⟩ := hQ10
    have N10 := Fr.app N0 N10q
    have O10 := O9.keep K10q (allS ge_b9 all0)
    refine step (fun t k => st10.trans k) ?_
    show G T10 (mkF m 78 ls8 [(.ref b9)])
    obtain ⟨ls11, hls11⟩  := own_sl #[.val (.int p0), .val (.int p1), .val (.int p2), .val (.double zz), .second, .val (.int ((p2 &&& (2147483647 : Int32)) % (3 : Int32))), .val (.ref w_KILOMETERS), .val (.double (FP.ddiv zz (4663734850496141197 : UInt64))), .second, .val (.ref b9)]
    refine step (fun t k => XS.astore X10.here hx rfl (hb hby at_78) rfl rfl (l' := ls11) (by rw [hls8, hls11]; rfl) k) ?_
    show G T10 (mkF m 80 ls11 [])
    refine step (fun t k => XS.aload X10.here hx rfl (hb hby at_80) (by rw [hls11]; rfl) rfl k) ?_
    show G T10 (mkF m 82 ls11 [(.ref b9)])
    obtain ⟨cq12, kq12, q12a, q12b, q12c⟩ := isOf hZ rfl Y10_0
    obtain ⟨_, _, ⟨T12, L12, k12, n12⟩, -, X12, ⟨Lc12, hQ12, l12, y12, z12⟩, st12⟩ := X10.virtualBack hx (y := y_2) (z := y_2) hown (mvT hZ (ww17 hw)) (mvT hZ (ww18 hw)) (notFace_of_selects (args := #[]) (mvT hZ (ww20 hw))) (mvT hZ (ww20 hw)) (mvT hZ (ww19 hw)) (by decide) (backOf (W := 0) (rm_nor l Z a0 hw [] w_NEUTRAL w_KILOMETERS w_MILES b9 zz w_KILOMETERS (4663734850496141197 : UInt64) T10.heap n0 (own_old_le O10) ST O10 Y10_1 Y10_2 (Exa.ext O10.2 ST.k3) (Fld.ext O10.2 ST.k7) (own_dnn hvn ((FP.Core.fin_bits _).mpr (by decide)) (fun q => absurd ((FP.Core.zero_bits2 _).mp q) (by decide)))) hZ (ww21 hw) (ww6 hw) (by decide) (by decide)) q12a q12c (g := (mkF m 82 ls11 [(.ref b9)])) rfl (by rw [hml, hls11]; rfl) (Steps.refl _) (argsL := []) (rest := []) (lenOf pd_0 rfl) rfl (by show 2 * 0 + _ ≤ _; exact Nat.le_of_eq rfl) (hb hby at_82) (fun _ _ => ⟨rfl, rfl, (by decide : 1 + 0 ≤ _), (by decide : 2 + 0 ≤ _)⟩)
    dsimp only [Pt.U, Pt.locs, Pt.cells, Pt.slots] at X12 l12 y12 z12 st12 hQ12
    subst l12 y12 z12
    obtain ⟨rfl, N12q, e12⟩ := hQ12
    have N12 := Fr.app N10 N12q
    refine step (fun t k => st12.trans k) ?_
    show G T12 (mkF m 85 ls11 [(.double (f_nor w_NEUTRAL w_KILOMETERS w_MILES b9 zz w_KILOMETERS (4663734850496141197 : UInt64)))])
    have r13 : (f_nor w_NEUTRAL w_KILOMETERS w_MILES b9 zz w_KILOMETERS (4663734850496141197 : UInt64)) = (FP.ddiv zz (4663734850496141197 : UInt64)) := rfl
    rw [r13]
    show G T12 (mkF m 85 ls11 [(.double (FP.ddiv zz (4663734850496141197 : UInt64)))])
    refine step (fun t k => XS.dload X12.here hx rfl (hb hby at_85) (by rw [hls11]; rfl) k) ?_
    show G T12 (mkF m 87 ls11 [(.double (FP.ddiv zz (4663734850496141197 : UInt64))), (.double (FP.ddiv zz (4663734850496141197 : UInt64)))])
    refine step (fun t k => XS.dcmpS X12.here hx rfl (hb hby at_87) rfl (v := (0 : Int32)) (dcmpV_eq rfl (own_dnn hvn ((FP.Core.fin_bits _).mpr (by decide)) (fun q => absurd ((FP.Core.zero_bits2 _).mp q) (by decide))) .l) k) ?_
    show G T12 (mkF m 88 ls11 [(.int 0)])
    refine step (fun t k => XS.ifNo X12.here hx rfl (hb hby at_88) rfl ((if0 _ _).trans (teq (by decide : (0 : Int32) = (0 : Int32))).2) k) ?_
    show G T12 (mkF m 91 ls11 [])
    refine step (fun t k => XS.iconst X12.here hx rfl (hb hby at_91) k) ?_
    show G T12 (mkF m 92 ls11 [(.int 1)])
    refine step (fun t k => XS.goto X12.here hx rfl (pc0 := 92) (pc' := 96) rfl (hb hby at_92) (by decide) (by decide) k) ?_
    show G T12 (mkF m 96 ls11 [(.int 1)])
    exact ret (v := some (.int 1)) X12 (fun h => by rw [Bd.returns] at h; cases h) (fun fs hr => retN X12 hx (t := .boolean) Bd.returns (by simp) (hb hby at_96) hr) e12 ⟨rfl, N12⟩ (by decide) (by decide)
  · skip
    refine step (fun t k => XS.ifYes X0.here hx rfl (pc0 := 21) (pc' := 39) rfl (hb hby at_21) rfl ((if0 _ _).trans (feq hc4).2) (by decide) (by decide) k) ?_
    show G s₁ (mkF m 39 ls3 [])
    refine step (fun t k => XS.iload X0.here hx rfl (hb hby at_39) (by rw [hls3]; rfl) k) ?_
    show G s₁ (mkF m 41 ls3 [(.int ((p2 &&& (2147483647 : Int32)) % (3 : Int32)))])
    refine step (fun t k => XS.iconst X0.here hx rfl (hb hby at_41) k) ?_
    show G s₁ (mkF m 42 ls3 [(.int 1), (.int ((p2 &&& (2147483647 : Int32)) % (3 : Int32)))])
    by_cases hc14 : ((p2 &&& (2147483647 : Int32)) % (3 : Int32)) = (1 : Int32)
    · skip
      refine step (fun t k => XS.icmpNo X0.here hx rfl (hb hby at_42) rfl (teq hc14).2 k) ?_
      show G s₁ (mkF m 45 ls3 [])
      obtain ⟨T15, X15, e15, st15⟩ := getS2 X0 hx hZ hown (host := "") (Or.inl (ww32 hw)) Via.refl e0 (Sta.ext O0.2 ST.k4) (g := (mkF m 45 ls3 [])) rfl (hb hby at_45)
      refine step st15 ?_
      show G T15 (mkF m 48 ls3 [(.ref w_MILES)])
      obtain ⟨ls16, hls16⟩  := own_sl #[.val (.int p0), .val (.int p1), .val (.int p2), .val (.double zz), .second, .val (.int ((p2 &&& (2147483647 : Int32)) % (3 : Int32))), .val (.ref w_MILES), .unset, .unset, .unset]
      refine step (fun t k => XS.astore X15.here hx rfl (hb hby at_48) rfl rfl (l' := ls16) (by rw [hls3, hls16]; rfl) k) ?_
      show G T15 (mkF m 50 ls16 [])
      refine step (fun t k => XS.dloadN X15.here hx rfl (hb hby at_50) (by rw [hls16]; rfl) k) ?_
      show G T15 (mkF m 51 ls16 [(.double zz)])
      have q17 := X15.ldc2DoubleC hx hown (mvT hZ (ww34 hw)) (g := (mkF m 51 ls16 [(.double zz)])) rfl (hb hby at_51)
      refine step q17 ?_
      show G T15 (mkF m 54 ls16 [(.double (4660933564248916754 : UInt64)), (.double zz)])
      refine step (fun t k => XS.ddivS X15.here hx rfl (hb hby at_54) rfl (own_dnn hvn ((FP.Core.fin_bits _).mpr (by decide)) (fun q => absurd ((FP.Core.zero_bits2 _).mp q) (by decide))) rfl k) ?_
      show G T15 (mkF m 55 ls16 [(.double (FP.ddiv zz (4660933564248916754 : UInt64)))])
      obtain ⟨ls18, hls18⟩  := own_sl #[.val (.int p0), .val (.int p1), .val (.int p2), .val (.double zz), .second, .val (.int ((p2 &&& (2147483647 : Int32)) % (3 : Int32))), .val (.ref w_MILES), .val (.double (FP.ddiv zz (4660933564248916754 : UInt64))), .second, .unset]
      refine step (fun t k => XS.dstore X15.here hx rfl (hb hby at_55) rfl (l' := ls18) (by rw [hls16, hls18]; rfl) k) ?_
      show G T15 (mkF m 57 ls18 [])
      refine step (fun t k => XS.goto X15.here hx rfl (pc0 := 57) (pc' := 68) rfl (hb hby at_57) (by decide) (by decide) k) ?_
      show G T15 (mkF m 68 ls18 [])
      obtain ⟨T19, h19, X19, e19, E19, A19, D19, -, st19⟩ := newO X15 hx hZ hown (ww4 hw) (ww5 hw) (ww6 hw) e15 (g := (mkF m 68 ls18 [])) rfl (hb hby at_68) (by decide) (by decide)
      obtain ⟨b19, g19⟩ : ∃ z, z = h0.size := ⟨_, rfl⟩
      rw [← g19] at A19 D19 st19
      have ge_b19 : n0 ≤ b19 := Nat.le_trans (own_old_le O0) (Nat.le_of_eq g19.symm)
      have O19 := O0.ext E19
      have F19_value : Fld Z h19 b19 cn_1 "value" "D" (.double (0 : UInt64)) := D19 (Or.inr (ww14 hw)) (ty := .double) (by decide)
      have F19_metric : Fld Z h19 b19 cn_1 "metric" cn_2 .null := D19 (Or.inr (ww16 hw)) (ty := (.object cn_0)) (by decide)
      refine step st19 ?_
      show G T19 (mkF m 71 ls18 [(.ref b19)])
      refine step (fun t k => XS.dup X19.here hx rfl (hb hby at_71) rfl rfl k) ?_
      show G T19 (mkF m 72 ls18 [(.ref b19), (.ref b19)])
      refine step (fun t k => XS.dloadN X19.here hx rfl (hb hby at_72) (by rw [hls18]; rfl) k) ?_
      show G T19 (mkF m 73 ls18 [(.double zz), (.ref b19), (.ref b19)])
      refine step (fun t k => XS.aload X19.here hx rfl (hb hby at_73) (by rw [hls18]; rfl) rfl k) ?_
      show G T19 (mkF m 75 ls18 [(.ref w_MILES), (.double zz), (.ref b19), (.ref b19)])
      obtain ⟨_, _, ⟨T20, L20, k20, n20⟩, -, X20, ⟨Lc20, hQ20, l20, y20, z20⟩, st20⟩ := X19.specialBack hx (y := y_0) rfl hown (mvT hZ (ww7 hw)) (mvT hZ (ww8 hw)) (mvT hZ (ww9 hw)) (by decide) (backOf (W := 1) (rm_init l Z a0 hw [] w_NEUTRAL w_KILOMETERS w_MILES b19 zz w_MILES h19 n0 (own_old_le O19) ST O19 A19 ge_b19 F19_value F19_metric) hZ (ww9 hw) (ww6 hw) (by decide) (by decide)) (g := (mkF m 75 ls18 [(.ref w_MILES), (.double zz), (.ref b19), (.ref b19)])) rfl (by rw [hml, hls18]; rfl) (Steps.refl _) (a := b19) (argsL := [(.double zz), (.ref w_MILES)]) (rest := [(.ref b19)]) (lenOf pd_1 rfl) rfl (by show 2 * 0 + _ ≤ _; exact Nat.le_of_eq rfl) (hb hby at_75) (fun _ _ => ⟨rfl, e19, (by decide : 1 + 0 ≤ _), (by decide : 2 + 0 ≤ _)⟩)
      dsimp only [Pt.U, Pt.locs, Pt.cells, Pt.slots] at X20 l20 y20 z20 st20 hQ20
      subst l20 y20 z20
      obtain ⟨rfl, N20q, K20q, Y20_0, Y20_1, Y20_2⟩ := hQ20
      have N20 := Fr.app N0 N20q
      have O20 := O19.keep K20q (allS ge_b19 all0)
      refine step (fun t k => st20.trans k) ?_
      show G T20 (mkF m 78 ls18 [(.ref b19)])
      obtain ⟨ls21, hls21⟩  := own_sl #[.val (.int p0), .val (.int p1), .val (.int p2), .val (.double zz), .second, .val (.int ((p2 &&& (2147483647 : Int32)) % (3 : Int32))), .val (.ref w_MILES), .val (.double (FP.ddiv zz (4660933564248916754 : UInt64))), .second, .val (.ref b19)]
      refine step (fun t k => XS.astore X20.here hx rfl (hb hby at_78) rfl rfl (l' := ls21) (by rw [hls18, hls21]; rfl) k) ?_
      show G T20 (mkF m 80 ls21 [])
      refine step (fun t k => XS.aload X20.here hx rfl (hb hby at_80) (by rw [hls21]; rfl) rfl k) ?_
      show G T20 (mkF m 82 ls21 [(.ref b19)])
      obtain ⟨cq22, kq22, q22a, q22b, q22c⟩ := isOf hZ rfl Y20_0
      obtain ⟨_, _, ⟨T22, L22, k22, n22⟩, -, X22, ⟨Lc22, hQ22, l22, y22, z22⟩, st22⟩ := X20.virtualBack hx (y := y_2) (z := y_2) hown (mvT hZ (ww17 hw)) (mvT hZ (ww18 hw)) (notFace_of_selects (args := #[]) (mvT hZ (ww20 hw))) (mvT hZ (ww20 hw)) (mvT hZ (ww19 hw)) (by decide) (backOf (W := 0) (rm_nor l Z a0 hw [] w_NEUTRAL w_KILOMETERS w_MILES b19 zz w_MILES (4660933564248916754 : UInt64) T20.heap n0 (own_old_le O20) ST O20 Y20_1 Y20_2 (Exa.ext O20.2 ST.k5) (Fld.ext O20.2 ST.k8) (own_dnn hvn ((FP.Core.fin_bits _).mpr (by decide)) (fun q => absurd ((FP.Core.zero_bits2 _).mp q) (by decide)))) hZ (ww21 hw) (ww6 hw) (by decide) (by decide)) q22a q22c (g := (mkF m 82 ls21 [(.ref b19)])) rfl (by rw [hml, hls21]; rfl) (Steps.refl _) (argsL := []) (rest := []) (lenOf pd_0 rfl) rfl (by show 2 * 0 + _ ≤ _; exact Nat.le_of_eq rfl) (hb hby at_82) (fun _ _ => ⟨rfl, rfl, (by decide : 1 + 0 ≤ _), (by decide : 2 + 0 ≤ _)⟩)
      dsimp only [Pt.U, Pt.locs, Pt.cells, Pt.slots] at X22 l22 y22 z22 st22 hQ22
      subst l22 y22 z22
      obtain ⟨rfl, N22q, e22⟩ := hQ22
      have N22 := Fr.app N20 N22q
      refine step (fun t k => st22.trans k) ?_
      show G T22 (mkF m 85 ls21 [(.double (f_nor w_NEUTRAL w_KILOMETERS w_MILES b19 zz w_MILES (4660933564248916754 : UInt64)))])
      have r23 : (f_nor w_NEUTRAL w_KILOMETERS w_MILES b19 zz w_MILES (4660933564248916754 : UInt64)) = (FP.ddiv zz (4660933564248916754 : UInt64)) := rfl
      rw [r23]
      show G T22 (mkF m 85 ls21 [(.double (FP.ddiv zz (4660933564248916754 : UInt64)))])
      refine step (fun t k => XS.dload X22.here hx rfl (hb hby at_85) (by rw [hls21]; rfl) k) ?_
      show G T22 (mkF m 87 ls21 [(.double (FP.ddiv zz (4660933564248916754 : UInt64))), (.double (FP.ddiv zz (4660933564248916754 : UInt64)))])
      refine step (fun t k => XS.dcmpS X22.here hx rfl (hb hby at_87) rfl (v := (0 : Int32)) (dcmpV_eq rfl (own_dnn hvn ((FP.Core.fin_bits _).mpr (by decide)) (fun q => absurd ((FP.Core.zero_bits2 _).mp q) (by decide))) .l) k) ?_
      show G T22 (mkF m 88 ls21 [(.int 0)])
      refine step (fun t k => XS.ifNo X22.here hx rfl (hb hby at_88) rfl ((if0 _ _).trans (teq (by decide : (0 : Int32) = (0 : Int32))).2) k) ?_
      show G T22 (mkF m 91 ls21 [])
      refine step (fun t k => XS.iconst X22.here hx rfl (hb hby at_91) k) ?_
      show G T22 (mkF m 92 ls21 [(.int 1)])
      refine step (fun t k => XS.goto X22.here hx rfl (pc0 := 92) (pc' := 96) rfl (hb hby at_92) (by decide) (by decide) k) ?_
      show G T22 (mkF m 96 ls21 [(.int 1)])
      exact ret (v := some (.int 1)) X22 (fun h => by rw [Bd.returns] at h; cases h) (fun fs hr => retN X22 hx (t := .boolean) Bd.returns (by simp) (hb hby at_96) hr) e22 ⟨rfl, N22⟩ (by decide) (by decide)
    · skip
      refine step (fun t k => XS.icmpYes X0.here hx rfl (pc0 := 42) (pc' := 60) rfl (hb hby at_42) rfl (feq hc14).2 (by decide) (by decide) k) ?_
      show G s₁ (mkF m 60 ls3 [])
      obtain ⟨T24, X24, e24, st24⟩ := getS2 X0 hx hZ hown (host := "") (Or.inl (ww1 hw)) Via.refl e0 (Sta.ext O0.2 ST.k0) (g := (mkF m 60 ls3 [])) rfl (hb hby at_60)
      refine step st24 ?_
      show G T24 (mkF m 63 ls3 [(.ref w_NEUTRAL)])
      obtain ⟨ls25, hls25⟩  := own_sl #[.val (.int p0), .val (.int p1), .val (.int p2), .val (.double zz), .second, .val (.int ((p2 &&& (2147483647 : Int32)) % (3 : Int32))), .val (.ref w_NEUTRAL), .unset, .unset, .unset]
      refine step (fun t k => XS.astore X24.here hx rfl (hb hby at_63) rfl rfl (l' := ls25) (by rw [hls3, hls25]; rfl) k) ?_
      show G T24 (mkF m 65 ls25 [])
      refine step (fun t k => XS.dloadN X24.here hx rfl (hb hby at_65) (by rw [hls25]; rfl) k) ?_
      show G T24 (mkF m 66 ls25 [(.double zz)])
      obtain ⟨ls26, hls26⟩  := own_sl #[.val (.int p0), .val (.int p1), .val (.int p2), .val (.double zz), .second, .val (.int ((p2 &&& (2147483647 : Int32)) % (3 : Int32))), .val (.ref w_NEUTRAL), .val (.double zz), .second, .unset]
      refine step (fun t k => XS.dstore X24.here hx rfl (hb hby at_66) rfl (l' := ls26) (by rw [hls25, hls26]; rfl) k) ?_
      show G T24 (mkF m 68 ls26 [])
      obtain ⟨T27, h27, X27, e27, E27, A27, D27, -, st27⟩ := newO X24 hx hZ hown (ww4 hw) (ww5 hw) (ww6 hw) e24 (g := (mkF m 68 ls26 [])) rfl (hb hby at_68) (by decide) (by decide)
      obtain ⟨b27, g27⟩ : ∃ z, z = h0.size := ⟨_, rfl⟩
      rw [← g27] at A27 D27 st27
      have ge_b27 : n0 ≤ b27 := Nat.le_trans (own_old_le O0) (Nat.le_of_eq g27.symm)
      have O27 := O0.ext E27
      have F27_value : Fld Z h27 b27 cn_1 "value" "D" (.double (0 : UInt64)) := D27 (Or.inr (ww14 hw)) (ty := .double) (by decide)
      have F27_metric : Fld Z h27 b27 cn_1 "metric" cn_2 .null := D27 (Or.inr (ww16 hw)) (ty := (.object cn_0)) (by decide)
      refine step st27 ?_
      show G T27 (mkF m 71 ls26 [(.ref b27)])
      refine step (fun t k => XS.dup X27.here hx rfl (hb hby at_71) rfl rfl k) ?_
      show G T27 (mkF m 72 ls26 [(.ref b27), (.ref b27)])
      refine step (fun t k => XS.dloadN X27.here hx rfl (hb hby at_72) (by rw [hls26]; rfl) k) ?_
      show G T27 (mkF m 73 ls26 [(.double zz), (.ref b27), (.ref b27)])
      refine step (fun t k => XS.aload X27.here hx rfl (hb hby at_73) (by rw [hls26]; rfl) rfl k) ?_
      show G T27 (mkF m 75 ls26 [(.ref w_NEUTRAL), (.double zz), (.ref b27), (.ref b27)])
      obtain ⟨_, _, ⟨T28, L28, k28, n28⟩, -, X28, ⟨Lc28, hQ28, l28, y28, z28⟩, st28⟩ := X27.specialBack hx (y := y_0) rfl hown (mvT hZ (ww7 hw)) (mvT hZ (ww8 hw)) (mvT hZ (ww9 hw)) (by decide) (backOf (W := 1) (rm_init l Z a0 hw [] w_NEUTRAL w_KILOMETERS w_MILES b27 zz w_NEUTRAL h27 n0 (own_old_le O27) ST O27 A27 ge_b27 F27_value F27_metric) hZ (ww9 hw) (ww6 hw) (by decide) (by decide)) (g := (mkF m 75 ls26 [(.ref w_NEUTRAL), (.double zz), (.ref b27), (.ref b27)])) rfl (by rw [hml, hls26]; rfl) (Steps.refl _) (a := b27) (argsL := [(.double zz), (.ref w_NEUTRAL)]) (rest := [(.ref b27)]) (lenOf pd_1 rfl) rfl (by show 2 * 0 + _ ≤ _; exact Nat.le_of_eq rfl) (hb hby at_75) (fun _ _ => ⟨rfl, e27, (by decide : 1 + 0 ≤ _), (by decide : 2 + 0 ≤ _)⟩)
      dsimp only [Pt.U, Pt.locs, Pt.cells, Pt.slots] at X28 l28 y28 z28 st28 hQ28
      subst l28 y28 z28
      obtain ⟨rfl, N28q, K28q, Y28_0, Y28_1, Y28_2⟩ := hQ28
      have N28 := Fr.app N0 N28q
      have O28 := O27.keep K28q (allS ge_b27 all0)
      refine step (fun t k => st28.trans k) ?_
      show G T28 (mkF m 78 ls26 [(.ref b27)])
      obtain ⟨ls29, hls29⟩  := own_sl #[.val (.int p0), .val (.int p1), .val (.int p2), .val (.double zz), .second, .val (.int ((p2 &&& (2147483647 : Int32)) % (3 : Int32))), .val (.ref w_NEUTRAL), .val (.double zz), .second, .val (.ref b27)]
      refine step (fun t k => XS.astore X28.here hx rfl (hb hby at_78) rfl rfl (l' := ls29) (by rw [hls26, hls29]; rfl) k) ?_
      show G T28 (mkF m 80 ls29 [])
      refine step (fun t k => XS.aload X28.here hx rfl (hb hby at_80) (by rw [hls29]; rfl) rfl k) ?_
      show G T28 (mkF m 82 ls29 [(.ref b27)])
      obtain ⟨cq30, kq30, q30a, q30b, q30c⟩ := isOf hZ rfl Y28_0
      obtain ⟨_, _, ⟨T30, L30, k30, n30⟩, -, X30, ⟨Lc30, hQ30, l30, y30, z30⟩, st30⟩ := X28.virtualBack hx (y := y_2) (z := y_2) hown (mvT hZ (ww17 hw)) (mvT hZ (ww18 hw)) (notFace_of_selects (args := #[]) (mvT hZ (ww20 hw))) (mvT hZ (ww20 hw)) (mvT hZ (ww19 hw)) (by decide) (backOf (W := 0) (rm_nor l Z a0 hw [] w_NEUTRAL w_KILOMETERS w_MILES b27 zz w_NEUTRAL (4607182418800017408 : UInt64) T28.heap n0 (own_old_le O28) ST O28 Y28_1 Y28_2 (Exa.ext O28.2 ST.k1) (Fld.ext O28.2 ST.k6) (own_dnn hvn ((FP.Core.fin_bits _).mpr (by decide)) (fun q => absurd ((FP.Core.zero_bits2 _).mp q) (by decide)))) hZ (ww21 hw) (ww6 hw) (by decide) (by decide)) q30a q30c (g := (mkF m 82 ls29 [(.ref b27)])) rfl (by rw [hml, hls29]; rfl) (Steps.refl _) (argsL := []) (rest := []) (lenOf pd_0 rfl) rfl (by show 2 * 0 + _ ≤ _; exact Nat.le_of_eq rfl) (hb hby at_82) (fun _ _ => ⟨rfl, rfl, (by decide : 1 + 0 ≤ _), (by decide : 2 + 0 ≤ _)⟩)
      dsimp only [Pt.U, Pt.locs, Pt.cells, Pt.slots] at X30 l30 y30 z30 st30 hQ30
      subst l30 y30 z30
      obtain ⟨rfl, N30q, e30⟩ := hQ30
      have N30 := Fr.app N28 N30q
      refine step (fun t k => st30.trans k) ?_
      show G T30 (mkF m 85 ls29 [(.double (f_nor w_NEUTRAL w_KILOMETERS w_MILES b27 zz w_NEUTRAL (4607182418800017408 : UInt64)))])
      have r31 : (f_nor w_NEUTRAL w_KILOMETERS w_MILES b27 zz w_NEUTRAL (4607182418800017408 : UInt64)) = (FP.ddiv zz (4607182418800017408 : UInt64)) := rfl
      rw [r31]
      show G T30 (mkF m 85 ls29 [(.double (FP.ddiv zz (4607182418800017408 : UInt64)))])
      refine step (fun t k => XS.dload X30.here hx rfl (hb hby at_85) (by rw [hls29]; rfl) k) ?_
      show G T30 (mkF m 87 ls29 [(.double zz), (.double (FP.ddiv zz (4607182418800017408 : UInt64)))])
      refine step (fun t k => XS.dcmpS X30.here hx rfl (hb hby at_87) rfl (v := (0 : Int32)) (dcmpV_eq (show FP.ddiv zz (4607182418800017408 : UInt64) = zz from FP.Core.ddiv_one (Jvm.Free.Fl.val64_no.mp hvn)) (own_dnn hvn ((FP.Core.fin_bits _).mpr (by decide)) (fun q => absurd ((FP.Core.zero_bits2 _).mp q) (by decide))) .l) k) ?_
      show G T30 (mkF m 88 ls29 [(.int 0)])
      refine step (fun t k => XS.ifNo X30.here hx rfl (hb hby at_88) rfl ((if0 _ _).trans (teq (by decide : (0 : Int32) = (0 : Int32))).2) k) ?_
      show G T30 (mkF m 91 ls29 [])
      refine step (fun t k => XS.iconst X30.here hx rfl (hb hby at_91) k) ?_
      show G T30 (mkF m 92 ls29 [(.int 1)])
      refine step (fun t k => XS.goto X30.here hx rfl (pc0 := 92) (pc' := 96) rfl (hb hby at_92) (by decide) (by decide) k) ?_
      show G T30 (mkF m 96 ls29 [(.int 1)])
      exact ret (v := some (.int 1)) X30 (fun h => by rw [Bd.returns] at h; cases h) (fun fs hr => retN X30 hx (t := .boolean) Bd.returns (by simp) (hb hby at_96) hr) e30 ⟨rfl, N30⟩ (by decide) (by decide)
set_option maxRecDepth 65536 in
set_option maxHeartbeats 40000000 in
theorem comes_1 {Post : Tables → Env → Array Value → State → Outcome → State → Prop} (hpost : ∀ tb e args s v u, (limb_1_1.after args s (.returned v) u = true ∧ limb_1_2.after args s (.returned v) u = true ∧ True) → FrameEnd s (.returned v) u (Jvm.fieldLocs frame_1_writes args s ++ Jvm.arrayLocs frame_1_arrays args s ++ Jvm.staticLocs frame_1_statics s) 16 128 → Post tb e args s (.returned v) u) :
    ArmFor flags0 classFile x code maxLocals ret World_1 tables_1 room_1 Calls_1 rest_1 Pre_1 Post := by
  intro l hfl _ _ p e ha hc hk s m args below hf hA hF happ hP
  obtain ⟨hcalls, hrest, hpre⟩ := hP
  obtain ⟨-, -, -, hnamed, -, -, -, hat⟩ := (Spec.applies_iff hf).mp happ
  obtain ⟨hg, hn⟩ := and_e (Cond.before_iff.mp (show (Jvm.Cond.and given_1 narrow_1).before args s = true from hpre))
  obtain ⟨g1a, g1b⟩ := and_e hg
  obtain ⟨g2a, g2b⟩ := and_e g1b
  obtain ⟨g3a, g3b⟩ := and_e g2b
  obtain ⟨w0, w1, w2, rfl⟩ : ∃ w0 w1 w2 : Value, args = #[w0, w1, w2] := by
    have hs : args.size = 3 := by simpa [Cond.value, given_1] using g1a
    obtain ⟨L⟩ := args
    match L, hs with
    | [w0, w1, w2], _ => exact ⟨w0, w1, w2, rfl⟩
  have hw := fun d (hd : d ∈ tables_1) => atoms_spec (ws := Jvm.Cond.code x code maxLocals ret :: tables_1) hat d (List.mem_cons_of_mem _ hd)
  have hfit : Fit s := fun {y c} hc i hi => by
    obtain ⟨ha, rfl⟩ := Array.getElem?_eq_some_iff.mp hc
    have q := List.all_eq_true.mp ((Array.all_eq_true_iff_forall_mem.mp hF) _ (Array.getElem_mem ha)) i (List.mem_range.mpr hi)
    simpa [Array.getElem?_eq_getElem hi] using q
  obtain ⟨i0, ei0⟩ := is_v g2a
  obtain rfl : w0 = (.int i0) := Option.some.inj ei0
  obtain ⟨i1, ei1⟩ := is_v g3a
  obtain rfl : w1 = (.int i1) := Option.some.inj ei1
  obtain ⟨i2, ei2⟩ := is_v g3b
  obtain rfl : w2 = (.int i2) := Option.some.inj ei2
  obtain ⟨k1a, k1b⟩ := and_e hn
  obtain ⟨k2a, k2b⟩ := and_e k1b
  obtain ⟨k3a, k3b⟩ := and_e k2b
  obtain ⟨k4a, k4b⟩ := and_e k3b
  obtain ⟨k5a, k5b⟩ := and_e k4b
  obtain ⟨w_NEUTRAL, ev_NEUTRAL⟩ := exa_v k1a
  obtain ⟨w_KILOMETERS, ev_KILOMETERS⟩ := exa_v k3a
  obtain ⟨w_MILES, ev_MILES⟩ := exa_v k5a
  obtain ⟨n, o, h1, h2, h3, _, L, rfl, ⟨rfl, N⟩, hq⟩ := rm_law l s _ hw tables_1 w_NEUTRAL w_KILOMETERS w_MILES i0 i1 i2 s.heap s.heap.size (Nat.le_refl _) ⟨Sta.start ev_NEUTRAL (Or.inr ⟨(ww2 hw), (ww3 hw)⟩), Exa.start ev_NEUTRAL k1a, Sta.start ev_KILOMETERS (Or.inr ⟨(ww2 hw), (ww30 hw)⟩), Exa.start ev_KILOMETERS k3a, Sta.start ev_MILES (Or.inr ⟨(ww2 hw), (ww33 hw)⟩), Exa.start ev_MILES k5a, own_fldD (by decide) ev_NEUTRAL k2a, own_fldD (by decide) ev_KILOMETERS k4a, own_fldD (by decide) ev_MILES k5b⟩ (Old.start s)  p e ha hc hk s m _ below hf ((Spec.applies_iff_loose hf).mp happ).1 ⟨rfl, State.Warmed39.refl s, rfl⟩ trivial
  refine ⟨n, _, h1, h2, h3, hpost _ _ _ _ _ _ ⟨Cond.after_iff.mpr rfl, Cond.after_iff.mpr (eq_i res_at (Term.int_eval (1)) rfl), trivial⟩ ⟨hq.1, hq.2.1, (hq.2.2.sift fun y hy => Or.inr (N y hy)).mono (by decide) (by decide)⟩⟩
theorem main_1_1 : Claimed_1_1 := comes_1 fun _ _ _ _ _ _ h hF => ⟨h.1, hF⟩
theorem main_1_2 : Claimed_1_2 := comes_1 fun _ _ _ _ _ _ h hF => ⟨h.2.1, hF⟩
end Jvm.Pilot.@@N@@
namespace Jvm.Pilot.@@N@@
open Jvm Jvm.ClassFile Sem Op Lib Jvm.Free Jvm.Stand Jvm.Pilot.@@N@@.Jvm.D
/-! MADE BY PROGRAM (witnessworld.py) out of the Statement's table words and the real class files: 13 classes; the members and pool entries that the words name. The judged class is class 1, her method 1. -/
namespace start1
open Jvm.ClassFile
def u (s : String) : CpInfo := .utf8 (stringToUtf16 s)
/-- a pool by its gaps: so many unusable entries, then the entry; so many at the end -/
def gap : Nat → List CpInfo → List CpInfo
  | 0, r => r
  | n + 1, r => .unusable :: gap n r
def poolList (es : List (Nat × CpInfo)) (last : Nat) : List CpInfo := es.foldr (fun e r => gap e.1 (e.2 :: r)) (gap last [])
def pool (es : List (Nat × CpInfo)) (last : Nat) : Array CpInfo := ⟨poolList es last⟩
def fileOf (pool : Array CpInfo) (this : Nat) (attrs : Array Attribute := #[]) (ms : Array MethodInfo := #[]) (fl : Nat := 33) (sup : Nat := 0) (ifs : Array Nat := #[]) (fds : Array FieldInfo := #[]) : ClassFile where
  minorVersion := 0
  majorVersion := 65
  constantPool := pool
  accessFlags := fl
  thisClass := this
  superClass := sup
  interfaces := ifs
  fields := fds
  methods := ms
  attributes := attrs
def plain (name : String) (sup : Option ClassId) : Class where
  name := name
  kind := .ordinary
  loader := none
  accessFlags := 33
  super := sup
  interfaces := #[]
  cf := none
  fields := #[]
  methods := #[]
  instanceTypes := #[]
  staticTypes := #[]
  resolved := #[]
  callSites := []
  init := .initialized
  statics := none
  mirror := none

def pool0 : Array CpInfo := pool [(5, u "<init>"), (0, u "()V"), (1, .class_ 10), (1, u "java/lang/Object")] 113

def k0c0 : Code := { maxStack := 0, maxLocals := 1, code := object_method_1_code, exceptionTable := #[], attributes := #[] }
def k0m0 : Method := { name := "<init>", desc := "()V", sig := { parameters := [], returnType := none }, accessFlags := 1, code := some k0c0 }
/-- java/lang/Object -/
def k0 : Class := { plain "java/lang/Object" none with
  accessFlags := 33
  interfaces := #[]
  cf := some (fileOf pool0 8 #[] #[{ accessFlags := 1, nameIndex := 5, descriptorIndex := 6, attributes := #[] }] 33 0 #[] #[])
  fields := #[]
  methods := #[k0m0]
  instanceTypes := #[]
  staticTypes := #[]
  resolved := Array.replicate 124 none
  statics := none }

def pool1 : Array CpInfo := pool [(2, .class_ 4), (1, u "java/lang/Object"), (0, u "<init>"), (0, u "()V"), (0, .integer 2147483647), (0, .fieldref 9 10), (0, .class_ 11), (0, .nameAndType 12 13), (0, u "com/example/imbakan/imbakan/geo/Metrics"), (0, u "KILOMETERS"), (0, u "Lcom/example/imbakan/imbakan/geo/Metrics;"), (0, .double 4663734850496141197), (1, .fieldref 9 17), (0, .nameAndType 18 13), (0, u "MILES"), (0, .double 4660933564248916754), (1, .fieldref 9 22), (0, .nameAndType 23 13), (0, u "NEUTRAL"), (0, .class_ 25), (0, u "com/example/imbakan/imbakan/geo/Distance"), (0, .methodref 24 27), (0, .nameAndType 5 28), (0, u "(DLcom/example/imbakan/imbakan/geo/Metrics;)V"), (0, .methodref 24 30), (0, .nameAndType 31 32), (0, u "getNormalizedValue"), (0, u "()D"), (0, .class_ 34), (0, u "com/example/imbakan/imbakan/geo/DistanceGetNormalizedValuePinLaw"), (2, u "law"), (0, u "(III)Z")] 3

def k1m0 : Method := { name := "<init>", desc := "()V", sig := { parameters := [], returnType := none }, accessFlags := 1, code := none }
def k1c1 : Code := { maxStack := 5, maxLocals := 10, code := code, exceptionTable := #[], attributes := #[] }
def k1m1 : Method := { name := "law", desc := "(III)Z", sig := { parameters := [.int, .int, .int], returnType := some .boolean }, accessFlags := 9, code := some k1c1 }
/-- com/example/imbakan/imbakan/geo/DistanceGetNormalizedValuePinLaw -/
def k1 : Class := { plain "com/example/imbakan/imbakan/geo/DistanceGetNormalizedValuePinLaw" (some 0) with
  accessFlags := 49
  interfaces := #[]
  cf := some (fileOf pool1 33 #[] #[{ accessFlags := 1, nameIndex := 5, descriptorIndex := 6, attributes := #[] }, { accessFlags := 9, nameIndex := 37, descriptorIndex := 38, attributes := #[] }] 49 2 #[] #[])
  fields := #[]
  methods := #[k1m0, k1m1]
  instanceTypes := #[]
  staticTypes := #[]
  resolved := Array.replicate 42 none
  statics := none }

def pool2 : Array CpInfo := pool [(1, .class_ 2), (0, u "java/lang/constant/Constable"), (0, .class_ 4), (0, u "java/lang/Object")] 6

/-- java/lang/constant/Constable -/
def k2 : Class := { plain "java/lang/constant/Constable" (some 0) with
  accessFlags := 1537
  interfaces := #[]
  cf := some (fileOf pool2 1 #[] #[] 1537 3 #[] #[])
  fields := #[]
  methods := #[]
  instanceTypes := #[]
  staticTypes := #[]
  resolved := Array.replicate 11 none
  statics := none }

def pool3 : Array CpInfo := pool [(1, .class_ 2), (0, u "java/lang/Comparable"), (0, .class_ 4), (0, u "java/lang/Object")] 7

/-- java/lang/Comparable -/
def k3 : Class := { plain "java/lang/Comparable" (some 0) with
  accessFlags := 1537
  interfaces := #[]
  cf := some (fileOf pool3 1 #[] #[] 1537 3 #[] #[])
  fields := #[]
  methods := #[]
  instanceTypes := #[]
  staticTypes := #[]
  resolved := Array.replicate 12 none
  statics := none }

def pool4 : Array CpInfo := pool [(1, .class_ 2), (0, u "java/io/Serializable"), (0, .class_ 4), (0, u "java/lang/Object")] 2

/-- java/io/Serializable -/
def k4 : Class := { plain "java/io/Serializable" (some 0) with
  accessFlags := 1537
  interfaces := #[]
  cf := some (fileOf pool4 1 #[] #[] 1537 3 #[] #[])
  fields := #[]
  methods := #[]
  instanceTypes := #[]
  staticTypes := #[]
  resolved := Array.replicate 7 none
  statics := none }

def pool5 : Array CpInfo := pool [(2, .class_ 4), (1, u "java/lang/Enum"), (0, u "name"), (0, u "Ljava/lang/String;"), (2, u "ordinal"), (0, u "I"), (1, .class_ 14), (1, u "java/lang/Object"), (4, u "hash"), (86, .class_ 108), (1, u "java/lang/Enum$EnumDesc"), (2, .class_ 112), (0, u "java/lang/constant/Constable"), (0, .class_ 114), (0, u "java/lang/Comparable"), (0, .class_ 116), (0, u "java/io/Serializable")] 87

/-- java/lang/Enum -/
def k5 : Class := { plain "java/lang/Enum" (some 0) with
  accessFlags := 1057
  interfaces := #[2, 3, 4]
  cf := some (fileOf pool5 2 #[.nestMembers #[106]] #[] 1057 12 #[111, 113, 115] #[{ accessFlags := 18, nameIndex := 5, descriptorIndex := 6, attributes := #[] }, { accessFlags := 18, nameIndex := 9, descriptorIndex := 10, attributes := #[] }, { accessFlags := 2, nameIndex := 19, descriptorIndex := 10, attributes := #[] }])
  fields := #[{ name := "name", type := (.object "java/lang/String"), accessFlags := 18, slot := 0, constantValue := 0 }, { name := "ordinal", type := .int, accessFlags := 18, slot := 1, constantValue := 0 }, { name := "hash", type := .int, accessFlags := 2, slot := 2, constantValue := 0 }]
  methods := #[]
  instanceTypes := #[(.object "java/lang/String"), .int, .int]
  staticTypes := #[]
  resolved := Array.replicate 204 none
  statics := none }

def pool6 : Array CpInfo := pool [(1, .class_ 2), (0, u "com/example/imbakan/imbakan/geo/Metrics"), (2, u "KILOMETERS"), (0, u "Lcom/example/imbakan/imbakan/geo/Metrics;"), (2, u "MILES"), (2, u "NEUTRAL"), (2, u "$VALUES"), (0, u "[Lcom/example/imbakan/imbakan/geo/Metrics;"), (6, .class_ 25), (1, u "java/lang/Enum"), (6, .fieldref 1 33), (0, .nameAndType 34 35), (0, u "multiplier"), (0, u "D"), (21, u "getMultiplier"), (0, u "()D")] 5

def k6c0 : Code := { maxStack := 2, maxLocals := 1, code := prog_13_method_4_code, exceptionTable := #[], attributes := #[] }
def k6m0 : Method := { name := "getMultiplier", desc := "()D", sig := { parameters := [], returnType := some .double }, accessFlags := 1, code := some k6c0 }
/-- com/example/imbakan/imbakan/geo/Metrics -/
def k6 : Class := { plain "com/example/imbakan/imbakan/geo/Metrics" (some 5) with
  accessFlags := 16433
  interfaces := #[]
  cf := some (fileOf pool6 1 #[] #[{ accessFlags := 1, nameIndex := 57, descriptorIndex := 58, attributes := #[] }] 16433 23 #[] #[{ accessFlags := 16409, nameIndex := 5, descriptorIndex := 6, attributes := #[] }, { accessFlags := 16409, nameIndex := 9, descriptorIndex := 6, attributes := #[] }, { accessFlags := 16409, nameIndex := 12, descriptorIndex := 6, attributes := #[] }, { accessFlags := 18, nameIndex := 34, descriptorIndex := 35, attributes := #[] }, { accessFlags := 4122, nameIndex := 15, descriptorIndex := 16, attributes := #[] }])
  fields := #[{ name := "KILOMETERS", type := (.object "com/example/imbakan/imbakan/geo/Metrics"), accessFlags := 16409, slot := 0, constantValue := 0 }, { name := "MILES", type := (.object "com/example/imbakan/imbakan/geo/Metrics"), accessFlags := 16409, slot := 1, constantValue := 0 }, { name := "NEUTRAL", type := (.object "com/example/imbakan/imbakan/geo/Metrics"), accessFlags := 16409, slot := 2, constantValue := 0 }, { name := "multiplier", type := .double, accessFlags := 18, slot := 3, constantValue := 0 }, { name := "$VALUES", type := (.array (.object "com/example/imbakan/imbakan/geo/Metrics")), accessFlags := 4122, slot := 3, constantValue := 0 }]
  methods := #[k6m0]
  instanceTypes := #[(.object "java/lang/String"), .int, .int, .double]
  staticTypes := #[(.object "com/example/imbakan/imbakan/geo/Metrics"), (.object "com/example/imbakan/imbakan/geo/Metrics"), (.object "com/example/imbakan/imbakan/geo/Metrics"), (.array (.object "com/example/imbakan/imbakan/geo/Metrics"))]
  resolved := Array.replicate 64 none
  statics := some 0 }

def pool7 : Array CpInfo := pool [(2, .class_ 4), (1, u "com/example/imbakan/imbakan/geo/Metrics"), (1, u "Lcom/example/imbakan/imbakan/geo/Metrics;"), (1, .class_ 10), (1, u "com/example/imbakan/imbakan/geo/Distance"), (0, u "<init>"), (0, u "(DLcom/example/imbakan/imbakan/geo/Metrics;)V"), (0, .methodref 14 15), (0, .class_ 16), (0, .nameAndType 11 17), (0, u "java/lang/Object"), (0, u "()V"), (7, .fieldref 8 26), (0, .nameAndType 27 28), (0, u "value"), (0, u "D"), (0, .fieldref 8 30), (0, .nameAndType 31 6), (0, u "metric"), (0, .methodref 2 33), (0, .nameAndType 34 35), (0, u "getMultiplier"), (0, u "()D"), (23, u "getNormalizedValue")] 6

def k7c0 : Code := { maxStack := 3, maxLocals := 4, code := prog_3_method_2_code, exceptionTable := #[], attributes := #[] }
def k7m0 : Method := { name := "<init>", desc := "(DLcom/example/imbakan/imbakan/geo/Metrics;)V", sig := { parameters := [.double, (.object "com/example/imbakan/imbakan/geo/Metrics")], returnType := none }, accessFlags := 1, code := some k7c0 }
def k7c1 : Code := { maxStack := 4, maxLocals := 1, code := prog_3_method_5_code, exceptionTable := #[], attributes := #[] }
def k7m1 : Method := { name := "getNormalizedValue", desc := "()D", sig := { parameters := [], returnType := some .double }, accessFlags := 1, code := some k7c1 }
/-- com/example/imbakan/imbakan/geo/Distance -/
def k7 : Class := { plain "com/example/imbakan/imbakan/geo/Distance" (some 0) with
  accessFlags := 49
  interfaces := #[]
  cf := some (fileOf pool7 8 #[] #[{ accessFlags := 1, nameIndex := 11, descriptorIndex := 12, attributes := #[] }, { accessFlags := 1, nameIndex := 59, descriptorIndex := 35, attributes := #[] }] 49 14 #[] #[{ accessFlags := 18, nameIndex := 27, descriptorIndex := 28, attributes := #[] }, { accessFlags := 18, nameIndex := 31, descriptorIndex := 6, attributes := #[] }])
  fields := #[{ name := "value", type := .double, accessFlags := 18, slot := 0, constantValue := 0 }, { name := "metric", type := (.object "com/example/imbakan/imbakan/geo/Metrics"), accessFlags := 18, slot := 1, constantValue := 0 }]
  methods := #[k7m0, k7m1]
  instanceTypes := #[.double, (.object "com/example/imbakan/imbakan/geo/Metrics")]
  staticTypes := #[]
  resolved := Array.replicate 66 none
  statics := none }

def pool8 : Array CpInfo := pool [(1, u "java/lang/Cloneable"), (0, .class_ 1), (0, u "java/lang/Object"), (0, .class_ 3)] 3

/-- java/lang/Cloneable -/
def k8 : Class := { plain "java/lang/Cloneable" (some 0) with
  accessFlags := 1537
  interfaces := #[]
  cf := some (fileOf pool8 2 #[] #[] 1537 4 #[] #[])
  fields := #[]
  methods := #[]
  instanceTypes := #[]
  staticTypes := #[]
  resolved := Array.replicate 8 none
  statics := none }

/-- the primitive byte -/
def k9 : Class := { plain "byte" none with kind := .primitive 'B', accessFlags := 0x411 }
/-- [B -/
def k10 : Class := { plain "[B" (some 0) with kind := .array 9 .byte, interfaces := #[8, 4], accessFlags := 1041 }

/-- the primitive int -/
def k11 : Class := { plain "int" none with kind := .primitive 'I', accessFlags := 0x411 }
/-- [I -/
def k12 : Class := { plain "[I" (some 0) with kind := .array 11 .int, interfaces := #[8, 4], accessFlags := 1041 }

def heap : Heap := #[{ cls := 6, slots := #[.ref 2, .ref 3, .ref 1, .null], vm := .statics 6 },
  { cls := 6, slots := #[.null, .int 0, .int 0, .double 4607182418800017408], vm := .none },
  { cls := 6, slots := #[.null, .int 0, .int 0, .double 4663734850496141197], vm := .none },
  { cls := 6, slots := #[.null, .int 0, .int 0, .double 4660933564248916754], vm := .none }]
def classes : Array Class := #[k0, k1, k2, k3, k4, k5, k6, k7, k8, k9, k10, k11, k12]
def interned : List (Array UInt16 × Addr) := []
def slotsUsed : Nat := 16
def theMethod : MethodId := ⟨1, 1⟩
def args0 : Array Value := #[.int 4, .int 1, .int 2]
def aboutOver (below : List Frame) : State where
  vm := { classes := classes, interned := interned.toArray }
  heap := heap
  slotsUsed := slotsUsed
  threads := #[{ frames := .invoking theMethod args0 :: below }]
def below0 : List Frame := [.native { method := ⟨0, 0⟩, args := #[] }]
def about1 : State := aboutOver below0
def p0 : Program := .bare "" "" ""
def e0 : Env := launch0.env 0 0 0
theorem w_frames : about1.frames = Frame.invoking theMethod args0 :: below0 := rfl
set_option maxRecDepth 65536 in
theorem w_args : argsFit about1.vm theMethod args0 = true := by decide +kernel
set_option maxRecDepth 65536 in
theorem w_heap : heapFits about1 = true := by decide +kernel
set_option maxRecDepth 65536 in
theorem w_runnable : about1.curStatus? = some .runnable := by decide +kernel
set_option maxRecDepth 65536 in
theorem w_alone : about1.alone = true := by decide +kernel
set_option maxRecDepth 65536 in
theorem w_named : about1.methodNamed? x = some theMethod := by decide +kernel
set_option maxRecDepth 65536 in
theorem w_hears : about1.hears theMethod below0 = true := by decide +kernel
set_option maxRecDepth 65536 in
theorem w_ripe : about1.ripe theMethod args0 below0 = true := by decide +kernel
theorem w_running : about1.status = .running := rfl
set_option maxRecDepth 65536 in
theorem w_room : about1.hasRoom e0.platform room_1 = true :=
  launch0.hasRoom_least _ room_1 (by decide +kernel) (by decide +kernel) (by decide +kernel) (by decide +kernel) (by decide +kernel) (by decide +kernel)
theorem allAtoms_all (ts : List Jvm.Cond) (a : Array Jvm.Value) (st : Jvm.State) : (allAtoms ts).before a st = ts.all (fun c => c.before a st) := by
  induction ts with
  | nil => rfl
  | cons c t ih =>
    show (Jvm.Cond.and c (allAtoms t)).before a st = _
    rw [Jvm.Cond.before_and, ih, List.all_cons]
def words1 : List Jvm.Cond := Jvm.Cond.code x code maxLocals ret :: tables_1
/-- a 'code' word, met by the world's own term for the bytes: nothing is compared byte by byte -/
theorem code_word {y : MethodName} {bytes : ByteArray} {mx : Nat} {rt : Option FieldType} {a : Array Value} {s : State} {m : MethodId} {meth : Method} {c : Code} (h1 : s.methodNamed? y = some m) (h2 : s.vm.method? m = some meth) (h3 : meth.code = some c) (h4 : c.code = bytes)
    (h5 : (c.maxLocals == mx && c.exceptionTable.isEmpty && decide (c.maxStack ≤ mostOperands) && decide (meth.sig.returnType = rt) && !meth.locks && decide (parseMethodDescriptor y.desc = some meth.sig)) = true) : (Jvm.Cond.code y bytes mx rt).before a s = true := by
  simp only [Bool.and_eq_true, beq_iff_eq, Bool.not_eq_true', decide_eq_true_eq] at h5
  obtain ⟨⟨⟨⟨⟨g1, g2⟩, g3⟩, g4⟩, g5⟩, g6⟩ := h5
  simp [Cond.before, Cond.holds, Cond.value, h1, h2, h3, h4, g1, g2, g3, g4, g5, g6]
def isCode : Jvm.Cond → Bool
  | .code _ _ _ _ => true
  | _ => false
theorem all_split {L : List Jvm.Cond} {P : Jvm.Cond → Bool} (h1 : L.all (fun c => isCode c || P c) = true) (h2 : ∀ c ∈ L.filter isCode, P c = true) : L.all P = true := by
  refine List.all_eq_true.mpr fun c hc => ?_
  have h := List.all_eq_true.mp h1 c hc
  rcases Bool.eq_false_or_eq_true (isCode c) with hi | hi
  · exact h2 c (List.mem_filter.mpr ⟨hc, hi⟩)
  · simpa [hi] using h
set_option maxRecDepth 65536 in
theorem w_c0 : (Jvm.Cond.code x code maxLocals ret).before args0 about1 = true := code_word (m := ⟨1, 1⟩) (meth := k1m1) (c := k1c1) (by decide +kernel) rfl rfl rfl (by decide +kernel)
set_option maxRecDepth 65536 in
theorem w_c1 : (Jvm.Cond.code ({ cls := "com/example/imbakan/imbakan/geo/Distance", name := "<init>", desc := "(DLcom/example/imbakan/imbakan/geo/Metrics;)V" } : Jvm.MethodName) prog_3_method_2_code (4 : Nat) (Option.none : Option Jvm.ClassFile.FieldType)).before args0 about1 = true := code_word (m := ⟨7, 0⟩) (meth := k7m0) (c := k7c0) (by decide +kernel) rfl rfl rfl (by decide +kernel)
set_option maxRecDepth 65536 in
theorem w_c2 : (Jvm.Cond.code ({ cls := "java/lang/Object", name := "<init>", desc := "()V" } : Jvm.MethodName) object_method_1_code (1 : Nat) (Option.none : Option Jvm.ClassFile.FieldType)).before args0 about1 = true := code_word (m := ⟨0, 0⟩) (meth := k0m0) (c := k0c0) (by decide +kernel) rfl rfl rfl (by decide +kernel)
set_option maxRecDepth 65536 in
theorem w_c3 : (Jvm.Cond.code ({ cls := "com/example/imbakan/imbakan/geo/Distance", name := "getNormalizedValue", desc := "()D" } : Jvm.MethodName) prog_3_method_5_code (1 : Nat) (Option.some Jvm.ClassFile.FieldType.double)).before args0 about1 = true := code_word (m := ⟨7, 1⟩) (meth := k7m1) (c := k7c1) (by decide +kernel) rfl rfl rfl (by decide +kernel)
set_option maxRecDepth 65536 in
theorem w_c4 : (Jvm.Cond.code ({ cls := "com/example/imbakan/imbakan/geo/Metrics", name := "getMultiplier", desc := "()D" } : Jvm.MethodName) prog_13_method_4_code (1 : Nat) (Option.some Jvm.ClassFile.FieldType.double)).before args0 about1 = true := code_word (m := ⟨6, 0⟩) (meth := k6m0) (c := k6c0) (by decide +kernel) rfl rfl rfl (by decide +kernel)
def codes1 : List Jvm.Cond := [Jvm.Cond.code x code maxLocals ret, Jvm.Cond.code ({ cls := "com/example/imbakan/imbakan/geo/Distance", name := "<init>", desc := "(DLcom/example/imbakan/imbakan/geo/Metrics;)V" } : Jvm.MethodName) prog_3_method_2_code (4 : Nat) (Option.none : Option Jvm.ClassFile.FieldType), Jvm.Cond.code ({ cls := "java/lang/Object", name := "<init>", desc := "()V" } : Jvm.MethodName) object_method_1_code (1 : Nat) (Option.none : Option Jvm.ClassFile.FieldType), Jvm.Cond.code ({ cls := "com/example/imbakan/imbakan/geo/Distance", name := "getNormalizedValue", desc := "()D" } : Jvm.MethodName) prog_3_method_5_code (1 : Nat) (Option.some Jvm.ClassFile.FieldType.double), Jvm.Cond.code ({ cls := "com/example/imbakan/imbakan/geo/Metrics", name := "getMultiplier", desc := "()D" } : Jvm.MethodName) prog_13_method_4_code (1 : Nat) (Option.some Jvm.ClassFile.FieldType.double)]
set_option maxRecDepth 65536 in
theorem codes_eq : words1.filter isCode = codes1 := rfl
theorem w_codes : ∀ c ∈ words1.filter isCode, c.before args0 about1 = true := by
  rw [codes_eq]
  intro c hc
  simp only [codes1, List.mem_cons, List.not_mem_nil, or_false] at hc
  rcases hc with rfl | rfl | rfl | rfl | rfl
  · exact w_c0
  · exact w_c1
  · exact w_c2
  · exact w_c3
  · exact w_c4
set_option maxRecDepth 65536 in
theorem w_t1 : (words1.take 24).all (fun c => isCode c || c.before args0 about1) = true := by decide +kernel
set_option maxRecDepth 65536 in
theorem w_t2 : (words1.drop 24).all (fun c => isCode c || c.before args0 about1) = true := by decide +kernel
theorem w_tables : (allAtoms (Jvm.Cond.code x code maxLocals ret :: tables_1)).before args0 about1 = true := by
  rw [allAtoms_all]
  show words1.all (fun c => c.before args0 about1) = true
  refine all_split ?_ w_codes
  rw [← List.take_append_drop 24 words1, List.all_append, w_t1, w_t2]
  rfl
set_option maxRecDepth 65536 in
theorem w_case : (Jvm.Cond.and given_1 narrow_1).before args0 about1 = true := by decide +kernel
theorem w_applies : (headSpec (Jvm.Cond.code x code maxLocals ret :: tables_1) room_1).applies x e0.platform about1 = true :=
  (Spec.applies_iff w_frames).mpr ⟨w_running, w_runnable, w_alone, w_named, w_hears, w_ripe, w_room, w_tables⟩
theorem atStart : AtStart classFile x code maxLocals ret World_1 tables_1 room_1 Calls_1 rest_1 Pre_1 launch0 p0 e0 about1 theMethod args0 below0 :=
  ⟨lists_1, trivial, launch0.admits_env _ _ _, launch0.least_env, fairChoices_fair.cas, fairChoices_fair.clock, w_frames, w_args, w_heap, w_applies, trivial, trivial, w_case⟩
end start1
theorem witness_1 : WitnessClaimed_1 := ⟨start1.p0, start1.e0, start1.about1, start1.theMethod, start1.args0, start1.below0, start1.atStart⟩
end Jvm.Pilot.@@N@@
