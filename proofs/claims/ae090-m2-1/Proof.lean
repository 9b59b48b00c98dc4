import JvmDerived
import JvmDerived.Pilot.@@N@@Statement
import JvmDerived.Pilot.@@N@@Code
set_option linter.unusedVariables false
set_option linter.unusedSimpArgs false
namespace Jvm.RoadKit
open Sem ClassFile Op Lib Jvm.Stand Jvm.Free Jvm.LawKit
section New
variable {p : Program} {l : Launch} {e : Env} {R : Room} {s : State} {m : MethodId} {args : Array Value} {below : List Frame} {meth : Method} {c : Code} {T : State} {locs : List Loc} {cells slots : Nat}
theorem retI (X : Stand p l e R s m args below meth c T locs cells slots) (hx : p.tables.exec = Jvm.exec) {pc : Nat} {Ls : Array Slot} {z : Int32} {rest : List Value} (hret : meth.sig.returnType = some .int) (hd : decode c.code pc = .ok (.ireturn, 1)) {fs : List Frame}
    (hl : ∀ (f : JFrame) (acts : List Action), f.method = m → f.locked = none → f.entered = [] → (doReturn e (T.setTop f) acts (some (.int z))).1 = T.setFrames fs) : Steps p.tables e below (T.setTop (mkF m pc Ls (.int z :: rest))) (T.setFrames fs) :=
  retOut X hx hret rfl (Or.inl ⟨rfl, Or.inl rfl, z, rfl⟩) hd hl
theorem retL (X : Stand p l e R s m args below meth c T locs cells slots) (hx : p.tables.exec = Jvm.exec) {pc : Nat} {Ls : Array Slot} {z : Int64} {rest : List Value} (hret : meth.sig.returnType = some .long) (hd : decode c.code pc = .ok (.lreturn, 1)) {fs : List Frame}
    (hl : ∀ (f : JFrame) (acts : List Action), f.method = m → f.locked = none → f.entered = [] → (doReturn e (T.setTop f) acts (some (.long z))).1 = T.setFrames fs) : Steps p.tables e below (T.setTop (mkF m pc Ls (.long z :: rest))) (T.setFrames fs) :=
  retOut X hx hret rfl (Or.inr (Or.inl ⟨rfl, rfl, z, rfl⟩)) hd hl
theorem own_retD (X : Stand p l e R s m args below meth c T locs cells slots) (hx : p.tables.exec = Jvm.exec) {pc : Nat} {Ls : Array Slot} {z : UInt64} {rest : List Value} (hret : meth.sig.returnType = some .double) (hd : decode c.code pc = .ok (.dreturn, 1)) {fs : List Frame}
    (hl : ∀ (f : JFrame) (acts : List Action), f.method = m → f.locked = none → f.entered = [] → (doReturn e (T.setTop f) acts (some (.double z))).1 = T.setFrames fs) : Steps p.tables e below (T.setTop (mkF m pc Ls (.double z :: rest))) (T.setFrames fs) :=
  retOut X hx hret rfl (Or.inr (Or.inr (Or.inl ⟨rfl, rfl, z, rfl⟩))) hd hl
theorem own_nar {t : FieldType} {w : Value} (ht : t.isReference = true) (hw : w.isRef = true) : narrow t w = w := by
  cases t <;> first | (cases ht; done) | (cases w <;> first | rfl | (cases hw; done))
theorem retA (X : Stand p l e R s m args below meth c T locs cells slots) (hx : p.tables.exec = Jvm.exec) {pc : Nat} {Ls : Array Slot} {w : Value} {t : FieldType} {rest : List Value} (hret : meth.sig.returnType = some t) (ht : t.isReference = true) (hw : w.isRef = true) (hd : decode c.code pc = .ok (.areturn, 1)) {fs : List Frame}
    (hl : ∀ (f : JFrame) (acts : List Action), f.method = m → f.locked = none → f.entered = [] → (doReturn e (T.setTop f) acts (some w)).1 = T.setFrames fs) : Steps p.tables e below (T.setTop (mkF m pc Ls (w :: rest))) (T.setFrames fs) :=
  retOut X hx hret (own_nar ht hw) (Or.inr (Or.inr (Or.inr (Or.inr ⟨rfl, ht, hw⟩)))) hd hl
/-- the rest of a walk, as a predicate on where it stands -/
theorem own_open (K N : Nat) (Q : Option Value → Heap → List Loc → Prop) (hlocks : meth.locks = false) :
    ∃ G : State → JFrame → Prop,
      (∀ {T T' : State} {g g' : JFrame}, (∀ t, Steps p.tables e below (T'.setTop g') t → Steps p.tables e below (T.setTop g) t) → G T' g' → G T g) ∧
      (∀ {T : State} {g : JFrame} {locs : List Loc} {cells slots : Nat} {v : Option Value} {h : Heap}, Stand p l e R s m args below meth c T locs cells slots → (meth.sig.returnType = none → v = none) →
        (∀ fs, (∀ (f : JFrame) (acts : List Action), f.method = m → f.locked = none → f.entered = [] → (doReturn e (T.setTop f) acts v).1 = T.setFrames fs) → Steps p.tables e below (T.setTop g) (T.setFrames fs)) → T.heap = h → Q v h locs → cells ≤ K → slots ≤ N → G T g) ∧
      (∀ {T : State} {g : JFrame}, G T g → ∃ t o, Steps p.tables e below (T.setTop g) t ∧ t.status = .running ∧ Ended t below o ∧ ∃ v L, o = .returned v ∧ Q v t.heap L ∧ FrameEnd s o t L K N) := by
  refine ⟨fun T g => ∃ t o, Steps p.tables e below (T.setTop g) t ∧ t.status = .running ∧ Ended t below o ∧ ∃ v L, o = .returned v ∧ Q v t.heap L ∧ FrameEnd s o t L K N, ?_, ?_, fun h => h⟩
  · intro T T' g g' hs hG
    obtain ⟨t, o, h1, h2⟩ := hG
    exact ⟨t, o, hs t h1, h2⟩
  · intro T g locs cells slots v h X hv hst hT hQ hk hn
    obtain ⟨fs, hr, hrun, hended, hW, hsame⟩ := X.leave hv hlocks
    exact ⟨_, _, hst fs hr, hrun, hended, v, locs, rfl, by show Q v T.heap locs; rw [hT]; exact hQ, ⟨_, rfl⟩, hW, hsame.mono hk hn⟩
theorem own_openW (K N : Nat) (Q : Option Value → Heap → List Loc → Prop) (hlocks : meth.locks = false) :
    ∃ G : State → JFrame → Prop,
      (∀ {T T' : State} {g g' : JFrame}, (∀ t, Steps p.tables e below (T'.setTop g') t → Steps p.tables e below (T.setTop g) t) → G T' g' → G T g) ∧
      (∀ {T : State} {g : JFrame} {locs : List Loc} {cells slots : Nat} {v : Option Value} {h : Heap} {vm0 : Vm} {k0 : Nat}, Stand p l e R (s.setVm vm0) m args below meth c T locs cells slots → s.Since vm0 k0 → k0 ≤ h.size → (meth.sig.returnType = none → v = none) →
        (∀ fs, (∀ (f : JFrame) (acts : List Action), f.method = m → f.locked = none → f.entered = [] → (doReturn e (T.setTop f) acts v).1 = T.setFrames fs) → Steps p.tables e below (T.setTop g) (T.setFrames fs)) → T.heap = h → Q v h locs → cells ≤ K → slots ≤ N → G T g) ∧
      (∀ {T : State} {g : JFrame}, G T g → ∃ t o, Steps p.tables e below (T.setTop g) t ∧ t.status = .running ∧ Ended t below o ∧ ∃ v L, o = .returned v ∧ Q v t.heap L ∧ ReturnedEndW s o t L K N) := by
  refine ⟨fun T g => ∃ t o, Steps p.tables e below (T.setTop g) t ∧ t.status = .running ∧ Ended t below o ∧ ∃ v L, o = .returned v ∧ Q v t.heap L ∧ ReturnedEndW s o t L K N, ?_, ?_, fun h => h⟩
  · intro T T' g g' hs hG
    obtain ⟨t, o, h1, h2⟩ := hG
    exact ⟨t, o, hs t h1, h2⟩
  · intro T g locs cells slots v h vm0 k0 X hS hk0 hv hst hT hQ hk hn
    obtain ⟨fs, hr, hrun, hended, hW⟩ := X.leaveW hS (by rw [hT]; exact hk0) hv hlocks
    exact ⟨_, _, hst fs hr, hrun, hended, v, locs, rfl, by show Q v T.heap locs; rw [hT]; exact hQ, hW.1, hW.2.1, hW.2.2.1, hW.2.2.2.mono hk hn⟩
theorem own_sl (a : Array Slot) : ∃ z, z = a := ⟨_, rfl⟩
theorem own_xlt {x y : Int32} : x < y ↔ x.toInt < y.toInt := Int32.lt_iff_toInt_lt
theorem own_xeq {x y : Int32} : x = y ↔ x.toInt = y.toInt := Int32.toInt_inj.symm
theorem own_xltL {x y : Int64} : x < y ↔ x.toInt < y.toInt := Int64.lt_iff_toInt_lt
theorem own_xeqL {x y : Int64} : x = y ↔ x.toInt = y.toInt := Int64.toInt_inj.symm
theorem own_old_le {Z : State} {n0 : Nat} {h : Heap} (O : Old Z n0 h) : n0 ≤ h.size := O.1 ▸ O.2.1
theorem own_oldne {Z : State} {n0 : Nat} {h : Heap} {a b : Addr} (O : Old Z n0 h) (q : a < Z.heap.size) (r : n0 ≤ b) : a ≠ b := O.ne q r
theorem own_fldI {Z : State} {args : Array Value} {t : Term} {C f d : String} {a : Addr} {k : Int32} (ht : t.eval args Z none [] Z = some (.ref a)) (h : (Cond.eq (.field t C f d) (.int k)).value args Z none Z [] = some true) : Fld Z Z.heap a C f d (.int k) := by
  refine Fld.start ?_
  rw [← fld_at (C := C) (n := f) (dd := d) ht]
  obtain ⟨x, y, h1, h2, h3, h4⟩ := cmp_v (Or.inl h)
  have h5 : y = .int k := Option.some.inj (h2.symm.trans (Term.int_eval k))
  subst h5
  obtain ⟨z, rfl⟩ := h4
  have := gotT (P := z = k) (by simp [Cond.value, h1, h2]) h
  rw [h1, this]
theorem own_fldD {Z : State} {args : Array Value} {t : Term} {C f d : String} {a : Addr} {k : Int64} {b : UInt64} (hb : k.toUInt64 = b) (ht : t.eval args Z none [] Z = some (.ref a)) (h : (Cond.eq (.field t C f d) (.op1 .bitsD (.long k))).value args Z none Z [] = some true) : Fld Z Z.heap a C f d (.double b) := by
  refine Fld.start ?_
  rw [← fld_at (C := C) (n := f) (dd := d) ht]
  obtain ⟨x, y, h1, h2, h3, h4⟩ := cmp_v (Or.inl h)
  have h5 : y = .double k.toUInt64 := Option.some.inj (h2.symm.trans rfl)
  subst h5
  obtain ⟨z, rfl⟩ := h4
  have := gotT (P := z = k.toUInt64) (by simp [Cond.value, h1, h2]) h
  rw [h1, this, hb]
theorem own_dnn {a b : UInt64} (ha : Jvm.Free.Fl.NoNaN64 a) (hb : FP.Core.DFin b) (hz : ¬ FP.Core.DZero b) : Jvm.Free.Fl.NoNaN64 (FP.ddiv a b) := by
  refine Jvm.Free.Fl.val64_no.mpr fun q => ?_
  have q2 := (FP.Core.quotient_nan FP.Core.b64 _ _).mp ((FP.Core.val64_ddiv a b).symm.trans q)
  rcases q2 with h | h | ⟨s, t, h1, h2⟩ | ⟨s, t, q, r, h1, h2⟩
  · exact Jvm.Free.Fl.val64_no.mp ha h
  · exact hb.ne_nan h
  · exact hb.ne_inf t h2
  · exact hz ⟨t, r, h2⟩
theorem own_i2dn (x : Int32) : Jvm.Free.Fl.NoNaN64 (FP.i2d x) := Jvm.Free.Fl.noNaN64_no.mpr (FP.Core.i2d_fin x).notNaN
theorem own_i2dz {x : Int32} (h : x ≠ 0) : ¬ FP.Core.DZero (FP.i2d x) := fun q => FP.Core.i2d_ne_zero h ((FP.Core.zero_bits2 _).mp q)
theorem own_and255 (x : Int32) : ¬ (x &&& (255 : Int32)) < 0 ∧ ¬ (255 : Int32) < (x &&& (255 : Int32)) := by
  have c1 := c_mask x (255 : Int32) 8 (by decide) (by decide)
  have q0 : (0 : Int32).toInt = 0 := by decide
  have q1 : (255 : Int32).toInt = 255 := by decide
  rw [own_xlt, own_xlt]
  omega
theorem own_l255 (x : Int64) : ¬ (x &&& (255 : Int64)).toInt32 < 0 ∧ ¬ (255 : Int32) < (x &&& (255 : Int64)).toInt32 := by
  have c1 := c_maskL x (255 : Int64) 8 (by decide) (by decide)
  have c2 := c_l2i (x &&& (255 : Int64))
  have r := rng32 (x &&& (255 : Int64)).toInt32
  have q0 : (0 : Int32).toInt = 0 := by decide
  have q1 : (255 : Int32).toInt = 255 := by decide
  rw [own_xlt, own_xlt]
  omega
theorem own_i2c {x : Int32} (h : ¬ x < 0 ∧ ¬ (255 : Int32) < x) : x.toUInt32.toUInt16.toUInt32.toInt32 = x := by
  have c1 := c_i2c x
  have q0 : (0 : Int32).toInt = 0 := by decide
  have q1 : (255 : Int32).toInt = 255 := by decide
  rw [own_xlt, own_xlt] at h
  rw [own_xeq]
  omega
theorem own_narc {x : Int32} (h : ¬ x < 0 ∧ ¬ (255 : Int32) < x) : nar .char x = x := own_i2c h
theorem own_nz {Z : State} {args : Array Value} {t : Term} {z : Int32} (ht : t.eval args Z none [] Z = some (.int z)) (h : (Cond.not (Cond.eq t (.int 0))).value args Z none Z [] = some true) : ¬ z = (0 : Int32) :=
  gotF (P := z = (0 : Int32)) (by simp [Cond.value, ht, Term.int_eval]) (not_v h)
theorem own_evI {Z : State} {args : Array Value} {u : Term} {k : Int32} (h : (Cond.eq u (.int k)).value args Z none Z [] = some true) : u.eval args Z none [] Z = some (.int k) := by
  obtain ⟨x, y, h1, h2, h3, h4⟩ := cmp_v (Or.inl h)
  have h5 : y = .int k := Option.some.inj (h2.symm.trans (Term.int_eval k))
  subst h5
  obtain ⟨z, rfl⟩ := h4
  have := gotT (P := z = k) (by simp [Cond.value, h1, h2]) h
  rw [h1, this]
theorem own_slotI {Z : State} {args : Array Value} {t : Term} {a : Addr} {i k : Int32} {cl : Cell} (ht : t.eval args Z none [] Z = some (.ref a)) (hc : Z.heap[a]? = some cl) (h : (Cond.eq (.elem t (.int i)) (.int k)).value args Z none Z [] = some true) : cl.slots[i.toNatClampNeg]? = some (.int k) :=
  (elem_in (own_evI h) ht (Term.int_eval i) hc).2
theorem own_lenI {Z : State} {args : Array Value} {t : Term} {a : Addr} {n : Int32} {cl : Cell} {ty : FieldType} (ht : t.eval args Z none [] Z = some (.ref a)) (A : Arr Z Z.heap a cl ty) (h : (Cond.eq (.length t) (.int n)).value args Z none Z [] = some true) : cl.slots.size < 2 ^ 31 ∧ cl.slots.size.toInt32 = n := by
  have hh := A.fin (Vm.Alike.refl _)
  have q := own_evI h
  simp only [Term.eval, ht, hh, Option.bind_eq_bind, Option.bind_some] at q
  split at q
  · rename_i hlt
    exact ⟨hlt, Value.int.inj (Option.some.inj q)⟩
  · cases q
theorem own_fldN {Z : State} {args : Array Value} {t : Term} {C f d : String} {a : Addr} (ht : t.eval args Z none [] Z = some (.ref a)) (h : (Cond.eq (.field t C f d) .null).value args Z none Z [] = some true) : Fld Z Z.heap a C f d .null := by
  refine Fld.start ?_
  rw [← fld_at (C := C) (n := f) (dd := d) ht]
  exact null_v h
theorem own_selpriv {Z s : State} {a0 args : Array Value} {y : MethodName} {n : Nat} (hZ : Z.Warmed39 s.vm) (wp : (Cond.privateMethod y).before a0 Z = true) (wi : (Cond.instanceMethod y).before a0 Z = true) (wk : (Cond.instantiable y.cls n).before a0 Z = true) (hy : y.cls ≠ "java/lang/invoke/MethodHandle" ∧ y.cls ≠ "java/lang/invoke/VarHandle") : (Cond.selects y.cls y y).before args s = true := by
  obtain ⟨c, k, h1, h2, -, h3, -⟩ := Cond.instantiable_spec (mv (s := s) (args := args) hZ wk)
  exact selects_self_of_private h1 h2 (Bool.or_eq_false_iff.mp h3).1 (Cond.privateMethod_at (mvP hZ wp (args := args))) (mv hZ wi) hy
theorem own_ne_arv {Z : State} {h : Heap} {a b : Addr} {C : String} {a0 : Array Value} {i : Nat} {k : ClassId} {ty : FieldType} {n : Int32} {vs : List Value} {dv : Value} (F : Exa Z h a C) (wi : (Cond.instantiable C i).before a0 Z = true) (V : Arv Z h b k ty n vs dv) : a ≠ b := by
  obtain ⟨cl, A, -⟩ := V
  exact ne_arr F wi A
theorem own_arr_keep {Z : State} {h h' : Heap} {a : Addr} {cl : Cell} {ty : FieldType} {ws : List Addr} (F : Arr Z h a cl ty) (K : Keep h h' ws) (q : a ∉ ws) : Arr Z h' a cl ty := ⟨K.2.1 a cl F.1 q, F.2⟩
section Arrays
variable {Z : State} {h : Heap} {a : Addr} {k : ClassId} {n : Int32} {vs : List Value} {dv : Value} {g : JFrame} {rest : List Value} {j : Int32} {v : Value}
theorem own_len {ty : FieldType} (X : Stand p l e R s m args below meth c T locs cells slots) (hx : p.tables.exec = Jvm.exec) (hZ : Z.Warmed39 s.vm) (eT : T.heap = h) (V : Arv Z h a k ty n vs dv) (hg : g.method = m) (hs : g.stack = .ref a :: rest) (hd : decode c.code g.pc = .ok (.arraylength, 1)) (target : State)
    (hr : Steps p.tables e below (T.setTop { g with pc := g.pc + 1, stack := .int n :: rest }) target) : Steps p.tables e below (T.setTop g) target := by
  obtain ⟨cl, A, -, S, N, -, -⟩ := V
  refine X.arraylength hx (by rw [eT]; exact A.1) (State.isArrayOf_alike hZ.alike A.2.1) hg hs hd target ?_
  rw [len_of S N]; exact hr
theorem own_ldI (X : Stand p l e R s m args below meth c T locs cells slots) (hx : p.tables.exec = Jvm.exec) (hZ : Z.Warmed39 s.vm) (eT : T.heap = h) (V : Arv Z h a k .int n vs dv) (hj : ¬ j < 0 ∧ j < n) (hv : vs.getD j.toNatClampNeg dv = v) (hg : g.method = m) (hs : g.stack = .int j :: .ref a :: rest) (hd : decode c.code g.pc = .ok (.iaload, 1)) (target : State)
    (hr : Steps p.tables e below (T.setTop { g with pc := g.pc + 1, stack := v :: rest }) target) : Steps p.tables e below (T.setTop g) target := by
  obtain ⟨cl, A, -, S, N, H, -⟩ := V
  have hin := inb_of S hj
  exact X.iaload hx (by rw [eT]; exact A.1) (State.isArrayOf_alike hZ.alike A.2.1) A.2.2 hin (H.at hin hv) hg hs hd target hr
theorem own_ldJ (X : Stand p l e R s m args below meth c T locs cells slots) (hx : p.tables.exec = Jvm.exec) (hZ : Z.Warmed39 s.vm) (eT : T.heap = h) (V : Arv Z h a k .long n vs dv) (hj : ¬ j < 0 ∧ j < n) (hv : vs.getD j.toNatClampNeg dv = v) (hg : g.method = m) (hs : g.stack = .int j :: .ref a :: rest) (hd : decode c.code g.pc = .ok (.laload, 1)) (target : State)
    (hr : Steps p.tables e below (T.setTop { g with pc := g.pc + 1, stack := v :: rest }) target) : Steps p.tables e below (T.setTop g) target := by
  obtain ⟨cl, A, -, S, N, H, -⟩ := V
  have hin := inb_of S hj
  exact X.laload hx (by rw [eT]; exact A.1) (State.isArrayOf_alike hZ.alike A.2.1) A.2.2 hin (H.at hin hv) hg hs hd target hr
theorem own_ldC (X : Stand p l e R s m args below meth c T locs cells slots) (hx : p.tables.exec = Jvm.exec) (hZ : Z.Warmed39 s.vm) (eT : T.heap = h) (V : Arv Z h a k .char n vs dv) (hj : ¬ j < 0 ∧ j < n) (hv : vs.getD j.toNatClampNeg dv = v) (hg : g.method = m) (hs : g.stack = .int j :: .ref a :: rest) (hd : decode c.code g.pc = .ok (.caload, 1)) (target : State)
    (hr : Steps p.tables e below (T.setTop { g with pc := g.pc + 1, stack := v :: rest }) target) : Steps p.tables e below (T.setTop g) target := by
  obtain ⟨cl, A, -, S, N, H, -⟩ := V
  have hin := inb_of S hj
  exact X.caload hx (by rw [eT]; exact A.1) (State.isArrayOf_alike hZ.alike A.2.1) A.2.2 hin (H.at hin hv) hg hs hd target hr
theorem own_ldB (X : Stand p l e R s m args below meth c T locs cells slots) (hx : p.tables.exec = Jvm.exec) (hZ : Z.Warmed39 s.vm) (eT : T.heap = h) (V : Arv Z h a k .byte n vs dv) (hj : ¬ j < 0 ∧ j < n) (hv : vs.getD j.toNatClampNeg dv = v) (hg : g.method = m) (hs : g.stack = .int j :: .ref a :: rest) (hd : decode c.code g.pc = .ok (.baload, 1)) (target : State)
    (hr : Steps p.tables e below (T.setTop { g with pc := g.pc + 1, stack := v :: rest }) target) : Steps p.tables e below (T.setTop g) target := by
  obtain ⟨cl, A, -, S, N, H, -⟩ := V
  have hin := inb_of S hj
  exact X.baloadBytes hx (by rw [eT]; exact A.1) (State.isArrayOf_alike hZ.alike A.2.1) A.2.2 hin (H.at hin hv) hg hs hd target hr
theorem own_ldR {ty : FieldType} (X : Stand p l e R s m args below meth c T locs cells slots) (hx : p.tables.exec = Jvm.exec) (hZ : Z.Warmed39 s.vm) (eT : T.heap = h) (V : Arv Z h a k ty n vs dv) (hj : ¬ j < 0 ∧ j < n) (hv : vs.getD j.toNatClampNeg dv = v) (hty : ty.isReference = true) (hg : g.method = m) (hs : g.stack = .int j :: .ref a :: rest) (hd : decode c.code g.pc = .ok (.aaload, 1)) (target : State)
    (hr : Steps p.tables e below (T.setTop { g with pc := g.pc + 1, stack := v :: rest }) target) : Steps p.tables e below (T.setTop g) target := by
  obtain ⟨cl, A, -, S, N, H, -⟩ := V
  have hin := inb_of S hj
  exact X.aaload hx (by rw [eT]; exact A.1) (State.isArrayOf_alike hZ.alike A.2.1) hty A.2.2 hin (H.at hin hv) hg hs hd target hr
theorem own_stI {x : Int32} (X : Stand p l e R s m args below meth c T locs cells slots) (hx : p.tables.exec = Jvm.exec) (hZ : Z.Warmed39 s.vm) (eT : T.heap = h) (V : Arv Z h a k .int n vs dv) (hj : ¬ j < 0 ∧ j < n) {i : Nat} (hji : j.toNatClampNeg = i) (hi : i < vs.length) (hg : g.method = m) (hs : g.stack = .int x :: .int j :: .ref a :: rest) (hd : decode c.code g.pc = .ok (.iastore, 1)) :
    ∃ T' h', Stand p l e R s m args below meth c T' (locs ++ [⟨a, j.toNatClampNeg⟩]) cells slots ∧ T'.heap = h' ∧ Wr h h' a j.toNatClampNeg (.int x) ∧ Arv Z h' a k .int n (vs.set i (.int x)) dv ∧ ∀ target, Steps p.tables e below (T'.setTop { g with pc := g.pc + 1, stack := rest }) target → Steps p.tables e below (T.setTop g) target := by
  obtain ⟨cl, A, q, S, N, H, Gf⟩ := V
  obtain ⟨T', h', X', e', W', st⟩ := stI X hx hZ eT A (inb_of S hj) hg hs hd
  exact ⟨T', h', X', e', W', Arv.set A q S N H Gf rfl W' i hji hi, st⟩
theorem own_stJ {x : Int64} (X : Stand p l e R s m args below meth c T locs cells slots) (hx : p.tables.exec = Jvm.exec) (hZ : Z.Warmed39 s.vm) (eT : T.heap = h) (V : Arv Z h a k .long n vs dv) (hj : ¬ j < 0 ∧ j < n) {i : Nat} (hji : j.toNatClampNeg = i) (hi : i < vs.length) (hg : g.method = m) (hs : g.stack = .long x :: .int j :: .ref a :: rest) (hd : decode c.code g.pc = .ok (.lastore, 1)) :
    ∃ T' h', Stand p l e R s m args below meth c T' (locs ++ [⟨a, j.toNatClampNeg⟩]) cells slots ∧ T'.heap = h' ∧ Wr h h' a j.toNatClampNeg (.long x) ∧ Arv Z h' a k .long n (vs.set i (.long x)) dv ∧ ∀ target, Steps p.tables e below (T'.setTop { g with pc := g.pc + 1, stack := rest }) target → Steps p.tables e below (T.setTop g) target := by
  obtain ⟨cl, A, q, S, N, H, Gf⟩ := V
  obtain ⟨T', h', X', e', W', st⟩ := stJ X hx hZ eT A (inb_of S hj) hg hs hd
  exact ⟨T', h', X', e', W', Arv.set A q S N H Gf rfl W' i hji hi, st⟩
theorem own_stC {x : Int32} (X : Stand p l e R s m args below meth c T locs cells slots) (hx : p.tables.exec = Jvm.exec) (hZ : Z.Warmed39 s.vm) (eT : T.heap = h) (V : Arv Z h a k .char n vs dv) (hj : ¬ j < 0 ∧ j < n) {i : Nat} (hji : j.toNatClampNeg = i) (hi : i < vs.length) (hg : g.method = m) (hs : g.stack = .int x :: .int j :: .ref a :: rest) (hd : decode c.code g.pc = .ok (.castore, 1)) :
    ∃ T' h', Stand p l e R s m args below meth c T' (locs ++ [⟨a, j.toNatClampNeg⟩]) cells slots ∧ T'.heap = h' ∧ Wr h h' a j.toNatClampNeg (.int (nar .char x)) ∧ Arv Z h' a k .char n (vs.set i (.int (nar .char x))) dv ∧ ∀ target, Steps p.tables e below (T'.setTop { g with pc := g.pc + 1, stack := rest }) target → Steps p.tables e below (T.setTop g) target := by
  obtain ⟨cl, A, q, S, N, H, Gf⟩ := V
  obtain ⟨T', h', X', e', W', st⟩ := stC X hx hZ eT A (inb_of S hj) hg hs hd
  exact ⟨T', h', X', e', W', Arv.set A q S N H Gf (fits_nar_char _) W' i hji hi, st⟩
theorem own_stB {x : Int32} (X : Stand p l e R s m args below meth c T locs cells slots) (hx : p.tables.exec = Jvm.exec) (hZ : Z.Warmed39 s.vm) (eT : T.heap = h) (V : Arv Z h a k .byte n vs dv) (hj : ¬ j < 0 ∧ j < n) {i : Nat} (hji : j.toNatClampNeg = i) (hi : i < vs.length) (hg : g.method = m) (hs : g.stack = .int x :: .int j :: .ref a :: rest) (hd : decode c.code g.pc = .ok (.bastore, 1)) :
    ∃ T' h', Stand p l e R s m args below meth c T' (locs ++ [⟨a, j.toNatClampNeg⟩]) cells slots ∧ T'.heap = h' ∧ Wr h h' a j.toNatClampNeg (.int (nar .byte x)) ∧ Arv Z h' a k .byte n (vs.set i (.int (nar .byte x))) dv ∧ ∀ target, Steps p.tables e below (T'.setTop { g with pc := g.pc + 1, stack := rest }) target → Steps p.tables e below (T.setTop g) target := by
  obtain ⟨cl, A, q, S, N, H, Gf⟩ := V
  obtain ⟨T', h', X', e', W', st⟩ := stB X hx hZ eT A (inb_of S hj) hg hs hd
  exact ⟨T', h', X', e', W', Arv.set A q S N H Gf (fits_nar_byte _) W' i hji hi, st⟩
theorem own_stR {K : String} (X : Stand p l e R s m args below meth c T locs cells slots) (hx : p.tables.exec = Jvm.exec) (hZ : Z.Warmed39 s.vm) (eT : T.heap = h) (V : Arv Z h a k (.object K) n vs dv) (hj : ¬ j < 0 ∧ j < n) {i : Nat} (hji : j.toNatClampNeg = i) (hi : i < vs.length) (hS : ∀ {cl : Cell}, Arr Z h a cl (.object K) → cl.cls = k → Sto Z h a v) (hg : g.method = m) (hs : g.stack = v :: .int j :: .ref a :: rest) (hd : decode c.code g.pc = .ok (.aastore, 1)) (hf : fits (.object K) v = true := by rfl) :
    ∃ T' h', Stand p l e R s m args below meth c T' (locs ++ [⟨a, j.toNatClampNeg⟩]) cells slots ∧ T'.heap = h' ∧ Wr h h' a j.toNatClampNeg v ∧ Arv Z h' a k (.object K) n (vs.set i v) dv ∧ ∀ target, Steps p.tables e below (T'.setTop { g with pc := g.pc + 1, stack := rest }) target → Steps p.tables e below (T.setTop g) target := by
  obtain ⟨cl, A, q, S, N, H, Gf⟩ := V
  obtain ⟨T', h', X', e', W', st⟩ := stR X hx hZ eT A (inb_of S hj) rfl (hS A q) hg hs hd
  exact ⟨T', h', X', e', W', Arv.set A q S N H Gf hf W' i hji hi, st⟩
end Arrays
end New
end Jvm.RoadKit
namespace Jvm.Pilot.@@N@@
open Jvm Jvm.ClassFile Sem Op Lib Jvm.Free Jvm.Stand Jvm.LawKit Jvm.RoadKit Bundle Jvm.Pilot.@@N@@.Jvm.D
abbrev cn_0 : String := "com/example/bordereau/bordereau/seda/TransferIdentity"
abbrev cn_1 : String := "()Ljava/util/Optional;"
abbrev cn_2 : String := "java/util/Optional"
abbrev cn_3 : String := "java/lang/String"
abbrev cn_4 : String := "com/example/bordereau/bordereau/seda/TransferIdentityUnknownPinLaw"
abbrev cn_5 : String := "(Lcom/example/bordereau/bordereau/seda/SedaVersion;Ljava/lang/String;Ljava/lang/String;Ljava/lang/String;Ljava/lang/String;)V"
abbrev cn_6 : String := "Ljava/lang/String;"
abbrev cn_7 : String := "com/example/bordereau/bordereau/seda/SedaVersion"
abbrev cn_8 : String := "Lcom/example/bordereau/bordereau/seda/SedaVersion;"
abbrev cn_9 : String := "()Lcom/example/bordereau/bordereau/seda/TransferIdentity;"
abbrev cn_10 : String := "(Ljava/lang/Object;)Ljava/util/Optional;"
def own_St (Z : State) (w_EMPTY : Addr) : Prop := (Sta Z Z.heap cn_2 "EMPTY" "Ljava/util/Optional;" (.ref w_EMPTY)) ∧ (Exa Z Z.heap w_EMPTY cn_2) ∧ (Fld Z Z.heap w_EMPTY cn_2 "value" "Ljava/lang/Object;" .null)
theorem own_St.k0 {Z : State} {w_EMPTY : Addr} (ST : own_St Z w_EMPTY) : Sta Z Z.heap cn_2 "EMPTY" "Ljava/util/Optional;" (.ref w_EMPTY) := ST.1
theorem own_St.k1 {Z : State} {w_EMPTY : Addr} (ST : own_St Z w_EMPTY) : Exa Z Z.heap w_EMPTY cn_2 := ST.2.1
theorem own_St.k2 {Z : State} {w_EMPTY : Addr} (ST : own_St Z w_EMPTY) : Fld Z Z.heap w_EMPTY cn_2 "value" "Ljava/lang/Object;" .null := ST.2.2
theorem ww29 {Z : State} {a0 : Array Value} (hw : ∀ d ∈ tables_1, d.before a0 Z = true) : Jvm.Cond.before (Jvm.Cond.initialized cn_2) a0 Z = true := hw _ (List.mem_of_getElem? (i := 29) rfl)
theorem d0_0 : decode jdk_32_method_4_code 0 = .ok (.aload_n 0, 1) := by decide +kernel
theorem d0_1 : decode jdk_32_method_4_code 1 = .ok (.ifnonnull 9, 3) := by decide +kernel
theorem d0_4 : decode jdk_32_method_4_code 4 = .ok (.getstatic 1, 3) := by decide +kernel
theorem ww31 {Z : State} {a0 : Array Value} (hw : ∀ d ∈ tables_1, d.before a0 Z = true) : Jvm.Cond.before (Jvm.Cond.fieldLink cn_2 (1 : Nat) cn_2 "EMPTY" "Ljava/util/Optional;") a0 Z = true := hw _ (List.mem_of_getElem? (i := 31) rfl)
theorem d0_7 : decode jdk_32_method_4_code 7 = .ok (.goto 11, 3) := by decide +kernel
theorem d0_18 : decode jdk_32_method_4_code 18 = .ok (.areturn, 1) := by decide +kernel
abbrev rr_ofn : Room := { frames := 0, cells := 0, slots := 0, locals := 0 }
abbrev y_0 : MethodName := ⟨cn_2, "ofNullable", cn_10⟩
theorem pn_0 : plainName cn_2 = true := by first | (simp [plainName, overriddenIn]; done) | decide +kernel
theorem ef_ofn (m : MethodId)  : entryFrame m #[.null] 1 = mkF m 0 #[.val .null] [] := by first | (simp [entryFrame, mkF, argsToLocals, Value.category]; done) | rfl
def f_ofn (w_EMPTY : Addr)  : Addr := w_EMPTY
def Q_ofn (Z : State) (w_EMPTY : Addr)  (h0 : Heap) (n0 : Nat) (v : Option Value) (h : Heap) (L : List Loc) : Prop := v = some (.ref (f_ofn w_EMPTY)) ∧ Fr n0 L ∧ h = h0
set_option maxRecDepth 65536 in
set_option maxHeartbeats 40000000 in
theorem rm_ofn (l : Launch) (Z : State) (a0 : Array Value) (hw : ∀ d ∈ tables_1, d.before a0 Z = true) (ws : List Jvm.Cond) (w_EMPTY : Addr)  (h0 : Heap) (n0 : Nat) (Z0 : n0 ≤ h0.size) (ST : own_St Z w_EMPTY) (O0 : Old Z n0 h0) :
    MetFree l y_0 (head1 (Jvm.Cond.code y_0 jdk_32_method_4_code 1 (some (.object cn_2)) :: ws) rr_ofn) (fun a U => a = #[.null] ∧ Z.Warmed39 U.vm ∧ U.heap = h0) (fun _ _ _ _ _ => True) (fun _ U o U' => ∃ v L, o = .returned v ∧ Q_ofn Z w_EMPTY h0 n0 v U'.heap L ∧ FrameEnd U o U' L rr_ofn.cells rr_ofn.slots) := by
  refine MetFree.of_bodySF (plainFor_of_name pn_0) hisR ?_
  intro p e s m args below meth c s₁ Bd hml0 hP hK
  obtain ⟨rfl, hZ, hh⟩ := hP
  have hx := Bd.exec
  have hby := Bd.bytes
  have hml : c.maxLocals = 1 := hml0
  have hown : s.vm.findClass cn_2 = some m.cls := findClass_of_methodNamed Bd.named
  have hnm := (name_of_methodNamed Bd.named Bd.method).1
  have X0 : Stand p l e rr_ofn s m #[.null] below meth c s₁ [] 0 0 := Stand.of_body Bd
  have e0 : s₁.heap = h0 := by rw [← hh, Bd.state]; rfl
  have N0 := Fr.nil n0
  obtain ⟨G, step, ret, fin⟩ := own_open (p := p) (l := l) (e := e) (R := rr_ofn) (s := s) (m := m) (args := #[.null]) (below := below) (meth := meth) (c := c) (rr_ofn.cells) (rr_ofn.slots) (Q_ofn Z w_EMPTY h0 n0) Bd.notSynchronized
  refine fin (g := entryFrame m #[.null] 1) ?_
  rw [ef_ofn m ]
  show G s₁ (mkF m 0 #[.val .null] [])
  refine step (fun t k => XS.aloadN X0.here hx rfl (hb hby d0_0) rfl rfl k) ?_
  show G s₁ (mkF m 1 #[.val .null] [.null])
  refine step (fun t k => XS.ifnonnullNo X0.here hx rfl (hb hby d0_1) rfl k) ?_
  show G s₁ (mkF m 4 #[.val .null] [])
  obtain ⟨T1, X1, e1, st1⟩ := getS2 X0 hx hZ hown (host := "") (Or.inl (ww31 hw)) Via.refl e0 (Sta.ext O0.2 ST.k0) (g := (mkF m 4 #[.val .null] [])) rfl (hb hby d0_4)
  refine step st1 ?_
  show G T1 (mkF m 7 #[.val .null] [(.ref w_EMPTY)])
  refine step (fun t k => XS.goto X1.here hx rfl (pc0 := 7) (pc' := 18) rfl (hb hby d0_7) (by decide) (by decide) k) ?_
  show G T1 (mkF m 18 #[.val .null] [(.ref w_EMPTY)])
  exact ret (v := some (.ref w_EMPTY)) X1 (fun h => by rw [Bd.returns] at h; cases h) (fun fs hr => retA X1 hx Bd.returns rfl rfl (hb hby d0_18) hr) e1 ⟨rfl, N0, rfl⟩ (by decide) (by decide)
theorem d1_0 : decode jdk_32_method_6_code 0 = .ok (.aload_n 0, 1) := by decide +kernel
theorem d1_1 : decode jdk_32_method_6_code 1 = .ok (.getfield 13, 3) := by decide +kernel
theorem ww37 {Z : State} {a0 : Array Value} (hw : ∀ d ∈ tables_1, d.before a0 Z = true) : Jvm.Cond.before (Jvm.Cond.fieldLink cn_2 (13 : Nat) cn_2 "value" "Ljava/lang/Object;") a0 Z = true := hw _ (List.mem_of_getElem? (i := 37) rfl)
theorem d1_4 : decode jdk_32_method_6_code 4 = .ok (.ifnull 7, 3) := by decide +kernel
theorem d1_11 : decode jdk_32_method_6_code 11 = .ok (.iconst 0, 1) := by decide +kernel
theorem d1_12 : decode jdk_32_method_6_code 12 = .ok (.ireturn, 1) := by decide +kernel
abbrev rr_isp : Room := { frames := 0, cells := 0, slots := 0, locals := 0 }
abbrev y_1 : MethodName := ⟨cn_2, "isPresent", "()Z"⟩
theorem ef_isp (m : MethodId) (o0 : Addr) : entryFrame m #[(.ref o0)] 1 = mkF m 0 #[.val (.ref o0)] [] := by first | (simp [entryFrame, mkF, argsToLocals, Value.category]; done) | rfl
def f_isp (w_EMPTY : Addr) (o0 : Addr) : Int32 := (0 : Int32)
def Q_isp (Z : State) (w_EMPTY : Addr) (o0 : Addr) (h0 : Heap) (n0 : Nat) (v : Option Value) (h : Heap) (L : List Loc) : Prop := v = some (.int (f_isp w_EMPTY o0)) ∧ Fr n0 L ∧ h = h0
set_option maxRecDepth 65536 in
set_option maxHeartbeats 40000000 in
theorem rm_isp (l : Launch) (Z : State) (a0 : Array Value) (hw : ∀ d ∈ tables_1, d.before a0 Z = true) (ws : List Jvm.Cond) (w_EMPTY : Addr) (o0 : Addr) (h0 : Heap) (n0 : Nat) (Z0 : n0 ≤ h0.size) (ST : own_St Z w_EMPTY) (O0 : Old Z n0 h0) (Fv : Fld Z h0 o0 cn_2 "value" "Ljava/lang/Object;" .null) :
    MetFree l y_1 (head1 (Jvm.Cond.code y_1 jdk_32_method_6_code 1 (some .boolean) :: ws) rr_isp) (fun a U => a = #[(.ref o0)] ∧ Z.Warmed39 U.vm ∧ U.heap = h0) (fun _ _ _ _ _ => True) (fun _ U o U' => ∃ v L, o = .returned v ∧ Q_isp Z w_EMPTY o0 h0 n0 v U'.heap L ∧ FrameEnd U o U' L rr_isp.cells rr_isp.slots) := by
  refine MetFree.of_bodySF (plainFor_of_name pn_0) hisR ?_
  intro p e s m args below meth c s₁ Bd hml0 hP hK
  obtain ⟨rfl, hZ, hh⟩ := hP
  have hx := Bd.exec
  have hby := Bd.bytes
  have hml : c.maxLocals = 1 := hml0
  have hown : s.vm.findClass cn_2 = some m.cls := findClass_of_methodNamed Bd.named
  have hnm := (name_of_methodNamed Bd.named Bd.method).1
  have X0 : Stand p l e rr_isp s m #[(.ref o0)] below meth c s₁ [] 0 0 := Stand.of_body Bd
  have e0 : s₁.heap = h0 := by rw [← hh, Bd.state]; rfl
  have N0 := Fr.nil n0
  obtain ⟨G, step, ret, fin⟩ := own_open (p := p) (l := l) (e := e) (R := rr_isp) (s := s) (m := m) (args := #[(.ref o0)]) (below := below) (meth := meth) (c := c) (rr_isp.cells) (rr_isp.slots) (Q_isp Z w_EMPTY o0 h0 n0) Bd.notSynchronized
  refine fin (g := entryFrame m #[(.ref o0)] 1) ?_
  rw [ef_isp m o0]
  show G s₁ (mkF m 0 #[.val (.ref o0)] [])
  refine step (fun t k => XS.aloadN X0.here hx rfl (hb hby d1_0) rfl rfl k) ?_
  show G s₁ (mkF m 1 #[.val (.ref o0)] [(.ref o0)])
  obtain ⟨T1, X1, e1, st1⟩ := getF X0 hx hZ hown (host := "") (Or.inl (ww37 hw)) Via.refl e0 Fv (g := (mkF m 1 #[.val (.ref o0)] [(.ref o0)])) rfl rfl (hb hby d1_1)
  refine step st1 ?_
  show G T1 (mkF m 4 #[.val (.ref o0)] [.null])
  refine step (fun t k => XS.ifnullYes X1.here hx rfl (pc0 := 4) (pc' := 11) rfl (hb hby d1_4) rfl (by decide) (by decide) k) ?_
  show G T1 (mkF m 11 #[.val (.ref o0)] [])
  refine step (fun t k => XS.iconst X1.here hx rfl (hb hby d1_11) k) ?_
  show G T1 (mkF m 12 #[.val (.ref o0)] [(.int 0)])
  exact ret (v := some (.int 0)) X1 (fun h => by rw [Bd.returns] at h; cases h) (fun fs hr => retN X1 hx (t := .boolean) Bd.returns (by simp) (hb hby d1_12) hr) e1 ⟨rfl, N0, rfl⟩ (by decide) (by decide)
theorem d2_0 : decode prog_54_method_3_code 0 = .ok (.aload_n 0, 1) := by decide +kernel
theorem d2_1 : decode prog_54_method_3_code 1 = .ok (.getfield 7, 3) := by decide +kernel
theorem ww12 {Z : State} {a0 : Array Value} (hw : ∀ d ∈ tables_1, d.before a0 Z = true) : Jvm.Cond.before (Jvm.Cond.fieldLink cn_0 (7 : Nat) cn_0 "version" cn_8) a0 Z = true := hw _ (List.mem_of_getElem? (i := 12) rfl)
theorem d2_4 : decode prog_54_method_3_code 4 = .ok (.invokestatic 29, 3) := by decide +kernel
theorem ww27 {Z : State} {a0 : Array Value} (hw : ∀ d ∈ tables_1, d.before a0 Z = true) : Jvm.Cond.before (Jvm.Cond.methodLink cn_0 (29 : Nat) ({ cls := cn_2, name := "ofNullable", desc := cn_10 } : Jvm.MethodName)) a0 Z = true := hw _ (List.mem_of_getElem? (i := 27) rfl)
theorem ww30 {Z : State} {a0 : Array Value} (hw : ∀ d ∈ tables_1, d.before a0 Z = true) : Jvm.Cond.before (Jvm.Cond.code ({ cls := cn_2, name := "ofNullable", desc := cn_10 } : Jvm.MethodName) jdk_32_method_4_code (1 : Nat) (Option.some (Jvm.ClassFile.FieldType.object cn_2))) a0 Z = true := hw _ (List.mem_of_getElem? (i := 30) rfl)
theorem pd_0 : parseMethodDescriptor cn_10 = some ⟨[(.object "java/lang/Object")], some (.object cn_2)⟩ := by decide +kernel
theorem ww28 {Z : State} {a0 : Array Value} (hw : ∀ d ∈ tables_1, d.before a0 Z = true) : Jvm.Cond.before (Jvm.Cond.static ({ cls := cn_2, name := "ofNullable", desc := cn_10 } : Jvm.MethodName)) a0 Z = true := hw _ (List.mem_of_getElem? (i := 28) rfl)
theorem d2_7 : decode prog_54_method_3_code 7 = .ok (.areturn, 1) := by decide +kernel
abbrev rr_get0 : Room := { frames := 1, cells := 0, slots := 0, locals := 12 }
abbrev y_2 : MethodName := ⟨cn_0, "version", cn_1⟩
theorem pn_1 : plainName cn_0 = true := by first | (simp [plainName, overriddenIn]; done) | decide +kernel
theorem ef_get0 (m : MethodId) (o0 : Addr) : entryFrame m #[(.ref o0)] 1 = mkF m 0 #[.val (.ref o0)] [] := by first | (simp [entryFrame, mkF, argsToLocals, Value.category]; done) | rfl
def f_get0 (w_EMPTY : Addr) (o0 : Addr) : Addr := w_EMPTY
def Q_get0 (Z : State) (w_EMPTY : Addr) (o0 : Addr) (h0 : Heap) (n0 : Nat) (v : Option Value) (h : Heap) (L : List Loc) : Prop := v = some (.ref (f_get0 w_EMPTY o0)) ∧ Fr n0 L ∧ h = h0
set_option maxRecDepth 65536 in
set_option maxHeartbeats 40000000 in
theorem rm_get0 (l : Launch) (Z : State) (a0 : Array Value) (hw : ∀ d ∈ tables_1, d.before a0 Z = true) (ws : List Jvm.Cond) (w_EMPTY : Addr) (o0 : Addr) (h0 : Heap) (n0 : Nat) (Z0 : n0 ≤ h0.size) (ST : own_St Z w_EMPTY) (O0 : Old Z n0 h0) (Fv : Fld Z h0 o0 cn_0 "version" cn_8 .null) :
    MetFree l y_2 (head1 (Jvm.Cond.code y_2 prog_54_method_3_code 1 (some (.object cn_2)) :: ws) rr_get0) (fun a U => a = #[(.ref o0)] ∧ Z.Warmed39 U.vm ∧ U.heap = h0) (fun _ _ _ _ _ => True) (fun _ U o U' => ∃ v L, o = .returned v ∧ Q_get0 Z w_EMPTY o0 h0 n0 v U'.heap L ∧ FrameEnd U o U' L rr_get0.cells rr_get0.slots) := by
  refine MetFree.of_bodySF (plainFor_of_name pn_1) hisR ?_
  intro p e s m args below meth c s₁ Bd hml0 hP hK
  obtain ⟨rfl, hZ, hh⟩ := hP
  have hx := Bd.exec
  have hby := Bd.bytes
  have hml : c.maxLocals = 1 := hml0
  have hown : s.vm.findClass cn_0 = some m.cls := findClass_of_methodNamed Bd.named
  have hnm := (name_of_methodNamed Bd.named Bd.method).1
  have X0 : Stand p l e rr_get0 s m #[(.ref o0)] below meth c s₁ [] 0 0 := Stand.of_body Bd
  have e0 : s₁.heap = h0 := by rw [← hh, Bd.state]; rfl
  have N0 := Fr.nil n0
  obtain ⟨G, step, ret, fin⟩ := own_open (p := p) (l := l) (e := e) (R := rr_get0) (s := s) (m := m) (args := #[(.ref o0)]) (below := below) (meth := meth) (c := c) (rr_get0.cells) (rr_get0.slots) (Q_get0 Z w_EMPTY o0 h0 n0) Bd.notSynchronized
  refine fin (g := entryFrame m #[(.ref o0)] 1) ?_
  rw [ef_get0 m o0]
  show G s₁ (mkF m 0 #[.val (.ref o0)] [])
  refine step (fun t k => XS.aloadN X0.here hx rfl (hb hby d2_0) rfl rfl k) ?_
  show G s₁ (mkF m 1 #[.val (.ref o0)] [(.ref o0)])
  obtain ⟨T1, X1, e1, st1⟩ := getF X0 hx hZ hown (host := "") (Or.inl (ww12 hw)) Via.refl e0 Fv (g := (mkF m 1 #[.val (.ref o0)] [(.ref o0)])) rfl rfl (hb hby d2_1)
  refine step st1 ?_
  show G T1 (mkF m 4 #[.val (.ref o0)] [.null])
  obtain ⟨_, _, ⟨T2, L2, k2, n2⟩, -, X2, ⟨Lc2, hQ2, l2, y2, z2⟩, st2⟩ := Jvm.LawKit.callS X1 hx (y := y_0) hown (mvT hZ (ww27 hw)) (mvT hZ (ww28 hw)) (mvT hZ (ww29 hw)) (mvT hZ (ww30 hw)) (by decide) (backOf (W := 0) (rm_ofn l Z a0 hw [] w_EMPTY h0 n0 (own_old_le O0) ST O0) hZ (ww30 hw) (ww29 hw) (by decide) (by decide)) (g := (mkF m 4 #[.val (.ref o0)] [.null])) rfl (by rw [hml]; rfl) (argsL := [.null]) (rest := []) (lenOf pd_0 rfl) rfl (by show 2 * 0 + _ ≤ _; exact Nat.le_of_eq rfl) (hb hby d2_4) (fun _ _ => ⟨rfl, e1, (by decide : 0 + 0 ≤ _), (by decide : 0 + 0 ≤ _)⟩)
  dsimp only [Pt.U, Pt.locs, Pt.cells, Pt.slots] at X2 l2 y2 z2 st2 hQ2
  subst l2 y2 z2
  obtain ⟨rfl, N2q, e2⟩ := hQ2
  have N2 := Fr.app N0 N2q
  refine step (fun t k => st2 t k) ?_
  show G T2 (mkF m 7 #[.val (.ref o0)] [(.ref (f_ofn w_EMPTY))])
  have r3 : (f_ofn w_EMPTY) = w_EMPTY := rfl
  rw [r3]
  show G T2 (mkF m 7 #[.val (.ref o0)] [(.ref w_EMPTY)])
  exact ret (v := some (.ref w_EMPTY)) X2 (fun h => by rw [Bd.returns] at h; cases h) (fun fs hr => retA X2 hx Bd.returns rfl rfl (hb hby d2_7) hr) e2 ⟨rfl, N2, rfl⟩ (by decide) (by decide)
theorem d3_0 : decode prog_54_method_4_code 0 = .ok (.aload_n 0, 1) := by decide +kernel
theorem d3_1 : decode prog_54_method_4_code 1 = .ok (.getfield 13, 3) := by decide +kernel
theorem ww14 {Z : State} {a0 : Array Value} (hw : ∀ d ∈ tables_1, d.before a0 Z = true) : Jvm.Cond.before (Jvm.Cond.fieldLink cn_0 (13 : Nat) cn_0 "messageIdentifier" cn_6) a0 Z = true := hw _ (List.mem_of_getElem? (i := 14) rfl)
theorem d3_4 : decode prog_54_method_4_code 4 = .ok (.invokestatic 29, 3) := by decide +kernel
theorem d3_7 : decode prog_54_method_4_code 7 = .ok (.areturn, 1) := by decide +kernel
abbrev rr_get1 : Room := { frames := 1, cells := 0, slots := 0, locals := 12 }
abbrev y_3 : MethodName := ⟨cn_0, "messageIdentifier", cn_1⟩
theorem ef_get1 (m : MethodId) (o0 : Addr) : entryFrame m #[(.ref o0)] 1 = mkF m 0 #[.val (.ref o0)] [] := by first | (simp [entryFrame, mkF, argsToLocals, Value.category]; done) | rfl
def f_get1 (w_EMPTY : Addr) (o0 : Addr) : Addr := w_EMPTY
def Q_get1 (Z : State) (w_EMPTY : Addr) (o0 : Addr) (h0 : Heap) (n0 : Nat) (v : Option Value) (h : Heap) (L : List Loc) : Prop := v = some (.ref (f_get1 w_EMPTY o0)) ∧ Fr n0 L ∧ h = h0
set_option maxRecDepth 65536 in
set_option maxHeartbeats 40000000 in
theorem rm_get1 (l : Launch) (Z : State) (a0 : Array Value) (hw : ∀ d ∈ tables_1, d.before a0 Z = true) (ws : List Jvm.Cond) (w_EMPTY : Addr) (o0 : Addr) (h0 : Heap) (n0 : Nat) (Z0 : n0 ≤ h0.size) (ST : own_St Z w_EMPTY) (O0 : Old Z n0 h0) (Fv : Fld Z h0 o0 cn_0 "messageIdentifier" cn_6 .null) :
    MetFree l y_3 (head1 (Jvm.Cond.code y_3 prog_54_method_4_code 1 (some (.object cn_2)) :: ws) rr_get1) (fun a U => a = #[(.ref o0)] ∧ Z.Warmed39 U.vm ∧ U.heap = h0) (fun _ _ _ _ _ => True) (fun _ U o U' => ∃ v L, o = .returned v ∧ Q_get1 Z w_EMPTY o0 h0 n0 v U'.heap L ∧ FrameEnd U o U' L rr_get1.cells rr_get1.slots) := by
  refine MetFree.of_bodySF (plainFor_of_name pn_1) hisR ?_
  intro p e s m args below meth c s₁ Bd hml0 hP hK
  obtain ⟨rfl, hZ, hh⟩ := hP
  have hx := Bd.exec
  have hby := Bd.bytes
  have hml : c.maxLocals = 1 := hml0
  have hown : s.vm.findClass cn_0 = some m.cls := findClass_of_methodNamed Bd.named
  have hnm := (name_of_methodNamed Bd.named Bd.method).1
  have X0 : Stand p l e rr_get1 s m #[(.ref o0)] below meth c s₁ [] 0 0 := Stand.of_body Bd
  have e0 : s₁.heap = h0 := by rw [← hh, Bd.state]; rfl
  have N0 := Fr.nil n0
  obtain ⟨G, step, ret, fin⟩ := own_open (p := p) (l := l) (e := e) (R := rr_get1) (s := s) (m := m) (args := #[(.ref o0)]) (below := below) (meth := meth) (c := c) (rr_get1.cells) (rr_get1.slots) (Q_get1 Z w_EMPTY o0 h0 n0) Bd.notSynchronized
  refine fin (g := entryFrame m #[(.ref o0)] 1) ?_
  rw [ef_get1 m o0]
  show G s₁ (mkF m 0 #[.val (.ref o0)] [])
  refine step (fun t k => XS.aloadN X0.here hx rfl (hb hby d3_0) rfl rfl k) ?_
  show G s₁ (mkF m 1 #[.val (.ref o0)] [(.ref o0)])
  obtain ⟨T1, X1, e1, st1⟩ := getF X0 hx hZ hown (host := "") (Or.inl (ww14 hw)) Via.refl e0 Fv (g := (mkF m 1 #[.val (.ref o0)] [(.ref o0)])) rfl rfl (hb hby d3_1)
  refine step st1 ?_
  show G T1 (mkF m 4 #[.val (.ref o0)] [.null])
  obtain ⟨_, _, ⟨T2, L2, k2, n2⟩, -, X2, ⟨Lc2, hQ2, l2, y2, z2⟩, st2⟩ := Jvm.LawKit.callS X1 hx (y := y_0) hown (mvT hZ (ww27 hw)) (mvT hZ (ww28 hw)) (mvT hZ (ww29 hw)) (mvT hZ (ww30 hw)) (by decide) (backOf (W := 0) (rm_ofn l Z a0 hw [] w_EMPTY h0 n0 (own_old_le O0) ST O0) hZ (ww30 hw) (ww29 hw) (by decide) (by decide)) (g := (mkF m 4 #[.val (.ref o0)] [.null])) rfl (by rw [hml]; rfl) (argsL := [.null]) (rest := []) (lenOf pd_0 rfl) rfl (by show 2 * 0 + _ ≤ _; exact Nat.le_of_eq rfl) (hb hby d3_4) (fun _ _ => ⟨rfl, e1, (by decide : 0 + 0 ≤ _), (by decide : 0 + 0 ≤ _)⟩)
  dsimp only [Pt.U, Pt.locs, Pt.cells, Pt.slots] at X2 l2 y2 z2 st2 hQ2
  subst l2 y2 z2
  obtain ⟨rfl, N2q, e2⟩ := hQ2
  have N2 := Fr.app N0 N2q
  refine step (fun t k => st2 t k) ?_
  show G T2 (mkF m 7 #[.val (.ref o0)] [(.ref (f_ofn w_EMPTY))])
  have r3 : (f_ofn w_EMPTY) = w_EMPTY := rfl
  rw [r3]
  show G T2 (mkF m 7 #[.val (.ref o0)] [(.ref w_EMPTY)])
  exact ret (v := some (.ref w_EMPTY)) X2 (fun h => by rw [Bd.returns] at h; cases h) (fun fs hr => retA X2 hx Bd.returns rfl rfl (hb hby d3_7) hr) e2 ⟨rfl, N2, rfl⟩ (by decide) (by decide)
theorem d4_0 : decode prog_54_method_5_code 0 = .ok (.aload_n 0, 1) := by decide +kernel
theorem d4_1 : decode prog_54_method_5_code 1 = .ok (.getfield 17, 3) := by decide +kernel
theorem ww16 {Z : State} {a0 : Array Value} (hw : ∀ d ∈ tables_1, d.before a0 Z = true) : Jvm.Cond.before (Jvm.Cond.fieldLink cn_0 (17 : Nat) cn_0 "archivalAgreement" cn_6) a0 Z = true := hw _ (List.mem_of_getElem? (i := 16) rfl)
theorem d4_4 : decode prog_54_method_5_code 4 = .ok (.invokestatic 29, 3) := by decide +kernel
theorem d4_7 : decode prog_54_method_5_code 7 = .ok (.areturn, 1) := by decide +kernel
abbrev rr_get2 : Room := { frames := 1, cells := 0, slots := 0, locals := 12 }
abbrev y_4 : MethodName := ⟨cn_0, "archivalAgreement", cn_1⟩
theorem ef_get2 (m : MethodId) (o0 : Addr) : entryFrame m #[(.ref o0)] 1 = mkF m 0 #[.val (.ref o0)] [] := by first | (simp [entryFrame, mkF, argsToLocals, Value.category]; done) | rfl
def f_get2 (w_EMPTY : Addr) (o0 : Addr) : Addr := w_EMPTY
def Q_get2 (Z : State) (w_EMPTY : Addr) (o0 : Addr) (h0 : Heap) (n0 : Nat) (v : Option Value) (h : Heap) (L : List Loc) : Prop := v = some (.ref (f_get2 w_EMPTY o0)) ∧ Fr n0 L ∧ h = h0
set_option maxRecDepth 65536 in
set_option maxHeartbeats 40000000 in
theorem rm_get2 (l : Launch) (Z : State) (a0 : Array Value) (hw : ∀ d ∈ tables_1, d.before a0 Z = true) (ws : List Jvm.Cond) (w_EMPTY : Addr) (o0 : Addr) (h0 : Heap) (n0 : Nat) (Z0 : n0 ≤ h0.size) (ST : own_St Z w_EMPTY) (O0 : Old Z n0 h0) (Fv : Fld Z h0 o0 cn_0 "archivalAgreement" cn_6 .null) :
    MetFree l y_4 (head1 (Jvm.Cond.code y_4 prog_54_method_5_code 1 (some (.object cn_2)) :: ws) rr_get2) (fun a U => a = #[(.ref o0)] ∧ Z.Warmed39 U.vm ∧ U.heap = h0) (fun _ _ _ _ _ => True) (fun _ U o U' => ∃ v L, o = .returned v ∧ Q_get2 Z w_EMPTY o0 h0 n0 v U'.heap L ∧ FrameEnd U o U' L rr_get2.cells rr_get2.slots) := by
  refine MetFree.of_bodySF (plainFor_of_name pn_1) hisR ?_
  intro p e s m args below meth c s₁ Bd hml0 hP hK
  obtain ⟨rfl, hZ, hh⟩ := hP
  have hx := Bd.exec
  have hby := Bd.bytes
  have hml : c.maxLocals = 1 := hml0
  have hown : s.vm.findClass cn_0 = some m.cls := findClass_of_methodNamed Bd.named
  have hnm := (name_of_methodNamed Bd.named Bd.method).1
  have X0 : Stand p l e rr_get2 s m #[(.ref o0)] below meth c s₁ [] 0 0 := Stand.of_body Bd
  have e0 : s₁.heap = h0 := by rw [← hh, Bd.state]; rfl
  have N0 := Fr.nil n0
  obtain ⟨G, step, ret, fin⟩ := own_open (p := p) (l := l) (e := e) (R := rr_get2) (s := s) (m := m) (args := #[(.ref o0)]) (below := below) (meth := meth) (c := c) (rr_get2.cells) (rr_get2.slots) (Q_get2 Z w_EMPTY o0 h0 n0) Bd.notSynchronized
  refine fin (g := entryFrame m #[(.ref o0)] 1) ?_
  rw [ef_get2 m o0]
  show G s₁ (mkF m 0 #[.val (.ref o0)] [])
  refine step (fun t k => XS.aloadN X0.here hx rfl (hb hby d4_0) rfl rfl k) ?_
  show G s₁ (mkF m 1 #[.val (.ref o0)] [(.ref o0)])
  obtain ⟨T1, X1, e1, st1⟩ := getF X0 hx hZ hown (host := "") (Or.inl (ww16 hw)) Via.refl e0 Fv (g := (mkF m 1 #[.val (.ref o0)] [(.ref o0)])) rfl rfl (hb hby d4_1)
  refine step st1 ?_
  show G T1 (mkF m 4 #[.val (.ref o0)] [.null])
  obtain ⟨_, _, ⟨T2, L2, k2, n2⟩, -, X2, ⟨Lc2, hQ2, l2, y2, z2⟩, st2⟩ := Jvm.LawKit.callS X1 hx (y := y_0) hown (mvT hZ (ww27 hw)) (mvT hZ (ww28 hw)) (mvT hZ (ww29 hw)) (mvT hZ (ww30 hw)) (by decide) (backOf (W := 0) (rm_ofn l Z a0 hw [] w_EMPTY h0 n0 (own_old_le O0) ST O0) hZ (ww30 hw) (ww29 hw) (by decide) (by decide)) (g := (mkF m 4 #[.val (.ref o0)] [.null])) rfl (by rw [hml]; rfl) (argsL := [.null]) (rest := []) (lenOf pd_0 rfl) rfl (by show 2 * 0 + _ ≤ _; exact Nat.le_of_eq rfl) (hb hby d4_4) (fun _ _ => ⟨rfl, e1, (by decide : 0 + 0 ≤ _), (by decide : 0 + 0 ≤ _)⟩)
  dsimp only [Pt.U, Pt.locs, Pt.cells, Pt.slots] at X2 l2 y2 z2 st2 hQ2
  subst l2 y2 z2
  obtain ⟨rfl, N2q, e2⟩ := hQ2
  have N2 := Fr.app N0 N2q
  refine step (fun t k => st2 t k) ?_
  show G T2 (mkF m 7 #[.val (.ref o0)] [(.ref (f_ofn w_EMPTY))])
  have r3 : (f_ofn w_EMPTY) = w_EMPTY := rfl
  rw [r3]
  show G T2 (mkF m 7 #[.val (.ref o0)] [(.ref w_EMPTY)])
  exact ret (v := some (.ref w_EMPTY)) X2 (fun h => by rw [Bd.returns] at h; cases h) (fun fs hr => retA X2 hx Bd.returns rfl rfl (hb hby d4_7) hr) e2 ⟨rfl, N2, rfl⟩ (by decide) (by decide)
theorem d5_0 : decode prog_54_method_6_code 0 = .ok (.aload_n 0, 1) := by decide +kernel
theorem d5_1 : decode prog_54_method_6_code 1 = .ok (.getfield 20, 3) := by decide +kernel
theorem ww18 {Z : State} {a0 : Array Value} (hw : ∀ d ∈ tables_1, d.before a0 Z = true) : Jvm.Cond.before (Jvm.Cond.fieldLink cn_0 (20 : Nat) cn_0 "archivalAgency" cn_6) a0 Z = true := hw _ (List.mem_of_getElem? (i := 18) rfl)
theorem d5_4 : decode prog_54_method_6_code 4 = .ok (.invokestatic 29, 3) := by decide +kernel
theorem d5_7 : decode prog_54_method_6_code 7 = .ok (.areturn, 1) := by decide +kernel
abbrev rr_get3 : Room := { frames := 1, cells := 0, slots := 0, locals := 12 }
abbrev y_5 : MethodName := ⟨cn_0, "archivalAgency", cn_1⟩
theorem ef_get3 (m : MethodId) (o0 : Addr) : entryFrame m #[(.ref o0)] 1 = mkF m 0 #[.val (.ref o0)] [] := by first | (simp [entryFrame, mkF, argsToLocals, Value.category]; done) | rfl
def f_get3 (w_EMPTY : Addr) (o0 : Addr) : Addr := w_EMPTY
def Q_get3 (Z : State) (w_EMPTY : Addr) (o0 : Addr) (h0 : Heap) (n0 : Nat) (v : Option Value) (h : Heap) (L : List Loc) : Prop := v = some (.ref (f_get3 w_EMPTY o0)) ∧ Fr n0 L ∧ h = h0
set_option maxRecDepth 65536 in
set_option maxHeartbeats 40000000 in
theorem rm_get3 (l : Launch) (Z : State) (a0 : Array Value) (hw : ∀ d ∈ tables_1, d.before a0 Z = true) (ws : List Jvm.Cond) (w_EMPTY : Addr) (o0 : Addr) (h0 : Heap) (n0 : Nat) (Z0 : n0 ≤ h0.size) (ST : own_St Z w_EMPTY) (O0 : Old Z n0 h0) (Fv : Fld Z h0 o0 cn_0 "archivalAgency" cn_6 .null) :
    MetFree l y_5 (head1 (Jvm.Cond.code y_5 prog_54_method_6_code 1 (some (.object cn_2)) :: ws) rr_get3) (fun a U => a = #[(.ref o0)] ∧ Z.Warmed39 U.vm ∧ U.heap = h0) (fun _ _ _ _ _ => True) (fun _ U o U' => ∃ v L, o = .returned v ∧ Q_get3 Z w_EMPTY o0 h0 n0 v U'.heap L ∧ FrameEnd U o U' L rr_get3.cells rr_get3.slots) := by
  refine MetFree.of_bodySF (plainFor_of_name pn_1) hisR ?_
  intro p e s m args below meth c s₁ Bd hml0 hP hK
  obtain ⟨rfl, hZ, hh⟩ := hP
  have hx := Bd.exec
  have hby := Bd.bytes
  have hml : c.maxLocals = 1 := hml0
  have hown : s.vm.findClass cn_0 = some m.cls := findClass_of_methodNamed Bd.named
  have hnm := (name_of_methodNamed Bd.named Bd.method).1
  have X0 : Stand p l e rr_get3 s m #[(.ref o0)] below meth c s₁ [] 0 0 := Stand.of_body Bd
  have e0 : s₁.heap = h0 := by rw [← hh, Bd.state]; rfl
  have N0 := Fr.nil n0
  obtain ⟨G, step, ret, fin⟩ := own_open (p := p) (l := l) (e := e) (R := rr_get3) (s := s) (m := m) (args := #[(.ref o0)]) (below := below) (meth := meth) (c := c) (rr_get3.cells) (rr_get3.slots) (Q_get3 Z w_EMPTY o0 h0 n0) Bd.notSynchronized
  refine fin (g := entryFrame m #[(.ref o0)] 1) ?_
  rw [ef_get3 m o0]
  show G s₁ (mkF m 0 #[.val (.ref o0)] [])
  refine step (fun t k => XS.aloadN X0.here hx rfl (hb hby d5_0) rfl rfl k) ?_
  show G s₁ (mkF m 1 #[.val (.ref o0)] [(.ref o0)])
  obtain ⟨T1, X1, e1, st1⟩ := getF X0 hx hZ hown (host := "") (Or.inl (ww18 hw)) Via.refl e0 Fv (g := (mkF m 1 #[.val (.ref o0)] [(.ref o0)])) rfl rfl (hb hby d5_1)
  refine step st1 ?_
  show G T1 (mkF m 4 #[.val (.ref o0)] [.null])
  obtain ⟨_, _, ⟨T2, L2, k2, n2⟩, -, X2, ⟨Lc2, hQ2, l2, y2, z2⟩, st2⟩ := Jvm.LawKit.callS X1 hx (y := y_0) hown (mvT hZ (ww27 hw)) (mvT hZ (ww28 hw)) (mvT hZ (ww29 hw)) (mvT hZ (ww30 hw)) (by decide) (backOf (W := 0) (rm_ofn l Z a0 hw [] w_EMPTY h0 n0 (own_old_le O0) ST O0) hZ (ww30 hw) (ww29 hw) (by decide) (by decide)) (g := (mkF m 4 #[.val (.ref o0)] [.null])) rfl (by rw [hml]; rfl) (argsL := [.null]) (rest := []) (lenOf pd_0 rfl) rfl (by show 2 * 0 + _ ≤ _; exact Nat.le_of_eq rfl) (hb hby d5_4) (fun _ _ => ⟨rfl, e1, (by decide : 0 + 0 ≤ _), (by decide : 0 + 0 ≤ _)⟩)
  dsimp only [Pt.U, Pt.locs, Pt.cells, Pt.slots] at X2 l2 y2 z2 st2 hQ2
  subst l2 y2 z2
  obtain ⟨rfl, N2q, e2⟩ := hQ2
  have N2 := Fr.app N0 N2q
  refine step (fun t k => st2 t k) ?_
  show G T2 (mkF m 7 #[.val (.ref o0)] [(.ref (f_ofn w_EMPTY))])
  have r3 : (f_ofn w_EMPTY) = w_EMPTY := rfl
  rw [r3]
  show G T2 (mkF m 7 #[.val (.ref o0)] [(.ref w_EMPTY)])
  exact ret (v := some (.ref w_EMPTY)) X2 (fun h => by rw [Bd.returns] at h; cases h) (fun fs hr => retA X2 hx Bd.returns rfl rfl (hb hby d5_7) hr) e2 ⟨rfl, N2, rfl⟩ (by decide) (by decide)
theorem d6_0 : decode prog_54_method_7_code 0 = .ok (.aload_n 0, 1) := by decide +kernel
theorem d6_1 : decode prog_54_method_7_code 1 = .ok (.getfield 23, 3) := by decide +kernel
theorem ww20 {Z : State} {a0 : Array Value} (hw : ∀ d ∈ tables_1, d.before a0 Z = true) : Jvm.Cond.before (Jvm.Cond.fieldLink cn_0 (23 : Nat) cn_0 "transferringAgency" cn_6) a0 Z = true := hw _ (List.mem_of_getElem? (i := 20) rfl)
theorem d6_4 : decode prog_54_method_7_code 4 = .ok (.invokestatic 29, 3) := by decide +kernel
theorem d6_7 : decode prog_54_method_7_code 7 = .ok (.areturn, 1) := by decide +kernel
abbrev rr_get4 : Room := { frames := 1, cells := 0, slots := 0, locals := 12 }
abbrev y_6 : MethodName := ⟨cn_0, "transferringAgency", cn_1⟩
theorem ef_get4 (m : MethodId) (o0 : Addr) : entryFrame m #[(.ref o0)] 1 = mkF m 0 #[.val (.ref o0)] [] := by first | (simp [entryFrame, mkF, argsToLocals, Value.category]; done) | rfl
def f_get4 (w_EMPTY : Addr) (o0 : Addr) : Addr := w_EMPTY
def Q_get4 (Z : State) (w_EMPTY : Addr) (o0 : Addr) (h0 : Heap) (n0 : Nat) (v : Option Value) (h : Heap) (L : List Loc) : Prop := v = some (.ref (f_get4 w_EMPTY o0)) ∧ Fr n0 L ∧ h = h0
set_option maxRecDepth 65536 in
set_option maxHeartbeats 40000000 in
theorem rm_get4 (l : Launch) (Z : State) (a0 : Array Value) (hw : ∀ d ∈ tables_1, d.before a0 Z = true) (ws : List Jvm.Cond) (w_EMPTY : Addr) (o0 : Addr) (h0 : Heap) (n0 : Nat) (Z0 : n0 ≤ h0.size) (ST : own_St Z w_EMPTY) (O0 : Old Z n0 h0) (Fv : Fld Z h0 o0 cn_0 "transferringAgency" cn_6 .null) :
    MetFree l y_6 (head1 (Jvm.Cond.code y_6 prog_54_method_7_code 1 (some (.object cn_2)) :: ws) rr_get4) (fun a U => a = #[(.ref o0)] ∧ Z.Warmed39 U.vm ∧ U.heap = h0) (fun _ _ _ _ _ => True) (fun _ U o U' => ∃ v L, o = .returned v ∧ Q_get4 Z w_EMPTY o0 h0 n0 v U'.heap L ∧ FrameEnd U o U' L rr_get4.cells rr_get4.slots) := by
  refine MetFree.of_bodySF (plainFor_of_name pn_1) hisR ?_
  intro p e s m args below meth c s₁ Bd hml0 hP hK
  obtain ⟨rfl, hZ, hh⟩ := hP
  have hx := Bd.exec
  have hby := Bd.bytes
  have hml : c.maxLocals = 1 := hml0
  have hown : s.vm.findClass cn_0 = some m.cls := findClass_of_methodNamed Bd.named
  have hnm := (name_of_methodNamed Bd.named Bd.method).1
  have X0 : Stand p l e rr_get4 s m #[(.ref o0)] below meth c s₁ [] 0 0 := Stand.of_body Bd
  have e0 : s₁.heap = h0 := by rw [← hh, Bd.state]; rfl
  have N0 := Fr.nil n0
  obtain ⟨G, step, ret, fin⟩ := own_open (p := p) (l := l) (e := e) (R := rr_get4) (s := s) (m := m) (args := #[(.ref o0)]) (below := below) (meth := meth) (c := c) (rr_get4.cells) (rr_get4.slots) (Q_get4 Z w_EMPTY o0 h0 n0) Bd.notSynchronized
  refine fin (g := entryFrame m #[(.ref o0)] 1) ?_
  rw [ef_get4 m o0]
  show G s₁ (mkF m 0 #[.val (.ref o0)] [])
  refine step (fun t k => XS.aloadN X0.here hx rfl (hb hby d6_0) rfl rfl k) ?_
  show G s₁ (mkF m 1 #[.val (.ref o0)] [(.ref o0)])
  obtain ⟨T1, X1, e1, st1⟩ := getF X0 hx hZ hown (host := "") (Or.inl (ww20 hw)) Via.refl e0 Fv (g := (mkF m 1 #[.val (.ref o0)] [(.ref o0)])) rfl rfl (hb hby d6_1)
  refine step st1 ?_
  show G T1 (mkF m 4 #[.val (.ref o0)] [.null])
  obtain ⟨_, _, ⟨T2, L2, k2, n2⟩, -, X2, ⟨Lc2, hQ2, l2, y2, z2⟩, st2⟩ := Jvm.LawKit.callS X1 hx (y := y_0) hown (mvT hZ (ww27 hw)) (mvT hZ (ww28 hw)) (mvT hZ (ww29 hw)) (mvT hZ (ww30 hw)) (by decide) (backOf (W := 0) (rm_ofn l Z a0 hw [] w_EMPTY h0 n0 (own_old_le O0) ST O0) hZ (ww30 hw) (ww29 hw) (by decide) (by decide)) (g := (mkF m 4 #[.val (.ref o0)] [.null])) rfl (by rw [hml]; rfl) (argsL := [.null]) (rest := []) (lenOf pd_0 rfl) rfl (by show 2 * 0 + _ ≤ _; exact Nat.le_of_eq rfl) (hb hby d6_4) (fun _ _ => ⟨rfl, e1, (by decide : 0 + 0 ≤ _), (by decide : 0 + 0 ≤ _)⟩)
  dsimp only [Pt.U, Pt.locs, Pt.cells, Pt.slots] at X2 l2 y2 z2 st2 hQ2
  subst l2 y2 z2
  obtain ⟨rfl, N2q, e2⟩ := hQ2
  have N2 := Fr.app N0 N2q
  refine step (fun t k => st2 t k) ?_
  show G T2 (mkF m 7 #[.val (.ref o0)] [(.ref (f_ofn w_EMPTY))])
  have r3 : (f_ofn w_EMPTY) = w_EMPTY := rfl
  rw [r3]
  show G T2 (mkF m 7 #[.val (.ref o0)] [(.ref w_EMPTY)])
  exact ret (v := some (.ref w_EMPTY)) X2 (fun h => by rw [Bd.returns] at h; cases h) (fun fs hr => retA X2 hx Bd.returns rfl rfl (hb hby d6_7) hr) e2 ⟨rfl, N2, rfl⟩ (by decide) (by decide)
theorem d7_0 : decode prog_54_method_1_code 0 = .ok (.aload_n 0, 1) := by decide +kernel
theorem d7_1 : decode prog_54_method_1_code 1 = .ok (.invokespecial 1, 3) := by decide +kernel
theorem ww9 {Z : State} {a0 : Array Value} (hw : ∀ d ∈ tables_1, d.before a0 Z = true) : Jvm.Cond.before (Jvm.Cond.methodLink cn_0 (1 : Nat) ({ cls := "java/lang/Object", name := "<init>", desc := "()V" } : Jvm.MethodName)) a0 Z = true := hw _ (List.mem_of_getElem? (i := 9) rfl)
theorem ww10 {Z : State} {a0 : Array Value} (hw : ∀ d ∈ tables_1, d.before a0 Z = true) : Jvm.Cond.before (Jvm.Cond.instanceMethod ({ cls := "java/lang/Object", name := "<init>", desc := "()V" } : Jvm.MethodName)) a0 Z = true := hw _ (List.mem_of_getElem? (i := 10) rfl)
theorem ww11 {Z : State} {a0 : Array Value} (hw : ∀ d ∈ tables_1, d.before a0 Z = true) : Jvm.Cond.before (Jvm.Cond.code ({ cls := "java/lang/Object", name := "<init>", desc := "()V" } : Jvm.MethodName) object_method_1_code (1 : Nat) (Option.none : Option Jvm.ClassFile.FieldType)) a0 Z = true := hw _ (List.mem_of_getElem? (i := 11) rfl)
theorem d7_4 : decode prog_54_method_1_code 4 = .ok (.aload_n 0, 1) := by decide +kernel
theorem d7_5 : decode prog_54_method_1_code 5 = .ok (.aload_n 1, 1) := by decide +kernel
theorem d7_6 : decode prog_54_method_1_code 6 = .ok (.putfield 7, 3) := by decide +kernel
theorem ww13 {Z : State} {a0 : Array Value} (hw : ∀ d ∈ tables_1, d.before a0 Z = true) : Jvm.Cond.before (Jvm.Cond.laysFinal cn_0 cn_0 "version" cn_8) a0 Z = true := hw _ (List.mem_of_getElem? (i := 13) rfl)
theorem ww5 {Z : State} {a0 : Array Value} (hw : ∀ d ∈ tables_1, d.before a0 Z = true) : Jvm.Cond.before (Jvm.Cond.instantiable cn_0 (5 : Nat)) a0 Z = true := hw _ (List.mem_of_getElem? (i := 5) rfl)
theorem d7_9 : decode prog_54_method_1_code 9 = .ok (.aload_n 0, 1) := by decide +kernel
theorem d7_10 : decode prog_54_method_1_code 10 = .ok (.aload_n 2, 1) := by decide +kernel
theorem d7_11 : decode prog_54_method_1_code 11 = .ok (.putfield 13, 3) := by decide +kernel
theorem ww15 {Z : State} {a0 : Array Value} (hw : ∀ d ∈ tables_1, d.before a0 Z = true) : Jvm.Cond.before (Jvm.Cond.laysFinal cn_0 cn_0 "messageIdentifier" cn_6) a0 Z = true := hw _ (List.mem_of_getElem? (i := 15) rfl)
theorem d7_14 : decode prog_54_method_1_code 14 = .ok (.aload_n 0, 1) := by decide +kernel
theorem d7_15 : decode prog_54_method_1_code 15 = .ok (.aload_n 3, 1) := by decide +kernel
theorem d7_16 : decode prog_54_method_1_code 16 = .ok (.putfield 17, 3) := by decide +kernel
theorem ww17 {Z : State} {a0 : Array Value} (hw : ∀ d ∈ tables_1, d.before a0 Z = true) : Jvm.Cond.before (Jvm.Cond.laysFinal cn_0 cn_0 "archivalAgreement" cn_6) a0 Z = true := hw _ (List.mem_of_getElem? (i := 17) rfl)
theorem d7_19 : decode prog_54_method_1_code 19 = .ok (.aload_n 0, 1) := by decide +kernel
theorem d7_20 : decode prog_54_method_1_code 20 = .ok (.aload 4, 2) := by decide +kernel
theorem d7_22 : decode prog_54_method_1_code 22 = .ok (.putfield 20, 3) := by decide +kernel
theorem ww19 {Z : State} {a0 : Array Value} (hw : ∀ d ∈ tables_1, d.before a0 Z = true) : Jvm.Cond.before (Jvm.Cond.laysFinal cn_0 cn_0 "archivalAgency" cn_6) a0 Z = true := hw _ (List.mem_of_getElem? (i := 19) rfl)
theorem d7_25 : decode prog_54_method_1_code 25 = .ok (.aload_n 0, 1) := by decide +kernel
theorem d7_26 : decode prog_54_method_1_code 26 = .ok (.aload 5, 2) := by decide +kernel
theorem d7_28 : decode prog_54_method_1_code 28 = .ok (.putfield 23, 3) := by decide +kernel
theorem ww21 {Z : State} {a0 : Array Value} (hw : ∀ d ∈ tables_1, d.before a0 Z = true) : Jvm.Cond.before (Jvm.Cond.laysFinal cn_0 cn_0 "transferringAgency" cn_6) a0 Z = true := hw _ (List.mem_of_getElem? (i := 21) rfl)
theorem d7_31 : decode prog_54_method_1_code 31 = .ok (.return_, 1) := by decide +kernel
abbrev rr_init : Room := { frames := 1, cells := 0, slots := 0, locals := 12 }
abbrev y_7 : MethodName := ⟨cn_0, "<init>", cn_5⟩
theorem ef_init (m : MethodId) (o0 : Addr) : entryFrame m #[(.ref o0), .null, .null, .null, .null, .null] 6 = mkF m 0 #[.val (.ref o0), .val .null, .val .null, .val .null, .val .null, .val .null] [] := by first | (simp [entryFrame, mkF, argsToLocals, Value.category]; done) | rfl
def Q_init (Z : State) (w_EMPTY : Addr) (o0 : Addr) (h0 : Heap) (n0 : Nat) (v : Option Value) (h : Heap) (L : List Loc) : Prop := v = none ∧ Fr n0 L ∧ Keep h0 h [o0] ∧ Exa Z h o0 cn_0 ∧ Fld Z h o0 cn_0 "version" cn_8 .null ∧ Fld Z h o0 cn_0 "messageIdentifier" cn_6 .null ∧ Fld Z h o0 cn_0 "archivalAgreement" cn_6 .null ∧ Fld Z h o0 cn_0 "archivalAgency" cn_6 .null ∧ Fld Z h o0 cn_0 "transferringAgency" cn_6 .null
set_option maxRecDepth 65536 in
set_option maxHeartbeats 40000000 in
theorem rm_init (l : Launch) (Z : State) (a0 : Array Value) (hw : ∀ d ∈ tables_1, d.before a0 Z = true) (ws : List Jvm.Cond) (w_EMPTY : Addr) (o0 : Addr) (h0 : Heap) (n0 : Nat) (Z0 : n0 ≤ h0.size) (ST : own_St Z w_EMPTY) (O0 : Old Z n0 h0) (Ex : Exa Z h0 o0 cn_0) (geo : n0 ≤ o0) (Fo0 : Fld Z h0 o0 cn_0 "version" cn_8 .null) (Fo1 : Fld Z h0 o0 cn_0 "messageIdentifier" cn_6 .null) (Fo2 : Fld Z h0 o0 cn_0 "archivalAgreement" cn_6 .null) (Fo3 : Fld Z h0 o0 cn_0 "archivalAgency" cn_6 .null) (Fo4 : Fld Z h0 o0 cn_0 "transferringAgency" cn_6 .null) :
    MetFree l y_7 (head1 (Jvm.Cond.code y_7 prog_54_method_1_code 6 none :: ws) rr_init) (fun a U => a = #[(.ref o0), .null, .null, .null, .null, .null] ∧ Z.Warmed39 U.vm ∧ U.heap = h0) (fun _ _ _ _ _ => True) (fun _ U o U' => ∃ v L, o = .returned v ∧ Q_init Z w_EMPTY o0 h0 n0 v U'.heap L ∧ FrameEnd U o U' L rr_init.cells rr_init.slots) := by
  refine MetFree.of_bodySF (plainFor_of_name pn_1) hisR ?_
  intro p e s m args below meth c s₁ Bd hml0 hP hK
  obtain ⟨rfl, hZ, hh⟩ := hP
  have hx := Bd.exec
  have hby := Bd.bytes
  have hml : c.maxLocals = 6 := hml0
  have hown : s.vm.findClass cn_0 = some m.cls := findClass_of_methodNamed Bd.named
  have hnm := (name_of_methodNamed Bd.named Bd.method).1
  have X0 : Stand p l e rr_init s m #[(.ref o0), .null, .null, .null, .null, .null] below meth c s₁ [] 0 0 := Stand.of_body Bd
  have e0 : s₁.heap = h0 := by rw [← hh, Bd.state]; rfl
  have N0 := Fr.nil n0
  have K0 : Keep h0 h0 [o0] := Keep.refl _ _
  obtain ⟨G, step, ret, fin⟩ := own_open (p := p) (l := l) (e := e) (R := rr_init) (s := s) (m := m) (args := #[(.ref o0), .null, .null, .null, .null, .null]) (below := below) (meth := meth) (c := c) (rr_init.cells) (rr_init.slots) (Q_init Z w_EMPTY o0 h0 n0) Bd.notSynchronized
  refine fin (g := entryFrame m #[(.ref o0), .null, .null, .null, .null, .null] 6) ?_
  rw [ef_init m o0]
  show G s₁ (mkF m 0 #[.val (.ref o0), .val .null, .val .null, .val .null, .val .null, .val .null] [])
  refine step (fun t k => XS.aloadN X0.here hx rfl (hb hby d7_0) rfl rfl k) ?_
  show G s₁ (mkF m 1 #[.val (.ref o0), .val .null, .val .null, .val .null, .val .null, .val .null] [(.ref o0)])
  obtain ⟨T1, X1, e1, st1⟩ := initO X0 hx hZ hown (ww9 hw) (ww10 hw) (ww11 hw) e0 (g := (mkF m 1 #[.val (.ref o0), .val .null, .val .null, .val .null, .val .null, .val .null] [(.ref o0)])) rfl (by rw [hml]; rfl) rfl (hb hby d7_1) (by decide) (W := 0) (by show 2 * 0 + _ ≤ _; exact Nat.le_of_eq rfl) (by decide)
  refine step st1 ?_
  show G T1 (mkF m 4 #[.val (.ref o0), .val .null, .val .null, .val .null, .val .null, .val .null] [])
  refine step (fun t k => XS.aloadN X1.here hx rfl (hb hby d7_4) rfl rfl k) ?_
  show G T1 (mkF m 5 #[.val (.ref o0), .val .null, .val .null, .val .null, .val .null, .val .null] [(.ref o0)])
  refine step (fun t k => XS.aloadN X1.here hx rfl (hb hby d7_5) rfl rfl k) ?_
  show G T1 (mkF m 6 #[.val (.ref o0), .val .null, .val .null, .val .null, .val .null, .val .null] [.null, (.ref o0)])
  obtain ⟨T2, h2, X2, e2, W2, st2⟩ := putF X1 hx hZ hown (host := "") (Or.inl (ww12 hw)) Via.refl e1 Fo0 Ex (Or.inr ⟨(ww13 hw), rfl, hnm⟩) (ww5 hw) (ty := (.object cn_7)) (by decide) rfl rfl (g := (mkF m 6 #[.val (.ref o0), .val .null, .val .null, .val .null, .val .null, .val .null] [.null, (.ref o0)])) rfl rfl (hb hby d7_6)
  have F2 : Fld Z h2 o0 cn_0 "version" cn_8 .null := Fld.same W2 Fo0
  have N2 := Fr.snoc X2 N0 geo
  have O2 := O0.wr W2 geo
  have K2 : Keep h0 h2 [o0] := K0.wr W2 (Or.inl (List.mem_of_getElem? (i := 0) rfl))
  refine step st2 ?_
  show G T2 (mkF m 9 #[.val (.ref o0), .val .null, .val .null, .val .null, .val .null, .val .null] [])
  refine step (fun t k => XS.aloadN X2.here hx rfl (hb hby d7_9) rfl rfl k) ?_
  show G T2 (mkF m 10 #[.val (.ref o0), .val .null, .val .null, .val .null, .val .null, .val .null] [(.ref o0)])
  refine step (fun t k => XS.aloadN X2.here hx rfl (hb hby d7_10) rfl rfl k) ?_
  show G T2 (mkF m 11 #[.val (.ref o0), .val .null, .val .null, .val .null, .val .null, .val .null] [.null, (.ref o0)])
  have f4 := (Fld.other W2 Fo1 (Or.inr (slot_ne (Or.inr (ww15 hw)) (Or.inr (ww13 hw)) (by decide) (t := (.object cn_3)) (t' := (.object cn_7)) (by decide) (by decide))))
  have f5 := (Exa.wr W2 Ex)
  obtain ⟨T3, h3, X3, e3, W3, st3⟩ := putF X2 hx hZ hown (host := "") (Or.inl (ww14 hw)) Via.refl e2 f4 f5 (Or.inr ⟨(ww15 hw), rfl, hnm⟩) (ww5 hw) (ty := (.object cn_3)) (by decide) rfl rfl (g := (mkF m 11 #[.val (.ref o0), .val .null, .val .null, .val .null, .val .null, .val .null] [.null, (.ref o0)])) rfl rfl (hb hby d7_11)
  have F3 : Fld Z h3 o0 cn_0 "messageIdentifier" cn_6 .null := Fld.same W3 f4
  have N3 := Fr.snoc X3 N2 geo
  have O3 := O2.wr W3 geo
  have K3 : Keep h0 h3 [o0] := K2.wr W3 (Or.inl (List.mem_of_getElem? (i := 0) rfl))
  refine step st3 ?_
  show G T3 (mkF m 14 #[.val (.ref o0), .val .null, .val .null, .val .null, .val .null, .val .null] [])
  refine step (fun t k => XS.aloadN X3.here hx rfl (hb hby d7_14) rfl rfl k) ?_
  show G T3 (mkF m 15 #[.val (.ref o0), .val .null, .val .null, .val .null, .val .null, .val .null] [(.ref o0)])
  refine step (fun t k => XS.aloadN X3.here hx rfl (hb hby d7_15) rfl rfl k) ?_
  show G T3 (mkF m 16 #[.val (.ref o0), .val .null, .val .null, .val .null, .val .null, .val .null] [.null, (.ref o0)])
  have f7 := (Fld.other W3 (Fld.other W2 Fo2 (Or.inr (slot_ne (Or.inr (ww17 hw)) (Or.inr (ww13 hw)) (by decide) (t := (.object cn_3)) (t' := (.object cn_7)) (by decide) (by decide)))) (Or.inr (slot_ne (Or.inr (ww17 hw)) (Or.inr (ww15 hw)) (by decide) (t := (.object cn_3)) (t' := (.object cn_3)) (by decide) (by decide))))
  have f8 := (Exa.wr W3 f5)
  obtain ⟨T6, h6, X6, e6, W6, st6⟩ := putF X3 hx hZ hown (host := "") (Or.inl (ww16 hw)) Via.refl e3 f7 f8 (Or.inr ⟨(ww17 hw), rfl, hnm⟩) (ww5 hw) (ty := (.object cn_3)) (by decide) rfl rfl (g := (mkF m 16 #[.val (.ref o0), .val .null, .val .null, .val .null, .val .null, .val .null] [.null, (.ref o0)])) rfl rfl (hb hby d7_16)
  have F6 : Fld Z h6 o0 cn_0 "archivalAgreement" cn_6 .null := Fld.same W6 f7
  have N6 := Fr.snoc X6 N3 geo
  have O6 := O3.wr W6 geo
  have K6 : Keep h0 h6 [o0] := K3.wr W6 (Or.inl (List.mem_of_getElem? (i := 0) rfl))
  refine step st6 ?_
  show G T6 (mkF m 19 #[.val (.ref o0), .val .null, .val .null, .val .null, .val .null, .val .null] [])
  refine step (fun t k => XS.aloadN X6.here hx rfl (hb hby d7_19) rfl rfl k) ?_
  show G T6 (mkF m 20 #[.val (.ref o0), .val .null, .val .null, .val .null, .val .null, .val .null] [(.ref o0)])
  refine step (fun t k => XS.aload X6.here hx rfl (hb hby d7_20) rfl rfl k) ?_
  show G T6 (mkF m 22 #[.val (.ref o0), .val .null, .val .null, .val .null, .val .null, .val .null] [.null, (.ref o0)])
  have f10 := (Fld.other W6 (Fld.other W3 (Fld.other W2 Fo3 (Or.inr (slot_ne (Or.inr (ww19 hw)) (Or.inr (ww13 hw)) (by decide) (t := (.object cn_3)) (t' := (.object cn_7)) (by decide) (by decide)))) (Or.inr (slot_ne (Or.inr (ww19 hw)) (Or.inr (ww15 hw)) (by decide) (t := (.object cn_3)) (t' := (.object cn_3)) (by decide) (by decide)))) (Or.inr (slot_ne (Or.inr (ww19 hw)) (Or.inr (ww17 hw)) (by decide) (t := (.object cn_3)) (t' := (.object cn_3)) (by decide) (by decide))))
  have f11 := (Exa.wr W6 f8)
  obtain ⟨T9, h9, X9, e9, W9, st9⟩ := putF X6 hx hZ hown (host := "") (Or.inl (ww18 hw)) Via.refl e6 f10 f11 (Or.inr ⟨(ww19 hw), rfl, hnm⟩) (ww5 hw) (ty := (.object cn_3)) (by decide) rfl rfl (g := (mkF m 22 #[.val (.ref o0), .val .null, .val .null, .val .null, .val .null, .val .null] [.null, (.ref o0)])) rfl rfl (hb hby d7_22)
  have F9 : Fld Z h9 o0 cn_0 "archivalAgency" cn_6 .null := Fld.same W9 f10
  have N9 := Fr.snoc X9 N6 geo
  have O9 := O6.wr W9 geo
  have K9 : Keep h0 h9 [o0] := K6.wr W9 (Or.inl (List.mem_of_getElem? (i := 0) rfl))
  refine step st9 ?_
  show G T9 (mkF m 25 #[.val (.ref o0), .val .null, .val .null, .val .null, .val .null, .val .null] [])
  refine step (fun t k => XS.aloadN X9.here hx rfl (hb hby d7_25) rfl rfl k) ?_
  show G T9 (mkF m 26 #[.val (.ref o0), .val .null, .val .null, .val .null, .val .null, .val .null] [(.ref o0)])
  refine step (fun t k => XS.aload X9.here hx rfl (hb hby d7_26) rfl rfl k) ?_
  show G T9 (mkF m 28 #[.val (.ref o0), .val .null, .val .null, .val .null, .val .null, .val .null] [.null, (.ref o0)])
  have f13 := (Fld.other W9 (Fld.other W6 (Fld.other W3 (Fld.other W2 Fo4 (Or.inr (slot_ne (Or.inr (ww21 hw)) (Or.inr (ww13 hw)) (by decide) (t := (.object cn_3)) (t' := (.object cn_7)) (by decide) (by decide)))) (Or.inr (slot_ne (Or.inr (ww21 hw)) (Or.inr (ww15 hw)) (by decide) (t := (.object cn_3)) (t' := (.object cn_3)) (by decide) (by decide)))) (Or.inr (slot_ne (Or.inr (ww21 hw)) (Or.inr (ww17 hw)) (by decide) (t := (.object cn_3)) (t' := (.object cn_3)) (by decide) (by decide)))) (Or.inr (slot_ne (Or.inr (ww21 hw)) (Or.inr (ww19 hw)) (by decide) (t := (.object cn_3)) (t' := (.object cn_3)) (by decide) (by decide))))
  have f14 := (Exa.wr W9 f11)
  obtain ⟨T12, h12, X12, e12, W12, st12⟩ := putF X9 hx hZ hown (host := "") (Or.inl (ww20 hw)) Via.refl e9 f13 f14 (Or.inr ⟨(ww21 hw), rfl, hnm⟩) (ww5 hw) (ty := (.object cn_3)) (by decide) rfl rfl (g := (mkF m 28 #[.val (.ref o0), .val .null, .val .null, .val .null, .val .null, .val .null] [.null, (.ref o0)])) rfl rfl (hb hby d7_28)
  have F12 : Fld Z h12 o0 cn_0 "transferringAgency" cn_6 .null := Fld.same W12 f13
  have N12 := Fr.snoc X12 N9 geo
  have O12 := O9.wr W12 geo
  have K12 : Keep h0 h12 [o0] := K9.wr W12 (Or.inl (List.mem_of_getElem? (i := 0) rfl))
  refine step st12 ?_
  show G T12 (mkF m 31 #[.val (.ref o0), .val .null, .val .null, .val .null, .val .null, .val .null] [])
  have f15 := (Exa.wr W12 f14)
  have f16 := (Fld.other W12 (Fld.other W9 (Fld.other W6 (Fld.other W3 F2 (Or.inr (slot_ne (Or.inr (ww13 hw)) (Or.inr (ww15 hw)) (by decide) (t := (.object cn_7)) (t' := (.object cn_3)) (by decide) (by decide)))) (Or.inr (slot_ne (Or.inr (ww13 hw)) (Or.inr (ww17 hw)) (by decide) (t := (.object cn_7)) (t' := (.object cn_3)) (by decide) (by decide)))) (Or.inr (slot_ne (Or.inr (ww13 hw)) (Or.inr (ww19 hw)) (by decide) (t := (.object cn_7)) (t' := (.object cn_3)) (by decide) (by decide)))) (Or.inr (slot_ne (Or.inr (ww13 hw)) (Or.inr (ww21 hw)) (by decide) (t := (.object cn_7)) (t' := (.object cn_3)) (by decide) (by decide))))
  have f17 := (Fld.other W12 (Fld.other W9 (Fld.other W6 F3 (Or.inr (slot_ne (Or.inr (ww15 hw)) (Or.inr (ww17 hw)) (by decide) (t := (.object cn_3)) (t' := (.object cn_3)) (by decide) (by decide)))) (Or.inr (slot_ne (Or.inr (ww15 hw)) (Or.inr (ww19 hw)) (by decide) (t := (.object cn_3)) (t' := (.object cn_3)) (by decide) (by decide)))) (Or.inr (slot_ne (Or.inr (ww15 hw)) (Or.inr (ww21 hw)) (by decide) (t := (.object cn_3)) (t' := (.object cn_3)) (by decide) (by decide))))
  have f18 := (Fld.other W12 (Fld.other W9 F6 (Or.inr (slot_ne (Or.inr (ww17 hw)) (Or.inr (ww19 hw)) (by decide) (t := (.object cn_3)) (t' := (.object cn_3)) (by decide) (by decide)))) (Or.inr (slot_ne (Or.inr (ww17 hw)) (Or.inr (ww21 hw)) (by decide) (t := (.object cn_3)) (t' := (.object cn_3)) (by decide) (by decide))))
  have f19 := (Fld.other W12 F9 (Or.inr (slot_ne (Or.inr (ww19 hw)) (Or.inr (ww21 hw)) (by decide) (t := (.object cn_3)) (t' := (.object cn_3)) (by decide) (by decide))))
  exact ret (v := none) X12 (fun _ => rfl) (fun fs hr => X12.returnOut hx Bd.returns (hb hby d7_31) hr) e12 ⟨rfl, N12, K12, f15, f16, f17, f18, f19, F12⟩ (by decide) (by decide)
theorem d8_0 : decode prog_54_method_2_code 0 = .ok (.new 8, 3) := by decide +kernel
theorem ww4 {Z : State} {a0 : Array Value} (hw : ∀ d ∈ tables_1, d.before a0 Z = true) : Jvm.Cond.before (Jvm.Cond.classLink cn_0 (8 : Nat) cn_0) a0 Z = true := hw _ (List.mem_of_getElem? (i := 4) rfl)
theorem ww2 {Z : State} {a0 : Array Value} (hw : ∀ d ∈ tables_1, d.before a0 Z = true) : Jvm.Cond.before (Jvm.Cond.initialized cn_0) a0 Z = true := hw _ (List.mem_of_getElem? (i := 2) rfl)
theorem d8_3 : decode prog_54_method_2_code 3 = .ok (.dup, 1) := by decide +kernel
theorem d8_4 : decode prog_54_method_2_code 4 = .ok (.aconst_null, 1) := by decide +kernel
theorem d8_5 : decode prog_54_method_2_code 5 = .ok (.aconst_null, 1) := by decide +kernel
theorem d8_6 : decode prog_54_method_2_code 6 = .ok (.aconst_null, 1) := by decide +kernel
theorem d8_7 : decode prog_54_method_2_code 7 = .ok (.aconst_null, 1) := by decide +kernel
theorem d8_8 : decode prog_54_method_2_code 8 = .ok (.aconst_null, 1) := by decide +kernel
theorem d8_9 : decode prog_54_method_2_code 9 = .ok (.invokespecial 26, 3) := by decide +kernel
theorem ww6 {Z : State} {a0 : Array Value} (hw : ∀ d ∈ tables_1, d.before a0 Z = true) : Jvm.Cond.before (Jvm.Cond.methodLink cn_0 (26 : Nat) ({ cls := cn_0, name := "<init>", desc := cn_5 } : Jvm.MethodName)) a0 Z = true := hw _ (List.mem_of_getElem? (i := 6) rfl)
theorem ww8 {Z : State} {a0 : Array Value} (hw : ∀ d ∈ tables_1, d.before a0 Z = true) : Jvm.Cond.before (Jvm.Cond.code ({ cls := cn_0, name := "<init>", desc := cn_5 } : Jvm.MethodName) prog_54_method_1_code (6 : Nat) (Option.none : Option Jvm.ClassFile.FieldType)) a0 Z = true := hw _ (List.mem_of_getElem? (i := 8) rfl)
theorem pd_1 : parseMethodDescriptor cn_5 = some ⟨[(.object cn_7), (.object cn_3), (.object cn_3), (.object cn_3), (.object cn_3)], none⟩ := by decide +kernel
theorem ww7 {Z : State} {a0 : Array Value} (hw : ∀ d ∈ tables_1, d.before a0 Z = true) : Jvm.Cond.before (Jvm.Cond.instanceMethod ({ cls := cn_0, name := "<init>", desc := cn_5 } : Jvm.MethodName)) a0 Z = true := hw _ (List.mem_of_getElem? (i := 7) rfl)
theorem d8_12 : decode prog_54_method_2_code 12 = .ok (.areturn, 1) := by decide +kernel
abbrev rr_unk : Room := { frames := 2, cells := 1, slots := 5, locals := 30 }
abbrev y_8 : MethodName := ⟨cn_0, "unknown", cn_9⟩
theorem ef_unk (m : MethodId)  : entryFrame m #[] 0 = mkF m 0 #[] [] := by first | (simp [entryFrame, mkF, argsToLocals, Value.category]; done) | rfl
def Q_unk (Z : State) (w_EMPTY : Addr)  (h0 : Heap) (n0 : Nat) (v : Option Value) (h : Heap) (L : List Loc) : Prop := ∃ b : Addr, v = some (.ref b) ∧ Fr n0 L ∧ Keep h0 h [] ∧ h0.size ≤ b ∧ Exa Z h b cn_0 ∧ Fld Z h b cn_0 "version" cn_8 .null ∧ Fld Z h b cn_0 "messageIdentifier" cn_6 .null ∧ Fld Z h b cn_0 "archivalAgreement" cn_6 .null ∧ Fld Z h b cn_0 "archivalAgency" cn_6 .null ∧ Fld Z h b cn_0 "transferringAgency" cn_6 .null
set_option maxRecDepth 65536 in
set_option maxHeartbeats 40000000 in
theorem rm_unk (l : Launch) (Z : State) (a0 : Array Value) (hw : ∀ d ∈ tables_1, d.before a0 Z = true) (ws : List Jvm.Cond) (w_EMPTY : Addr)  (h0 : Heap) (n0 : Nat) (Z0 : n0 ≤ h0.size) (ST : own_St Z w_EMPTY) (O0 : Old Z n0 h0) :
    MetFree l y_8 (head1 (Jvm.Cond.code y_8 prog_54_method_2_code 0 (some (.object cn_0)) :: ws) rr_unk) (fun a U => a = #[] ∧ Z.Warmed39 U.vm ∧ U.heap = h0) (fun _ _ _ _ _ => True) (fun _ U o U' => ∃ v L, o = .returned v ∧ Q_unk Z w_EMPTY h0 n0 v U'.heap L ∧ FrameEnd U o U' L rr_unk.cells rr_unk.slots) := by
  refine MetFree.of_bodySF (plainFor_of_name pn_1) hisR ?_
  intro p e s m args below meth c s₁ Bd hml0 hP hK
  obtain ⟨rfl, hZ, hh⟩ := hP
  have hx := Bd.exec
  have hby := Bd.bytes
  have hml : c.maxLocals = 0 := hml0
  have hown : s.vm.findClass cn_0 = some m.cls := findClass_of_methodNamed Bd.named
  have hnm := (name_of_methodNamed Bd.named Bd.method).1
  have X0 : Stand p l e rr_unk s m #[] below meth c s₁ [] 0 0 := Stand.of_body Bd
  have e0 : s₁.heap = h0 := by rw [← hh, Bd.state]; rfl
  have N0 := Fr.nil n0
  have K0 : Keep h0 h0 [] := Keep.refl _ _
  obtain ⟨G, step, ret, fin⟩ := own_open (p := p) (l := l) (e := e) (R := rr_unk) (s := s) (m := m) (args := #[]) (below := below) (meth := meth) (c := c) (rr_unk.cells) (rr_unk.slots) (Q_unk Z w_EMPTY h0 n0) Bd.notSynchronized
  refine fin (g := entryFrame m #[] 0) ?_
  rw [ef_unk m ]
  show G s₁ (mkF m 0 #[] [])
  obtain ⟨T1, h1, X1, e1, E1, A1, D1, -, st1⟩ := newO X0 hx hZ hown (ww4 hw) (ww5 hw) (ww2 hw) e0 (g := (mkF m 0 #[] [])) rfl (hb hby d8_0) (by decide) (by decide)
  obtain ⟨b1, g1⟩ : ∃ z, z = h0.size := ⟨_, rfl⟩
  rw [← g1] at A1 D1 st1
  have ge_b1 : n0 ≤ b1 := Nat.le_trans (own_old_le O0) (Nat.le_of_eq g1.symm)
  have sz_b1 : h0.size ≤ b1 := Nat.le_trans K0.1 (Nat.le_of_eq g1.symm)
  have O1 := O0.ext E1
  have K1 : Keep h0 h1 [] := K0.ext E1
  have F1_version : Fld Z h1 b1 cn_0 "version" cn_8 .null := D1 (Or.inr (ww13 hw)) (ty := (.object cn_7)) (by decide)
  have F1_messageIdentifier : Fld Z h1 b1 cn_0 "messageIdentifier" cn_6 .null := D1 (Or.inr (ww15 hw)) (ty := (.object cn_3)) (by decide)
  have F1_archivalAgreement : Fld Z h1 b1 cn_0 "archivalAgreement" cn_6 .null := D1 (Or.inr (ww17 hw)) (ty := (.object cn_3)) (by decide)
  have F1_archivalAgency : Fld Z h1 b1 cn_0 "archivalAgency" cn_6 .null := D1 (Or.inr (ww19 hw)) (ty := (.object cn_3)) (by decide)
  have F1_transferringAgency : Fld Z h1 b1 cn_0 "transferringAgency" cn_6 .null := D1 (Or.inr (ww21 hw)) (ty := (.object cn_3)) (by decide)
  refine step st1 ?_
  show G T1 (mkF m 3 #[] [(.ref b1)])
  refine step (fun t k => XS.dup X1.here hx rfl (hb hby d8_3) rfl rfl k) ?_
  show G T1 (mkF m 4 #[] [(.ref b1), (.ref b1)])
  refine step (fun t k => XS.aconstNull X1.here hx rfl (hb hby d8_4) k) ?_
  show G T1 (mkF m 5 #[] [.null, (.ref b1), (.ref b1)])
  refine step (fun t k => XS.aconstNull X1.here hx rfl (hb hby d8_5) k) ?_
  show G T1 (mkF m 6 #[] [.null, .null, (.ref b1), (.ref b1)])
  refine step (fun t k => XS.aconstNull X1.here hx rfl (hb hby d8_6) k) ?_
  show G T1 (mkF m 7 #[] [.null, .null, .null, (.ref b1), (.ref b1)])
  refine step (fun t k => XS.aconstNull X1.here hx rfl (hb hby d8_7) k) ?_
  show G T1 (mkF m 8 #[] [.null, .null, .null, .null, (.ref b1), (.ref b1)])
  refine step (fun t k => XS.aconstNull X1.here hx rfl (hb hby d8_8) k) ?_
  show G T1 (mkF m 9 #[] [.null, .null, .null, .null, .null, (.ref b1), (.ref b1)])
  obtain ⟨_, _, ⟨T2, L2, k2, n2⟩, -, X2, ⟨Lc2, hQ2, l2, y2, z2⟩, st2⟩ := X1.specialBack hx (y := y_7) rfl hown (mvT hZ (ww6 hw)) (mvT hZ (ww7 hw)) (mvT hZ (ww8 hw)) (by decide) (backOf (W := 1) (rm_init l Z a0 hw [] w_EMPTY b1 h1 n0 (own_old_le O1) ST O1 A1 ge_b1 F1_version F1_messageIdentifier F1_archivalAgreement F1_archivalAgency F1_transferringAgency) hZ (ww8 hw) (ww2 hw) (by decide) (by decide)) (g := (mkF m 9 #[] [.null, .null, .null, .null, .null, (.ref b1), (.ref b1)])) rfl (by rw [hml]; rfl) (Steps.refl _) (a := b1) (argsL := [.null, .null, .null, .null, .null]) (rest := [(.ref b1)]) (lenOf pd_1 rfl) rfl (by show 2 * 0 + _ ≤ _; exact Nat.le_of_eq rfl) (hb hby d8_9) (fun _ _ => ⟨rfl, e1, (by decide : 1 + 0 ≤ _), (by decide : 5 + 0 ≤ _)⟩)
  dsimp only [Pt.U, Pt.locs, Pt.cells, Pt.slots] at X2 l2 y2 z2 st2 hQ2
  subst l2 y2 z2
  obtain ⟨rfl, N2q, K2q, Y2_0, Y2_1, Y2_2, Y2_3, Y2_4, Y2_5⟩ := hQ2
  have N2 := Fr.app N0 N2q
  have O2 := O1.keep K2q (allS ge_b1 all0)
  have K2 : Keep h0 T2.heap [] := K1.trans K2q (allS (Or.inr sz_b1) all0)
  refine step (fun t k => st2.trans k) ?_
  show G T2 (mkF m 12 #[] [(.ref b1)])
  exact ret (v := some (.ref b1)) X2 (fun h => by rw [Bd.returns] at h; cases h) (fun fs hr => retA X2 hx Bd.returns rfl rfl (hb hby d8_12) hr) rfl ⟨b1, rfl, N2, K2, sz_b1, Y2_0, Y2_1, Y2_2, Y2_3, Y2_4, Y2_5⟩ (by decide) (by decide)
theorem ww0 {Z : State} {a0 : Array Value} (hw : ∀ d ∈ tables_1, d.before a0 Z = true) : Jvm.Cond.before (Jvm.Cond.methodLink cn_4 (7 : Nat) ({ cls := cn_0, name := "unknown", desc := cn_9 } : Jvm.MethodName)) a0 Z = true := hw _ (List.mem_of_getElem? (i := 0) rfl)
theorem ww3 {Z : State} {a0 : Array Value} (hw : ∀ d ∈ tables_1, d.before a0 Z = true) : Jvm.Cond.before (Jvm.Cond.code ({ cls := cn_0, name := "unknown", desc := cn_9 } : Jvm.MethodName) prog_54_method_2_code (0 : Nat) (Option.some (Jvm.ClassFile.FieldType.object cn_0))) a0 Z = true := hw _ (List.mem_of_getElem? (i := 3) rfl)
theorem pd_2 : parseMethodDescriptor cn_9 = some ⟨[], some (.object cn_0)⟩ := by decide +kernel
theorem ww1 {Z : State} {a0 : Array Value} (hw : ∀ d ∈ tables_1, d.before a0 Z = true) : Jvm.Cond.before (Jvm.Cond.static ({ cls := cn_0, name := "unknown", desc := cn_9 } : Jvm.MethodName)) a0 Z = true := hw _ (List.mem_of_getElem? (i := 1) rfl)
theorem ww22 {Z : State} {a0 : Array Value} (hw : ∀ d ∈ tables_1, d.before a0 Z = true) : Jvm.Cond.before (Jvm.Cond.methodLink cn_4 (13 : Nat) ({ cls := cn_0, name := "version", desc := cn_1 } : Jvm.MethodName)) a0 Z = true := hw _ (List.mem_of_getElem? (i := 22) rfl)
theorem ww25 {Z : State} {a0 : Array Value} (hw : ∀ d ∈ tables_1, d.before a0 Z = true) : Jvm.Cond.before (Jvm.Cond.selects cn_0 ({ cls := cn_0, name := "version", desc := cn_1 } : Jvm.MethodName) ({ cls := cn_0, name := "version", desc := cn_1 } : Jvm.MethodName)) a0 Z = true := hw _ (List.mem_of_getElem? (i := 25) rfl)
theorem ww26 {Z : State} {a0 : Array Value} (hw : ∀ d ∈ tables_1, d.before a0 Z = true) : Jvm.Cond.before (Jvm.Cond.code ({ cls := cn_0, name := "version", desc := cn_1 } : Jvm.MethodName) prog_54_method_3_code (1 : Nat) (Option.some (Jvm.ClassFile.FieldType.object cn_2))) a0 Z = true := hw _ (List.mem_of_getElem? (i := 26) rfl)
theorem pd_3 : parseMethodDescriptor cn_1 = some ⟨[], some (.object cn_2)⟩ := by decide +kernel
theorem ww23 {Z : State} {a0 : Array Value} (hw : ∀ d ∈ tables_1, d.before a0 Z = true) : Jvm.Cond.before (Jvm.Cond.declares ({ cls := cn_0, name := "version", desc := cn_1 } : Jvm.MethodName)) a0 Z = true := hw _ (List.mem_of_getElem? (i := 23) rfl)
theorem ww24 {Z : State} {a0 : Array Value} (hw : ∀ d ∈ tables_1, d.before a0 Z = true) : Jvm.Cond.before (Jvm.Cond.instanceMethod ({ cls := cn_0, name := "version", desc := cn_1 } : Jvm.MethodName)) a0 Z = true := hw _ (List.mem_of_getElem? (i := 24) rfl)
theorem ww32 {Z : State} {a0 : Array Value} (hw : ∀ d ∈ tables_1, d.before a0 Z = true) : Jvm.Cond.before (Jvm.Cond.methodLink cn_4 (17 : Nat) ({ cls := cn_2, name := "isPresent", desc := "()Z" } : Jvm.MethodName)) a0 Z = true := hw _ (List.mem_of_getElem? (i := 32) rfl)
theorem ww35 {Z : State} {a0 : Array Value} (hw : ∀ d ∈ tables_1, d.before a0 Z = true) : Jvm.Cond.before (Jvm.Cond.selects cn_2 ({ cls := cn_2, name := "isPresent", desc := "()Z" } : Jvm.MethodName) ({ cls := cn_2, name := "isPresent", desc := "()Z" } : Jvm.MethodName)) a0 Z = true := hw _ (List.mem_of_getElem? (i := 35) rfl)
theorem ww36 {Z : State} {a0 : Array Value} (hw : ∀ d ∈ tables_1, d.before a0 Z = true) : Jvm.Cond.before (Jvm.Cond.code ({ cls := cn_2, name := "isPresent", desc := "()Z" } : Jvm.MethodName) jdk_32_method_6_code (1 : Nat) (Option.some Jvm.ClassFile.FieldType.boolean)) a0 Z = true := hw _ (List.mem_of_getElem? (i := 36) rfl)
theorem pd_4 : parseMethodDescriptor "()Z" = some ⟨[], some .boolean⟩ := by decide +kernel
theorem ww33 {Z : State} {a0 : Array Value} (hw : ∀ d ∈ tables_1, d.before a0 Z = true) : Jvm.Cond.before (Jvm.Cond.declares ({ cls := cn_2, name := "isPresent", desc := "()Z" } : Jvm.MethodName)) a0 Z = true := hw _ (List.mem_of_getElem? (i := 33) rfl)
theorem ww34 {Z : State} {a0 : Array Value} (hw : ∀ d ∈ tables_1, d.before a0 Z = true) : Jvm.Cond.before (Jvm.Cond.instanceMethod ({ cls := cn_2, name := "isPresent", desc := "()Z" } : Jvm.MethodName)) a0 Z = true := hw _ (List.mem_of_getElem? (i := 34) rfl)
theorem ww39 {Z : State} {a0 : Array Value} (hw : ∀ d ∈ tables_1, d.before a0 Z = true) : Jvm.Cond.before (Jvm.Cond.methodLink cn_4 (23 : Nat) ({ cls := cn_0, name := "messageIdentifier", desc := cn_1 } : Jvm.MethodName)) a0 Z = true := hw _ (List.mem_of_getElem? (i := 39) rfl)
theorem ww42 {Z : State} {a0 : Array Value} (hw : ∀ d ∈ tables_1, d.before a0 Z = true) : Jvm.Cond.before (Jvm.Cond.selects cn_0 ({ cls := cn_0, name := "messageIdentifier", desc := cn_1 } : Jvm.MethodName) ({ cls := cn_0, name := "messageIdentifier", desc := cn_1 } : Jvm.MethodName)) a0 Z = true := hw _ (List.mem_of_getElem? (i := 42) rfl)
theorem ww43 {Z : State} {a0 : Array Value} (hw : ∀ d ∈ tables_1, d.before a0 Z = true) : Jvm.Cond.before (Jvm.Cond.code ({ cls := cn_0, name := "messageIdentifier", desc := cn_1 } : Jvm.MethodName) prog_54_method_4_code (1 : Nat) (Option.some (Jvm.ClassFile.FieldType.object cn_2))) a0 Z = true := hw _ (List.mem_of_getElem? (i := 43) rfl)
theorem ww40 {Z : State} {a0 : Array Value} (hw : ∀ d ∈ tables_1, d.before a0 Z = true) : Jvm.Cond.before (Jvm.Cond.declares ({ cls := cn_0, name := "messageIdentifier", desc := cn_1 } : Jvm.MethodName)) a0 Z = true := hw _ (List.mem_of_getElem? (i := 40) rfl)
theorem ww41 {Z : State} {a0 : Array Value} (hw : ∀ d ∈ tables_1, d.before a0 Z = true) : Jvm.Cond.before (Jvm.Cond.instanceMethod ({ cls := cn_0, name := "messageIdentifier", desc := cn_1 } : Jvm.MethodName)) a0 Z = true := hw _ (List.mem_of_getElem? (i := 41) rfl)
theorem ww44 {Z : State} {a0 : Array Value} (hw : ∀ d ∈ tables_1, d.before a0 Z = true) : Jvm.Cond.before (Jvm.Cond.methodLink cn_4 (26 : Nat) ({ cls := cn_0, name := "archivalAgreement", desc := cn_1 } : Jvm.MethodName)) a0 Z = true := hw _ (List.mem_of_getElem? (i := 44) rfl)
theorem ww47 {Z : State} {a0 : Array Value} (hw : ∀ d ∈ tables_1, d.before a0 Z = true) : Jvm.Cond.before (Jvm.Cond.selects cn_0 ({ cls := cn_0, name := "archivalAgreement", desc := cn_1 } : Jvm.MethodName) ({ cls := cn_0, name := "archivalAgreement", desc := cn_1 } : Jvm.MethodName)) a0 Z = true := hw _ (List.mem_of_getElem? (i := 47) rfl)
theorem ww48 {Z : State} {a0 : Array Value} (hw : ∀ d ∈ tables_1, d.before a0 Z = true) : Jvm.Cond.before (Jvm.Cond.code ({ cls := cn_0, name := "archivalAgreement", desc := cn_1 } : Jvm.MethodName) prog_54_method_5_code (1 : Nat) (Option.some (Jvm.ClassFile.FieldType.object cn_2))) a0 Z = true := hw _ (List.mem_of_getElem? (i := 48) rfl)
theorem ww45 {Z : State} {a0 : Array Value} (hw : ∀ d ∈ tables_1, d.before a0 Z = true) : Jvm.Cond.before (Jvm.Cond.declares ({ cls := cn_0, name := "archivalAgreement", desc := cn_1 } : Jvm.MethodName)) a0 Z = true := hw _ (List.mem_of_getElem? (i := 45) rfl)
theorem ww46 {Z : State} {a0 : Array Value} (hw : ∀ d ∈ tables_1, d.before a0 Z = true) : Jvm.Cond.before (Jvm.Cond.instanceMethod ({ cls := cn_0, name := "archivalAgreement", desc := cn_1 } : Jvm.MethodName)) a0 Z = true := hw _ (List.mem_of_getElem? (i := 46) rfl)
theorem ww49 {Z : State} {a0 : Array Value} (hw : ∀ d ∈ tables_1, d.before a0 Z = true) : Jvm.Cond.before (Jvm.Cond.methodLink cn_4 (29 : Nat) ({ cls := cn_0, name := "archivalAgency", desc := cn_1 } : Jvm.MethodName)) a0 Z = true := hw _ (List.mem_of_getElem? (i := 49) rfl)
theorem ww52 {Z : State} {a0 : Array Value} (hw : ∀ d ∈ tables_1, d.before a0 Z = true) : Jvm.Cond.before (Jvm.Cond.selects cn_0 ({ cls := cn_0, name := "archivalAgency", desc := cn_1 } : Jvm.MethodName) ({ cls := cn_0, name := "archivalAgency", desc := cn_1 } : Jvm.MethodName)) a0 Z = true := hw _ (List.mem_of_getElem? (i := 52) rfl)
theorem ww53 {Z : State} {a0 : Array Value} (hw : ∀ d ∈ tables_1, d.before a0 Z = true) : Jvm.Cond.before (Jvm.Cond.code ({ cls := cn_0, name := "archivalAgency", desc := cn_1 } : Jvm.MethodName) prog_54_method_6_code (1 : Nat) (Option.some (Jvm.ClassFile.FieldType.object cn_2))) a0 Z = true := hw _ (List.mem_of_getElem? (i := 53) rfl)
theorem ww50 {Z : State} {a0 : Array Value} (hw : ∀ d ∈ tables_1, d.before a0 Z = true) : Jvm.Cond.before (Jvm.Cond.declares ({ cls := cn_0, name := "archivalAgency", desc := cn_1 } : Jvm.MethodName)) a0 Z = true := hw _ (List.mem_of_getElem? (i := 50) rfl)
theorem ww51 {Z : State} {a0 : Array Value} (hw : ∀ d ∈ tables_1, d.before a0 Z = true) : Jvm.Cond.before (Jvm.Cond.instanceMethod ({ cls := cn_0, name := "archivalAgency", desc := cn_1 } : Jvm.MethodName)) a0 Z = true := hw _ (List.mem_of_getElem? (i := 51) rfl)
theorem ww54 {Z : State} {a0 : Array Value} (hw : ∀ d ∈ tables_1, d.before a0 Z = true) : Jvm.Cond.before (Jvm.Cond.methodLink cn_4 (32 : Nat) ({ cls := cn_0, name := "transferringAgency", desc := cn_1 } : Jvm.MethodName)) a0 Z = true := hw _ (List.mem_of_getElem? (i := 54) rfl)
theorem ww57 {Z : State} {a0 : Array Value} (hw : ∀ d ∈ tables_1, d.before a0 Z = true) : Jvm.Cond.before (Jvm.Cond.selects cn_0 ({ cls := cn_0, name := "transferringAgency", desc := cn_1 } : Jvm.MethodName) ({ cls := cn_0, name := "transferringAgency", desc := cn_1 } : Jvm.MethodName)) a0 Z = true := hw _ (List.mem_of_getElem? (i := 57) rfl)
theorem ww58 {Z : State} {a0 : Array Value} (hw : ∀ d ∈ tables_1, d.before a0 Z = true) : Jvm.Cond.before (Jvm.Cond.code ({ cls := cn_0, name := "transferringAgency", desc := cn_1 } : Jvm.MethodName) prog_54_method_7_code (1 : Nat) (Option.some (Jvm.ClassFile.FieldType.object cn_2))) a0 Z = true := hw _ (List.mem_of_getElem? (i := 58) rfl)
theorem ww55 {Z : State} {a0 : Array Value} (hw : ∀ d ∈ tables_1, d.before a0 Z = true) : Jvm.Cond.before (Jvm.Cond.declares ({ cls := cn_0, name := "transferringAgency", desc := cn_1 } : Jvm.MethodName)) a0 Z = true := hw _ (List.mem_of_getElem? (i := 55) rfl)
theorem ww56 {Z : State} {a0 : Array Value} (hw : ∀ d ∈ tables_1, d.before a0 Z = true) : Jvm.Cond.before (Jvm.Cond.instanceMethod ({ cls := cn_0, name := "transferringAgency", desc := cn_1 } : Jvm.MethodName)) a0 Z = true := hw _ (List.mem_of_getElem? (i := 56) rfl)
abbrev y_9 : MethodName := ⟨cn_4, "law", "(I)Z"⟩
theorem pn_2 : plainName cn_4 = true := by first | (simp [plainName, overriddenIn]; done) | decide +kernel
theorem ef_law (m : MethodId) (p0 : Int32) : entryFrame m #[(.int p0)] maxLocals = mkF m 0 #[.val (.int p0), .unset] [] := by first | (simp [entryFrame, mkF, argsToLocals, Value.category, maxLocals]; done) | rfl
def Q_law (Z : State) (w_EMPTY : Addr) (p0 : Int32) (h0 : Heap) (n0 : Nat) (v : Option Value) (h : Heap) (L : List Loc) : Prop := v = some (.int 1) ∧ Fr n0 L
set_option maxRecDepth 65536 in
set_option maxHeartbeats 40000000 in
theorem rm_law (l : Launch) (Z : State) (a0 : Array Value) (hw : ∀ d ∈ tables_1, d.before a0 Z = true) (ws : List Jvm.Cond) (w_EMPTY : Addr) (p0 : Int32) (h0 : Heap) (n0 : Nat) (Z0 : n0 ≤ h0.size) (ST : own_St Z w_EMPTY) (O0 : Old Z n0 h0) :
    MetFree l x (head1 (Jvm.Cond.code x code maxLocals ret :: ws) room_1) (fun a U => a = #[(.int p0)] ∧ Z.Warmed39 U.vm ∧ U.heap = h0) (fun _ _ _ _ _ => True) (fun _ U o U' => ∃ v L, o = .returned v ∧ Q_law Z w_EMPTY p0 h0 n0 v U'.heap L ∧ FrameEnd U o U' L 1 5) := by
  refine MetFree.of_bodySF (plainFor_of_name pn_2) hisR ?_
  intro p e s m args below meth c s₁ Bd hml0 hP hK
  obtain ⟨rfl, hZ, hh⟩ := hP
  have hx := Bd.exec
  have hby := Bd.bytes
  have hml : c.maxLocals = 2 := hml0
  have hown : s.vm.findClass cn_4 = some m.cls := findClass_of_methodNamed Bd.named
  have hnm := (name_of_methodNamed Bd.named Bd.method).1
  have X0 : Stand p l e room_1 s m #[(.int p0)] below meth c s₁ [] 0 0 := Stand.of_body Bd
  have e0 : s₁.heap = h0 := by rw [← hh, Bd.state]; rfl
  have N0 := Fr.nil n0
  obtain ⟨G, step, ret, fin⟩ := own_open (p := p) (l := l) (e := e) (R := room_1) (s := s) (m := m) (args := #[(.int p0)]) (below := below) (meth := meth) (c := c) (1) (5) (Q_law Z w_EMPTY p0 h0 n0) Bd.notSynchronized
  refine fin (g := entryFrame m #[(.int p0)] maxLocals) ?_
  rw [ef_law m p0]
  show G s₁ (mkF m 0 #[.val (.int p0), .unset] [])
  obtain ⟨_, _, ⟨T1, L1, k1, n1⟩, -, X1, ⟨Lc1, hQ1, l1, y1, z1⟩, st1⟩ := Jvm.LawKit.callS X0 hx (y := y_8) hown (mvT hZ (ww0 hw)) (mvT hZ (ww1 hw)) (mvT hZ (ww2 hw)) (mvT hZ (ww3 hw)) (by decide) (backOf (W := 0) (rm_unk l Z a0 hw [] w_EMPTY h0 n0 (own_old_le O0) ST O0) hZ (ww3 hw) (ww2 hw) (by decide) (by decide)) (g := (mkF m 0 #[.val (.int p0), .unset] [])) rfl (by rw [hml]; rfl) (argsL := []) (rest := []) (lenOf pd_2 rfl) rfl (by show 2 * 0 + _ ≤ _; exact Nat.le_of_eq rfl) (hb hby at_0) (fun _ _ => ⟨rfl, e0, (by decide : 0 + 1 ≤ _), (by decide : 0 + 5 ≤ _)⟩)
  dsimp only [Pt.U, Pt.locs, Pt.cells, Pt.slots] at X1 l1 y1 z1 st1 hQ1
  subst l1 y1 z1
  obtain ⟨b1, rfl, N1q, K1q, Y1_0, Y1_1, Y1_2, Y1_3, Y1_4, Y1_5, Y1_6⟩ := hQ1
  have N1 := Fr.app N0 N1q
  have O1 := O0.keep K1q all0
  have ge_b1 : n0 ≤ b1 := Nat.le_trans (own_old_le O0) Y1_0
  refine step (fun t k => st1 t k) ?_
  show G T1 (mkF m 3 #[.val (.int p0), .unset] [(.ref b1)])
  refine step (fun t k => XS.astoreN X1.here hx rfl (hb hby at_3) rfl rfl (l' := #[.val (.int p0), .val (.ref b1)]) rfl k) ?_
  show G T1 (mkF m 4 #[.val (.int p0), .val (.ref b1)] [])
  refine step (fun t k => XS.aloadN X1.here hx rfl (hb hby at_4) rfl rfl k) ?_
  show G T1 (mkF m 5 #[.val (.int p0), .val (.ref b1)] [(.ref b1)])
  refine step (fun t k => XS.ifnonnullYes X1.here hx rfl (pc0 := 5) (pc' := 10) rfl (hb hby at_5) rfl (by decide) (by decide) k) ?_
  show G T1 (mkF m 10 #[.val (.int p0), .val (.ref b1)] [])
  refine step (fun t k => XS.aloadN X1.here hx rfl (hb hby at_10) rfl rfl k) ?_
  show G T1 (mkF m 11 #[.val (.int p0), .val (.ref b1)] [(.ref b1)])
  obtain ⟨cq2, kq2, q2a, q2b, q2c⟩ := isOf hZ rfl Y1_1
  obtain ⟨_, _, ⟨T2, L2, k2, n2⟩, -, X2, ⟨Lc2, hQ2, l2, y2, z2⟩, st2⟩ := X1.virtualBack hx (y := y_2) (z := y_2) hown (mvT hZ (ww22 hw)) (mvT hZ (ww23 hw)) (notFace_of_selects (args := #[]) (mvT hZ (ww25 hw))) (mvT hZ (ww25 hw)) (mvT hZ (ww24 hw)) (by decide) (backOf (W := 0) (rm_get0 l Z a0 hw [] w_EMPTY b1 T1.heap n0 (own_old_le O1) ST O1 Y1_2) hZ (ww26 hw) (ww2 hw) (by decide) (by decide)) q2a q2c (g := (mkF m 11 #[.val (.int p0), .val (.ref b1)] [(.ref b1)])) rfl (by rw [hml]; rfl) (Steps.refl _) (argsL := []) (rest := []) (lenOf pd_3 rfl) rfl (by show 2 * 0 + _ ≤ _; exact Nat.le_of_eq rfl) (hb hby at_11) (fun _ _ => ⟨rfl, rfl, (by decide : 1 + 0 ≤ _), (by decide : 5 + 0 ≤ _)⟩)
  dsimp only [Pt.U, Pt.locs, Pt.cells, Pt.slots] at X2 l2 y2 z2 st2 hQ2
  subst l2 y2 z2
  obtain ⟨rfl, N2q, e2⟩ := hQ2
  have N2 := Fr.app N1 N2q
  refine step (fun t k => st2.trans k) ?_
  show G T2 (mkF m 14 #[.val (.int p0), .val (.ref b1)] [(.ref (f_get0 w_EMPTY b1))])
  have r3 : (f_get0 w_EMPTY b1) = w_EMPTY := rfl
  rw [r3]
  show G T2 (mkF m 14 #[.val (.int p0), .val (.ref b1)] [(.ref w_EMPTY)])
  obtain ⟨cq4, kq4, q4a, q4b, q4c⟩ := isOf hZ e2 (Exa.ext O1.2 ST.k1)
  obtain ⟨_, _, ⟨T4, L4, k4, n4⟩, -, X4, ⟨Lc4, hQ4, l4, y4, z4⟩, st4⟩ := X2.virtualBack hx (y := y_1) (z := y_1) hown (mvT hZ (ww32 hw)) (mvT hZ (ww33 hw)) (notFace_of_selects (args := #[]) (mvT hZ (ww35 hw))) (mvT hZ (ww35 hw)) (mvT hZ (ww34 hw)) (by decide) (backOf (W := 0) (rm_isp l Z a0 hw [] w_EMPTY w_EMPTY T1.heap n0 (own_old_le O1) ST O1 (Fld.ext O1.2 ST.k2)) hZ (ww36 hw) (ww29 hw) (by decide) (by decide)) q4a q4c (g := (mkF m 14 #[.val (.int p0), .val (.ref b1)] [(.ref w_EMPTY)])) rfl (by rw [hml]; rfl) (Steps.refl _) (argsL := []) (rest := []) (lenOf pd_4 rfl) rfl (by show 2 * 0 + _ ≤ _; exact Nat.le_of_eq rfl) (hb hby at_14) (fun _ _ => ⟨rfl, e2, (by decide : 1 + 0 ≤ _), (by decide : 5 + 0 ≤ _)⟩)
  dsimp only [Pt.U, Pt.locs, Pt.cells, Pt.slots] at X4 l4 y4 z4 st4 hQ4
  subst l4 y4 z4
  obtain ⟨rfl, N4q, e4⟩ := hQ4
  have N4 := Fr.app N2 N4q
  refine step (fun t k => st4.trans k) ?_
  show G T4 (mkF m 17 #[.val (.int p0), .val (.ref b1)] [(.int (f_isp w_EMPTY w_EMPTY))])
  have r5 : (f_isp w_EMPTY w_EMPTY) = (0 : Int32) := rfl
  rw [r5]
  show G T4 (mkF m 17 #[.val (.int p0), .val (.ref b1)] [(.int 0)])
  refine step (fun t k => XS.ifYes X4.here hx rfl (pc0 := 17) (pc' := 22) rfl (hb hby at_17) rfl ((if0 _ _).trans (teq (by decide : (0 : Int32) = (0 : Int32))).1) (by decide) (by decide) k) ?_
  show G T4 (mkF m 22 #[.val (.int p0), .val (.ref b1)] [])
  refine step (fun t k => XS.aloadN X4.here hx rfl (hb hby at_22) rfl rfl k) ?_
  show G T4 (mkF m 23 #[.val (.int p0), .val (.ref b1)] [(.ref b1)])
  obtain ⟨cq6, kq6, q6a, q6b, q6c⟩ := isOf hZ e4 Y1_1
  obtain ⟨_, _, ⟨T6, L6, k6, n6⟩, -, X6, ⟨Lc6, hQ6, l6, y6, z6⟩, st6⟩ := X4.virtualBack hx (y := y_3) (z := y_3) hown (mvT hZ (ww39 hw)) (mvT hZ (ww40 hw)) (notFace_of_selects (args := #[]) (mvT hZ (ww42 hw))) (mvT hZ (ww42 hw)) (mvT hZ (ww41 hw)) (by decide) (backOf (W := 0) (rm_get1 l Z a0 hw [] w_EMPTY b1 T1.heap n0 (own_old_le O1) ST O1 Y1_3) hZ (ww43 hw) (ww2 hw) (by decide) (by decide)) q6a q6c (g := (mkF m 23 #[.val (.int p0), .val (.ref b1)] [(.ref b1)])) rfl (by rw [hml]; rfl) (Steps.refl _) (argsL := []) (rest := []) (lenOf pd_3 rfl) rfl (by show 2 * 0 + _ ≤ _; exact Nat.le_of_eq rfl) (hb hby at_23) (fun _ _ => ⟨rfl, e4, (by decide : 1 + 0 ≤ _), (by decide : 5 + 0 ≤ _)⟩)
  dsimp only [Pt.U, Pt.locs, Pt.cells, Pt.slots] at X6 l6 y6 z6 st6 hQ6
  subst l6 y6 z6
  obtain ⟨rfl, N6q, e6⟩ := hQ6
  have N6 := Fr.app N4 N6q
  refine step (fun t k => st6.trans k) ?_
  show G T6 (mkF m 26 #[.val (.int p0), .val (.ref b1)] [(.ref (f_get1 w_EMPTY b1))])
  have r7 : (f_get1 w_EMPTY b1) = w_EMPTY := rfl
  rw [r7]
  show G T6 (mkF m 26 #[.val (.int p0), .val (.ref b1)] [(.ref w_EMPTY)])
  obtain ⟨cq8, kq8, q8a, q8b, q8c⟩ := isOf hZ e6 (Exa.ext O1.2 ST.k1)
  obtain ⟨_, _, ⟨T8, L8, k8, n8⟩, -, X8, ⟨Lc8, hQ8, l8, y8, z8⟩, st8⟩ := X6.virtualBack hx (y := y_1) (z := y_1) hown (mvT hZ (ww32 hw)) (mvT hZ (ww33 hw)) (notFace_of_selects (args := #[]) (mvT hZ (ww35 hw))) (mvT hZ (ww35 hw)) (mvT hZ (ww34 hw)) (by decide) (backOf (W := 0) (rm_isp l Z a0 hw [] w_EMPTY w_EMPTY T1.heap n0 (own_old_le O1) ST O1 (Fld.ext O1.2 ST.k2)) hZ (ww36 hw) (ww29 hw) (by decide) (by decide)) q8a q8c (g := (mkF m 26 #[.val (.int p0), .val (.ref b1)] [(.ref w_EMPTY)])) rfl (by rw [hml]; rfl) (Steps.refl _) (argsL := []) (rest := []) (lenOf pd_4 rfl) rfl (by show 2 * 0 + _ ≤ _; exact Nat.le_of_eq rfl) (hb hby at_26) (fun _ _ => ⟨rfl, e6, (by decide : 1 + 0 ≤ _), (by decide : 5 + 0 ≤ _)⟩)
  dsimp only [Pt.U, Pt.locs, Pt.cells, Pt.slots] at X8 l8 y8 z8 st8 hQ8
  subst l8 y8 z8
  obtain ⟨rfl, N8q, e8⟩ := hQ8
  have N8 := Fr.app N6 N8q
  refine step (fun t k => st8.trans k) ?_
  show G T8 (mkF m 29 #[.val (.int p0), .val (.ref b1)] [(.int (f_isp w_EMPTY w_EMPTY))])
  have r9 : (f_isp w_EMPTY w_EMPTY) = (0 : Int32) := rfl
  rw [r9]
  show G T8 (mkF m 29 #[.val (.int p0), .val (.ref b1)] [(.int 0)])
  refine step (fun t k => XS.ifYes X8.here hx rfl (pc0 := 29) (pc' := 34) rfl (hb hby at_29) rfl ((if0 _ _).trans (teq (by decide : (0 : Int32) = (0 : Int32))).1) (by decide) (by decide) k) ?_
  show G T8 (mkF m 34 #[.val (.int p0), .val (.ref b1)] [])
  refine step (fun t k => XS.aloadN X8.here hx rfl (hb hby at_34) rfl rfl k) ?_
  show G T8 (mkF m 35 #[.val (.int p0), .val (.ref b1)] [(.ref b1)])
  obtain ⟨cq10, kq10, q10a, q10b, q10c⟩ := isOf hZ e8 Y1_1
  obtain ⟨_, _, ⟨T10, L10, k10, n10⟩, -, X10, ⟨Lc10, hQ10, l10, y10, z10⟩, st10⟩ := X8.virtualBack hx (y := y_4) (z := y_4) hown (mvT hZ (ww44 hw)) (mvT hZ (ww45 hw)) (notFace_of_selects (args := #[]) (mvT hZ (ww47 hw))) (mvT hZ (ww47 hw)) (mvT hZ (ww46 hw)) (by decide) (backOf (W := 0) (rm_get2 l Z a0 hw [] w_EMPTY b1 T1.heap n0 (own_old_le O1) ST O1 Y1_4) hZ (ww48 hw) (ww2 hw) (by decide) (by decide)) q10a q10c (g := (mkF m 35 #[.val (.int p0), .val (.ref b1)] [(.ref b1)])) rfl (by rw [hml]; rfl) (Steps.refl _) (argsL := []) (rest := []) (lenOf pd_3 rfl) rfl (by show 2 * 0 + _ ≤ _; exact Nat.le_of_eq rfl) (hb hby at_35) (fun _ _ => ⟨rfl, e8, (by decide : 1 + 0 ≤ _), (by decide : 5 + 0 ≤ _)⟩)
  dsimp only [Pt.U, Pt.locs, Pt.cells, Pt.slots] at X10 l10 y10 z10 st10 hQ10
  subst l10 y10 z10
  obtain ⟨rfl, N10q, e10⟩ := hQ10
  have N10 := Fr.app N8 N10q
  refine step (fun t k => st10.trans k) ?_
  show G T10 (mkF m 38 #[.val (.int p0), .val (.ref b1)] [(.ref (f_get2 w_EMPTY b1))])
  have r11 : (f_get2 w_EMPTY b1) = w_EMPTY := rfl
  rw [r11]
  show G T10 (mkF m 38 #[.val (.int p0), .val (.ref b1)] [(.ref w_EMPTY)])
  obtain ⟨cq12, kq12, q12a, q12b, q12c⟩ := isOf hZ e10 (Exa.ext O1.2 ST.k1)
  obtain ⟨_, _, ⟨T12, L12, k12, n12⟩, -, X12, ⟨Lc12, hQ12, l12, y12, z12⟩, st12⟩ := X10.virtualBack hx (y := y_1) (z := y_1) hown (mvT hZ (ww32 hw)) (mvT hZ (ww33 hw)) (notFace_of_selects (args := #[]) (mvT hZ (ww35 hw))) (mvT hZ (ww35 hw)) (mvT hZ (ww34 hw)) (by decide) (backOf (W := 0) (rm_isp l Z a0 hw [] w_EMPTY w_EMPTY T1.heap n0 (own_old_le O1) ST O1 (Fld.ext O1.2 ST.k2)) hZ (ww36 hw) (ww29 hw) (by decide) (by decide)) q12a q12c (g := (mkF m 38 #[.val (.int p0), .val (.ref b1)] [(.ref w_EMPTY)])) rfl (by rw [hml]; rfl) (Steps.refl _) (argsL := []) (rest := []) (lenOf pd_4 rfl) rfl (by show 2 * 0 + _ ≤ _; exact Nat.le_of_eq rfl) (hb hby at_38) (fun _ _ => ⟨rfl, e10, (by decide : 1 + 0 ≤ _), (by decide : 5 + 0 ≤ _)⟩)
  dsimp only [Pt.U, Pt.locs, Pt.cells, Pt.slots] at X12 l12 y12 z12 st12 hQ12
  subst l12 y12 z12
  obtain ⟨rfl, N12q, e12⟩ := hQ12
  have N12 := Fr.app N10 N12q
  refine step (fun t k => st12.trans k) ?_
  show G T12 (mkF m 41 #[.val (.int p0), .val (.ref b1)] [(.int (f_isp w_EMPTY w_EMPTY))])
  have r13 : (f_isp w_EMPTY w_EMPTY) = (0 : Int32) := rfl
  rw [r13]
  show G T12 (mkF m 41 #[.val (.int p0), .val (.ref b1)] [(.int 0)])
  refine step (fun t k => XS.ifYes X12.here hx rfl (pc0 := 41) (pc' := 46) rfl (hb hby at_41) rfl ((if0 _ _).trans (teq (by decide : (0 : Int32) = (0 : Int32))).1) (by decide) (by decide) k) ?_
  show G T12 (mkF m 46 #[.val (.int p0), .val (.ref b1)] [])
  refine step (fun t k => XS.aloadN X12.here hx rfl (hb hby at_46) rfl rfl k) ?_
  show G T12 (mkF m 47 #[.val (.int p0), .val (.ref b1)] [(.ref b1)])
  obtain ⟨cq14, kq14, q14a, q14b, q14c⟩ := isOf hZ e12 Y1_1
  obtain ⟨_, _, ⟨T14, L14, k14, n14⟩, -, X14, ⟨Lc14, hQ14, l14, y14, z14⟩, st14⟩ := X12.virtualBack hx (y := y_5) (z := y_5) hown (mvT hZ (ww49 hw)) (mvT hZ (ww50 hw)) (notFace_of_selects (args := #[]) (mvT hZ (ww52 hw))) (mvT hZ (ww52 hw)) (mvT hZ (ww51 hw)) (by decide) (backOf (W := 0) (rm_get3 l Z a0 hw [] w_EMPTY b1 T1.heap n0 (own_old_le O1) ST O1 Y1_5) hZ (ww53 hw) (ww2 hw) (by decide) (by decide)) q14a q14c (g := (mkF m 47 #[.val (.int p0), .val (.ref b1)] [(.ref b1)])) rfl (by rw [hml]; rfl) (Steps.refl _) (argsL := []) (rest := []) (lenOf pd_3 rfl) rfl (by show 2 * 0 + _ ≤ _; exact Nat.le_of_eq rfl) (hb hby at_47) (fun _ _ => ⟨rfl, e12, (by decide : 1 + 0 ≤ _), (by decide : 5 + 0 ≤ _)⟩)
  dsimp only [Pt.U, Pt.locs, Pt.cells, Pt.slots] at X14 l14 y14 z14 st14 hQ14
  subst l14 y14 z14
  obtain ⟨rfl, N14q, e14⟩ := hQ14
  have N14 := Fr.app N12 N14q
  refine step (fun t k => st14.trans k) ?_
  show G T14 (mkF m 50 #[.val (.int p0), .val (.ref b1)] [(.ref (f_get3 w_EMPTY b1))])
  have r15 : (f_get3 w_EMPTY b1) = w_EMPTY := rfl
  rw [r15]
  show G T14 (mkF m 50 #[.val (.int p0), .val (.ref b1)] [(.ref w_EMPTY)])
  obtain ⟨cq16, kq16, q16a, q16b, q16c⟩ := isOf hZ e14 (Exa.ext O1.2 ST.k1)
  obtain ⟨_, _, ⟨T16, L16, k16, n16⟩, -, X16, ⟨Lc16, hQ16, l16, y16, z16⟩, st16⟩ := X14.virtualBack hx (y := y_1) (z := y_1) hown (mvT hZ (ww32 hw)) (mvT hZ (ww33 hw)) (notFace_of_selects (args := #[]) (mvT hZ (ww35 hw))) (mvT hZ (ww35 hw)) (mvT hZ (ww34 hw)) (by decide) (backOf (W := 0) (rm_isp l Z a0 hw [] w_EMPTY w_EMPTY T1.heap n0 (own_old_le O1) ST O1 (Fld.ext O1.2 ST.k2)) hZ (ww36 hw) (ww29 hw) (by decide) (by decide)) q16a q16c (g := (mkF m 50 #[.val (.int p0), .val (.ref b1)] [(.ref w_EMPTY)])) rfl (by rw [hml]; rfl) (Steps.refl _) (argsL := []) (rest := []) (lenOf pd_4 rfl) rfl (by show 2 * 0 + _ ≤ _; exact Nat.le_of_eq rfl) (hb hby at_50) (fun _ _ => ⟨rfl, e14, (by decide : 1 + 0 ≤ _), (by decide : 5 + 0 ≤ _)⟩)
  dsimp only [Pt.U, Pt.locs, Pt.cells, Pt.slots] at X16 l16 y16 z16 st16 hQ16
  subst l16 y16 z16
  obtain ⟨rfl, N16q, e16⟩ := hQ16
  have N16 := Fr.app N14 N16q
  refine step (fun t k => st16.trans k) ?_
  show G T16 (mkF m 53 #[.val (.int p0), .val (.ref b1)] [(.int (f_isp w_EMPTY w_EMPTY))])
  have r17 : (f_isp w_EMPTY w_EMPTY) = (0 : Int32) := rfl
  rw [r17]
  show G T16 (mkF m 53 #[.val (.int p0), .val (.ref b1)] [(.int 0)])
  refine step (fun t k => XS.ifYes X16.here hx rfl (pc0 := 53) (pc' := 58) rfl (hb hby at_53) rfl ((if0 _ _).trans (teq (by decide : (0 : Int32) = (0 : Int32))).1) (by decide) (by decide) k) ?_
  show G T16 (mkF m 58 #[.val (.int p0), .val (.ref b1)] [])
  refine step (fun t k => XS.aloadN X16.here hx rfl (hb hby at_58) rfl rfl k) ?_
  show G T16 (mkF m 59 #[.val (.int p0), .val (.ref b1)] [(.ref b1)])
  obtain ⟨cq18, kq18, q18a, q18b, q18c⟩ := isOf hZ e16 Y1_1
  obtain ⟨_, _, ⟨T18, L18, k18, n18⟩, -, X18, ⟨Lc18, hQ18, l18, y18, z18⟩, st18⟩ := X16.virtualBack hx (y := y_6) (z := y_6) hown (mvT hZ (ww54 hw)) (mvT hZ (ww55 hw)) (notFace_of_selects (args := #[]) (mvT hZ (ww57 hw))) (mvT hZ (ww57 hw)) (mvT hZ (ww56 hw)) (by decide) (backOf (W := 0) (rm_get4 l Z a0 hw [] w_EMPTY b1 T1.heap n0 (own_old_le O1) ST O1 Y1_6) hZ (ww58 hw) (ww2 hw) (by decide) (by decide)) q18a q18c (g := (mkF m 59 #[.val (.int p0), .val (.ref b1)] [(.ref b1)])) rfl (by rw [hml]; rfl) (Steps.refl _) (argsL := []) (rest := []) (lenOf pd_3 rfl) rfl (by show 2 * 0 + _ ≤ _; exact Nat.le_of_eq rfl) (hb hby at_59) (fun _ _ => ⟨rfl, e16, (by decide : 1 + 0 ≤ _), (by decide : 5 + 0 ≤ _)⟩)
  dsimp only [Pt.U, Pt.locs, Pt.cells, Pt.slots] at X18 l18 y18 z18 st18 hQ18
  subst l18 y18 z18
  obtain ⟨rfl, N18q, e18⟩ := hQ18
  have N18 := Fr.app N16 N18q
  refine step (fun t k => st18.trans k) ?_
  show G T18 (mkF m 62 #[.val (.int p0), .val (.ref b1)] [(.ref (f_get4 w_EMPTY b1))])
  have r19 : (f_get4 w_EMPTY b1) = w_EMPTY := rfl
  rw [r19]
  show G T18 (mkF m 62 #[.val (.int p0), .val (.ref b1)] [(.ref w_EMPTY)])
  obtain ⟨cq20, kq20, q20a, q20b, q20c⟩ := isOf hZ e18 (Exa.ext O1.2 ST.k1)
  obtain ⟨_, _, ⟨T20, L20, k20, n20⟩, -, X20, ⟨Lc20, hQ20, l20, y20, z20⟩, st20⟩ := X18.virtualBack hx (y := y_1) (z := y_1) hown (mvT hZ (ww32 hw)) (mvT hZ (ww33 hw)) (notFace_of_selects (args := #[]) (mvT hZ (ww35 hw))) (mvT hZ (ww35 hw)) (mvT hZ (ww34 hw)) (by decide) (backOf (W := 0) (rm_isp l Z a0 hw [] w_EMPTY w_EMPTY T1.heap n0 (own_old_le O1) ST O1 (Fld.ext O1.2 ST.k2)) hZ (ww36 hw) (ww29 hw) (by decide) (by decide)) q20a q20c (g := (mkF m 62 #[.val (.int p0), .val (.ref b1)] [(.ref w_EMPTY)])) rfl (by rw [hml]; rfl) (Steps.refl _) (argsL := []) (rest := []) (lenOf pd_4 rfl) rfl (by show 2 * 0 + _ ≤ _; exact Nat.le_of_eq rfl) (hb hby at_62) (fun _ _ => ⟨rfl, e18, (by decide : 1 + 0 ≤ _), (by decide : 5 + 0 ≤ _)⟩)
  dsimp only [Pt.U, Pt.locs, Pt.cells, Pt.slots] at X20 l20 y20 z20 st20 hQ20
  subst l20 y20 z20
  obtain ⟨rfl, N20q, e20⟩ := hQ20
  have N20 := Fr.app N18 N20q
  refine step (fun t k => st20.trans k) ?_
  show G T20 (mkF m 65 #[.val (.int p0), .val (.ref b1)] [(.int (f_isp w_EMPTY w_EMPTY))])
  have r21 : (f_isp w_EMPTY w_EMPTY) = (0 : Int32) := rfl
  rw [r21]
  show G T20 (mkF m 65 #[.val (.int p0), .val (.ref b1)] [(.int 0)])
  refine step (fun t k => XS.ifYes X20.here hx rfl (pc0 := 65) (pc' := 70) rfl (hb hby at_65) rfl ((if0 _ _).trans (teq (by decide : (0 : Int32) = (0 : Int32))).1) (by decide) (by decide) k) ?_
  show G T20 (mkF m 70 #[.val (.int p0), .val (.ref b1)] [])
  refine step (fun t k => XS.iconst X20.here hx rfl (hb hby at_70) k) ?_
  show G T20 (mkF m 71 #[.val (.int p0), .val (.ref b1)] [(.int 1)])
  exact ret (v := some (.int 1)) X20 (fun h => by rw [Bd.returns] at h; cases h) (fun fs hr => retN X20 hx (t := .boolean) Bd.returns (by simp) (hb hby at_71) hr) e20 ⟨rfl, N20⟩ (by decide) (by decide)
set_option maxRecDepth 65536 in
set_option maxHeartbeats 40000000 in
theorem comes_1 {Post : Tables → Env → Array Value → State → Outcome → State → Prop} (hpost : ∀ tb e args s v u, (limb_1_1.after args s (.returned v) u = true ∧ limb_1_2.after args s (.returned v) u = true ∧ True) → FrameEnd s (.returned v) u (Jvm.fieldLocs frame_1_writes args s ++ Jvm.arrayLocs frame_1_arrays args s ++ Jvm.staticLocs frame_1_statics s) 16 128 → Post tb e args s (.returned v) u) :
    ArmFor flags0 classFile x code maxLocals ret World_1 tables_1 room_1 Calls_1 rest_1 Pre_1 Post := by
  intro l hfl _ _ p e ha hc hk s m args below hf hA hF happ hP
  obtain ⟨hcalls, hrest, hpre⟩ := hP
  obtain ⟨-, -, -, hnamed, -, -, -, hat⟩ := (Spec.applies_iff hf).mp happ
  obtain ⟨hg, hn⟩ := and_e (Cond.before_iff.mp (show (Jvm.Cond.and given_1 narrow_1).before args s = true from hpre))
  obtain ⟨g1a, g1b⟩ := and_e hg
  obtain ⟨w0, rfl⟩ : ∃ w0 : Value, args = #[w0] := by
    have hs : args.size = 1 := by simpa [Cond.value, given_1] using g1a
    obtain ⟨L⟩ := args
    match L, hs with
    | [w0], _ => exact ⟨w0, rfl⟩
  have hw := fun d (hd : d ∈ tables_1) => atoms_spec (ws := Jvm.Cond.code x code maxLocals ret :: tables_1) hat d (List.mem_cons_of_mem _ hd)
  have hfit : Fit s := fun {y c} hc i hi => by
    obtain ⟨ha, rfl⟩ := Array.getElem?_eq_some_iff.mp hc
    have q := List.all_eq_true.mp ((Array.all_eq_true_iff_forall_mem.mp hF) _ (Array.getElem_mem ha)) i (List.mem_range.mpr hi)
    simpa [Array.getElem?_eq_getElem hi] using q
  obtain ⟨hsets, hown0⟩ := atoms_of _ (rest_1_c_eq ▸ (show rest_1_c.before _ s = true from hrest))
  obtain ⟨i0, ei0⟩ := is_v g1b
  obtain rfl : w0 = (.int i0) := Option.some.inj ei0
  obtain ⟨w_EMPTY, ev_EMPTY⟩ := exa_v (Cond.before_iff.mp (hsets _ (List.mem_of_getElem? (i := 2) rfl)))
  obtain ⟨n, o, h1, h2, h3, _, L, rfl, ⟨rfl, N⟩, hq⟩ := rm_law l s _ hw tables_1 w_EMPTY i0 s.heap s.heap.size (Nat.le_refl _) ⟨Sta.start ev_EMPTY (Or.inl (hsets _ (List.mem_of_getElem? (i := 1) rfl))), Exa.start ev_EMPTY (Cond.before_iff.mp (hsets _ (List.mem_of_getElem? (i := 2) rfl))), own_fldN ev_EMPTY (Cond.before_iff.mp (hsets _ (List.mem_of_getElem? (i := 3) rfl)))⟩ (Old.start s)  p e ha hc hk s m _ below hf ((Spec.applies_iff_loose hf).mp happ).1 ⟨rfl, State.Warmed39.refl s, rfl⟩ trivial
  refine ⟨n, _, h1, h2, h3, hpost _ _ _ _ _ _ ⟨Cond.after_iff.mpr rfl, Cond.after_iff.mpr (eq_i res_at (Term.int_eval (1)) rfl), trivial⟩ ⟨hq.1, hq.2.1, (hq.2.2.sift fun y hy => Or.inr (N y hy)).mono (by decide) (by decide)⟩⟩
theorem main_1_1 : Claimed_1_1 := comes_1 fun _ _ _ _ _ _ h hF => ⟨h.1, hF⟩
theorem main_1_2 : Claimed_1_2 := comes_1 fun _ _ _ _ _ _ h hF => ⟨h.2.1, hF⟩
end Jvm.Pilot.@@N@@
namespace Jvm.Pilot.@@N@@
open Jvm Jvm.ClassFile Sem Op Lib Jvm.Free Jvm.Stand Jvm.Pilot.@@N@@.Jvm.D
/-! MADE BY PROGRAM (witnessworld.py) out of the Statement's table words and the real class files: 10 classes; the members and pool entries that the words name. The judged class is class 1, her method 1. -/
namespace start1
open Jvm.ClassFile
def u (s : String) : CpInfo := .utf8 (stringToUtf16 s)
/-- a pool by its gaps: so many unusable entries, then the entry; so many at the end -/
def gap : Nat → List CpInfo → List CpInfo
  | 0, r => r
  | n + 1, r => .unusable :: gap n r
def poolList (es : List (Nat × CpInfo)) (last : Nat) : List CpInfo := es.foldr (fun e r => gap e.1 (e.2 :: r)) (gap last [])
def pool (es : List (Nat × CpInfo)) (last : Nat) : Array CpInfo := ⟨poolList es last⟩
def fileOf (pool : Array CpInfo) (this : Nat) (attrs : Array Attribute := #[]) (ms : Array MethodInfo := #[]) (fl : Nat := 33) (sup : Nat := 0) (ifs : Array Nat := #[]) (fds : Array FieldInfo := #[]) : ClassFile where
  minorVersion := 0
  majorVersion := 65
  constantPool := pool
  accessFlags := fl
  thisClass := this
  superClass := sup
  interfaces := ifs
  fields := fds
  methods := ms
  attributes := attrs
def plain (name : String) (sup : Option ClassId) : Class where
  name := name
  kind := .ordinary
  loader := none
  accessFlags := 33
  super := sup
  interfaces := #[]
  cf := none
  fields := #[]
  methods := #[]
  instanceTypes := #[]
  staticTypes := #[]
  resolved := #[]
  callSites := []
  init := .initialized
  statics := none
  mirror := none

def pool0 : Array CpInfo := pool [(5, u "<init>"), (0, u "()V"), (1, .class_ 10), (1, u "java/lang/Object")] 113

def k0c0 : Code := { maxStack := 0, maxLocals := 1, code := object_method_1_code, exceptionTable := #[], attributes := #[] }
def k0m0 : Method := { name := "<init>", desc := "()V", sig := { parameters := [], returnType := none }, accessFlags := 1, code := some k0c0 }
/-- java/lang/Object -/
def k0 : Class := { plain "java/lang/Object" none with
  accessFlags := 33
  interfaces := #[]
  cf := some (fileOf pool0 8 #[] #[{ accessFlags := 1, nameIndex := 5, descriptorIndex := 6, attributes := #[] }] 33 0 #[] #[])
  fields := #[]
  methods := #[k0m0]
  instanceTypes := #[]
  staticTypes := #[]
  resolved := Array.replicate 124 none
  statics := none }

def pool1 : Array CpInfo := pool [(2, .class_ 4), (1, u "java/lang/Object"), (0, u "<init>"), (0, u "()V"), (0, .methodref 8 9), (0, .class_ 10), (0, .nameAndType 11 12), (0, u "com/example/bordereau/bordereau/seda/TransferIdentity"), (0, u "unknown"), (0, u "()Lcom/example/bordereau/bordereau/seda/TransferIdentity;"), (0, .methodref 8 14), (0, .nameAndType 15 16), (0, u "version"), (0, u "()Ljava/util/Optional;"), (0, .methodref 18 19), (0, .class_ 20), (0, .nameAndType 21 22), (0, u "java/util/Optional"), (0, u "isPresent"), (0, u "()Z"), (0, .methodref 8 24), (0, .nameAndType 25 16), (0, u "messageIdentifier"), (0, .methodref 8 27), (0, .nameAndType 28 16), (0, u "archivalAgreement"), (0, .methodref 8 30), (0, .nameAndType 31 16), (0, u "archivalAgency"), (0, .methodref 8 33), (0, .nameAndType 34 16), (0, u "transferringAgency"), (0, .class_ 36), (0, u "com/example/bordereau/bordereau/seda/TransferIdentityUnknownPinLaw"), (2, u "law"), (0, u "(I)Z")] 3

def k1m0 : Method := { name := "<init>", desc := "()V", sig := { parameters := [], returnType := none }, accessFlags := 2, code := none }
def k1c1 : Code := { maxStack := 1, maxLocals := 2, code := code, exceptionTable := #[], attributes := #[] }
def k1m1 : Method := { name := "law", desc := "(I)Z", sig := { parameters := [.int], returnType := some .boolean }, accessFlags := 9, code := some k1c1 }
/-- com/example/bordereau/bordereau/seda/TransferIdentityUnknownPinLaw -/
def k1 : Class := { plain "com/example/bordereau/bordereau/seda/TransferIdentityUnknownPinLaw" (some 0) with
  accessFlags := 49
  interfaces := #[]
  cf := some (fileOf pool1 35 #[] #[{ accessFlags := 2, nameIndex := 5, descriptorIndex := 6, attributes := #[] }, { accessFlags := 9, nameIndex := 39, descriptorIndex := 40, attributes := #[] }] 49 2 #[] #[])
  fields := #[]
  methods := #[k1m0, k1m1]
  instanceTypes := #[]
  staticTypes := #[]
  resolved := Array.replicate 44 none
  statics := none }

def pool2 : Array CpInfo := pool [(1, .methodref 2 3), (0, .class_ 4), (0, .nameAndType 5 6), (0, u "java/lang/Object"), (0, u "<init>"), (0, u "()V"), (0, .fieldref 8 9), (0, .class_ 10), (0, .nameAndType 11 12), (0, u "com/example/bordereau/bordereau/seda/TransferIdentity"), (0, u "version"), (0, u "Lcom/example/bordereau/bordereau/seda/SedaVersion;"), (0, .fieldref 8 14), (0, .nameAndType 15 16), (0, u "messageIdentifier"), (0, u "Ljava/lang/String;"), (0, .fieldref 8 18), (0, .nameAndType 19 16), (0, u "archivalAgreement"), (0, .fieldref 8 21), (0, .nameAndType 22 16), (0, u "archivalAgency"), (0, .fieldref 8 24), (0, .nameAndType 25 16), (0, u "transferringAgency"), (0, .methodref 8 27), (0, .nameAndType 5 28), (0, u "(Lcom/example/bordereau/bordereau/seda/SedaVersion;Ljava/lang/String;Ljava/lang/String;Ljava/lang/String;Ljava/lang/String;)V"), (0, .methodref 30 31), (0, .class_ 32), (0, .nameAndType 33 34), (0, u "java/util/Optional"), (0, u "ofNullable"), (0, u "(Ljava/lang/Object;)Ljava/util/Optional;"), (0, u "UNKNOWN"), (2, u "unknown"), (2, u "()Lcom/example/bordereau/bordereau/seda/TransferIdentity;"), (0, u "()Ljava/util/Optional;")] 5

def k2c0 : Code := { maxStack := 2, maxLocals := 6, code := prog_54_method_1_code, exceptionTable := #[], attributes := #[] }
def k2m0 : Method := { name := "<init>", desc := "(Lcom/example/bordereau/bordereau/seda/SedaVersion;Ljava/lang/String;Ljava/lang/String;Ljava/lang/String;Ljava/lang/String;)V", sig := { parameters := [(.object "com/example/bordereau/bordereau/seda/SedaVersion"), (.object "java/lang/String"), (.object "java/lang/String"), (.object "java/lang/String"), (.object "java/lang/String")], returnType := none }, accessFlags := 1, code := some k2c0 }
def k2c1 : Code := { maxStack := 7, maxLocals := 0, code := prog_54_method_2_code, exceptionTable := #[], attributes := #[] }
def k2m1 : Method := { name := "unknown", desc := "()Lcom/example/bordereau/bordereau/seda/TransferIdentity;", sig := { parameters := [], returnType := some (.object "com/example/bordereau/bordereau/seda/TransferIdentity") }, accessFlags := 9, code := some k2c1 }
def k2c2 : Code := { maxStack := 1, maxLocals := 1, code := prog_54_method_3_code, exceptionTable := #[], attributes := #[] }
def k2m2 : Method := { name := "version", desc := "()Ljava/util/Optional;", sig := { parameters := [], returnType := some (.object "java/util/Optional") }, accessFlags := 1, code := some k2c2 }
def k2c3 : Code := { maxStack := 1, maxLocals := 1, code := prog_54_method_4_code, exceptionTable := #[], attributes := #[] }
def k2m3 : Method := { name := "messageIdentifier", desc := "()Ljava/util/Optional;", sig := { parameters := [], returnType := some (.object "java/util/Optional") }, accessFlags := 1, code := some k2c3 }
def k2c4 : Code := { maxStack := 1, maxLocals := 1, code := prog_54_method_5_code, exceptionTable := #[], attributes := #[] }
def k2m4 : Method := { name := "archivalAgreement", desc := "()Ljava/util/Optional;", sig := { parameters := [], returnType := some (.object "java/util/Optional") }, accessFlags := 1, code := some k2c4 }
def k2c5 : Code := { maxStack := 1, maxLocals := 1, code := prog_54_method_6_code, exceptionTable := #[], attributes := #[] }
def k2m5 : Method := { name := "archivalAgency", desc := "()Ljava/util/Optional;", sig := { parameters := [], returnType := some (.object "java/util/Optional") }, accessFlags := 1, code := some k2c5 }
def k2c6 : Code := { maxStack := 1, maxLocals := 1, code := prog_54_method_7_code, exceptionTable := #[], attributes := #[] }
def k2m6 : Method := { name := "transferringAgency", desc := "()Ljava/util/Optional;", sig := { parameters := [], returnType := some (.object "java/util/Optional") }, accessFlags := 1, code := some k2c6 }
/-- com/example/bordereau/bordereau/seda/TransferIdentity -/
def k2 : Class := { plain "com/example/bordereau/bordereau/seda/TransferIdentity" (some 0) with
  accessFlags := 49
  interfaces := #[]
  cf := some (fileOf pool2 8 #[] #[{ accessFlags := 1, nameIndex := 5, descriptorIndex := 28, attributes := #[] }, { accessFlags := 9, nameIndex := 38, descriptorIndex := 41, attributes := #[] }, { accessFlags := 1, nameIndex := 11, descriptorIndex := 42, attributes := #[] }, { accessFlags := 1, nameIndex := 15, descriptorIndex := 42, attributes := #[] }, { accessFlags := 1, nameIndex := 19, descriptorIndex := 42, attributes := #[] }, { accessFlags := 1, nameIndex := 22, descriptorIndex := 42, attributes := #[] }, { accessFlags := 1, nameIndex := 25, descriptorIndex := 42, attributes := #[] }] 49 2 #[] #[{ accessFlags := 25, nameIndex := 35, descriptorIndex := 16, attributes := #[] }, { accessFlags := 18, nameIndex := 11, descriptorIndex := 12, attributes := #[] }, { accessFlags := 18, nameIndex := 15, descriptorIndex := 16, attributes := #[] }, { accessFlags := 18, nameIndex := 19, descriptorIndex := 16, attributes := #[] }, { accessFlags := 18, nameIndex := 22, descriptorIndex := 16, attributes := #[] }, { accessFlags := 18, nameIndex := 25, descriptorIndex := 16, attributes := #[] }])
  fields := #[{ name := "UNKNOWN", type := (.object "java/lang/String"), accessFlags := 25, slot := 0, constantValue := 0 }, { name := "version", type := (.object "com/example/bordereau/bordereau/seda/SedaVersion"), accessFlags := 18, slot := 0, constantValue := 0 }, { name := "messageIdentifier", type := (.object "java/lang/String"), accessFlags := 18, slot := 1, constantValue := 0 }, { name := "archivalAgreement", type := (.object "java/lang/String"), accessFlags := 18, slot := 2, constantValue := 0 }, { name := "archivalAgency", type := (.object "java/lang/String"), accessFlags := 18, slot := 3, constantValue := 0 }, { name := "transferringAgency", type := (.object "java/lang/String"), accessFlags := 18, slot := 4, constantValue := 0 }]
  methods := #[k2m0, k2m1, k2m2, k2m3, k2m4, k2m5, k2m6]
  instanceTypes := #[(.object "com/example/bordereau/bordereau/seda/SedaVersion"), (.object "java/lang/String"), (.object "java/lang/String"), (.object "java/lang/String"), (.object "java/lang/String")]
  staticTypes := #[(.object "java/lang/String")]
  resolved := Array.replicate 48 none
  statics := none }

def pool3 : Array CpInfo := pool [(1, .fieldref 2 3), (0, .class_ 4), (0, .nameAndType 5 6), (0, u "java/util/Optional"), (0, u "EMPTY"), (0, u "Ljava/util/Optional;"), (1, .class_ 10), (1, u "java/lang/Object"), (2, .fieldref 2 14), (0, .nameAndType 15 16), (0, u "value"), (0, u "Ljava/lang/Object;"), (29, u "()Z"), (17, u "ofNullable"), (0, u "(Ljava/lang/Object;)Ljava/util/Optional;"), (2, u "isPresent")] 118

def k3c0 : Code := { maxStack := 3, maxLocals := 1, code := jdk_32_method_4_code, exceptionTable := #[], attributes := #[] }
def k3m0 : Method := { name := "ofNullable", desc := "(Ljava/lang/Object;)Ljava/util/Optional;", sig := { parameters := [(.object "java/lang/Object")], returnType := some (.object "java/util/Optional") }, accessFlags := 9, code := some k3c0 }
def k3c1 : Code := { maxStack := 1, maxLocals := 1, code := jdk_32_method_6_code, exceptionTable := #[], attributes := #[] }
def k3m1 : Method := { name := "isPresent", desc := "()Z", sig := { parameters := [], returnType := some .boolean }, accessFlags := 1, code := some k3c1 }
/-- java/util/Optional -/
def k3 : Class := { plain "java/util/Optional" (some 0) with
  accessFlags := 49
  interfaces := #[]
  cf := some (fileOf pool3 2 #[] #[{ accessFlags := 9, nameIndex := 64, descriptorIndex := 65, attributes := #[] }, { accessFlags := 1, nameIndex := 68, descriptorIndex := 46, attributes := #[] }] 49 8 #[] #[{ accessFlags := 26, nameIndex := 5, descriptorIndex := 6, attributes := #[] }, { accessFlags := 18, nameIndex := 15, descriptorIndex := 16, attributes := #[] }])
  fields := #[{ name := "EMPTY", type := (.object "java/util/Optional"), accessFlags := 26, slot := 0, constantValue := 0 }, { name := "value", type := (.object "java/lang/Object"), accessFlags := 18, slot := 0, constantValue := 0 }]
  methods := #[k3m0, k3m1]
  instanceTypes := #[(.object "java/lang/Object")]
  staticTypes := #[(.object "java/util/Optional")]
  resolved := Array.replicate 187 none
  statics := some 0 }

def pool4 : Array CpInfo := pool [(1, u "java/lang/Cloneable"), (0, .class_ 1), (0, u "java/lang/Object"), (0, .class_ 3)] 3

/-- java/lang/Cloneable -/
def k4 : Class := { plain "java/lang/Cloneable" (some 0) with
  accessFlags := 1537
  interfaces := #[]
  cf := some (fileOf pool4 2 #[] #[] 1537 4 #[] #[])
  fields := #[]
  methods := #[]
  instanceTypes := #[]
  staticTypes := #[]
  resolved := Array.replicate 8 none
  statics := none }

def pool5 : Array CpInfo := pool [(1, u "java/io/Serializable"), (0, .class_ 1), (0, u "java/lang/Object"), (0, .class_ 3)] 3

/-- java/io/Serializable -/
def k5 : Class := { plain "java/io/Serializable" (some 0) with
  accessFlags := 1537
  interfaces := #[]
  cf := some (fileOf pool5 2 #[] #[] 1537 4 #[] #[])
  fields := #[]
  methods := #[]
  instanceTypes := #[]
  staticTypes := #[]
  resolved := Array.replicate 8 none
  statics := none }

/-- the primitive byte -/
def k6 : Class := { plain "byte" none with kind := .primitive 'B', accessFlags := 0x411 }
/-- [B -/
def k7 : Class := { plain "[B" (some 0) with kind := .array 6 .byte, interfaces := #[4, 5], accessFlags := 1041 }

/-- the primitive int -/
def k8 : Class := { plain "int" none with kind := .primitive 'I', accessFlags := 0x411 }
/-- [I -/
def k9 : Class := { plain "[I" (some 0) with kind := .array 8 .int, interfaces := #[4, 5], accessFlags := 1041 }

def heap : Heap := #[{ cls := 3, slots := #[.ref 1], vm := .statics 3 },
  { cls := 3, slots := #[.null], vm := .none }]
def classes : Array Class := #[k0, k1, k2, k3, k4, k5, k6, k7, k8, k9]
def interned : List (Array UInt16 × Addr) := []
def slotsUsed : Nat := 2
def theMethod : MethodId := ⟨1, 1⟩
def args0 : Array Value := #[.int 4]
def aboutOver (below : List Frame) : State where
  vm := { classes := classes, interned := interned.toArray }
  heap := heap
  slotsUsed := slotsUsed
  threads := #[{ frames := .invoking theMethod args0 :: below }]
def below0 : List Frame := [.native { method := ⟨0, 0⟩, args := #[] }]
def about1 : State := aboutOver below0
def p0 : Program := .bare "" "" ""
def e0 : Env := launch0.env 0 0 0
theorem w_frames : about1.frames = Frame.invoking theMethod args0 :: below0 := rfl
set_option maxRecDepth 65536 in
theorem w_args : argsFit about1.vm theMethod args0 = true := by decide +kernel
set_option maxRecDepth 65536 in
theorem w_heap : heapFits about1 = true := by decide +kernel
set_option maxRecDepth 65536 in
theorem w_runnable : about1.curStatus? = some .runnable := by decide +kernel
set_option maxRecDepth 65536 in
theorem w_alone : about1.alone = true := by decide +kernel
set_option maxRecDepth 65536 in
theorem w_named : about1.methodNamed? x = some theMethod := by decide +kernel
set_option maxRecDepth 65536 in
theorem w_hears : about1.hears theMethod below0 = true := by decide +kernel
set_option maxRecDepth 65536 in
theorem w_ripe : about1.ripe theMethod args0 below0 = true := by decide +kernel
theorem w_running : about1.status = .running := rfl
set_option maxRecDepth 65536 in
theorem w_room : about1.hasRoom e0.platform room_1 = true :=
  launch0.hasRoom_least _ room_1 (by decide +kernel) (by decide +kernel) (by decide +kernel) (by decide +kernel) (by decide +kernel) (by decide +kernel)
theorem allAtoms_all (ts : List Jvm.Cond) (a : Array Jvm.Value) (st : Jvm.State) : (allAtoms ts).before a st = ts.all (fun c => c.before a st) := by
  induction ts with
  | nil => rfl
  | cons c t ih =>
    show (Jvm.Cond.and c (allAtoms t)).before a st = _
    rw [Jvm.Cond.before_and, ih, List.all_cons]
def words1 : List Jvm.Cond := Jvm.Cond.code x code maxLocals ret :: tables_1
/-- a 'code' word, met by the world's own term for the bytes: nothing is compared byte by byte -/
theorem code_word {y : MethodName} {bytes : ByteArray} {mx : Nat} {rt : Option FieldType} {a : Array Value} {s : State} {m : MethodId} {meth : Method} {c : Code} (h1 : s.methodNamed? y = some m) (h2 : s.vm.method? m = some meth) (h3 : meth.code = some c) (h4 : c.code = bytes)
    (h5 : (c.maxLocals == mx && c.exceptionTable.isEmpty && decide (c.maxStack ≤ mostOperands) && decide (meth.sig.returnType = rt) && !meth.locks && decide (parseMethodDescriptor y.desc = some meth.sig)) = true) : (Jvm.Cond.code y bytes mx rt).before a s = true := by
  simp only [Bool.and_eq_true, beq_iff_eq, Bool.not_eq_true', decide_eq_true_eq] at h5
  obtain ⟨⟨⟨⟨⟨g1, g2⟩, g3⟩, g4⟩, g5⟩, g6⟩ := h5
  simp [Cond.before, Cond.holds, Cond.value, h1, h2, h3, h4, g1, g2, g3, g4, g5, g6]
def isCode : Jvm.Cond → Bool
  | .code _ _ _ _ => true
  | _ => false
theorem all_split {L : List Jvm.Cond} {P : Jvm.Cond → Bool} (h1 : L.all (fun c => isCode c || P c) = true) (h2 : ∀ c ∈ L.filter isCode, P c = true) : L.all P = true := by
  refine List.all_eq_true.mpr fun c hc => ?_
  have h := List.all_eq_true.mp h1 c hc
  rcases Bool.eq_false_or_eq_true (isCode c) with hi | hi
  · exact h2 c (List.mem_filter.mpr ⟨hc, hi⟩)
  · simpa [hi] using h
set_option maxRecDepth 65536 in
theorem w_c0 : (Jvm.Cond.code x code maxLocals ret).before args0 about1 = true := code_word (m := ⟨1, 1⟩) (meth := k1m1) (c := k1c1) (by decide +kernel) rfl rfl rfl (by decide +kernel)
set_option maxRecDepth 65536 in
theorem w_c1 : (Jvm.Cond.code ({ cls := "com/example/bordereau/bordereau/seda/TransferIdentity", name := "unknown", desc := "()Lcom/example/bordereau/bordereau/seda/TransferIdentity;" } : Jvm.MethodName) prog_54_method_2_code (0 : Nat) (Option.some (Jvm.ClassFile.FieldType.object "com/example/bordereau/bordereau/seda/TransferIdentity"))).before args0 about1 = true := code_word (m := ⟨2, 1⟩) (meth := k2m1) (c := k2c1) (by decide +kernel) rfl rfl rfl (by decide +kernel)
set_option maxRecDepth 65536 in
theorem w_c2 : (Jvm.Cond.code ({ cls := "com/example/bordereau/bordereau/seda/TransferIdentity", name := "<init>", desc := "(Lcom/example/bordereau/bordereau/seda/SedaVersion;Ljava/lang/String;Ljava/lang/String;Ljava/lang/String;Ljava/lang/String;)V" } : Jvm.MethodName) prog_54_method_1_code (6 : Nat) (Option.none : Option Jvm.ClassFile.FieldType)).before args0 about1 = true := code_word (m := ⟨2, 0⟩) (meth := k2m0) (c := k2c0) (by decide +kernel) rfl rfl rfl (by decide +kernel)
set_option maxRecDepth 65536 in
theorem w_c3 : (Jvm.Cond.code ({ cls := "java/lang/Object", name := "<init>", desc := "()V" } : Jvm.MethodName) object_method_1_code (1 : Nat) (Option.none : Option Jvm.ClassFile.FieldType)).before args0 about1 = true := code_word (m := ⟨0, 0⟩) (meth := k0m0) (c := k0c0) (by decide +kernel) rfl rfl rfl (by decide +kernel)
set_option maxRecDepth 65536 in
theorem w_c4 : (Jvm.Cond.code ({ cls := "com/example/bordereau/bordereau/seda/TransferIdentity", name := "version", desc := "()Ljava/util/Optional;" } : Jvm.MethodName) prog_54_method_3_code (1 : Nat) (Option.some (Jvm.ClassFile.FieldType.object "java/util/Optional"))).before args0 about1 = true := code_word (m := ⟨2, 2⟩) (meth := k2m2) (c := k2c2) (by decide +kernel) rfl rfl rfl (by decide +kernel)
set_option maxRecDepth 65536 in
theorem w_c5 : (Jvm.Cond.code ({ cls := "java/util/Optional", name := "ofNullable", desc := "(Ljava/lang/Object;)Ljava/util/Optional;" } : Jvm.MethodName) jdk_32_method_4_code (1 : Nat) (Option.some (Jvm.ClassFile.FieldType.object "java/util/Optional"))).before args0 about1 = true := code_word (m := ⟨3, 0⟩) (meth := k3m0) (c := k3c0) (by decide +kernel) rfl rfl rfl (by decide +kernel)
set_option maxRecDepth 65536 in
theorem w_c6 : (Jvm.Cond.code ({ cls := "java/util/Optional", name := "isPresent", desc := "()Z" } : Jvm.MethodName) jdk_32_method_6_code (1 : Nat) (Option.some Jvm.ClassFile.FieldType.boolean)).before args0 about1 = true := code_word (m := ⟨3, 1⟩) (meth := k3m1) (c := k3c1) (by decide +kernel) rfl rfl rfl (by decide +kernel)
set_option maxRecDepth 65536 in
theorem w_c7 : (Jvm.Cond.code ({ cls := "com/example/bordereau/bordereau/seda/TransferIdentity", name := "messageIdentifier", desc := "()Ljava/util/Optional;" } : Jvm.MethodName) prog_54_method_4_code (1 : Nat) (Option.some (Jvm.ClassFile.FieldType.object "java/util/Optional"))).before args0 about1 = true := code_word (m := ⟨2, 3⟩) (meth := k2m3) (c := k2c3) (by decide +kernel) rfl rfl rfl (by decide +kernel)
set_option maxRecDepth 65536 in
theorem w_c8 : (Jvm.Cond.code ({ cls := "com/example/bordereau/bordereau/seda/TransferIdentity", name := "archivalAgreement", desc := "()Ljava/util/Optional;" } : Jvm.MethodName) prog_54_method_5_code (1 : Nat) (Option.some (Jvm.ClassFile.FieldType.object "java/util/Optional"))).before args0 about1 = true := code_word (m := ⟨2, 4⟩) (meth := k2m4) (c := k2c4) (by decide +kernel) rfl rfl rfl (by decide +kernel)
set_option maxRecDepth 65536 in
theorem w_c9 : (Jvm.Cond.code ({ cls := "com/example/bordereau/bordereau/seda/TransferIdentity", name := "archivalAgency", desc := "()Ljava/util/Optional;" } : Jvm.MethodName) prog_54_method_6_code (1 : Nat) (Option.some (Jvm.ClassFile.FieldType.object "java/util/Optional"))).before args0 about1 = true := code_word (m := ⟨2, 5⟩) (meth := k2m5) (c := k2c5) (by decide +kernel) rfl rfl rfl (by decide +kernel)
set_option maxRecDepth 65536 in
theorem w_c10 : (Jvm.Cond.code ({ cls := "com/example/bordereau/bordereau/seda/TransferIdentity", name := "transferringAgency", desc := "()Ljava/util/Optional;" } : Jvm.MethodName) prog_54_method_7_code (1 : Nat) (Option.some (Jvm.ClassFile.FieldType.object "java/util/Optional"))).before args0 about1 = true := code_word (m := ⟨2, 6⟩) (meth := k2m6) (c := k2c6) (by decide +kernel) rfl rfl rfl (by decide +kernel)
def codes1 : List Jvm.Cond := [Jvm.Cond.code x code maxLocals ret, Jvm.Cond.code ({ cls := "com/example/bordereau/bordereau/seda/TransferIdentity", name := "unknown", desc := "()Lcom/example/bordereau/bordereau/seda/TransferIdentity;" } : Jvm.MethodName) prog_54_method_2_code (0 : Nat) (Option.some (Jvm.ClassFile.FieldType.object "com/example/bordereau/bordereau/seda/TransferIdentity")), Jvm.Cond.code ({ cls := "com/example/bordereau/bordereau/seda/TransferIdentity", name := "<init>", desc := "(Lcom/example/bordereau/bordereau/seda/SedaVersion;Ljava/lang/String;Ljava/lang/String;Ljava/lang/String;Ljava/lang/String;)V" } : Jvm.MethodName) prog_54_method_1_code (6 : Nat) (Option.none : Option Jvm.ClassFile.FieldType), Jvm.Cond.code ({ cls := "java/lang/Object", name := "<init>", desc := "()V" } : Jvm.MethodName) object_method_1_code (1 : Nat) (Option.none : Option Jvm.ClassFile.FieldType), Jvm.Cond.code ({ cls := "com/example/bordereau/bordereau/seda/TransferIdentity", name := "version", desc := "()Ljava/util/Optional;" } : Jvm.MethodName) prog_54_method_3_code (1 : Nat) (Option.some (Jvm.ClassFile.FieldType.object "java/util/Optional")), Jvm.Cond.code ({ cls := "java/util/Optional", name := "ofNullable", desc := "(Ljava/lang/Object;)Ljava/util/Optional;" } : Jvm.MethodName) jdk_32_method_4_code (1 : Nat) (Option.some (Jvm.ClassFile.FieldType.object "java/util/Optional")), Jvm.Cond.code ({ cls := "java/util/Optional", name := "isPresent", desc := "()Z" } : Jvm.MethodName) jdk_32_method_6_code (1 : Nat) (Option.some Jvm.ClassFile.FieldType.boolean), Jvm.Cond.code ({ cls := "com/example/bordereau/bordereau/seda/TransferIdentity", name := "messageIdentifier", desc := "()Ljava/util/Optional;" } : Jvm.MethodName) prog_54_method_4_code (1 : Nat) (Option.some (Jvm.ClassFile.FieldType.object "java/util/Optional")), Jvm.Cond.code ({ cls := "com/example/bordereau/bordereau/seda/TransferIdentity", name := "archivalAgreement", desc := "()Ljava/util/Optional;" } : Jvm.MethodName) prog_54_method_5_code (1 : Nat) (Option.some (Jvm.ClassFile.FieldType.object "java/util/Optional")), Jvm.Cond.code ({ cls := "com/example/bordereau/bordereau/seda/TransferIdentity", name := "archivalAgency", desc := "()Ljava/util/Optional;" } : Jvm.MethodName) prog_54_method_6_code (1 : Nat) (Option.some (Jvm.ClassFile.FieldType.object "java/util/Optional")), Jvm.Cond.code ({ cls := "com/example/bordereau/bordereau/seda/TransferIdentity", name := "transferringAgency", desc := "()Ljava/util/Optional;" } : Jvm.MethodName) prog_54_method_7_code (1 : Nat) (Option.some (Jvm.ClassFile.FieldType.object "java/util/Optional"))]
set_option maxRecDepth 65536 in
theorem codes_eq : words1.filter isCode = codes1 := rfl
theorem w_codes : ∀ c ∈ words1.filter isCode, c.before args0 about1 = true := by
  rw [codes_eq]
  intro c hc
  simp only [codes1, List.mem_cons, List.not_mem_nil, or_false] at hc
  rcases hc with rfl | rfl | rfl | rfl | rfl | rfl | rfl | rfl | rfl | rfl | rfl
  · exact w_c0
  · exact w_c1
  · exact w_c2
  · exact w_c3
  · exact w_c4
  · exact w_c5
  · exact w_c6
  · exact w_c7
  · exact w_c8
  · exact w_c9
  · exact w_c10
set_option maxRecDepth 65536 in
theorem w_t1 : (words1.take 24).all (fun c => isCode c || c.before args0 about1) = true := by decide +kernel
set_option maxRecDepth 65536 in
theorem w_t2 : ((words1.drop 24).take 24).all (fun c => isCode c || c.before args0 about1) = true := by decide +kernel
set_option maxRecDepth 65536 in
theorem w_t3 : ((words1.drop 24).drop 24).all (fun c => isCode c || c.before args0 about1) = true := by decide +kernel
theorem w_tables : (allAtoms (Jvm.Cond.code x code maxLocals ret :: tables_1)).before args0 about1 = true := by
  rw [allAtoms_all]
  show words1.all (fun c => c.before args0 about1) = true
  refine all_split ?_ w_codes
  rw [← List.take_append_drop 24 words1, List.all_append, w_t1, ← List.take_append_drop 24 (words1.drop 24), List.all_append, w_t2, w_t3]
  rfl
set_option maxRecDepth 65536 in
theorem w_rest : rest_1_c.before args0 about1 = true := by decide +kernel
set_option maxRecDepth 65536 in
theorem w_case : (Jvm.Cond.and given_1 narrow_1).before args0 about1 = true := by decide +kernel
theorem w_applies : (headSpec (Jvm.Cond.code x code maxLocals ret :: tables_1) room_1).applies x e0.platform about1 = true :=
  (Spec.applies_iff w_frames).mpr ⟨w_running, w_runnable, w_alone, w_named, w_hears, w_ripe, w_room, w_tables⟩
theorem atStart : AtStart classFile x code maxLocals ret World_1 tables_1 room_1 Calls_1 rest_1 Pre_1 launch0 p0 e0 about1 theMethod args0 below0 :=
  ⟨lists_1, trivial, launch0.admits_env _ _ _, launch0.least_env, fairChoices_fair.cas, fairChoices_fair.clock, w_frames, w_args, w_heap, w_applies, trivial, w_rest, w_case⟩
end start1
theorem witness_1 : WitnessClaimed_1 := ⟨start1.p0, start1.e0, start1.about1, start1.theMethod, start1.args0, start1.below0, start1.atStart⟩
end Jvm.Pilot.@@N@@
