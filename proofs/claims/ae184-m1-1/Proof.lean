import JvmDerived
import JvmDerived.Pilot.@@N@@Statement
import JvmDerived.Pilot.@@N@@Code
set_option linter.unusedVariables false
set_option linter.unusedSimpArgs false
namespace Jvm.RoadKit
open Sem ClassFile Op Lib Jvm.Stand Jvm.Free Jvm.LawKit
section New
variable {p : Program} {l : Launch} {e : Env} {R : Room} {s : State} {m : MethodId} {args : Array Value} {below : List Frame} {meth : Method} {c : Code} {T : State} {locs : List Loc} {cells slots : Nat}
theorem retI (X : Stand p l e R s m args below meth c T locs cells slots) (hx : p.tables.exec = Jvm.exec) {pc : Nat} {Ls : Array Slot} {z : Int32} {rest : List Value} (hret : meth.sig.returnType = some .int) (hd : decode c.code pc = .ok (.ireturn, 1)) {fs : List Frame}
    (hl : ∀ (f : JFrame) (acts : List Action), f.method = m → f.locked = none → f.entered = [] → (doReturn e (T.setTop f) acts (some (.int z))).1 = T.setFrames fs) : Steps p.tables e below (T.setTop (mkF m pc Ls (.int z :: rest))) (T.setFrames fs) :=
  retOut X hx hret rfl (Or.inl ⟨rfl, Or.inl rfl, z, rfl⟩) hd hl
theorem retL (X : Stand p l e R s m args below meth c T locs cells slots) (hx : p.tables.exec = Jvm.exec) {pc : Nat} {Ls : Array Slot} {z : Int64} {rest : List Value} (hret : meth.sig.returnType = some .long) (hd : decode c.code pc = .ok (.lreturn, 1)) {fs : List Frame}
    (hl : ∀ (f : JFrame) (acts : List Action), f.method = m → f.locked = none → f.entered = [] → (doReturn e (T.setTop f) acts (some (.long z))).1 = T.setFrames fs) : Steps p.tables e below (T.setTop (mkF m pc Ls (.long z :: rest))) (T.setFrames fs) :=
  retOut X hx hret rfl (Or.inr (Or.inl ⟨rfl, rfl, z, rfl⟩)) hd hl
theorem own_retD (X : Stand p l e R s m args below meth c T locs cells slots) (hx : p.tables.exec = Jvm.exec) {pc : Nat} {Ls : Array Slot} {z : UInt64} {rest : List Value} (hret : meth.sig.returnType = some .double) (hd : decode c.code pc = .ok (.dreturn, 1)) {fs : List Frame}
    (hl : ∀ (f : JFrame) (acts : List Action), f.method = m → f.locked = none → f.entered = [] → (doReturn e (T.setTop f) acts (some (.double z))).1 = T.setFrames fs) : Steps p.tables e below (T.setTop (mkF m pc Ls (.double z :: rest))) (T.setFrames fs) :=
  retOut X hx hret rfl (Or.inr (Or.inr (Or.inl ⟨rfl, rfl, z, rfl⟩))) hd hl
theorem own_nar {t : FieldType} {w : Value} (ht : t.isReference = true) (hw : w.isRef = true) : narrow t w = w := by
  cases t <;> first | (cases ht; done) | (cases w <;> first | rfl | (cases hw; done))
theorem retA (X : Stand p l e R s m args below meth c T locs cells slots) (hx : p.tables.exec = Jvm.exec) {pc : Nat} {Ls : Array Slot} {w : Value} {t : FieldType} {rest : List Value} (hret : meth.sig.returnType = some t) (ht : t.isReference = true) (hw : w.isRef = true) (hd : decode c.code pc = .ok (.areturn, 1)) {fs : List Frame}
    (hl : ∀ (f : JFrame) (acts : List Action), f.method = m → f.locked = none → f.entered = [] → (doReturn e (T.setTop f) acts (some w)).1 = T.setFrames fs) : Steps p.tables e below (T.setTop (mkF m pc Ls (w :: rest))) (T.setFrames fs) :=
  retOut X hx hret (own_nar ht hw) (Or.inr (Or.inr (Or.inr (Or.inr ⟨rfl, ht, hw⟩)))) hd hl
/-- the rest of a walk, as a predicate on where it stands -/
theorem own_open (K N : Nat) (Q : Option Value → Heap → List Loc → Prop) (hlocks : meth.locks = false) :
    ∃ G : State → JFrame → Prop,
      (∀ {T T' : State} {g g' : JFrame}, (∀ t, Steps p.tables e below (T'.setTop g') t → Steps p.tables e below (T.setTop g) t) → G T' g' → G T g) ∧
      (∀ {T : State} {g : JFrame} {locs : List Loc} {cells slots : Nat} {v : Option Value} {h : Heap}, Stand p l e R s m args below meth c T locs cells slots → (meth.sig.returnType = none → v = none) →
        (∀ fs, (∀ (f : JFrame) (acts : List Action), f.method = m → f.locked = none → f.entered = [] → (doReturn e (T.setTop f) acts v).1 = T.setFrames fs) → Steps p.tables e below (T.setTop g) (T.setFrames fs)) → T.heap = h → Q v h locs → cells ≤ K → slots ≤ N → G T g) ∧
      (∀ {T : State} {g : JFrame}, G T g → ∃ t o, Steps p.tables e below (T.setTop g) t ∧ t.status = .running ∧ Ended t below o ∧ ∃ v L, o = .returned v ∧ Q v t.heap L ∧ FrameEnd s o t L K N) := by
  refine ⟨fun T g => ∃ t o, Steps p.tables e below (T.setTop g) t ∧ t.status = .running ∧ Ended t below o ∧ ∃ v L, o = .returned v ∧ Q v t.heap L ∧ FrameEnd s o t L K N, ?_, ?_, fun h => h⟩
  · intro T T' g g' hs hG
    obtain ⟨t, o, h1, h2⟩ := hG
    exact ⟨t, o, hs t h1, h2⟩
  · intro T g locs cells slots v h X hv hst hT hQ hk hn
    obtain ⟨fs, hr, hrun, hended, hW, hsame⟩ := X.leave hv hlocks
    exact ⟨_, _, hst fs hr, hrun, hended, v, locs, rfl, by show Q v T.heap locs; rw [hT]; exact hQ, ⟨_, rfl⟩, hW, hsame.mono hk hn⟩
theorem own_openW (K N : Nat) (Q : Option Value → Heap → List Loc → Prop) (hlocks : meth.locks = false) :
    ∃ G : State → JFrame → Prop,
      (∀ {T T' : State} {g g' : JFrame}, (∀ t, Steps p.tables e below (T'.setTop g') t → Steps p.tables e below (T.setTop g) t) → G T' g' → G T g) ∧
      (∀ {T : State} {g : JFrame} {locs : List Loc} {cells slots : Nat} {v : Option Value} {h : Heap} {vm0 : Vm} {k0 : Nat}, Stand p l e R (s.setVm vm0) m args below meth c T locs cells slots → s.Since vm0 k0 → k0 ≤ h.size → (meth.sig.returnType = none → v = none) →
        (∀ fs, (∀ (f : JFrame) (acts : List Action), f.method = m → f.locked = none → f.entered = [] → (doReturn e (T.setTop f) acts v).1 = T.setFrames fs) → Steps p.tables e below (T.setTop g) (T.setFrames fs)) → T.heap = h → Q v h locs → cells ≤ K → slots ≤ N → G T g) ∧
      (∀ {T : State} {g : JFrame}, G T g → ∃ t o, Steps p.tables e below (T.setTop g) t ∧ t.status = .running ∧ Ended t below o ∧ ∃ v L, o = .returned v ∧ Q v t.heap L ∧ ReturnedEndW s o t L K N) := by
  refine ⟨fun T g => ∃ t o, Steps p.tables e below (T.setTop g) t ∧ t.status = .running ∧ Ended t below o ∧ ∃ v L, o = .returned v ∧ Q v t.heap L ∧ ReturnedEndW s o t L K N, ?_, ?_, fun h => h⟩
  · intro T T' g g' hs hG
    obtain ⟨t, o, h1, h2⟩ := hG
    exact ⟨t, o, hs t h1, h2⟩
  · intro T g locs cells slots v h vm0 k0 X hS hk0 hv hst hT hQ hk hn
    obtain ⟨fs, hr, hrun, hended, hW⟩ := X.leaveW hS (by rw [hT]; exact hk0) hv hlocks
    exact ⟨_, _, hst fs hr, hrun, hended, v, locs, rfl, by show Q v T.heap locs; rw [hT]; exact hQ, hW.1, hW.2.1, hW.2.2.1, hW.2.2.2.mono hk hn⟩
theorem own_sl (a : Array Slot) : ∃ z, z = a := ⟨_, rfl⟩
theorem own_xlt {x y : Int32} : x < y ↔ x.toInt < y.toInt := Int32.lt_iff_toInt_lt
theorem own_xeq {x y : Int32} : x = y ↔ x.toInt = y.toInt := Int32.toInt_inj.symm
theorem own_xltL {x y : Int64} : x < y ↔ x.toInt < y.toInt := Int64.lt_iff_toInt_lt
theorem own_xeqL {x y : Int64} : x = y ↔ x.toInt = y.toInt := Int64.toInt_inj.symm
theorem own_old_le {Z : State} {n0 : Nat} {h : Heap} (O : Old Z n0 h) : n0 ≤ h.size := O.1 ▸ O.2.1
theorem own_oldne {Z : State} {n0 : Nat} {h : Heap} {a b : Addr} (O : Old Z n0 h) (q : a < Z.heap.size) (r : n0 ≤ b) : a ≠ b := O.ne q r
theorem own_fldI {Z : State} {args : Array Value} {t : Term} {C f d : String} {a : Addr} {k : Int32} (ht : t.eval args Z none [] Z = some (.ref a)) (h : (Cond.eq (.field t C f d) (.int k)).value args Z none Z [] = some true) : Fld Z Z.heap a C f d (.int k) := by
  refine Fld.start ?_
  rw [← fld_at (C := C) (n := f) (dd := d) ht]
  obtain ⟨x, y, h1, h2, h3, h4⟩ := cmp_v (Or.inl h)
  have h5 : y = .int k := Option.some.inj (h2.symm.trans (Term.int_eval k))
  subst h5
  obtain ⟨z, rfl⟩ := h4
  have := gotT (P := z = k) (by simp [Cond.value, h1, h2]) h
  rw [h1, this]
theorem own_fldD {Z : State} {args : Array Value} {t : Term} {C f d : String} {a : Addr} {k : Int64} {b : UInt64} (hb : k.toUInt64 = b) (ht : t.eval args Z none [] Z = some (.ref a)) (h : (Cond.eq (.field t C f d) (.op1 .bitsD (.long k))).value args Z none Z [] = some true) : Fld Z Z.heap a C f d (.double b) := by
  refine Fld.start ?_
  rw [← fld_at (C := C) (n := f) (dd := d) ht]
  obtain ⟨x, y, h1, h2, h3, h4⟩ := cmp_v (Or.inl h)
  have h5 : y = .double k.toUInt64 := Option.some.inj (h2.symm.trans rfl)
  subst h5
  obtain ⟨z, rfl⟩ := h4
  have := gotT (P := z = k.toUInt64) (by simp [Cond.value, h1, h2]) h
  rw [h1, this, hb]
theorem own_dnn {a b : UInt64} (ha : Jvm.Free.Fl.NoNaN64 a) (hb : FP.Core.DFin b) (hz : ¬ FP.Core.DZero b) : Jvm.Free.Fl.NoNaN64 (FP.ddiv a b) := by
  refine Jvm.Free.Fl.val64_no.mpr fun q => ?_
  have q2 := (FP.Core.quotient_nan FP.Core.b64 _ _).mp ((FP.Core.val64_ddiv a b).symm.trans q)
  rcases q2 with h | h | ⟨s, t, h1, h2⟩ | ⟨s, t, q, r, h1, h2⟩
  · exact Jvm.Free.Fl.val64_no.mp ha h
  · exact hb.ne_nan h
  · exact hb.ne_inf t h2
  · exact hz ⟨t, r, h2⟩
theorem own_i2dn (x : Int32) : Jvm.Free.Fl.NoNaN64 (FP.i2d x) := Jvm.Free.Fl.noNaN64_no.mpr (FP.Core.i2d_fin x).notNaN
theorem own_i2dz {x : Int32} (h : x ≠ 0) : ¬ FP.Core.DZero (FP.i2d x) := fun q => FP.Core.i2d_ne_zero h ((FP.Core.zero_bits2 _).mp q)
theorem own_and255 (x : Int32) : ¬ (x &&& (255 : Int32)) < 0 ∧ ¬ (255 : Int32) < (x &&& (255 : Int32)) := by
  have c1 := c_mask x (255 : Int32) 8 (by decide) (by decide)
  have q0 : (0 : Int32).toInt = 0 := by decide
  have q1 : (255 : Int32).toInt = 255 := by decide
  rw [own_xlt, own_xlt]
  omega
theorem own_l255 (x : Int64) : ¬ (x &&& (255 : Int64)).toInt32 < 0 ∧ ¬ (255 : Int32) < (x &&& (255 : Int64)).toInt32 := by
  have c1 := c_maskL x (255 : Int64) 8 (by decide) (by decide)
  have c2 := c_l2i (x &&& (255 : Int64))
  have r := rng32 (x &&& (255 : Int64)).toInt32
  have q0 : (0 : Int32).toInt = 0 := by decide
  have q1 : (255 : Int32).toInt = 255 := by decide
  rw [own_xlt, own_xlt]
  omega
theorem own_i2c {x : Int32} (h : ¬ x < 0 ∧ ¬ (255 : Int32) < x) : x.toUInt32.toUInt16.toUInt32.toInt32 = x := by
  have c1 := c_i2c x
  have q0 : (0 : Int32).toInt = 0 := by decide
  have q1 : (255 : Int32).toInt = 255 := by decide
  rw [own_xlt, own_xlt] at h
  rw [own_xeq]
  omega
theorem own_narc {x : Int32} (h : ¬ x < 0 ∧ ¬ (255 : Int32) < x) : nar .char x = x := own_i2c h
theorem own_nz {Z : State} {args : Array Value} {t : Term} {z : Int32} (ht : t.eval args Z none [] Z = some (.int z)) (h : (Cond.not (Cond.eq t (.int 0))).value args Z none Z [] = some true) : ¬ z = (0 : Int32) :=
  gotF (P := z = (0 : Int32)) (by simp [Cond.value, ht, Term.int_eval]) (not_v h)
theorem own_evI {Z : State} {args : Array Value} {u : Term} {k : Int32} (h : (Cond.eq u (.int k)).value args Z none Z [] = some true) : u.eval args Z none [] Z = some (.int k) := by
  obtain ⟨x, y, h1, h2, h3, h4⟩ := cmp_v (Or.inl h)
  have h5 : y = .int k := Option.some.inj (h2.symm.trans (Term.int_eval k))
  subst h5
  obtain ⟨z, rfl⟩ := h4
  have := gotT (P := z = k) (by simp [Cond.value, h1, h2]) h
  rw [h1, this]
theorem own_slotI {Z : State} {args : Array Value} {t : Term} {a : Addr} {i k : Int32} {cl : Cell} (ht : t.eval args Z none [] Z = some (.ref a)) (hc : Z.heap[a]? = some cl) (h : (Cond.eq (.elem t (.int i)) (.int k)).value args Z none Z [] = some true) : cl.slots[i.toNatClampNeg]? = some (.int k) :=
  (elem_in (own_evI h) ht (Term.int_eval i) hc).2
theorem own_lenI {Z : State} {args : Array Value} {t : Term} {a : Addr} {n : Int32} {cl : Cell} {ty : FieldType} (ht : t.eval args Z none [] Z = some (.ref a)) (A : Arr Z Z.heap a cl ty) (h : (Cond.eq (.length t) (.int n)).value args Z none Z [] = some true) : cl.slots.size < 2 ^ 31 ∧ cl.slots.size.toInt32 = n := by
  have hh := A.fin (Vm.Alike.refl _)
  have q := own_evI h
  simp only [Term.eval, ht, hh, Option.bind_eq_bind, Option.bind_some] at q
  split at q
  · rename_i hlt
    exact ⟨hlt, Value.int.inj (Option.some.inj q)⟩
  · cases q
theorem own_fldN {Z : State} {args : Array Value} {t : Term} {C f d : String} {a : Addr} (ht : t.eval args Z none [] Z = some (.ref a)) (h : (Cond.eq (.field t C f d) .null).value args Z none Z [] = some true) : Fld Z Z.heap a C f d .null := by
  refine Fld.start ?_
  rw [← fld_at (C := C) (n := f) (dd := d) ht]
  exact null_v h
theorem own_selpriv {Z s : State} {a0 args : Array Value} {y : MethodName} {n : Nat} (hZ : Z.Warmed39 s.vm) (wp : (Cond.privateMethod y).before a0 Z = true) (wi : (Cond.instanceMethod y).before a0 Z = true) (wk : (Cond.instantiable y.cls n).before a0 Z = true) (hy : y.cls ≠ "java/lang/invoke/MethodHandle" ∧ y.cls ≠ "java/lang/invoke/VarHandle") : (Cond.selects y.cls y y).before args s = true := by
  obtain ⟨c, k, h1, h2, -, h3, -⟩ := Cond.instantiable_spec (mv (s := s) (args := args) hZ wk)
  exact selects_self_of_private h1 h2 (Bool.or_eq_false_iff.mp h3).1 (Cond.privateMethod_at (mvP hZ wp (args := args))) (mv hZ wi) hy
theorem own_ne_arv {Z : State} {h : Heap} {a b : Addr} {C : String} {a0 : Array Value} {i : Nat} {k : ClassId} {ty : FieldType} {n : Int32} {vs : List Value} {dv : Value} (F : Exa Z h a C) (wi : (Cond.instantiable C i).before a0 Z = true) (V : Arv Z h b k ty n vs dv) : a ≠ b := by
  obtain ⟨cl, A, -⟩ := V
  exact ne_arr F wi A
theorem own_arr_keep {Z : State} {h h' : Heap} {a : Addr} {cl : Cell} {ty : FieldType} {ws : List Addr} (F : Arr Z h a cl ty) (K : Keep h h' ws) (q : a ∉ ws) : Arr Z h' a cl ty := ⟨K.2.1 a cl F.1 q, F.2⟩
section Arrays
variable {Z : State} {h : Heap} {a : Addr} {k : ClassId} {n : Int32} {vs : List Value} {dv : Value} {g : JFrame} {rest : List Value} {j : Int32} {v : Value}
theorem own_len {ty : FieldType} (X : Stand p l e R s m args below meth c T locs cells slots) (hx : p.tables.exec = Jvm.exec) (hZ : Z.Warmed39 s.vm) (eT : T.heap = h) (V : Arv Z h a k ty n vs dv) (hg : g.method = m) (hs : g.stack = .ref a :: rest) (hd : decode c.code g.pc = .ok (.arraylength, 1)) (target : State)
    (hr : Steps p.tables e below (T.setTop { g with pc := g.pc + 1, stack := .int n :: rest }) target) : Steps p.tables e below (T.setTop g) target := by
  obtain ⟨cl, A, -, S, N, -, -⟩ := V
  refine X.arraylength hx (by rw [eT]; exact A.1) (State.isArrayOf_alike hZ.alike A.2.1) hg hs hd target ?_
  rw [len_of S N]; exact hr
theorem own_ldI (X : Stand p l e R s m args below meth c T locs cells slots) (hx : p.tables.exec = Jvm.exec) (hZ : Z.Warmed39 s.vm) (eT : T.heap = h) (V : Arv Z h a k .int n vs dv) (hj : ¬ j < 0 ∧ j < n) (hv : vs.getD j.toNatClampNeg dv = v) (hg : g.method = m) (hs : g.stack = .int j :: .ref a :: rest) (hd : decode c.code g.pc = .ok (.iaload, 1)) (target : State)
    (hr : Steps p.tables e below (T.setTop { g with pc := g.pc + 1, stack := v :: rest }) target) : Steps p.tables e below (T.setTop g) target := by
  obtain ⟨cl, A, -, S, N, H, -⟩ := V
  have hin := inb_of S hj
  exact X.iaload hx (by rw [eT]; exact A.1) (State.isArrayOf_alike hZ.alike A.2.1) A.2.2 hin (H.at hin hv) hg hs hd target hr
theorem own_ldJ (X : Stand p l e R s m args below meth c T locs cells slots) (hx : p.tables.exec = Jvm.exec) (hZ : Z.Warmed39 s.vm) (eT : T.heap = h) (V : Arv Z h a k .long n vs dv) (hj : ¬ j < 0 ∧ j < n) (hv : vs.getD j.toNatClampNeg dv = v) (hg : g.method = m) (hs : g.stack = .int j :: .ref a :: rest) (hd : decode c.code g.pc = .ok (.laload, 1)) (target : State)
    (hr : Steps p.tables e below (T.setTop { g with pc := g.pc + 1, stack := v :: rest }) target) : Steps p.tables e below (T.setTop g) target := by
  obtain ⟨cl, A, -, S, N, H, -⟩ := V
  have hin := inb_of S hj
  exact X.laload hx (by rw [eT]; exact A.1) (State.isArrayOf_alike hZ.alike A.2.1) A.2.2 hin (H.at hin hv) hg hs hd target hr
theorem own_ldC (X : Stand p l e R s m args below meth c T locs cells slots) (hx : p.tables.exec = Jvm.exec) (hZ : Z.Warmed39 s.vm) (eT : T.heap = h) (V : Arv Z h a k .char n vs dv) (hj : ¬ j < 0 ∧ j < n) (hv : vs.getD j.toNatClampNeg dv = v) (hg : g.method = m) (hs : g.stack = .int j :: .ref a :: rest) (hd : decode c.code g.pc = .ok (.caload, 1)) (target : State)
    (hr : Steps p.tables e below (T.setTop { g with pc := g.pc + 1, stack := v :: rest }) target) : Steps p.tables e below (T.setTop g) target := by
  obtain ⟨cl, A, -, S, N, H, -⟩ := V
  have hin := inb_of S hj
  exact X.caload hx (by rw [eT]; exact A.1) (State.isArrayOf_alike hZ.alike A.2.1) A.2.2 hin (H.at hin hv) hg hs hd target hr
theorem own_ldB (X : Stand p l e R s m args below meth c T locs cells slots) (hx : p.tables.exec = Jvm.exec) (hZ : Z.Warmed39 s.vm) (eT : T.heap = h) (V : Arv Z h a k .byte n vs dv) (hj : ¬ j < 0 ∧ j < n) (hv : vs.getD j.toNatClampNeg dv = v) (hg : g.method = m) (hs : g.stack = .int j :: .ref a :: rest) (hd : decode c.code g.pc = .ok (.baload, 1)) (target : State)
    (hr : Steps p.tables e below (T.setTop { g with pc := g.pc + 1, stack := v :: rest }) target) : Steps p.tables e below (T.setTop g) target := by
  obtain ⟨cl, A, -, S, N, H, -⟩ := V
  have hin := inb_of S hj
  exact X.baloadBytes hx (by rw [eT]; exact A.1) (State.isArrayOf_alike hZ.alike A.2.1) A.2.2 hin (H.at hin hv) hg hs hd target hr
theorem own_ldR {ty : FieldType} (X : Stand p l e R s m args below meth c T locs cells slots) (hx : p.tables.exec = Jvm.exec) (hZ : Z.Warmed39 s.vm) (eT : T.heap = h) (V : Arv Z h a k ty n vs dv) (hj : ¬ j < 0 ∧ j < n) (hv : vs.getD j.toNatClampNeg dv = v) (hty : ty.isReference = true) (hg : g.method = m) (hs : g.stack = .int j :: .ref a :: rest) (hd : decode c.code g.pc = .ok (.aaload, 1)) (target : State)
    (hr : Steps p.tables e below (T.setTop { g with pc := g.pc + 1, stack := v :: rest }) target) : Steps p.tables e below (T.setTop g) target := by
  obtain ⟨cl, A, -, S, N, H, -⟩ := V
  have hin := inb_of S hj
  exact X.aaload hx (by rw [eT]; exact A.1) (State.isArrayOf_alike hZ.alike A.2.1) hty A.2.2 hin (H.at hin hv) hg hs hd target hr
theorem own_stI {x : Int32} (X : Stand p l e R s m args below meth c T locs cells slots) (hx : p.tables.exec = Jvm.exec) (hZ : Z.Warmed39 s.vm) (eT : T.heap = h) (V : Arv Z h a k .int n vs dv) (hj : ¬ j < 0 ∧ j < n) {i : Nat} (hji : j.toNatClampNeg = i) (hi : i < vs.length) (hg : g.method = m) (hs : g.stack = .int x :: .int j :: .ref a :: rest) (hd : decode c.code g.pc = .ok (.iastore, 1)) :
    ∃ T' h', Stand p l e R s m args below meth c T' (locs ++ [⟨a, j.toNatClampNeg⟩]) cells slots ∧ T'.heap = h' ∧ Wr h h' a j.toNatClampNeg (.int x) ∧ Arv Z h' a k .int n (vs.set i (.int x)) dv ∧ ∀ target, Steps p.tables e below (T'.setTop { g with pc := g.pc + 1, stack := rest }) target → Steps p.tables e below (T.setTop g) target := by
  obtain ⟨cl, A, q, S, N, H, Gf⟩ := V
  obtain ⟨T', h', X', e', W', st⟩ := stI X hx hZ eT A (inb_of S hj) hg hs hd
  exact ⟨T', h', X', e', W', Arv.set A q S N H Gf rfl W' i hji hi, st⟩
theorem own_stJ {x : Int64} (X : Stand p l e R s m args below meth c T locs cells slots) (hx : p.tables.exec = Jvm.exec) (hZ : Z.Warmed39 s.vm) (eT : T.heap = h) (V : Arv Z h a k .long n vs dv) (hj : ¬ j < 0 ∧ j < n) {i : Nat} (hji : j.toNatClampNeg = i) (hi : i < vs.length) (hg : g.method = m) (hs : g.stack = .long x :: .int j :: .ref a :: rest) (hd : decode c.code g.pc = .ok (.lastore, 1)) :
    ∃ T' h', Stand p l e R s m args below meth c T' (locs ++ [⟨a, j.toNatClampNeg⟩]) cells slots ∧ T'.heap = h' ∧ Wr h h' a j.toNatClampNeg (.long x) ∧ Arv Z h' a k .long n (vs.set i (.long x)) dv ∧ ∀ target, Steps p.tables e below (T'.setTop { g with pc := g.pc + 1, stack := rest }) target → Steps p.tables e below (T.setTop g) target := by
  obtain ⟨cl, A, q, S, N, H, Gf⟩ := V
  obtain ⟨T', h', X', e', W', st⟩ := stJ X hx hZ eT A (inb_of S hj) hg hs hd
  exact ⟨T', h', X', e', W', Arv.set A q S N H Gf rfl W' i hji hi, st⟩
theorem own_stC {x : Int32} (X : Stand p l e R s m args below meth c T locs cells slots) (hx : p.tables.exec = Jvm.exec) (hZ : Z.Warmed39 s.vm) (eT : T.heap = h) (V : Arv Z h a k .char n vs dv) (hj : ¬ j < 0 ∧ j < n) {i : Nat} (hji : j.toNatClampNeg = i) (hi : i < vs.length) (hg : g.method = m) (hs : g.stack = .int x :: .int j :: .ref a :: rest) (hd : decode c.code g.pc = .ok (.castore, 1)) :
    ∃ T' h', Stand p l e R s m args below meth c T' (locs ++ [⟨a, j.toNatClampNeg⟩]) cells slots ∧ T'.heap = h' ∧ Wr h h' a j.toNatClampNeg (.int (nar .char x)) ∧ Arv Z h' a k .char n (vs.set i (.int (nar .char x))) dv ∧ ∀ target, Steps p.tables e below (T'.setTop { g with pc := g.pc + 1, stack := rest }) target → Steps p.tables e below (T.setTop g) target := by
  obtain ⟨cl, A, q, S, N, H, Gf⟩ := V
  obtain ⟨T', h', X', e', W', st⟩ := stC X hx hZ eT A (inb_of S hj) hg hs hd
  exact ⟨T', h', X', e', W', Arv.set A q S N H Gf (fits_nar_char _) W' i hji hi, st⟩
theorem own_stB {x : Int32} (X : Stand p l e R s m args below meth c T locs cells slots) (hx : p.tables.exec = Jvm.exec) (hZ : Z.Warmed39 s.vm) (eT : T.heap = h) (V : Arv Z h a k .byte n vs dv) (hj : ¬ j < 0 ∧ j < n) {i : Nat} (hji : j.toNatClampNeg = i) (hi : i < vs.length) (hg : g.method = m) (hs : g.stack = .int x :: .int j :: .ref a :: rest) (hd : decode c.code g.pc = .ok (.bastore, 1)) :
    ∃ T' h', Stand p l e R s m args below meth c T' (locs ++ [⟨a, j.toNatClampNeg⟩]) cells slots ∧ T'.heap = h' ∧ Wr h h' a j.toNatClampNeg (.int (nar .byte x)) ∧ Arv Z h' a k .byte n (vs.set i (.int (nar .byte x))) dv ∧ ∀ target, Steps p.tables e below (T'.setTop { g with pc := g.pc + 1, stack := rest }) target → Steps p.tables e below (T.setTop g) target := by
  obtain ⟨cl, A, q, S, N, H, Gf⟩ := V
  obtain ⟨T', h', X', e', W', st⟩ := stB X hx hZ eT A (inb_of S hj) hg hs hd
  exact ⟨T', h', X', e', W', Arv.set A q S N H Gf (fits_nar_byte _) W' i hji hi, st⟩
theorem own_stR {K : String} (X : Stand p l e R s m args below meth c T locs cells slots) (hx : p.tables.exec = Jvm.exec) (hZ : Z.Warmed39 s.vm) (eT : T.heap = h) (V : Arv Z h a k (.object K) n vs dv) (hj : ¬ j < 0 ∧ j < n) {i : Nat} (hji : j.toNatClampNeg = i) (hi : i < vs.length) (hS : ∀ {cl : Cell}, Arr Z h a cl (.object K) → cl.cls = k → Sto Z h a v) (hg : g.method = m) (hs : g.stack = v :: .int j :: .ref a :: rest) (hd : decode c.code g.pc = .ok (.aastore, 1)) (hf : fits (.object K) v = true := by rfl) :
    ∃ T' h', Stand p l e R s m args below meth c T' (locs ++ [⟨a, j.toNatClampNeg⟩]) cells slots ∧ T'.heap = h' ∧ Wr h h' a j.toNatClampNeg v ∧ Arv Z h' a k (.object K) n (vs.set i v) dv ∧ ∀ target, Steps p.tables e below (T'.setTop { g with pc := g.pc + 1, stack := rest }) target → Steps p.tables e below (T.setTop g) target := by
  obtain ⟨cl, A, q, S, N, H, Gf⟩ := V
  obtain ⟨T', h', X', e', W', st⟩ := stR X hx hZ eT A (inb_of S hj) rfl (hS A q) hg hs hd
  exact ⟨T', h', X', e', W', Arv.set A q S N H Gf hf W' i hji hi, st⟩
end Arrays
end New
end Jvm.RoadKit
namespace Jvm.Pilot.@@N@@
open Jvm Jvm.ClassFile Sem Op Lib Jvm.Free Jvm.Stand Jvm.LawKit Jvm.RoadKit Bundle Jvm.Pilot.@@N@@.Jvm.D
abbrev cn_0 : String := "com/example/redeliver/redeliver/core/Outcome"
abbrev cn_1 : String := "Lcom/example/redeliver/redeliver/core/Outcome;"
abbrev cn_2 : String := "com/example/redeliver/redeliver/core/OutcomeOfStatusPinLaw"
abbrev cn_3 : String := "(I)Lcom/example/redeliver/redeliver/core/Outcome;"
def own_St (Z : State) (w_FAILED : Addr) (w_DELIVERED : Addr) (w_REDIRECTED : Addr) (w_SERVER_ERROR : Addr) (w_PAYLOAD_TOO_LARGE : Addr) (w_TIMED_OUT : Addr) (w_UNAUTHORIZED : Addr) (w_BAD_REQUEST : Addr) (w_NOT_FOUND : Addr) (w_BUSY : Addr) (w_FORBIDDEN : Addr) (w_GONE : Addr) : Prop := (Sta Z Z.heap cn_0 "FAILED" cn_1 (.ref w_FAILED)) ∧ (Exa Z Z.heap w_FAILED cn_0) ∧ (Sta Z Z.heap cn_0 "DELIVERED" cn_1 (.ref w_DELIVERED)) ∧ (Exa Z Z.heap w_DELIVERED cn_0) ∧ (Sta Z Z.heap cn_0 "REDIRECTED" cn_1 (.ref w_REDIRECTED)) ∧ (Exa Z Z.heap w_REDIRECTED cn_0) ∧ (Sta Z Z.heap cn_0 "SERVER_ERROR" cn_1 (.ref w_SERVER_ERROR)) ∧ (Exa Z Z.heap w_SERVER_ERROR cn_0) ∧ (Sta Z Z.heap cn_0 "PAYLOAD_TOO_LARGE" cn_1 (.ref w_PAYLOAD_TOO_LARGE)) ∧ (Exa Z Z.heap w_PAYLOAD_TOO_LARGE cn_0) ∧ (Sta Z Z.heap cn_0 "TIMED_OUT" cn_1 (.ref w_TIMED_OUT)) ∧ (Exa Z Z.heap w_TIMED_OUT cn_0) ∧ (Sta Z Z.heap cn_0 "UNAUTHORIZED" cn_1 (.ref w_UNAUTHORIZED)) ∧ (Exa Z Z.heap w_UNAUTHORIZED cn_0) ∧ (Sta Z Z.heap cn_0 "BAD_REQUEST" cn_1 (.ref w_BAD_REQUEST)) ∧ (Exa Z Z.heap w_BAD_REQUEST cn_0) ∧ (Sta Z Z.heap cn_0 "NOT_FOUND" cn_1 (.ref w_NOT_FOUND)) ∧ (Exa Z Z.heap w_NOT_FOUND cn_0) ∧ (Sta Z Z.heap cn_0 "BUSY" cn_1 (.ref w_BUSY)) ∧ (Exa Z Z.heap w_BUSY cn_0) ∧ (Sta Z Z.heap cn_0 "FORBIDDEN" cn_1 (.ref w_FORBIDDEN)) ∧ (Exa Z Z.heap w_FORBIDDEN cn_0) ∧ (Sta Z Z.heap cn_0 "GONE" cn_1 (.ref w_GONE)) ∧ (Exa Z Z.heap w_GONE cn_0)
theorem own_St.k0 {Z : State} {w_FAILED : Addr} {w_DELIVERED : Addr} {w_REDIRECTED : Addr} {w_SERVER_ERROR : Addr} {w_PAYLOAD_TOO_LARGE : Addr} {w_TIMED_OUT : Addr} {w_UNAUTHORIZED : Addr} {w_BAD_REQUEST : Addr} {w_NOT_FOUND : Addr} {w_BUSY : Addr} {w_FORBIDDEN : Addr} {w_GONE : Addr} (ST : own_St Z w_FAILED w_DELIVERED w_REDIRECTED w_SERVER_ERROR w_PAYLOAD_TOO_LARGE w_TIMED_OUT w_UNAUTHORIZED w_BAD_REQUEST w_NOT_FOUND w_BUSY w_FORBIDDEN w_GONE) : Sta Z Z.heap cn_0 "FAILED" cn_1 (.ref w_FAILED) := ST.1
theorem own_St.k1 {Z : State} {w_FAILED : Addr} {w_DELIVERED : Addr} {w_REDIRECTED : Addr} {w_SERVER_ERROR : Addr} {w_PAYLOAD_TOO_LARGE : Addr} {w_TIMED_OUT : Addr} {w_UNAUTHORIZED : Addr} {w_BAD_REQUEST : Addr} {w_NOT_FOUND : Addr} {w_BUSY : Addr} {w_FORBIDDEN : Addr} {w_GONE : Addr} (ST : own_St Z w_FAILED w_DELIVERED w_REDIRECTED w_SERVER_ERROR w_PAYLOAD_TOO_LARGE w_TIMED_OUT w_UNAUTHORIZED w_BAD_REQUEST w_NOT_FOUND w_BUSY w_FORBIDDEN w_GONE) : Exa Z Z.heap w_FAILED cn_0 := ST.2.1
theorem own_St.k2 {Z : State} {w_FAILED : Addr} {w_DELIVERED : Addr} {w_REDIRECTED : Addr} {w_SERVER_ERROR : Addr} {w_PAYLOAD_TOO_LARGE : Addr} {w_TIMED_OUT : Addr} {w_UNAUTHORIZED : Addr} {w_BAD_REQUEST : Addr} {w_NOT_FOUND : Addr} {w_BUSY : Addr} {w_FORBIDDEN : Addr} {w_GONE : Addr} (ST : own_St Z w_FAILED w_DELIVERED w_REDIRECTED w_SERVER_ERROR w_PAYLOAD_TOO_LARGE w_TIMED_OUT w_UNAUTHORIZED w_BAD_REQUEST w_NOT_FOUND w_BUSY w_FORBIDDEN w_GONE) : Sta Z Z.heap cn_0 "DELIVERED" cn_1 (.ref w_DELIVERED) := ST.2.2.1
theorem own_St.k3 {Z : State} {w_FAILED : Addr} {w_DELIVERED : Addr} {w_REDIRECTED : Addr} {w_SERVER_ERROR : Addr} {w_PAYLOAD_TOO_LARGE : Addr} {w_TIMED_OUT : Addr} {w_UNAUTHORIZED : Addr} {w_BAD_REQUEST : Addr} {w_NOT_FOUND : Addr} {w_BUSY : Addr} {w_FORBIDDEN : Addr} {w_GONE : Addr} (ST : own_St Z w_FAILED w_DELIVERED w_REDIRECTED w_SERVER_ERROR w_PAYLOAD_TOO_LARGE w_TIMED_OUT w_UNAUTHORIZED w_BAD_REQUEST w_NOT_FOUND w_BUSY w_FORBIDDEN w_GONE) : Exa Z Z.heap w_DELIVERED cn_0 := ST.2.2.2.1
theorem own_St.k4 {Z : State} {w_FAILED : Addr} {w_DELIVERED : Addr} {w_REDIRECTED : Addr} {w_SERVER_ERROR : Addr} {w_PAYLOAD_TOO_LARGE : Addr} {w_TIMED_OUT : Addr} {w_UNAUTHORIZED : Addr} {w_BAD_REQUEST : Addr} {w_NOT_FOUND : Addr} {w_BUSY : Addr} {w_FORBIDDEN : Addr} {w_GONE : Addr} (ST : own_St Z w_FAILED w_DELIVERED w_REDIRECTED w_SERVER_ERROR w_PAYLOAD_TOO_LARGE w_TIMED_OUT w_UNAUTHORIZED w_BAD_REQUEST w_NOT_FOUND w_BUSY w_FORBIDDEN w_GONE) : Sta Z Z.heap cn_0 "REDIRECTED" cn_1 (.ref w_REDIRECTED) := ST.2.2.2.2.1
theorem own_St.k5 {Z : State} {w_FAILED : Addr} {w_DELIVERED : Addr} {w_REDIRECTED : Addr} {w_SERVER_ERROR : Addr} {w_PAYLOAD_TOO_LARGE : Addr} {w_TIMED_OUT : Addr} {w_UNAUTHORIZED : Addr} {w_BAD_REQUEST : Addr} {w_NOT_FOUND : Addr} {w_BUSY : Addr} {w_FORBIDDEN : Addr} {w_GONE : Addr} (ST : own_St Z w_FAILED w_DELIVERED w_REDIRECTED w_SERVER_ERROR w_PAYLOAD_TOO_LARGE w_TIMED_OUT w_UNAUTHORIZED w_BAD_REQUEST w_NOT_FOUND w_BUSY w_FORBIDDEN w_GONE) : Exa Z Z.heap w_REDIRECTED cn_0 := ST.2.2.2.2.2.1
theorem own_St.k6 {Z : State} {w_FAILED : Addr} {w_DELIVERED : Addr} {w_REDIRECTED : Addr} {w_SERVER_ERROR : Addr} {w_PAYLOAD_TOO_LARGE : Addr} {w_TIMED_OUT : Addr} {w_UNAUTHORIZED : Addr} {w_BAD_REQUEST : Addr} {w_NOT_FOUND : Addr} {w_BUSY : Addr} {w_FORBIDDEN : Addr} {w_GONE : Addr} (ST : own_St Z w_FAILED w_DELIVERED w_REDIRECTED w_SERVER_ERROR w_PAYLOAD_TOO_LARGE w_TIMED_OUT w_UNAUTHORIZED w_BAD_REQUEST w_NOT_FOUND w_BUSY w_FORBIDDEN w_GONE) : Sta Z Z.heap cn_0 "SERVER_ERROR" cn_1 (.ref w_SERVER_ERROR) := ST.2.2.2.2.2.2.1
theorem own_St.k7 {Z : State} {w_FAILED : Addr} {w_DELIVERED : Addr} {w_REDIRECTED : Addr} {w_SERVER_ERROR : Addr} {w_PAYLOAD_TOO_LARGE : Addr} {w_TIMED_OUT : Addr} {w_UNAUTHORIZED : Addr} {w_BAD_REQUEST : Addr} {w_NOT_FOUND : Addr} {w_BUSY : Addr} {w_FORBIDDEN : Addr} {w_GONE : Addr} (ST : own_St Z w_FAILED w_DELIVERED w_REDIRECTED w_SERVER_ERROR w_PAYLOAD_TOO_LARGE w_TIMED_OUT w_UNAUTHORIZED w_BAD_REQUEST w_NOT_FOUND w_BUSY w_FORBIDDEN w_GONE) : Exa Z Z.heap w_SERVER_ERROR cn_0 := ST.2.2.2.2.2.2.2.1
theorem own_St.k8 {Z : State} {w_FAILED : Addr} {w_DELIVERED : Addr} {w_REDIRECTED : Addr} {w_SERVER_ERROR : Addr} {w_PAYLOAD_TOO_LARGE : Addr} {w_TIMED_OUT : Addr} {w_UNAUTHORIZED : Addr} {w_BAD_REQUEST : Addr} {w_NOT_FOUND : Addr} {w_BUSY : Addr} {w_FORBIDDEN : Addr} {w_GONE : Addr} (ST : own_St Z w_FAILED w_DELIVERED w_REDIRECTED w_SERVER_ERROR w_PAYLOAD_TOO_LARGE w_TIMED_OUT w_UNAUTHORIZED w_BAD_REQUEST w_NOT_FOUND w_BUSY w_FORBIDDEN w_GONE) : Sta Z Z.heap cn_0 "PAYLOAD_TOO_LARGE" cn_1 (.ref w_PAYLOAD_TOO_LARGE) := ST.2.2.2.2.2.2.2.2.1
theorem own_St.k9 {Z : State} {w_FAILED : Addr} {w_DELIVERED : Addr} {w_REDIRECTED : Addr} {w_SERVER_ERROR : Addr} {w_PAYLOAD_TOO_LARGE : Addr} {w_TIMED_OUT : Addr} {w_UNAUTHORIZED : Addr} {w_BAD_REQUEST : Addr} {w_NOT_FOUND : Addr} {w_BUSY : Addr} {w_FORBIDDEN : Addr} {w_GONE : Addr} (ST : own_St Z w_FAILED w_DELIVERED w_REDIRECTED w_SERVER_ERROR w_PAYLOAD_TOO_LARGE w_TIMED_OUT w_UNAUTHORIZED w_BAD_REQUEST w_NOT_FOUND w_BUSY w_FORBIDDEN w_GONE) : Exa Z Z.heap w_PAYLOAD_TOO_LARGE cn_0 := ST.2.2.2.2.2.2.2.2.2.1
theorem own_St.k10 {Z : State} {w_FAILED : Addr} {w_DELIVERED : Addr} {w_REDIRECTED : Addr} {w_SERVER_ERROR : Addr} {w_PAYLOAD_TOO_LARGE : Addr} {w_TIMED_OUT : Addr} {w_UNAUTHORIZED : Addr} {w_BAD_REQUEST : Addr} {w_NOT_FOUND : Addr} {w_BUSY : Addr} {w_FORBIDDEN : Addr} {w_GONE : Addr} (ST : own_St Z w_FAILED w_DELIVERED w_REDIRECTED w_SERVER_ERROR w_PAYLOAD_TOO_LARGE w_TIMED_OUT w_UNAUTHORIZED w_BAD_REQUEST w_NOT_FOUND w_BUSY w_FORBIDDEN w_GONE) : Sta Z Z.heap cn_0 "TIMED_OUT" cn_1 (.ref w_TIMED_OUT) := ST.2.2.2.2.2.2.2.2.2.2.1
theorem own_St.k11 {Z : State} {w_FAILED : Addr} {w_DELIVERED : Addr} {w_REDIRECTED : Addr} {w_SERVER_ERROR : Addr} {w_PAYLOAD_TOO_LARGE : Addr} {w_TIMED_OUT : Addr} {w_UNAUTHORIZED : Addr} {w_BAD_REQUEST : Addr} {w_NOT_FOUND : Addr} {w_BUSY : Addr} {w_FORBIDDEN : Addr} {w_GONE : Addr} (ST : own_St Z w_FAILED w_DELIVERED w_REDIRECTED w_SERVER_ERROR w_PAYLOAD_TOO_LARGE w_TIMED_OUT w_UNAUTHORIZED w_BAD_REQUEST w_NOT_FOUND w_BUSY w_FORBIDDEN w_GONE) : Exa Z Z.heap w_TIMED_OUT cn_0 := ST.2.2.2.2.2.2.2.2.2.2.2.1
theorem own_St.k12 {Z : State} {w_FAILED : Addr} {w_DELIVERED : Addr} {w_REDIRECTED : Addr} {w_SERVER_ERROR : Addr} {w_PAYLOAD_TOO_LARGE : Addr} {w_TIMED_OUT : Addr} {w_UNAUTHORIZED : Addr} {w_BAD_REQUEST : Addr} {w_NOT_FOUND : Addr} {w_BUSY : Addr} {w_FORBIDDEN : Addr} {w_GONE : Addr} (ST : own_St Z w_FAILED w_DELIVERED w_REDIRECTED w_SERVER_ERROR w_PAYLOAD_TOO_LARGE w_TIMED_OUT w_UNAUTHORIZED w_BAD_REQUEST w_NOT_FOUND w_BUSY w_FORBIDDEN w_GONE) : Sta Z Z.heap cn_0 "UNAUTHORIZED" cn_1 (.ref w_UNAUTHORIZED) := ST.2.2.2.2.2.2.2.2.2.2.2.2.1
theorem own_St.k13 {Z : State} {w_FAILED : Addr} {w_DELIVERED : Addr} {w_REDIRECTED : Addr} {w_SERVER_ERROR : Addr} {w_PAYLOAD_TOO_LARGE : Addr} {w_TIMED_OUT : Addr} {w_UNAUTHORIZED : Addr} {w_BAD_REQUEST : Addr} {w_NOT_FOUND : Addr} {w_BUSY : Addr} {w_FORBIDDEN : Addr} {w_GONE : Addr} (ST : own_St Z w_FAILED w_DELIVERED w_REDIRECTED w_SERVER_ERROR w_PAYLOAD_TOO_LARGE w_TIMED_OUT w_UNAUTHORIZED w_BAD_REQUEST w_NOT_FOUND w_BUSY w_FORBIDDEN w_GONE) : Exa Z Z.heap w_UNAUTHORIZED cn_0 := ST.2.2.2.2.2.2.2.2.2.2.2.2.2.1
theorem own_St.k14 {Z : State} {w_FAILED : Addr} {w_DELIVERED : Addr} {w_REDIRECTED : Addr} {w_SERVER_ERROR : Addr} {w_PAYLOAD_TOO_LARGE : Addr} {w_TIMED_OUT : Addr} {w_UNAUTHORIZED : Addr} {w_BAD_REQUEST : Addr} {w_NOT_FOUND : Addr} {w_BUSY : Addr} {w_FORBIDDEN : Addr} {w_GONE : Addr} (ST : own_St Z w_FAILED w_DELIVERED w_REDIRECTED w_SERVER_ERROR w_PAYLOAD_TOO_LARGE w_TIMED_OUT w_UNAUTHORIZED w_BAD_REQUEST w_NOT_FOUND w_BUSY w_FORBIDDEN w_GONE) : Sta Z Z.heap cn_0 "BAD_REQUEST" cn_1 (.ref w_BAD_REQUEST) := ST.2.2.2.2.2.2.2.2.2.2.2.2.2.2.1
theorem own_St.k15 {Z : State} {w_FAILED : Addr} {w_DELIVERED : Addr} {w_REDIRECTED : Addr} {w_SERVER_ERROR : Addr} {w_PAYLOAD_TOO_LARGE : Addr} {w_TIMED_OUT : Addr} {w_UNAUTHORIZED : Addr} {w_BAD_REQUEST : Addr} {w_NOT_FOUND : Addr} {w_BUSY : Addr} {w_FORBIDDEN : Addr} {w_GONE : Addr} (ST : own_St Z w_FAILED w_DELIVERED w_REDIRECTED w_SERVER_ERROR w_PAYLOAD_TOO_LARGE w_TIMED_OUT w_UNAUTHORIZED w_BAD_REQUEST w_NOT_FOUND w_BUSY w_FORBIDDEN w_GONE) : Exa Z Z.heap w_BAD_REQUEST cn_0 := ST.2.2.2.2.2.2.2.2.2.2.2.2.2.2.2.1
theorem own_St.k16 {Z : State} {w_FAILED : Addr} {w_DELIVERED : Addr} {w_REDIRECTED : Addr} {w_SERVER_ERROR : Addr} {w_PAYLOAD_TOO_LARGE : Addr} {w_TIMED_OUT : Addr} {w_UNAUTHORIZED : Addr} {w_BAD_REQUEST : Addr} {w_NOT_FOUND : Addr} {w_BUSY : Addr} {w_FORBIDDEN : Addr} {w_GONE : Addr} (ST : own_St Z w_FAILED w_DELIVERED w_REDIRECTED w_SERVER_ERROR w_PAYLOAD_TOO_LARGE w_TIMED_OUT w_UNAUTHORIZED w_BAD_REQUEST w_NOT_FOUND w_BUSY w_FORBIDDEN w_GONE) : Sta Z Z.heap cn_0 "NOT_FOUND" cn_1 (.ref w_NOT_FOUND) := ST.2.2.2.2.2.2.2.2.2.2.2.2.2.2.2.2.1
theorem own_St.k17 {Z : State} {w_FAILED : Addr} {w_DELIVERED : Addr} {w_REDIRECTED : Addr} {w_SERVER_ERROR : Addr} {w_PAYLOAD_TOO_LARGE : Addr} {w_TIMED_OUT : Addr} {w_UNAUTHORIZED : Addr} {w_BAD_REQUEST : Addr} {w_NOT_FOUND : Addr} {w_BUSY : Addr} {w_FORBIDDEN : Addr} {w_GONE : Addr} (ST : own_St Z w_FAILED w_DELIVERED w_REDIRECTED w_SERVER_ERROR w_PAYLOAD_TOO_LARGE w_TIMED_OUT w_UNAUTHORIZED w_BAD_REQUEST w_NOT_FOUND w_BUSY w_FORBIDDEN w_GONE) : Exa Z Z.heap w_NOT_FOUND cn_0 := ST.2.2.2.2.2.2.2.2.2.2.2.2.2.2.2.2.2.1
theorem own_St.k18 {Z : State} {w_FAILED : Addr} {w_DELIVERED : Addr} {w_REDIRECTED : Addr} {w_SERVER_ERROR : Addr} {w_PAYLOAD_TOO_LARGE : Addr} {w_TIMED_OUT : Addr} {w_UNAUTHORIZED : Addr} {w_BAD_REQUEST : Addr} {w_NOT_FOUND : Addr} {w_BUSY : Addr} {w_FORBIDDEN : Addr} {w_GONE : Addr} (ST : own_St Z w_FAILED w_DELIVERED w_REDIRECTED w_SERVER_ERROR w_PAYLOAD_TOO_LARGE w_TIMED_OUT w_UNAUTHORIZED w_BAD_REQUEST w_NOT_FOUND w_BUSY w_FORBIDDEN w_GONE) : Sta Z Z.heap cn_0 "BUSY" cn_1 (.ref w_BUSY) := ST.2.2.2.2.2.2.2.2.2.2.2.2.2.2.2.2.2.2.1
theorem own_St.k19 {Z : State} {w_FAILED : Addr} {w_DELIVERED : Addr} {w_REDIRECTED : Addr} {w_SERVER_ERROR : Addr} {w_PAYLOAD_TOO_LARGE : Addr} {w_TIMED_OUT : Addr} {w_UNAUTHORIZED : Addr} {w_BAD_REQUEST : Addr} {w_NOT_FOUND : Addr} {w_BUSY : Addr} {w_FORBIDDEN : Addr} {w_GONE : Addr} (ST : own_St Z w_FAILED w_DELIVERED w_REDIRECTED w_SERVER_ERROR w_PAYLOAD_TOO_LARGE w_TIMED_OUT w_UNAUTHORIZED w_BAD_REQUEST w_NOT_FOUND w_BUSY w_FORBIDDEN w_GONE) : Exa Z Z.heap w_BUSY cn_0 := ST.2.2.2.2.2.2.2.2.2.2.2.2.2.2.2.2.2.2.2.1
theorem own_St.k20 {Z : State} {w_FAILED : Addr} {w_DELIVERED : Addr} {w_REDIRECTED : Addr} {w_SERVER_ERROR : Addr} {w_PAYLOAD_TOO_LARGE : Addr} {w_TIMED_OUT : Addr} {w_UNAUTHORIZED : Addr} {w_BAD_REQUEST : Addr} {w_NOT_FOUND : Addr} {w_BUSY : Addr} {w_FORBIDDEN : Addr} {w_GONE : Addr} (ST : own_St Z w_FAILED w_DELIVERED w_REDIRECTED w_SERVER_ERROR w_PAYLOAD_TOO_LARGE w_TIMED_OUT w_UNAUTHORIZED w_BAD_REQUEST w_NOT_FOUND w_BUSY w_FORBIDDEN w_GONE) : Sta Z Z.heap cn_0 "FORBIDDEN" cn_1 (.ref w_FORBIDDEN) := ST.2.2.2.2.2.2.2.2.2.2.2.2.2.2.2.2.2.2.2.2.1
theorem own_St.k21 {Z : State} {w_FAILED : Addr} {w_DELIVERED : Addr} {w_REDIRECTED : Addr} {w_SERVER_ERROR : Addr} {w_PAYLOAD_TOO_LARGE : Addr} {w_TIMED_OUT : Addr} {w_UNAUTHORIZED : Addr} {w_BAD_REQUEST : Addr} {w_NOT_FOUND : Addr} {w_BUSY : Addr} {w_FORBIDDEN : Addr} {w_GONE : Addr} (ST : own_St Z w_FAILED w_DELIVERED w_REDIRECTED w_SERVER_ERROR w_PAYLOAD_TOO_LARGE w_TIMED_OUT w_UNAUTHORIZED w_BAD_REQUEST w_NOT_FOUND w_BUSY w_FORBIDDEN w_GONE) : Exa Z Z.heap w_FORBIDDEN cn_0 := ST.2.2.2.2.2.2.2.2.2.2.2.2.2.2.2.2.2.2.2.2.2.1
theorem own_St.k22 {Z : State} {w_FAILED : Addr} {w_DELIVERED : Addr} {w_REDIRECTED : Addr} {w_SERVER_ERROR : Addr} {w_PAYLOAD_TOO_LARGE : Addr} {w_TIMED_OUT : Addr} {w_UNAUTHORIZED : Addr} {w_BAD_REQUEST : Addr} {w_NOT_FOUND : Addr} {w_BUSY : Addr} {w_FORBIDDEN : Addr} {w_GONE : Addr} (ST : own_St Z w_FAILED w_DELIVERED w_REDIRECTED w_SERVER_ERROR w_PAYLOAD_TOO_LARGE w_TIMED_OUT w_UNAUTHORIZED w_BAD_REQUEST w_NOT_FOUND w_BUSY w_FORBIDDEN w_GONE) : Sta Z Z.heap cn_0 "GONE" cn_1 (.ref w_GONE) := ST.2.2.2.2.2.2.2.2.2.2.2.2.2.2.2.2.2.2.2.2.2.2.1
theorem own_St.k23 {Z : State} {w_FAILED : Addr} {w_DELIVERED : Addr} {w_REDIRECTED : Addr} {w_SERVER_ERROR : Addr} {w_PAYLOAD_TOO_LARGE : Addr} {w_TIMED_OUT : Addr} {w_UNAUTHORIZED : Addr} {w_BAD_REQUEST : Addr} {w_NOT_FOUND : Addr} {w_BUSY : Addr} {w_FORBIDDEN : Addr} {w_GONE : Addr} (ST : own_St Z w_FAILED w_DELIVERED w_REDIRECTED w_SERVER_ERROR w_PAYLOAD_TOO_LARGE w_TIMED_OUT w_UNAUTHORIZED w_BAD_REQUEST w_NOT_FOUND w_BUSY w_FORBIDDEN w_GONE) : Exa Z Z.heap w_GONE cn_0 := ST.2.2.2.2.2.2.2.2.2.2.2.2.2.2.2.2.2.2.2.2.2.2.2
theorem ww5 {Z : State} {a0 : Array Value} (hw : ∀ d ∈ tables_1, d.before a0 Z = true) : Jvm.Cond.before (Jvm.Cond.laysStatic cn_0 "FAILED" cn_1) a0 Z = true := hw _ (List.mem_of_getElem? (i := 5) rfl)
theorem ww2 {Z : State} {a0 : Array Value} (hw : ∀ d ∈ tables_1, d.before a0 Z = true) : Jvm.Cond.before (Jvm.Cond.initialized cn_0) a0 Z = true := hw _ (List.mem_of_getElem? (i := 2) rfl)
theorem ww15 {Z : State} {a0 : Array Value} (hw : ∀ d ∈ tables_1, d.before a0 Z = true) : Jvm.Cond.before (Jvm.Cond.laysStatic cn_0 "DELIVERED" cn_1) a0 Z = true := hw _ (List.mem_of_getElem? (i := 15) rfl)
theorem ww18 {Z : State} {a0 : Array Value} (hw : ∀ d ∈ tables_1, d.before a0 Z = true) : Jvm.Cond.before (Jvm.Cond.laysStatic cn_0 "REDIRECTED" cn_1) a0 Z = true := hw _ (List.mem_of_getElem? (i := 18) rfl)
theorem ww21 {Z : State} {a0 : Array Value} (hw : ∀ d ∈ tables_1, d.before a0 Z = true) : Jvm.Cond.before (Jvm.Cond.laysStatic cn_0 "SERVER_ERROR" cn_1) a0 Z = true := hw _ (List.mem_of_getElem? (i := 21) rfl)
theorem ww24 {Z : State} {a0 : Array Value} (hw : ∀ d ∈ tables_1, d.before a0 Z = true) : Jvm.Cond.before (Jvm.Cond.laysStatic cn_0 "PAYLOAD_TOO_LARGE" cn_1) a0 Z = true := hw _ (List.mem_of_getElem? (i := 24) rfl)
theorem ww27 {Z : State} {a0 : Array Value} (hw : ∀ d ∈ tables_1, d.before a0 Z = true) : Jvm.Cond.before (Jvm.Cond.laysStatic cn_0 "TIMED_OUT" cn_1) a0 Z = true := hw _ (List.mem_of_getElem? (i := 27) rfl)
theorem ww30 {Z : State} {a0 : Array Value} (hw : ∀ d ∈ tables_1, d.before a0 Z = true) : Jvm.Cond.before (Jvm.Cond.laysStatic cn_0 "UNAUTHORIZED" cn_1) a0 Z = true := hw _ (List.mem_of_getElem? (i := 30) rfl)
theorem ww33 {Z : State} {a0 : Array Value} (hw : ∀ d ∈ tables_1, d.before a0 Z = true) : Jvm.Cond.before (Jvm.Cond.laysStatic cn_0 "BAD_REQUEST" cn_1) a0 Z = true := hw _ (List.mem_of_getElem? (i := 33) rfl)
theorem ww36 {Z : State} {a0 : Array Value} (hw : ∀ d ∈ tables_1, d.before a0 Z = true) : Jvm.Cond.before (Jvm.Cond.laysStatic cn_0 "NOT_FOUND" cn_1) a0 Z = true := hw _ (List.mem_of_getElem? (i := 36) rfl)
theorem ww39 {Z : State} {a0 : Array Value} (hw : ∀ d ∈ tables_1, d.before a0 Z = true) : Jvm.Cond.before (Jvm.Cond.laysStatic cn_0 "BUSY" cn_1) a0 Z = true := hw _ (List.mem_of_getElem? (i := 39) rfl)
theorem ww42 {Z : State} {a0 : Array Value} (hw : ∀ d ∈ tables_1, d.before a0 Z = true) : Jvm.Cond.before (Jvm.Cond.laysStatic cn_0 "FORBIDDEN" cn_1) a0 Z = true := hw _ (List.mem_of_getElem? (i := 42) rfl)
theorem ww45 {Z : State} {a0 : Array Value} (hw : ∀ d ∈ tables_1, d.before a0 Z = true) : Jvm.Cond.before (Jvm.Cond.laysStatic cn_0 "GONE" cn_1) a0 Z = true := hw _ (List.mem_of_getElem? (i := 45) rfl)
theorem d0_0 : decode prog_8_method_6_code 0 = .ok (.iload_n 0, 1) := by decide +kernel
theorem d0_1 : decode prog_8_method_6_code 1 = .ok (.sipush 200, 3) := by decide +kernel
theorem d0_4 : decode prog_8_method_6_code 4 = .ok (.if_icmp .lt 17, 3) := by decide +kernel
theorem d0_21 : decode prog_8_method_6_code 21 = .ok (.iload_n 0, 1) := by decide +kernel
theorem d0_22 : decode prog_8_method_6_code 22 = .ok (.sipush 400, 3) := by decide +kernel
theorem d0_25 : decode prog_8_method_6_code 25 = .ok (.if_icmp .ne 10, 3) := by decide +kernel
theorem d0_28 : decode prog_8_method_6_code 28 = .ok (.getstatic 7, 3) := by decide +kernel
theorem ww32 {Z : State} {a0 : Array Value} (hw : ∀ d ∈ tables_1, d.before a0 Z = true) : Jvm.Cond.before (Jvm.Cond.fieldLink cn_0 (7 : Nat) cn_0 "BAD_REQUEST" cn_1) a0 Z = true := hw _ (List.mem_of_getElem? (i := 32) rfl)
theorem d0_31 : decode prog_8_method_6_code 31 = .ok (.astore_n 1, 1) := by decide +kernel
theorem d0_32 : decode prog_8_method_6_code 32 = .ok (.goto 154, 3) := by decide +kernel
theorem d0_186 : decode prog_8_method_6_code 186 = .ok (.aload_n 1, 1) := by decide +kernel
theorem d0_187 : decode prog_8_method_6_code 187 = .ok (.areturn, 1) := by decide +kernel
theorem d0_35 : decode prog_8_method_6_code 35 = .ok (.iload_n 0, 1) := by decide +kernel
theorem d0_36 : decode prog_8_method_6_code 36 = .ok (.sipush 401, 3) := by decide +kernel
theorem d0_39 : decode prog_8_method_6_code 39 = .ok (.if_icmp .ne 10, 3) := by decide +kernel
theorem d0_42 : decode prog_8_method_6_code 42 = .ok (.getstatic 10, 3) := by decide +kernel
theorem ww29 {Z : State} {a0 : Array Value} (hw : ∀ d ∈ tables_1, d.before a0 Z = true) : Jvm.Cond.before (Jvm.Cond.fieldLink cn_0 (10 : Nat) cn_0 "UNAUTHORIZED" cn_1) a0 Z = true := hw _ (List.mem_of_getElem? (i := 29) rfl)
theorem d0_45 : decode prog_8_method_6_code 45 = .ok (.astore_n 1, 1) := by decide +kernel
theorem d0_46 : decode prog_8_method_6_code 46 = .ok (.goto 140, 3) := by decide +kernel
theorem d0_49 : decode prog_8_method_6_code 49 = .ok (.iload_n 0, 1) := by decide +kernel
theorem d0_50 : decode prog_8_method_6_code 50 = .ok (.sipush 403, 3) := by decide +kernel
theorem d0_53 : decode prog_8_method_6_code 53 = .ok (.if_icmp .ne 10, 3) := by decide +kernel
theorem d0_56 : decode prog_8_method_6_code 56 = .ok (.getstatic 13, 3) := by decide +kernel
theorem ww41 {Z : State} {a0 : Array Value} (hw : ∀ d ∈ tables_1, d.before a0 Z = true) : Jvm.Cond.before (Jvm.Cond.fieldLink cn_0 (13 : Nat) cn_0 "FORBIDDEN" cn_1) a0 Z = true := hw _ (List.mem_of_getElem? (i := 41) rfl)
theorem d0_59 : decode prog_8_method_6_code 59 = .ok (.astore_n 1, 1) := by decide +kernel
theorem d0_60 : decode prog_8_method_6_code 60 = .ok (.goto 126, 3) := by decide +kernel
theorem d0_63 : decode prog_8_method_6_code 63 = .ok (.iload_n 0, 1) := by decide +kernel
theorem d0_64 : decode prog_8_method_6_code 64 = .ok (.sipush 404, 3) := by decide +kernel
theorem d0_67 : decode prog_8_method_6_code 67 = .ok (.if_icmp .ne 10, 3) := by decide +kernel
theorem d0_70 : decode prog_8_method_6_code 70 = .ok (.getstatic 16, 3) := by decide +kernel
theorem ww35 {Z : State} {a0 : Array Value} (hw : ∀ d ∈ tables_1, d.before a0 Z = true) : Jvm.Cond.before (Jvm.Cond.fieldLink cn_0 (16 : Nat) cn_0 "NOT_FOUND" cn_1) a0 Z = true := hw _ (List.mem_of_getElem? (i := 35) rfl)
theorem d0_73 : decode prog_8_method_6_code 73 = .ok (.astore_n 1, 1) := by decide +kernel
theorem d0_74 : decode prog_8_method_6_code 74 = .ok (.goto 112, 3) := by decide +kernel
theorem d0_77 : decode prog_8_method_6_code 77 = .ok (.iload_n 0, 1) := by decide +kernel
theorem d0_78 : decode prog_8_method_6_code 78 = .ok (.sipush 408, 3) := by decide +kernel
theorem d0_81 : decode prog_8_method_6_code 81 = .ok (.if_icmp .ne 10, 3) := by decide +kernel
theorem d0_84 : decode prog_8_method_6_code 84 = .ok (.getstatic 22, 3) := by decide +kernel
theorem ww26 {Z : State} {a0 : Array Value} (hw : ∀ d ∈ tables_1, d.before a0 Z = true) : Jvm.Cond.before (Jvm.Cond.fieldLink cn_0 (22 : Nat) cn_0 "TIMED_OUT" cn_1) a0 Z = true := hw _ (List.mem_of_getElem? (i := 26) rfl)
theorem d0_87 : decode prog_8_method_6_code 87 = .ok (.astore_n 1, 1) := by decide +kernel
theorem d0_88 : decode prog_8_method_6_code 88 = .ok (.goto 98, 3) := by decide +kernel
theorem d0_91 : decode prog_8_method_6_code 91 = .ok (.iload_n 0, 1) := by decide +kernel
theorem d0_92 : decode prog_8_method_6_code 92 = .ok (.sipush 410, 3) := by decide +kernel
theorem d0_95 : decode prog_8_method_6_code 95 = .ok (.if_icmp .ne 10, 3) := by decide +kernel
theorem d0_98 : decode prog_8_method_6_code 98 = .ok (.getstatic 19, 3) := by decide +kernel
theorem ww44 {Z : State} {a0 : Array Value} (hw : ∀ d ∈ tables_1, d.before a0 Z = true) : Jvm.Cond.before (Jvm.Cond.fieldLink cn_0 (19 : Nat) cn_0 "GONE" cn_1) a0 Z = true := hw _ (List.mem_of_getElem? (i := 44) rfl)
theorem d0_101 : decode prog_8_method_6_code 101 = .ok (.astore_n 1, 1) := by decide +kernel
theorem d0_102 : decode prog_8_method_6_code 102 = .ok (.goto 84, 3) := by decide +kernel
theorem d0_105 : decode prog_8_method_6_code 105 = .ok (.iload_n 0, 1) := by decide +kernel
theorem d0_106 : decode prog_8_method_6_code 106 = .ok (.sipush 413, 3) := by decide +kernel
theorem d0_109 : decode prog_8_method_6_code 109 = .ok (.if_icmp .ne 10, 3) := by decide +kernel
theorem d0_112 : decode prog_8_method_6_code 112 = .ok (.getstatic 25, 3) := by decide +kernel
theorem ww23 {Z : State} {a0 : Array Value} (hw : ∀ d ∈ tables_1, d.before a0 Z = true) : Jvm.Cond.before (Jvm.Cond.fieldLink cn_0 (25 : Nat) cn_0 "PAYLOAD_TOO_LARGE" cn_1) a0 Z = true := hw _ (List.mem_of_getElem? (i := 23) rfl)
theorem d0_115 : decode prog_8_method_6_code 115 = .ok (.astore_n 1, 1) := by decide +kernel
theorem d0_116 : decode prog_8_method_6_code 116 = .ok (.goto 70, 3) := by decide +kernel
theorem d0_119 : decode prog_8_method_6_code 119 = .ok (.iload_n 0, 1) := by decide +kernel
theorem d0_120 : decode prog_8_method_6_code 120 = .ok (.sipush 429, 3) := by decide +kernel
theorem d0_123 : decode prog_8_method_6_code 123 = .ok (.if_icmp .eq 10, 3) := by decide +kernel
theorem d0_133 : decode prog_8_method_6_code 133 = .ok (.getstatic 28, 3) := by decide +kernel
theorem ww38 {Z : State} {a0 : Array Value} (hw : ∀ d ∈ tables_1, d.before a0 Z = true) : Jvm.Cond.before (Jvm.Cond.fieldLink cn_0 (28 : Nat) cn_0 "BUSY" cn_1) a0 Z = true := hw _ (List.mem_of_getElem? (i := 38) rfl)
theorem d0_136 : decode prog_8_method_6_code 136 = .ok (.astore_n 1, 1) := by decide +kernel
theorem d0_137 : decode prog_8_method_6_code 137 = .ok (.goto 49, 3) := by decide +kernel
theorem d0_126 : decode prog_8_method_6_code 126 = .ok (.iload_n 0, 1) := by decide +kernel
theorem d0_127 : decode prog_8_method_6_code 127 = .ok (.sipush 503, 3) := by decide +kernel
theorem d0_130 : decode prog_8_method_6_code 130 = .ok (.if_icmp .ne 10, 3) := by decide +kernel
theorem d0_140 : decode prog_8_method_6_code 140 = .ok (.iload_n 0, 1) := by decide +kernel
theorem d0_141 : decode prog_8_method_6_code 141 = .ok (.sipush 300, 3) := by decide +kernel
theorem d0_144 : decode prog_8_method_6_code 144 = .ok (.if_icmp .lt 17, 3) := by decide +kernel
theorem d0_161 : decode prog_8_method_6_code 161 = .ok (.iload_n 0, 1) := by decide +kernel
theorem d0_162 : decode prog_8_method_6_code 162 = .ok (.sipush 500, 3) := by decide +kernel
theorem d0_165 : decode prog_8_method_6_code 165 = .ok (.if_icmp .lt 17, 3) := by decide +kernel
theorem d0_182 : decode prog_8_method_6_code 182 = .ok (.getstatic 37, 3) := by decide +kernel
theorem ww4 {Z : State} {a0 : Array Value} (hw : ∀ d ∈ tables_1, d.before a0 Z = true) : Jvm.Cond.before (Jvm.Cond.fieldLink cn_0 (37 : Nat) cn_0 "FAILED" cn_1) a0 Z = true := hw _ (List.mem_of_getElem? (i := 4) rfl)
theorem d0_185 : decode prog_8_method_6_code 185 = .ok (.astore_n 1, 1) := by decide +kernel
theorem d0_168 : decode prog_8_method_6_code 168 = .ok (.iload_n 0, 1) := by decide +kernel
theorem d0_169 : decode prog_8_method_6_code 169 = .ok (.sipush 599, 3) := by decide +kernel
theorem d0_172 : decode prog_8_method_6_code 172 = .ok (.if_icmp .gt 10, 3) := by decide +kernel
theorem d0_175 : decode prog_8_method_6_code 175 = .ok (.getstatic 34, 3) := by decide +kernel
theorem ww20 {Z : State} {a0 : Array Value} (hw : ∀ d ∈ tables_1, d.before a0 Z = true) : Jvm.Cond.before (Jvm.Cond.fieldLink cn_0 (34 : Nat) cn_0 "SERVER_ERROR" cn_1) a0 Z = true := hw _ (List.mem_of_getElem? (i := 20) rfl)
theorem d0_178 : decode prog_8_method_6_code 178 = .ok (.astore_n 1, 1) := by decide +kernel
theorem d0_179 : decode prog_8_method_6_code 179 = .ok (.goto 7, 3) := by decide +kernel
theorem d0_147 : decode prog_8_method_6_code 147 = .ok (.iload_n 0, 1) := by decide +kernel
theorem d0_148 : decode prog_8_method_6_code 148 = .ok (.sipush 399, 3) := by decide +kernel
theorem d0_151 : decode prog_8_method_6_code 151 = .ok (.if_icmp .gt 10, 3) := by decide +kernel
theorem d0_154 : decode prog_8_method_6_code 154 = .ok (.getstatic 31, 3) := by decide +kernel
theorem ww17 {Z : State} {a0 : Array Value} (hw : ∀ d ∈ tables_1, d.before a0 Z = true) : Jvm.Cond.before (Jvm.Cond.fieldLink cn_0 (31 : Nat) cn_0 "REDIRECTED" cn_1) a0 Z = true := hw _ (List.mem_of_getElem? (i := 17) rfl)
theorem d0_157 : decode prog_8_method_6_code 157 = .ok (.astore_n 1, 1) := by decide +kernel
theorem d0_158 : decode prog_8_method_6_code 158 = .ok (.goto 28, 3) := by decide +kernel
theorem d0_7 : decode prog_8_method_6_code 7 = .ok (.iload_n 0, 1) := by decide +kernel
theorem d0_8 : decode prog_8_method_6_code 8 = .ok (.sipush 204, 3) := by decide +kernel
theorem d0_11 : decode prog_8_method_6_code 11 = .ok (.if_icmp .gt 10, 3) := by decide +kernel
theorem d0_14 : decode prog_8_method_6_code 14 = .ok (.getstatic 3, 3) := by decide +kernel
theorem ww14 {Z : State} {a0 : Array Value} (hw : ∀ d ∈ tables_1, d.before a0 Z = true) : Jvm.Cond.before (Jvm.Cond.fieldLink cn_0 (3 : Nat) cn_0 "DELIVERED" cn_1) a0 Z = true := hw _ (List.mem_of_getElem? (i := 14) rfl)
theorem d0_17 : decode prog_8_method_6_code 17 = .ok (.astore_n 1, 1) := by decide +kernel
theorem d0_18 : decode prog_8_method_6_code 18 = .ok (.goto 168, 3) := by decide +kernel
abbrev rr_of : Room := { frames := 0, cells := 0, slots := 0, locals := 0 }
abbrev y_0 : MethodName := ⟨cn_0, "ofStatus", cn_3⟩
theorem pn_0 : plainName cn_0 = true := by first | (simp [plainName, overriddenIn]; done) | decide +kernel
theorem ef_of (m : MethodId) (p0 : Int32) : entryFrame m #[(.int p0)] 2 = mkF m 0 #[.val (.int p0), .unset] [] := by first | (simp [entryFrame, mkF, argsToLocals, Value.category]; done) | rfl
def f_of (w_FAILED : Addr) (w_DELIVERED : Addr) (w_REDIRECTED : Addr) (w_SERVER_ERROR : Addr) (w_PAYLOAD_TOO_LARGE : Addr) (w_TIMED_OUT : Addr) (w_UNAUTHORIZED : Addr) (w_BAD_REQUEST : Addr) (w_NOT_FOUND : Addr) (w_BUSY : Addr) (w_FORBIDDEN : Addr) (w_GONE : Addr) (p0 : Int32) : Addr := (if p0 < (200 : Int32) then (if p0 = (400 : Int32) then w_BAD_REQUEST else (if p0 = (401 : Int32) then w_UNAUTHORIZED else (if p0 = (403 : Int32) then w_FORBIDDEN else (if p0 = (404 : Int32) then w_NOT_FOUND else (if p0 = (408 : Int32) then w_TIMED_OUT else (if p0 = (410 : Int32) then w_GONE else (if p0 = (413 : Int32) then w_PAYLOAD_TOO_LARGE else (if p0 = (429 : Int32) then w_BUSY else (if p0 = (503 : Int32) then w_BUSY else (if p0 < (300 : Int32) then (if p0 < (500 : Int32) then w_FAILED else (if (599 : Int32) < p0 then w_FAILED else w_SERVER_ERROR)) else (if (399 : Int32) < p0 then (if p0 < (500 : Int32) then w_FAILED else (if (599 : Int32) < p0 then w_FAILED else w_SERVER_ERROR)) else w_REDIRECTED))))))))))) else (if (204 : Int32) < p0 then (if p0 = (400 : Int32) then w_BAD_REQUEST else (if p0 = (401 : Int32) then w_UNAUTHORIZED else (if p0 = (403 : Int32) then w_FORBIDDEN else (if p0 = (404 : Int32) then w_NOT_FOUND else (if p0 = (408 : Int32) then w_TIMED_OUT else (if p0 = (410 : Int32) then w_GONE else (if p0 = (413 : Int32) then w_PAYLOAD_TOO_LARGE else (if p0 = (429 : Int32) then w_BUSY else (if p0 = (503 : Int32) then w_BUSY else (if p0 < (300 : Int32) then (if p0 < (500 : Int32) then w_FAILED else (if (599 : Int32) < p0 then w_FAILED else w_SERVER_ERROR)) else (if (399 : Int32) < p0 then (if p0 < (500 : Int32) then w_FAILED else (if (599 : Int32) < p0 then w_FAILED else w_SERVER_ERROR)) else w_REDIRECTED))))))))))) else w_DELIVERED))
def Q_of (Z : State) (w_FAILED : Addr) (w_DELIVERED : Addr) (w_REDIRECTED : Addr) (w_SERVER_ERROR : Addr) (w_PAYLOAD_TOO_LARGE : Addr) (w_TIMED_OUT : Addr) (w_UNAUTHORIZED : Addr) (w_BAD_REQUEST : Addr) (w_NOT_FOUND : Addr) (w_BUSY : Addr) (w_FORBIDDEN : Addr) (w_GONE : Addr) (p0 : Int32) (h0 : Heap) (n0 : Nat) (v : Option Value) (h : Heap) (L : List Loc) : Prop := v = some (.ref (f_of w_FAILED w_DELIVERED w_REDIRECTED w_SERVER_ERROR w_PAYLOAD_TOO_LARGE w_TIMED_OUT w_UNAUTHORIZED w_BAD_REQUEST w_NOT_FOUND w_BUSY w_FORBIDDEN w_GONE p0)) ∧ Fr n0 L ∧ h = h0
set_option maxRecDepth 65536 in
set_option maxHeartbeats 40000000 in
theorem rm_of (l : Launch) (Z : State) (a0 : Array Value) (hw : ∀ d ∈ tables_1, d.before a0 Z = true) (ws : List Jvm.Cond) (w_FAILED : Addr) (w_DELIVERED : Addr) (w_REDIRECTED : Addr) (w_SERVER_ERROR : Addr) (w_PAYLOAD_TOO_LARGE : Addr) (w_TIMED_OUT : Addr) (w_UNAUTHORIZED : Addr) (w_BAD_REQUEST : Addr) (w_NOT_FOUND : Addr) (w_BUSY : Addr) (w_FORBIDDEN : Addr) (w_GONE : Addr) (p0 : Int32) (h0 : Heap) (n0 : Nat) (Z0 : n0 ≤ h0.size) (ST : own_St Z w_FAILED w_DELIVERED w_REDIRECTED w_SERVER_ERROR w_PAYLOAD_TOO_LARGE w_TIMED_OUT w_UNAUTHORIZED w_BAD_REQUEST w_NOT_FOUND w_BUSY w_FORBIDDEN w_GONE) (O0 : Old Z n0 h0) :
    MetFree l y_0 (head1 (Jvm.Cond.code y_0 prog_8_method_6_code 2 (some (.object cn_0)) :: ws) rr_of) (fun a U => a = #[(.int p0)] ∧ Z.Warmed39 U.vm ∧ U.heap = h0) (fun _ _ _ _ _ => True) (fun _ U o U' => ∃ v L, o = .returned v ∧ Q_of Z w_FAILED w_DELIVERED w_REDIRECTED w_SERVER_ERROR w_PAYLOAD_TOO_LARGE w_TIMED_OUT w_UNAUTHORIZED w_BAD_REQUEST w_NOT_FOUND w_BUSY w_FORBIDDEN w_GONE p0 h0 n0 v U'.heap L ∧ FrameEnd U o U' L rr_of.cells rr_of.slots) := by
  refine MetFree.of_bodySF (plainFor_of_name pn_0) hisR ?_
  intro p e s m args below meth c s₁ Bd hml0 hP hK
  obtain ⟨rfl, hZ, hh⟩ := hP
  have hx := Bd.exec
  have hby := Bd.bytes
  have hml : c.maxLocals = 2 := hml0
  have hown : s.vm.findClass cn_0 = some m.cls := findClass_of_methodNamed Bd.named
  have hnm := (name_of_methodNamed Bd.named Bd.method).1
  have X0 : Stand p l e rr_of s m #[(.int p0)] below meth c s₁ [] 0 0 := Stand.of_body Bd
  have e0 : s₁.heap = h0 := by rw [← hh, Bd.state]; rfl
  have N0 := Fr.nil n0
  obtain ⟨G, step, ret, fin⟩ := own_open (p := p) (l := l) (e := e) (R := rr_of) (s := s) (m := m) (args := #[(.int p0)]) (below := below) (meth := meth) (c := c) (rr_of.cells) (rr_of.slots) (Q_of Z w_FAILED w_DELIVERED w_REDIRECTED w_SERVER_ERROR w_PAYLOAD_TOO_LARGE w_TIMED_OUT w_UNAUTHORIZED w_BAD_REQUEST w_NOT_FOUND w_BUSY w_FORBIDDEN w_GONE p0 h0 n0) Bd.notSynchronized
  refine fin (g := entryFrame m #[(.int p0)] 2) ?_
  rw [ef_of m p0]
  show G s₁ (mkF m 0 #[.val (.int p0), .unset] [])
  refine step (fun t k => XS.iloadN X0.here hx rfl (hb hby d0_0) rfl k) ?_
  show G s₁ (mkF m 1 #[.val (.int p0), .unset] [(.int p0)])
  refine step (fun t k => XS.sipush X0.here hx rfl (hb hby d0_1) k) ?_
  show G s₁ (mkF m 4 #[.val (.int p0), .unset] [(.int 200), (.int p0)])
  by_cases hc1 : p0 < (200 : Int32)
  · skip
    refine step (fun t k => XS.icmpYes X0.here hx rfl (pc0 := 4) (pc' := 21) rfl (hb hby d0_4) rfl (tlt hc1).1 (by decide) (by decide) k) ?_
    show G s₁ (mkF m 21 #[.val (.int p0), .unset] [])
    refine step (fun t k => XS.iloadN X0.here hx rfl (hb hby d0_21) rfl k) ?_
    show G s₁ (mkF m 22 #[.val (.int p0), .unset] [(.int p0)])
    refine step (fun t k => XS.sipush X0.here hx rfl (hb hby d0_22) k) ?_
    show G s₁ (mkF m 25 #[.val (.int p0), .unset] [(.int 400), (.int p0)])
    by_cases hc2 : p0 = (400 : Int32)
    · skip
      refine step (fun t k => XS.icmpNo X0.here hx rfl (hb hby d0_25) rfl (teq hc2).2 k) ?_
      show G s₁ (mkF m 28 #[.val (.int p0), .unset] [])
      obtain ⟨T3, X3, e3, st3⟩ := getS2 X0 hx hZ hown (host := "") (Or.inl (ww32 hw)) Via.refl e0 (Sta.ext O0.2 ST.k14) (g := (mkF m 28 #[.val (.int p0), .unset] [])) rfl (hb hby d0_28)
      refine step st3 ?_
      show G T3 (mkF m 31 #[.val (.int p0), .unset] [(.ref w_BAD_REQUEST)])
      refine step (fun t k => XS.astoreN X3.here hx rfl (hb hby d0_31) rfl rfl (l' := #[.val (.int p0), .val (.ref w_BAD_REQUEST)]) rfl k) ?_
      show G T3 (mkF m 32 #[.val (.int p0), .val (.ref w_BAD_REQUEST)] [])
      refine step (fun t k => XS.goto X3.here hx rfl (pc0 := 32) (pc' := 186) rfl (hb hby d0_32) (by decide) (by decide) k) ?_
      show G T3 (mkF m 186 #[.val (.int p0), .val (.ref w_BAD_REQUEST)] [])
      refine step (fun t k => XS.aloadN X3.here hx rfl (hb hby d0_186) rfl rfl k) ?_
      show G T3 (mkF m 187 #[.val (.int p0), .val (.ref w_BAD_REQUEST)] [(.ref w_BAD_REQUEST)])
      exact ret (v := some (.ref w_BAD_REQUEST)) X3 (fun h => by rw [Bd.returns] at h; cases h) (fun fs hr => retA X3 hx Bd.returns rfl rfl (hb hby d0_187) hr) e3 ⟨by unfold f_of; rw [if_pos hc1, if_pos hc2], N0, rfl⟩ (by decide) (by decide)
    · skip
      refine step (fun t k => XS.icmpYes X0.here hx rfl (pc0 := 25) (pc' := 35) rfl (hb hby d0_25) rfl (feq hc2).2 (by decide) (by decide) k) ?_
      show G s₁ (mkF m 35 #[.val (.int p0), .unset] [])
      refine step (fun t k => XS.iloadN X0.here hx rfl (hb hby d0_35) rfl k) ?_
      show G s₁ (mkF m 36 #[.val (.int p0), .unset] [(.int p0)])
      refine step (fun t k => XS.sipush X0.here hx rfl (hb hby d0_36) k) ?_
      show G s₁ (mkF m 39 #[.val (.int p0), .unset] [(.int 401), (.int p0)])
      by_cases hc4 : p0 = (401 : Int32)
      · skip
        refine step (fun t k => XS.icmpNo X0.here hx rfl (hb hby d0_39) rfl (teq hc4).2 k) ?_
        show G s₁ (mkF m 42 #[.val (.int p0), .unset] [])
        obtain ⟨T5, X5, e5, st5⟩ := getS2 X0 hx hZ hown (host := "") (Or.inl (ww29 hw)) Via.refl e0 (Sta.ext O0.2 ST.k12) (g := (mkF m 42 #[.val (.int p0), .unset] [])) rfl (hb hby d0_42)
        refine step st5 ?_
        show G T5 (mkF m 45 #[.val (.int p0), .unset] [(.ref w_UNAUTHORIZED)])
        refine step (fun t k => XS.astoreN X5.here hx rfl (hb hby d0_45) rfl rfl (l' := #[.val (.int p0), .val (.ref w_UNAUTHORIZED)]) rfl k) ?_
        show G T5 (mkF m 46 #[.val (.int p0), .val (.ref w_UNAUTHORIZED)] [])
        refine step (fun t k => XS.goto X5.here hx rfl (pc0 := 46) (pc' := 186) rfl (hb hby d0_46) (by decide) (by decide) k) ?_
        show G T5 (mkF m 186 #[.val (.int p0), .val (.ref w_UNAUTHORIZED)] [])
        refine step (fun t k => XS.aloadN X5.here hx rfl (hb hby d0_186) rfl rfl k) ?_
        show G T5 (mkF m 187 #[.val (.int p0), .val (.ref w_UNAUTHORIZED)] [(.ref w_UNAUTHORIZED)])
        exact ret (v := some (.ref w_UNAUTHORIZED)) X5 (fun h => by rw [Bd.returns] at h; cases h) (fun fs hr => retA X5 hx Bd.returns rfl rfl (hb hby d0_187) hr) e5 ⟨by unfold f_of; rw [if_pos hc1, if_neg hc2, if_pos hc4], N0, rfl⟩ (by decide) (by decide)
      · skip
        refine step (fun t k => XS.icmpYes X0.here hx rfl (pc0 := 39) (pc' := 49) rfl (hb hby d0_39) rfl (feq hc4).2 (by decide) (by decide) k) ?_
        show G s₁ (mkF m 49 #[.val (.int p0), .unset] [])
        refine step (fun t k => XS.iloadN X0.here hx rfl (hb hby d0_49) rfl k) ?_
        show G s₁ (mkF m 50 #[.val (.int p0), .unset] [(.int p0)])
        refine step (fun t k => XS.sipush X0.here hx rfl (hb hby d0_50) k) ?_
        show G s₁ (mkF m 53 #[.val (.int p0), .unset] [(.int 403), (.int p0)])
        by_cases hc6 : p0 = (403 : Int32)
        · skip
          refine step (fun t k => XS.icmpNo X0.here hx rfl (hb hby d0_53) rfl (teq hc6).2 k) ?_
          show G s₁ (mkF m 56 #[.val (.int p0), .unset] [])
          obtain ⟨T7, X7, e7, st7⟩ := getS2 X0 hx hZ hown (host := "") (Or.inl (ww41 hw)) Via.refl e0 (Sta.ext O0.2 ST.k20) (g := (mkF m 56 #[.val (.int p0), .unset] [])) rfl (hb hby d0_56)
          refine step st7 ?_
          show G T7 (mkF m 59 #[.val (.int p0), .unset] [(.ref w_FORBIDDEN)])
          refine step (fun t k => XS.astoreN X7.here hx rfl (hb hby d0_59) rfl rfl (l' := #[.val (.int p0), .val (.ref w_FORBIDDEN)]) rfl k) ?_
          show G T7 (mkF m 60 #[.val (.int p0), .val (.ref w_FORBIDDEN)] [])
          refine step (fun t k => XS.goto X7.here hx rfl (pc0 := 60) (pc' := 186) rfl (hb hby d0_60) (by decide) (by decide) k) ?_
          show G T7 (mkF m 186 #[.val (.int p0), .val (.ref w_FORBIDDEN)] [])
          refine step (fun t k => XS.aloadN X7.here hx rfl (hb hby d0_186) rfl rfl k) ?_
          show G T7 (mkF m 187 #[.val (.int p0), .val (.ref w_FORBIDDEN)] [(.ref w_FORBIDDEN)])
          exact ret (v := some (.ref w_FORBIDDEN)) X7 (fun h => by rw [Bd.returns] at h; cases h) (fun fs hr => retA X7 hx Bd.returns rfl rfl (hb hby d0_187) hr) e7 ⟨by unfold f_of; rw [if_pos hc1, if_neg hc2, if_neg hc4, if_pos hc6], N0, rfl⟩ (by decide) (by decide)
        · skip
          refine step (fun t k => XS.icmpYes X0.here hx rfl (pc0 := 53) (pc' := 63) rfl (hb hby d0_53) rfl (feq hc6).2 (by decide) (by decide) k) ?_
          show G s₁ (mkF m 63 #[.val (.int p0), .unset] [])
          refine step (fun t k => XS.iloadN X0.here hx rfl (hb hby d0_63) rfl k) ?_
          show G s₁ (mkF m 64 #[.val (.int p0), .unset] [(.int p0)])
          refine step (fun t k => XS.sipush X0.here hx rfl (hb hby d0_64) k) ?_
          show G s₁ (mkF m 67 #[.val (.int p0), .unset] [(.int 404), (.int p0)])
          by_cases hc8 : p0 = (404 : Int32)
          · skip
            refine step (fun t k => XS.icmpNo X0.here hx rfl (hb hby d0_67) rfl (teq hc8).2 k) ?_
            show G s₁ (mkF m 70 #[.val (.int p0), .unset] [])
            obtain ⟨T9, X9, e9, st9⟩ := getS2 X0 hx hZ hown (host := "") (Or.inl (ww35 hw)) Via.refl e0 (Sta.ext O0.2 ST.k16) (g := (mkF m 70 #[.val (.int p0), .unset] [])) rfl (hb hby d0_70)
            refine step st9 ?_
            show G T9 (mkF m 73 #[.val (.int p0), .unset] [(.ref w_NOT_FOUND)])
            refine step (fun t k => XS.astoreN X9.here hx rfl (hb hby d0_73) rfl rfl (l' := #[.val (.int p0), .val (.ref w_NOT_FOUND)]) rfl k) ?_
            show G T9 (mkF m 74 #[.val (.int p0), .val (.ref w_NOT_FOUND)] [])
            refine step (fun t k => XS.goto X9.here hx rfl (pc0 := 74) (pc' := 186) rfl (hb hby d0_74) (by decide) (by decide) k) ?_
            show G T9 (mkF m 186 #[.val (.int p0), .val (.ref w_NOT_FOUND)] [])
            refine step (fun t k => XS.aloadN X9.here hx rfl (hb hby d0_186) rfl rfl k) ?_
            show G T9 (mkF m 187 #[.val (.int p0), .val (.ref w_NOT_FOUND)] [(.ref w_NOT_FOUND)])
            exact ret (v := some (.ref w_NOT_FOUND)) X9 (fun h => by rw [Bd.returns] at h; cases h) (fun fs hr => retA X9 hx Bd.returns rfl rfl (hb hby d0_187) hr) e9 ⟨by unfold f_of; rw [if_pos hc1, if_neg hc2, if_neg hc4, if_neg hc6, if_pos hc8], N0, rfl⟩ (by decide) (by decide)
          · skip
            refine step (fun t k => XS.icmpYes X0.here hx rfl (pc0 := 67) (pc' := 77) rfl (hb hby d0_67) rfl (feq hc8).2 (by decide) (by decide) k) ?_
            show G s₁ (mkF m 77 #[.val (.int p0), .unset] [])
            refine step (fun t k => XS.iloadN X0.here hx rfl (hb hby d0_77) rfl k) ?_
            show G s₁ (mkF m 78 #[.val (.int p0), .unset] [(.int p0)])
            refine step (fun t k => XS.sipush X0.here hx rfl (hb hby d0_78) k) ?_
            show G s₁ (mkF m 81 #[.val (.int p0), .unset] [(.int 408), (.int p0)])
            by_cases hc10 : p0 = (408 : Int32)
            · skip
              refine step (fun t k => XS.icmpNo X0.here hx rfl (hb hby d0_81) rfl (teq hc10).2 k) ?_
              show G s₁ (mkF m 84 #[.val (.int p0), .unset] [])
              obtain ⟨T11, X11, e11, st11⟩ := getS2 X0 hx hZ hown (host := "") (Or.inl (ww26 hw)) Via.refl e0 (Sta.ext O0.2 ST.k10) (g := (mkF m 84 #[.val (.int p0), .unset] [])) rfl (hb hby d0_84)
              refine step st11 ?_
              show G T11 (mkF m 87 #[.val (.int p0), .unset] [(.ref w_TIMED_OUT)])
              refine step (fun t k => XS.astoreN X11.here hx rfl (hb hby d0_87) rfl rfl (l' := #[.val (.int p0), .val (.ref w_TIMED_OUT)]) rfl k) ?_
              show G T11 (mkF m 88 #[.val (.int p0), .val (.ref w_TIMED_OUT)] [])
              refine step (fun t k => XS.goto X11.here hx rfl (pc0 := 88) (pc' := 186) rfl (hb hby d0_88) (by decide) (by decide) k) ?_
              show G T11 (mkF m 186 #[.val (.int p0), .val (.ref w_TIMED_OUT)] [])
              refine step (fun t k => XS.aloadN X11.here hx rfl (hb hby d0_186) rfl rfl k) ?_
              show G T11 (mkF m 187 #[.val (.int p0), .val (.ref w_TIMED_OUT)] [(.ref w_TIMED_OUT)])
              exact ret (v := some (.ref w_TIMED_OUT)) X11 (fun h => by rw [Bd.returns] at h; cases h) (fun fs hr => retA X11 hx Bd.returns rfl rfl (hb hby d0_187) hr) e11 ⟨by unfold f_of; rw [if_pos hc1, if_neg hc2, if_neg hc4, if_neg hc6, if_neg hc8, if_pos hc10], N0, rfl⟩ (by decide) (by decide)
            · skip
              refine step (fun t k => XS.icmpYes X0.here hx rfl (pc0 := 81) (pc' := 91) rfl (hb hby d0_81) rfl (feq hc10).2 (by decide) (by decide) k) ?_
              show G s₁ (mkF m 91 #[.val (.int p0), .unset] [])
              refine step (fun t k => XS.iloadN X0.here hx rfl (hb hby d0_91) rfl k) ?_
              show G s₁ (mkF m 92 #[.val (.int p0), .unset] [(.int p0)])
              refine step (fun t k => XS.sipush X0.here hx rfl (hb hby d0_92) k) ?_
              show G s₁ (mkF m 95 #[.val (.int p0), .unset] [(.int 410), (.int p0)])
              by_cases hc12 : p0 = (410 : Int32)
              · skip
                refine step (fun t k => XS.icmpNo X0.here hx rfl (hb hby d0_95) rfl (teq hc12).2 k) ?_
                show G s₁ (mkF m 98 #[.val (.int p0), .unset] [])
                obtain ⟨T13, X13, e13, st13⟩ := getS2 X0 hx hZ hown (host := "") (Or.inl (ww44 hw)) Via.refl e0 (Sta.ext O0.2 ST.k22) (g := (mkF m 98 #[.val (.int p0), .unset] [])) rfl (hb hby d0_98)
                refine step st13 ?_
                show G T13 (mkF m 101 #[.val (.int p0), .unset] [(.ref w_GONE)])
                refine step (fun t k => XS.astoreN X13.here hx rfl (hb hby d0_101) rfl rfl (l' := #[.val (.int p0), .val (.ref w_GONE)]) rfl k) ?_
                show G T13 (mkF m 102 #[.val (.int p0), .val (.ref w_GONE)] [])
                refine step (fun t k => XS.goto X13.here hx rfl (pc0 := 102) (pc' := 186) rfl (hb hby d0_102) (by decide) (by decide) k) ?_
                show G T13 (mkF m 186 #[.val (.int p0), .val (.ref w_GONE)] [])
                refine step (fun t k => XS.aloadN X13.here hx rfl (hb hby d0_186) rfl rfl k) ?_
                show G T13 (mkF m 187 #[.val (.int p0), .val (.ref w_GONE)] [(.ref w_GONE)])
                exact ret (v := some (.ref w_GONE)) X13 (fun h => by rw [Bd.returns] at h; cases h) (fun fs hr => retA X13 hx Bd.returns rfl rfl (hb hby d0_187) hr) e13 ⟨by unfold f_of; rw [if_pos hc1, if_neg hc2, if_neg hc4, if_neg hc6, if_neg hc8, if_neg hc10, if_pos hc12], N0, rfl⟩ (by decide) (by decide)
              · skip
                refine step (fun t k => XS.icmpYes X0.here hx rfl (pc0 := 95) (pc' := 105) rfl (hb hby d0_95) rfl (feq hc12).2 (by decide) (by decide) k) ?_
                show G s₁ (mkF m 105 #[.val (.int p0), .unset] [])
                refine step (fun t k => XS.iloadN X0.here hx rfl (hb hby d0_105) rfl k) ?_
                show G s₁ (mkF m 106 #[.val (.int p0), .unset] [(.int p0)])
                refine step (fun t k => XS.sipush X0.here hx rfl (hb hby d0_106) k) ?_
                show G s₁ (mkF m 109 #[.val (.int p0), .unset] [(.int 413), (.int p0)])
                by_cases hc14 : p0 = (413 : Int32)
                · skip
                  refine step (fun t k => XS.icmpNo X0.here hx rfl (hb hby d0_109) rfl (teq hc14).2 k) ?_
                  show G s₁ (mkF m 112 #[.val (.int p0), .unset] [])
                  obtain ⟨T15, X15, e15, st15⟩ := getS2 X0 hx hZ hown (host := "") (Or.inl (ww23 hw)) Via.refl e0 (Sta.ext O0.2 ST.k8) (g := (mkF m 112 #[.val (.int p0), .unset] [])) rfl (hb hby d0_112)
                  refine step st15 ?_
                  show G T15 (mkF m 115 #[.val (.int p0), .unset] [(.ref w_PAYLOAD_TOO_LARGE)])
                  refine step (fun t k => XS.astoreN X15.here hx rfl (hb hby d0_115) rfl rfl (l' := #[.val (.int p0), .val (.ref w_PAYLOAD_TOO_LARGE)]) rfl k) ?_
                  show G T15 (mkF m 116 #[.val (.int p0), .val (.ref w_PAYLOAD_TOO_LARGE)] [])
                  refine step (fun t k => XS.goto X15.here hx rfl (pc0 := 116) (pc' := 186) rfl (hb hby d0_116) (by decide) (by decide) k) ?_
                  show G T15 (mkF m 186 #[.val (.int p0), .val (.ref w_PAYLOAD_TOO_LARGE)] [])
                  refine step (fun t k => XS.aloadN X15.here hx rfl (hb hby d0_186) rfl rfl k) ?_
                  show G T15 (mkF m 187 #[.val (.int p0), .val (.ref w_PAYLOAD_TOO_LARGE)] [(.ref w_PAYLOAD_TOO_LARGE)])
                  exact ret (v := some (.ref w_PAYLOAD_TOO_LARGE)) X15 (fun h => by rw [Bd.returns] at h; cases h) (fun fs hr => retA X15 hx Bd.returns rfl rfl (hb hby d0_187) hr) e15 ⟨by unfold f_of; rw [if_pos hc1, if_neg hc2, if_neg hc4, if_neg hc6, if_neg hc8, if_neg hc10, if_neg hc12, if_pos hc14], N0, rfl⟩ (by decide) (by decide)
                · skip
                  refine step (fun t k => XS.icmpYes X0.here hx rfl (pc0 := 109) (pc' := 119) rfl (hb hby d0_109) rfl (feq hc14).2 (by decide) (by decide) k) ?_
                  show G s₁ (mkF m 119 #[.val (.int p0), .unset] [])
                  refine step (fun t k => XS.iloadN X0.here hx rfl (hb hby d0_119) rfl k) ?_
                  show G s₁ (mkF m 120 #[.val (.int p0), .unset] [(.int p0)])
                  refine step (fun t k => XS.sipush X0.here hx rfl (hb hby d0_120) k) ?_
                  show G s₁ (mkF m 123 #[.val (.int p0), .unset] [(.int 429), (.int p0)])
                  by_cases hc16 : p0 = (429 : Int32)
                  · skip
                    refine step (fun t k => XS.icmpYes X0.here hx rfl (pc0 := 123) (pc' := 133) rfl (hb hby d0_123) rfl (teq hc16).1 (by decide) (by decide) k) ?_
                    show G s₁ (mkF m 133 #[.val (.int p0), .unset] [])
                    obtain ⟨T17, X17, e17, st17⟩ := getS2 X0 hx hZ hown (host := "") (Or.inl (ww38 hw)) Via.refl e0 (Sta.ext O0.2 ST.k18) (g := (mkF m 133 #[.val (.int p0), .unset] [])) rfl (hb hby d0_133)
                    refine step st17 ?_
                    show G T17 (mkF m 136 #[.val (.int p0), .unset] [(.ref w_BUSY)])
                    refine step (fun t k => XS.astoreN X17.here hx rfl (hb hby d0_136) rfl rfl (l' := #[.val (.int p0), .val (.ref w_BUSY)]) rfl k) ?_
                    show G T17 (mkF m 137 #[.val (.int p0), .val (.ref w_BUSY)] [])
                    refine step (fun t k => XS.goto X17.here hx rfl (pc0 := 137) (pc' := 186) rfl (hb hby d0_137) (by decide) (by decide) k) ?_
                    show G T17 (mkF m 186 #[.val (.int p0), .val (.ref w_BUSY)] [])
                    refine step (fun t k => XS.aloadN X17.here hx rfl (hb hby d0_186) rfl rfl k) ?_
                    show G T17 (mkF m 187 #[.val (.int p0), .val (.ref w_BUSY)] [(.ref w_BUSY)])
                    exact ret (v := some (.ref w_BUSY)) X17 (fun h => by rw [Bd.returns] at h; cases h) (fun fs hr => retA X17 hx Bd.returns rfl rfl (hb hby d0_187) hr) e17 ⟨by unfold f_of; rw [if_pos hc1, if_neg hc2, if_neg hc4, if_neg hc6, if_neg hc8, if_neg hc10, if_neg hc12, if_neg hc14, if_pos hc16], N0, rfl⟩ (by decide) (by decide)
                  · skip
                    refine step (fun t k => XS.icmpNo X0.here hx rfl (hb hby d0_123) rfl (feq hc16).1 k) ?_
                    show G s₁ (mkF m 126 #[.val (.int p0), .unset] [])
                    refine step (fun t k => XS.iloadN X0.here hx rfl (hb hby d0_126) rfl k) ?_
                    show G s₁ (mkF m 127 #[.val (.int p0), .unset] [(.int p0)])
                    refine step (fun t k => XS.sipush X0.here hx rfl (hb hby d0_127) k) ?_
                    show G s₁ (mkF m 130 #[.val (.int p0), .unset] [(.int 503), (.int p0)])
                    by_cases hc18 : p0 = (503 : Int32)
                    · skip
                      refine step (fun t k => XS.icmpNo X0.here hx rfl (hb hby d0_130) rfl (teq hc18).2 k) ?_
                      show G s₁ (mkF m 133 #[.val (.int p0), .unset] [])
                      obtain ⟨T19, X19, e19, st19⟩ := getS2 X0 hx hZ hown (host := "") (Or.inl (ww38 hw)) Via.refl e0 (Sta.ext O0.2 ST.k18) (g := (mkF m 133 #[.val (.int p0), .unset] [])) rfl (hb hby d0_133)
                      refine step st19 ?_
                      show G T19 (mkF m 136 #[.val (.int p0), .unset] [(.ref w_BUSY)])
                      refine step (fun t k => XS.astoreN X19.here hx rfl (hb hby d0_136) rfl rfl (l' := #[.val (.int p0), .val (.ref w_BUSY)]) rfl k) ?_
                      show G T19 (mkF m 137 #[.val (.int p0), .val (.ref w_BUSY)] [])
                      refine step (fun t k => XS.goto X19.here hx rfl (pc0 := 137) (pc' := 186) rfl (hb hby d0_137) (by decide) (by decide) k) ?_
                      show G T19 (mkF m 186 #[.val (.int p0), .val (.ref w_BUSY)] [])
                      refine step (fun t k => XS.aloadN X19.here hx rfl (hb hby d0_186) rfl rfl k) ?_
                      show G T19 (mkF m 187 #[.val (.int p0), .val (.ref w_BUSY)] [(.ref w_BUSY)])
                      exact ret (v := some (.ref w_BUSY)) X19 (fun h => by rw [Bd.returns] at h; cases h) (fun fs hr => retA X19 hx Bd.returns rfl rfl (hb hby d0_187) hr) e19 ⟨by unfold f_of; rw [if_pos hc1, if_neg hc2, if_neg hc4, if_neg hc6, if_neg hc8, if_neg hc10, if_neg hc12, if_neg hc14, if_neg hc16, if_pos hc18], N0, rfl⟩ (by decide) (by decide)
                    · skip
                      refine step (fun t k => XS.icmpYes X0.here hx rfl (pc0 := 130) (pc' := 140) rfl (hb hby d0_130) rfl (feq hc18).2 (by decide) (by decide) k) ?_
                      show G s₁ (mkF m 140 #[.val (.int p0), .unset] [])
                      refine step (fun t k => XS.iloadN X0.here hx rfl (hb hby d0_140) rfl k) ?_
                      show G s₁ (mkF m 141 #[.val (.int p0), .unset] [(.int p0)])
                      refine step (fun t k => XS.sipush X0.here hx rfl (hb hby d0_141) k) ?_
                      show G s₁ (mkF m 144 #[.val (.int p0), .unset] [(.int 300), (.int p0)])
                      by_cases hc20 : p0 < (300 : Int32)
                      · skip
                        refine step (fun t k => XS.icmpYes X0.here hx rfl (pc0 := 144) (pc' := 161) rfl (hb hby d0_144) rfl (tlt hc20).1 (by decide) (by decide) k) ?_
                        show G s₁ (mkF m 161 #[.val (.int p0), .unset] [])
                        refine step (fun t k => XS.iloadN X0.here hx rfl (hb hby d0_161) rfl k) ?_
                        show G s₁ (mkF m 162 #[.val (.int p0), .unset] [(.int p0)])
                        refine step (fun t k => XS.sipush X0.here hx rfl (hb hby d0_162) k) ?_
                        show G s₁ (mkF m 165 #[.val (.int p0), .unset] [(.int 500), (.int p0)])
                        by_cases hc21 : p0 < (500 : Int32)
                        · skip
                          refine step (fun t k => XS.icmpYes X0.here hx rfl (pc0 := 165) (pc' := 182) rfl (hb hby d0_165) rfl (tlt hc21).1 (by decide) (by decide) k) ?_
                          show G s₁ (mkF m 182 #[.val (.int p0), .unset] [])
                          obtain ⟨T22, X22, e22, st22⟩ := getS2 X0 hx hZ hown (host := "") (Or.inl (ww4 hw)) Via.refl e0 (Sta.ext O0.2 ST.k0) (g := (mkF m 182 #[.val (.int p0), .unset] [])) rfl (hb hby d0_182)
                          refine step st22 ?_
                          show G T22 (mkF m 185 #[.val (.int p0), .unset] [(.ref w_FAILED)])
                          refine step (fun t k => XS.astoreN X22.here hx rfl (hb hby d0_185) rfl rfl (l' := #[.val (.int p0), .val (.ref w_FAILED)]) rfl k) ?_
                          show G T22 (mkF m 186 #[.val (.int p0), .val (.ref w_FAILED)] [])
                          refine step (fun t k => XS.aloadN X22.here hx rfl (hb hby d0_186) rfl rfl k) ?_
                          show G T22 (mkF m 187 #[.val (.int p0), .val (.ref w_FAILED)] [(.ref w_FAILED)])
                          exact ret (v := some (.ref w_FAILED)) X22 (fun h => by rw [Bd.returns] at h; cases h) (fun fs hr => retA X22 hx Bd.returns rfl rfl (hb hby d0_187) hr) e22 ⟨by unfold f_of; rw [if_pos hc1, if_neg hc2, if_neg hc4, if_neg hc6, if_neg hc8, if_neg hc10, if_neg hc12, if_neg hc14, if_neg hc16, if_neg hc18, if_pos hc20, if_pos hc21], N0, rfl⟩ (by decide) (by decide)
                        · skip
                          refine step (fun t k => XS.icmpNo X0.here hx rfl (hb hby d0_165) rfl (flt hc21).1 k) ?_
                          show G s₁ (mkF m 168 #[.val (.int p0), .unset] [])
                          refine step (fun t k => XS.iloadN X0.here hx rfl (hb hby d0_168) rfl k) ?_
                          show G s₁ (mkF m 169 #[.val (.int p0), .unset] [(.int p0)])
                          refine step (fun t k => XS.sipush X0.here hx rfl (hb hby d0_169) k) ?_
                          show G s₁ (mkF m 172 #[.val (.int p0), .unset] [(.int 599), (.int p0)])
                          by_cases hc23 : (599 : Int32) < p0
                          · skip
                            refine step (fun t k => XS.icmpYes X0.here hx rfl (pc0 := 172) (pc' := 182) rfl (hb hby d0_172) rfl (tlt hc23).2.2.1 (by decide) (by decide) k) ?_
                            show G s₁ (mkF m 182 #[.val (.int p0), .unset] [])
                            obtain ⟨T24, X24, e24, st24⟩ := getS2 X0 hx hZ hown (host := "") (Or.inl (ww4 hw)) Via.refl e0 (Sta.ext O0.2 ST.k0) (g := (mkF m 182 #[.val (.int p0), .unset] [])) rfl (hb hby d0_182)
                            refine step st24 ?_
                            show G T24 (mkF m 185 #[.val (.int p0), .unset] [(.ref w_FAILED)])
                            refine step (fun t k => XS.astoreN X24.here hx rfl (hb hby d0_185) rfl rfl (l' := #[.val (.int p0), .val (.ref w_FAILED)]) rfl k) ?_
                            show G T24 (mkF m 186 #[.val (.int p0), .val (.ref w_FAILED)] [])
                            refine step (fun t k => XS.aloadN X24.here hx rfl (hb hby d0_186) rfl rfl k) ?_
                            show G T24 (mkF m 187 #[.val (.int p0), .val (.ref w_FAILED)] [(.ref w_FAILED)])
                            exact ret (v := some (.ref w_FAILED)) X24 (fun h => by rw [Bd.returns] at h; cases h) (fun fs hr => retA X24 hx Bd.returns rfl rfl (hb hby d0_187) hr) e24 ⟨by unfold f_of; rw [if_pos hc1, if_neg hc2, if_neg hc4, if_neg hc6, if_neg hc8, if_neg hc10, if_neg hc12, if_neg hc14, if_neg hc16, if_neg hc18, if_pos hc20, if_neg hc21, if_pos hc23], N0, rfl⟩ (by decide) (by decide)
                          · skip
                            refine step (fun t k => XS.icmpNo X0.here hx rfl (hb hby d0_172) rfl (flt hc23).2.2.1 k) ?_
                            show G s₁ (mkF m 175 #[.val (.int p0), .unset] [])
                            obtain ⟨T25, X25, e25, st25⟩ := getS2 X0 hx hZ hown (host := "") (Or.inl (ww20 hw)) Via.refl e0 (Sta.ext O0.2 ST.k6) (g := (mkF m 175 #[.val (.int p0), .unset] [])) rfl (hb hby d0_175)
                            refine step st25 ?_
                            show G T25 (mkF m 178 #[.val (.int p0), .unset] [(.ref w_SERVER_ERROR)])
                            refine step (fun t k => XS.astoreN X25.here hx rfl (hb hby d0_178) rfl rfl (l' := #[.val (.int p0), .val (.ref w_SERVER_ERROR)]) rfl k) ?_
                            show G T25 (mkF m 179 #[.val (.int p0), .val (.ref w_SERVER_ERROR)] [])
                            refine step (fun t k => XS.goto X25.here hx rfl (pc0 := 179) (pc' := 186) rfl (hb hby d0_179) (by decide) (by decide) k) ?_
                            show G T25 (mkF m 186 #[.val (.int p0), .val (.ref w_SERVER_ERROR)] [])
                            refine step (fun t k => XS.aloadN X25.here hx rfl (hb hby d0_186) rfl rfl k) ?_
                            show G T25 (mkF m 187 #[.val (.int p0), .val (.ref w_SERVER_ERROR)] [(.ref w_SERVER_ERROR)])
                            exact ret (v := some (.ref w_SERVER_ERROR)) X25 (fun h => by rw [Bd.returns] at h; cases h) (fun fs hr => retA X25 hx Bd.returns rfl rfl (hb hby d0_187) hr) e25 ⟨by unfold f_of; rw [if_pos hc1, if_neg hc2, if_neg hc4, if_neg hc6, if_neg hc8, if_neg hc10, if_neg hc12, if_neg hc14, if_neg hc16, if_neg hc18, if_pos hc20, if_neg hc21, if_neg hc23], N0, rfl⟩ (by decide) (by decide)
                      · skip
                        refine step (fun t k => XS.icmpNo X0.here hx rfl (hb hby d0_144) rfl (flt hc20).1 k) ?_
                        show G s₁ (mkF m 147 #[.val (.int p0), .unset] [])
                        refine step (fun t k => XS.iloadN X0.here hx rfl (hb hby d0_147) rfl k) ?_
                        show G s₁ (mkF m 148 #[.val (.int p0), .unset] [(.int p0)])
                        refine step (fun t k => XS.sipush X0.here hx rfl (hb hby d0_148) k) ?_
                        show G s₁ (mkF m 151 #[.val (.int p0), .unset] [(.int 399), (.int p0)])
                        by_cases hc26 : (399 : Int32) < p0
                        · skip
                          refine step (fun t k => XS.icmpYes X0.here hx rfl (pc0 := 151) (pc' := 161) rfl (hb hby d0_151) rfl (tlt hc26).2.2.1 (by decide) (by decide) k) ?_
                          show G s₁ (mkF m 161 #[.val (.int p0), .unset] [])
                          refine step (fun t k => XS.iloadN X0.here hx rfl (hb hby d0_161) rfl k) ?_
                          show G s₁ (mkF m 162 #[.val (.int p0), .unset] [(.int p0)])
                          refine step (fun t k => XS.sipush X0.here hx rfl (hb hby d0_162) k) ?_
                          show G s₁ (mkF m 165 #[.val (.int p0), .unset] [(.int 500), (.int p0)])
                          by_cases hc27 : p0 < (500 : Int32)
                          · skip
                            refine step (fun t k => XS.icmpYes X0.here hx rfl (pc0 := 165) (pc' := 182) rfl (hb hby d0_165) rfl (tlt hc27).1 (by decide) (by decide) k) ?_
                            show G s₁ (mkF m 182 #[.val (.int p0), .unset] [])
                            obtain ⟨T28, X28, e28, st28⟩ := getS2 X0 hx hZ hown (host := "") (Or.inl (ww4 hw)) Via.refl e0 (Sta.ext O0.2 ST.k0) (g := (mkF m 182 #[.val (.int p0), .unset] [])) rfl (hb hby d0_182)
                            refine step st28 ?_
                            show G T28 (mkF m 185 #[.val (.int p0), .unset] [(.ref w_FAILED)])
                            refine step (fun t k => XS.astoreN X28.here hx rfl (hb hby d0_185) rfl rfl (l' := #[.val (.int p0), .val (.ref w_FAILED)]) rfl k) ?_
                            show G T28 (mkF m 186 #[.val (.int p0), .val (.ref w_FAILED)] [])
                            refine step (fun t k => XS.aloadN X28.here hx rfl (hb hby d0_186) rfl rfl k) ?_
                            show G T28 (mkF m 187 #[.val (.int p0), .val (.ref w_FAILED)] [(.ref w_FAILED)])
                            exact ret (v := some (.ref w_FAILED)) X28 (fun h => by rw [Bd.returns] at h; cases h) (fun fs hr => retA X28 hx Bd.returns rfl rfl (hb hby d0_187) hr) e28 ⟨by unfold f_of; rw [if_pos hc1, if_neg hc2, if_neg hc4, if_neg hc6, if_neg hc8, if_neg hc10, if_neg hc12, if_neg hc14, if_neg hc16, if_neg hc18, if_neg hc20, if_pos hc26, if_pos hc27], N0, rfl⟩ (by decide) (by decide)
                          · skip
                            refine step (fun t k => XS.icmpNo X0.here hx rfl (hb hby d0_165) rfl (flt hc27).1 k) ?_
                            show G s₁ (mkF m 168 #[.val (.int p0), .unset] [])
                            refine step (fun t k => XS.iloadN X0.here hx rfl (hb hby d0_168) rfl k) ?_
                            show G s₁ (mkF m 169 #[.val (.int p0), .unset] [(.int p0)])
                            refine step (fun t k => XS.sipush X0.here hx rfl (hb hby d0_169) k) ?_
                            show G s₁ (mkF m 172 #[.val (.int p0), .unset] [(.int 599), (.int p0)])
                            by_cases hc29 : (599 : Int32) < p0
                            · skip
                              refine step (fun t k => XS.icmpYes X0.here hx rfl (pc0 := 172) (pc' := 182) rfl (hb hby d0_172) rfl (tlt hc29).2.2.1 (by decide) (by decide) k) ?_
                              show G s₁ (mkF m 182 #[.val (.int p0), .unset] [])
                              obtain ⟨T30, X30, e30, st30⟩ := getS2 X0 hx hZ hown (host := "") (Or.inl (ww4 hw)) Via.refl e0 (Sta.ext O0.2 ST.k0) (g := (mkF m 182 #[.val (.int p0), .unset] [])) rfl (hb hby d0_182)
                              refine step st30 ?_
                              show G T30 (mkF m 185 #[.val (.int p0), .unset] [(.ref w_FAILED)])
                              refine step (fun t k => XS.astoreN X30.here hx rfl (hb hby d0_185) rfl rfl (l' := #[.val (.int p0), .val (.ref w_FAILED)]) rfl k) ?_
                              show G T30 (mkF m 186 #[.val (.int p0), .val (.ref w_FAILED)] [])
                              refine step (fun t k => XS.aloadN X30.here hx rfl (hb hby d0_186) rfl rfl k) ?_
                              show G T30 (mkF m 187 #[.val (.int p0), .val (.ref w_FAILED)] [(.ref w_FAILED)])
                              exact ret (v := some (.ref w_FAILED)) X30 (fun h => by rw [Bd.returns] at h; cases h) (fun fs hr => retA X30 hx Bd.returns rfl rfl (hb hby d0_187) hr) e30 ⟨by unfold f_of; rw [if_pos hc1, if_neg hc2, if_neg hc4, if_neg hc6, if_neg hc8, if_neg hc10, if_neg hc12, if_neg hc14, if_neg hc16, if_neg hc18, if_neg hc20, if_pos hc26, if_neg hc27, if_pos hc29], N0, rfl⟩ (by decide) (by decide)
                            · skip
                              refine step (fun t k => XS.icmpNo X0.here hx rfl (hb hby d0_172) rfl (flt hc29).2.2.1 k) ?_
                              show G s₁ (mkF m 175 #[.val (.int p0), .unset] [])
                              obtain ⟨T31, X31, e31, st31⟩ := getS2 X0 hx hZ hown (host := "") (Or.inl (ww20 hw)) Via.refl e0 (Sta.ext O0.2 ST.k6) (g := (mkF m 175 #[.val (.int p0), .unset] [])) rfl (hb hby d0_175)
                              refine step st31 ?_
                              show G T31 (mkF m 178 #[.val (.int p0), .unset] [(.ref w_SERVER_ERROR)])
                              refine step (fun t k => XS.astoreN X31.here hx rfl (hb hby d0_178) rfl rfl (l' := #[.val (.int p0), .val (.ref w_SERVER_ERROR)]) rfl k) ?_
                              show G T31 (mkF m 179 #[.val (.int p0), .val (.ref w_SERVER_ERROR)] [])
                              refine step (fun t k => XS.goto X31.here hx rfl (pc0 := 179) (pc' := 186) rfl (hb hby d0_179) (by decide) (by decide) k) ?_
                              show G T31 (mkF m 186 #[.val (.int p0), .val (.ref w_SERVER_ERROR)] [])
                              refine step (fun t k => XS.aloadN X31.here hx rfl (hb hby d0_186) rfl rfl k) ?_
                              show G T31 (mkF m 187 #[.val (.int p0), .val (.ref w_SERVER_ERROR)] [(.ref w_SERVER_ERROR)])
                              exact ret (v := some (.ref w_SERVER_ERROR)) X31 (fun h => by rw [Bd.returns] at h; cases h) (fun fs hr => retA X31 hx Bd.returns rfl rfl (hb hby d0_187) hr) e31 ⟨by unfold f_of; rw [if_pos hc1, if_neg hc2, if_neg hc4, if_neg hc6, if_neg hc8, if_neg hc10, if_neg hc12, if_neg hc14, if_neg hc16, if_neg hc18, if_neg hc20, if_pos hc26, if_neg hc27, if_neg hc29], N0, rfl⟩ (by decide) (by decide)
                        · skip
                          refine step (fun t k => XS.icmpNo X0.here hx rfl (hb hby d0_151) rfl (flt hc26).2.2.1 k) ?_
                          show G s₁ (mkF m 154 #[.val (.int p0), .unset] [])
                          obtain ⟨T32, X32, e32, st32⟩ := getS2 X0 hx hZ hown (host := "") (Or.inl (ww17 hw)) Via.refl e0 (Sta.ext O0.2 ST.k4) (g := (mkF m 154 #[.val (.int p0), .unset] [])) rfl (hb hby d0_154)
                          refine step st32 ?_
                          show G T32 (mkF m 157 #[.val (.int p0), .unset] [(.ref w_REDIRECTED)])
                          refine step (fun t k => XS.astoreN X32.here hx rfl (hb hby d0_157) rfl rfl (l' := #[.val (.int p0), .val (.ref w_REDIRECTED)]) rfl k) ?_
                          show G T32 (mkF m 158 #[.val (.int p0), .val (.ref w_REDIRECTED)] [])
                          refine step (fun t k => XS.goto X32.here hx rfl (pc0 := 158) (pc' := 186) rfl (hb hby d0_158) (by decide) (by decide) k) ?_
                          show G T32 (mkF m 186 #[.val (.int p0), .val (.ref w_REDIRECTED)] [])
                          refine step (fun t k => XS.aloadN X32.here hx rfl (hb hby d0_186) rfl rfl k) ?_
                          show G T32 (mkF m 187 #[.val (.int p0), .val (.ref w_REDIRECTED)] [(.ref w_REDIRECTED)])
                          exact ret (v := some (.ref w_REDIRECTED)) X32 (fun h => by rw [Bd.returns] at h; cases h) (fun fs hr => retA X32 hx Bd.returns rfl rfl (hb hby d0_187) hr) e32 ⟨by unfold f_of; rw [if_pos hc1, if_neg hc2, if_neg hc4, if_neg hc6, if_neg hc8, if_neg hc10, if_neg hc12, if_neg hc14, if_neg hc16, if_neg hc18, if_neg hc20, if_neg hc26], N0, rfl⟩ (by decide) (by decide)
  · skip
    refine step (fun t k => XS.icmpNo X0.here hx rfl (hb hby d0_4) rfl (flt hc1).1 k) ?_
    show G s₁ (mkF m 7 #[.val (.int p0), .unset] [])
    refine step (fun t k => XS.iloadN X0.here hx rfl (hb hby d0_7) rfl k) ?_
    show G s₁ (mkF m 8 #[.val (.int p0), .unset] [(.int p0)])
    refine step (fun t k => XS.sipush X0.here hx rfl (hb hby d0_8) k) ?_
    show G s₁ (mkF m 11 #[.val (.int p0), .unset] [(.int 204), (.int p0)])
    by_cases hc33 : (204 : Int32) < p0
    · skip
      refine step (fun t k => XS.icmpYes X0.here hx rfl (pc0 := 11) (pc' := 21) rfl (hb hby d0_11) rfl (tlt hc33).2.2.1 (by decide) (by decide) k) ?_
      show G s₁ (mkF m 21 #[.val (.int p0), .unset] [])
      refine step (fun t k => XS.iloadN X0.here hx rfl (hb hby d0_21) rfl k) ?_
      show G s₁ (mkF m 22 #[.val (.int p0), .unset] [(.int p0)])
      refine step (fun t k => XS.sipush X0.here hx rfl (hb hby d0_22) k) ?_
      show G s₁ (mkF m 25 #[.val (.int p0), .unset] [(.int 400), (.int p0)])
      by_cases hc34 : p0 = (400 : Int32)
      · skip
        refine step (fun t k => XS.icmpNo X0.here hx rfl (hb hby d0_25) rfl (teq hc34).2 k) ?_
        show G s₁ (mkF m 28 #[.val (.int p0), .unset] [])
        obtain ⟨T35, X35, e35, st35⟩ := getS2 X0 hx hZ hown (host := "") (Or.inl (ww32 hw)) Via.refl e0 (Sta.ext O0.2 ST.k14) (g := (mkF m 28 #[.val (.int p0), .unset] [])) rfl (hb hby d0_28)
        refine step st35 ?_
        show G T35 (mkF m 31 #[.val (.int p0), .unset] [(.ref w_BAD_REQUEST)])
        refine step (fun t k => XS.astoreN X35.here hx rfl (hb hby d0_31) rfl rfl (l' := #[.val (.int p0), .val (.ref w_BAD_REQUEST)]) rfl k) ?_
        show G T35 (mkF m 32 #[.val (.int p0), .val (.ref w_BAD_REQUEST)] [])
        refine step (fun t k => XS.goto X35.here hx rfl (pc0 := 32) (pc' := 186) rfl (hb hby d0_32) (by decide) (by decide) k) ?_
        show G T35 (mkF m 186 #[.val (.int p0), .val (.ref w_BAD_REQUEST)] [])
        refine step (fun t k => XS.aloadN X35.here hx rfl (hb hby d0_186) rfl rfl k) ?_
        show G T35 (mkF m 187 #[.val (.int p0), .val (.ref w_BAD_REQUEST)] [(.ref w_BAD_REQUEST)])
        exact ret (v := some (.ref w_BAD_REQUEST)) X35 (fun h => by rw [Bd.returns] at h; cases h) (fun fs hr => retA X35 hx Bd.returns rfl rfl (hb hby d0_187) hr) e35 ⟨by unfold f_of; rw [if_neg hc1, if_pos hc33, if_pos hc34], N0, rfl⟩ (by decide) (by decide)
      · skip
        refine step (fun t k => XS.icmpYes X0.here hx rfl (pc0 := 25) (pc' := 35) rfl (hb hby d0_25) rfl (feq hc34).2 (by decide) (by decide) k) ?_
        show G s₁ (mkF m 35 #[.val (.int p0), .unset] [])
        refine step (fun t k => XS.iloadN X0.here hx rfl (hb hby d0_35) rfl k) ?_
        show G s₁ (mkF m 36 #[.val (.int p0), .unset] [(.int p0)])
        refine step (fun t k => XS.sipush X0.here hx rfl (hb hby d0_36) k) ?_
        show G s₁ (mkF m 39 #[.val (.int p0), .unset] [(.int 401), (.int p0)])
        by_cases hc36 : p0 = (401 : Int32)
        · skip
          refine step (fun t k => XS.icmpNo X0.here hx rfl (hb hby d0_39) rfl (teq hc36).2 k) ?_
          show G s₁ (mkF m 42 #[.val (.int p0), .unset] [])
          obtain ⟨T37, X37, e37, st37⟩ := getS2 X0 hx hZ hown (host := "") (Or.inl (ww29 hw)) Via.refl e0 (Sta.ext O0.2 ST.k12) (g := (mkF m 42 #[.val (.int p0), .unset] [])) rfl (hb hby d0_42)
          refine step st37 ?_
          show G T37 (mkF m 45 #[.val (.int p0), .unset] [(.ref w_UNAUTHORIZED)])
          refine step (fun t k => XS.astoreN X37.here hx rfl (hb hby d0_45) rfl rfl (l' := #[.val (.int p0), .val (.ref w_UNAUTHORIZED)]) rfl k) ?_
          show G T37 (mkF m 46 #[.val (.int p0), .val (.ref w_UNAUTHORIZED)] [])
          refine step (fun t k => XS.goto X37.here hx rfl (pc0 := 46) (pc' := 186) rfl (hb hby d0_46) (by decide) (by decide) k) ?_
          show G T37 (mkF m 186 #[.val (.int p0), .val (.ref w_UNAUTHORIZED)] [])
          refine step (fun t k => XS.aloadN X37.here hx rfl (hb hby d0_186) rfl rfl k) ?_
          show G T37 (mkF m 187 #[.val (.int p0), .val (.ref w_UNAUTHORIZED)] [(.ref w_UNAUTHORIZED)])
          exact ret (v := some (.ref w_UNAUTHORIZED)) X37 (fun h => by rw [Bd.returns] at h; cases h) (fun fs hr => retA X37 hx Bd.returns rfl rfl (hb hby d0_187) hr) e37 ⟨by unfold f_of; rw [if_neg hc1, if_pos hc33, if_neg hc34, if_pos hc36], N0, rfl⟩ (by decide) (by decide)
        · skip
          refine step (fun t k => XS.icmpYes X0.here hx rfl (pc0 := 39) (pc' := 49) rfl (hb hby d0_39) rfl (feq hc36).2 (by decide) (by decide) k) ?_
          show G s₁ (mkF m 49 #[.val (.int p0), .unset] [])
          refine step (fun t k => XS.iloadN X0.here hx rfl (hb hby d0_49) rfl k) ?_
          show G s₁ (mkF m 50 #[.val (.int p0), .unset] [(.int p0)])
          refine step (fun t k => XS.sipush X0.here hx rfl (hb hby d0_50) k) ?_
          show G s₁ (mkF m 53 #[.val (.int p0), .unset] [(.int 403), (.int p0)])
          by_cases hc38 : p0 = (403 : Int32)
          · skip
            refine step (fun t k => XS.icmpNo X0.here hx rfl (hb hby d0_53) rfl (teq hc38).2 k) ?_
            show G s₁ (mkF m 56 #[.val (.int p0), .unset] [])
            obtain ⟨T39, X39, e39, st39⟩ := getS2 X0 hx hZ hown (host := "") (Or.inl (ww41 hw)) Via.refl e0 (Sta.ext O0.2 ST.k20) (g := (mkF m 56 #[.val (.int p0), .unset] [])) rfl (hb hby d0_56)
            refine step st39 ?_
            show G T39 (mkF m 59 #[.val (.int p0), .unset] [(.ref w_FORBIDDEN)])
            refine step (fun t k => XS.astoreN X39.here hx rfl (hb hby d0_59) rfl rfl (l' := #[.val (.int p0), .val (.ref w_FORBIDDEN)]) rfl k) ?_
            show G T39 (mkF m 60 #[.val (.int p0), .val (.ref w_FORBIDDEN)] [])
            refine step (fun t k => XS.goto X39.here hx rfl (pc0 := 60) (pc' := 186) rfl (hb hby d0_60) (by decide) (by decide) k) ?_
            show G T39 (mkF m 186 #[.val (.int p0), .val (.ref w_FORBIDDEN)] [])
            refine step (fun t k => XS.aloadN X39.here hx rfl (hb hby d0_186) rfl rfl k) ?_
            show G T39 (mkF m 187 #[.val (.int p0), .val (.ref w_FORBIDDEN)] [(.ref w_FORBIDDEN)])
            exact ret (v := some (.ref w_FORBIDDEN)) X39 (fun h => by rw [Bd.returns] at h; cases h) (fun fs hr => retA X39 hx Bd.returns rfl rfl (hb hby d0_187) hr) e39 ⟨by unfold f_of; rw [if_neg hc1, if_pos hc33, if_neg hc34, if_neg hc36, if_pos hc38], N0, rfl⟩ (by decide) (by decide)
          · skip
            refine step (fun t k => XS.icmpYes X0.here hx rfl (pc0 := 53) (pc' := 63) rfl (hb hby d0_53) rfl (feq hc38).2 (by decide) (by decide) k) ?_
            show G s₁ (mkF m 63 #[.val (.int p0), .unset] [])
            refine step (fun t k => XS.iloadN X0.here hx rfl (hb hby d0_63) rfl k) ?_
            show G s₁ (mkF m 64 #[.val (.int p0), .unset] [(.int p0)])
            refine step (fun t k => XS.sipush X0.here hx rfl (hb hby d0_64) k) ?_
            show G s₁ (mkF m 67 #[.val (.int p0), .unset] [(.int 404), (.int p0)])
            by_cases hc40 : p0 = (404 : Int32)
            · skip
              refine step (fun t k => XS.icmpNo X0.here hx rfl (hb hby d0_67) rfl (teq hc40).2 k) ?_
              show G s₁ (mkF m 70 #[.val (.int p0), .unset] [])
              obtain ⟨T41, X41, e41, st41⟩ := getS2 X0 hx hZ hown (host := "") (Or.inl (ww35 hw)) Via.refl e0 (Sta.ext O0.2 ST.k16) (g := (mkF m 70 #[.val (.int p0), .unset] [])) rfl (hb hby d0_70)
              refine step st41 ?_
              show G T41 (mkF m 73 #[.val (.int p0), .unset] [(.ref w_NOT_FOUND)])
              refine step (fun t k => XS.astoreN X41.here hx rfl (hb hby d0_73) rfl rfl (l' := #[.val (.int p0), .val (.ref w_NOT_FOUND)]) rfl k) ?_
              show G T41 (mkF m 74 #[.val (.int p0), .val (.ref w_NOT_FOUND)] [])
              refine step (fun t k => XS.goto X41.here hx rfl (pc0 := 74) (pc' := 186) rfl (hb hby d0_74) (by decide) (by decide) k) ?_
              show G T41 (mkF m 186 #[.val (.int p0), .val (.ref w_NOT_FOUND)] [])
              refine step (fun t k => XS.aloadN X41.here hx rfl (hb hby d0_186) rfl rfl k) ?_
              show G T41 (mkF m 187 #[.val (.int p0), .val (.ref w_NOT_FOUND)] [(.ref w_NOT_FOUND)])
              exact ret (v := some (.ref w_NOT_FOUND)) X41 (fun h => by rw [Bd.returns] at h; cases h) (fun fs hr => retA X41 hx Bd.returns rfl rfl (hb hby d0_187) hr) e41 ⟨by unfold f_of; rw [if_neg hc1, if_pos hc33, if_neg hc34, if_neg hc36, if_neg hc38, if_pos hc40], N0, rfl⟩ (by decide) (by decide)
            · skip
              refine step (fun t k => XS.icmpYes X0.here hx rfl (pc0 := 67) (pc' := 77) rfl (hb hby d0_67) rfl (feq hc40).2 (by decide) (by decide) k) ?_
              show G s₁ (mkF m 77 #[.val (.int p0), .unset] [])
              refine step (fun t k => XS.iloadN X0.here hx rfl (hb hby d0_77) rfl k) ?_
              show G s₁ (mkF m 78 #[.val (.int p0), .unset] [(.int p0)])
              refine step (fun t k => XS.sipush X0.here hx rfl (hb hby d0_78) k) ?_
              show G s₁ (mkF m 81 #[.val (.int p0), .unset] [(.int 408), (.int p0)])
              by_cases hc42 : p0 = (408 : Int32)
              · skip
                refine step (fun t k => XS.icmpNo X0.here hx rfl (hb hby d0_81) rfl (teq hc42).2 k) ?_
                show G s₁ (mkF m 84 #[.val (.int p0), .unset] [])
                obtain ⟨T43, X43, e43, st43⟩ := getS2 X0 hx hZ hown (host := "") (Or.inl (ww26 hw)) Via.refl e0 (Sta.ext O0.2 ST.k10) (g := (mkF m 84 #[.val (.int p0), .unset] [])) rfl (hb hby d0_84)
                refine step st43 ?_
                show G T43 (mkF m 87 #[.val (.int p0), .unset] [(.ref w_TIMED_OUT)])
                refine step (fun t k => XS.astoreN X43.here hx rfl (hb hby d0_87) rfl rfl (l' := #[.val (.int p0), .val (.ref w_TIMED_OUT)]) rfl k) ?_
                show G T43 (mkF m 88 #[.val (.int p0), .val (.ref w_TIMED_OUT)] [])
                refine step (fun t k => XS.goto X43.here hx rfl (pc0 := 88) (pc' := 186) rfl (hb hby d0_88) (by decide) (by decide) k) ?_
                show G T43 (mkF m 186 #[.val (.int p0), .val (.ref w_TIMED_OUT)] [])
                refine step (fun t k => XS.aloadN X43.here hx rfl (hb hby d0_186) rfl rfl k) ?_
                show G T43 (mkF m 187 #[.val (.int p0), .val (.ref w_TIMED_OUT)] [(.ref w_TIMED_OUT)])
                exact ret (v := some (.ref w_TIMED_OUT)) X43 (fun h => by rw [Bd.returns] at h; cases h) (fun fs hr => retA X43 hx Bd.returns rfl rfl (hb hby d0_187) hr) e43 ⟨by unfold f_of; rw [if_neg hc1, if_pos hc33, if_neg hc34, if_neg hc36, if_neg hc38, if_neg hc40, if_pos hc42], N0, rfl⟩ (by decide) (by decide)
              · skip
                refine step (fun t k => XS.icmpYes X0.here hx rfl (pc0 := 81) (pc' := 91) rfl (hb hby d0_81) rfl (feq hc42).2 (by decide) (by decide) k) ?_
                show G s₁ (mkF m 91 #[.val (.int p0), .unset] [])
                refine step (fun t k => XS.iloadN X0.here hx rfl (hb hby d0_91) rfl k) ?_
                show G s₁ (mkF m 92 #[.val (.int p0), .unset] [(.int p0)])
                refine step (fun t k => XS.sipush X0.here hx rfl (hb hby d0_92) k) ?_
                show G s₁ (mkF m 95 #[.val (.int p0), .unset] [(.int 410), (.int p0)])
                by_cases hc44 : p0 = (410 : Int32)
                · skip
                  refine step (fun t k => XS.icmpNo X0.here hx rfl (hb hby d0_95) rfl (teq hc44).2 k) ?_
                  show G s₁ (mkF m 98 #[.val (.int p0), .unset] [])
                  obtain ⟨T45, X45, e45, st45⟩ := getS2 X0 hx hZ hown (host := "") (Or.inl (ww44 hw)) Via.refl e0 (Sta.ext O0.2 ST.k22) (g := (mkF m 98 #[.val (.int p0), .unset] [])) rfl (hb hby d0_98)
                  refine step st45 ?_
                  show G T45 (mkF m 101 #[.val (.int p0), .unset] [(.ref w_GONE)])
                  refine step (fun t k => XS.astoreN X45.here hx rfl (hb hby d0_101) rfl rfl (l' := #[.val (.int p0), .val (.ref w_GONE)]) rfl k) ?_
                  show G T45 (mkF m 102 #[.val (.int p0), .val (.ref w_GONE)] [])
                  refine step (fun t k => XS.goto X45.here hx rfl (pc0 := 102) (pc' := 186) rfl (hb hby d0_102) (by decide) (by decide) k) ?_
                  show G T45 (mkF m 186 #[.val (.int p0), .val (.ref w_GONE)] [])
                  refine step (fun t k => XS.aloadN X45.here hx rfl (hb hby d0_186) rfl rfl k) ?_
                  show G T45 (mkF m 187 #[.val (.int p0), .val (.ref w_GONE)] [(.ref w_GONE)])
                  exact ret (v := some (.ref w_GONE)) X45 (fun h => by rw [Bd.returns] at h; cases h) (fun fs hr => retA X45 hx Bd.returns rfl rfl (hb hby d0_187) hr) e45 ⟨by unfold f_of; rw [if_neg hc1, if_pos hc33, if_neg hc34, if_neg hc36, if_neg hc38, if_neg hc40, if_neg hc42, if_pos hc44], N0, rfl⟩ (by decide) (by decide)
                · skip
                  refine step (fun t k => XS.icmpYes X0.here hx rfl (pc0 := 95) (pc' := 105) rfl (hb hby d0_95) rfl (feq hc44).2 (by decide) (by decide) k) ?_
                  show G s₁ (mkF m 105 #[.val (.int p0), .unset] [])
                  refine step (fun t k => XS.iloadN X0.here hx rfl (hb hby d0_105) rfl k) ?_
                  show G s₁ (mkF m 106 #[.val (.int p0), .unset] [(.int p0)])
                  refine step (fun t k => XS.sipush X0.here hx rfl (hb hby d0_106) k) ?_
                  show G s₁ (mkF m 109 #[.val (.int p0), .unset] [(.int 413), (.int p0)])
                  by_cases hc46 : p0 = (413 : Int32)
                  · skip
                    refine step (fun t k => XS.icmpNo X0.here hx rfl (hb hby d0_109) rfl (teq hc46).2 k) ?_
                    show G s₁ (mkF m 112 #[.val (.int p0), .unset] [])
                    obtain ⟨T47, X47, e47, st47⟩ := getS2 X0 hx hZ hown (host := "") (Or.inl (ww23 hw)) Via.refl e0 (Sta.ext O0.2 ST.k8) (g := (mkF m 112 #[.val (.int p0), .unset] [])) rfl (hb hby d0_112)
                    refine step st47 ?_
                    show G T47 (mkF m 115 #[.val (.int p0), .unset] [(.ref w_PAYLOAD_TOO_LARGE)])
                    refine step (fun t k => XS.astoreN X47.here hx rfl (hb hby d0_115) rfl rfl (l' := #[.val (.int p0), .val (.ref w_PAYLOAD_TOO_LARGE)]) rfl k) ?_
                    show G T47 (mkF m 116 #[.val (.int p0), .val (.ref w_PAYLOAD_TOO_LARGE)] [])
                    refine step (fun t k => XS.goto X47.here hx rfl (pc0 := 116) (pc' := 186) rfl (hb hby d0_116) (by decide) (by decide) k) ?_
                    show G T47 (mkF m 186 #[.val (.int p0), .val (.ref w_PAYLOAD_TOO_LARGE)] [])
                    refine step (fun t k => XS.aloadN X47.here hx rfl (hb hby d0_186) rfl rfl k) ?_
                    show G T47 (mkF m 187 #[.val (.int p0), .val (.ref w_PAYLOAD_TOO_LARGE)] [(.ref w_PAYLOAD_TOO_LARGE)])
                    exact ret (v := some (.ref w_PAYLOAD_TOO_LARGE)) X47 (fun h => by rw [Bd.returns] at h; cases h) (fun fs hr => retA X47 hx Bd.returns rfl rfl (hb hby d0_187) hr) e47 ⟨by unfold f_of; rw [if_neg hc1, if_pos hc33, if_neg hc34, if_neg hc36, if_neg hc38, if_neg hc40, if_neg hc42, if_neg hc44, if_pos hc46], N0, rfl⟩ (by decide) (by decide)
                  · skip
                    refine step (fun t k => XS.icmpYes X0.here hx rfl (pc0 := 109) (pc' := 119) rfl (hb hby d0_109) rfl (feq hc46).2 (by decide) (by decide) k) ?_
                    show G s₁ (mkF m 119 #[.val (.int p0), .unset] [])
                    refine step (fun t k => XS.iloadN X0.here hx rfl (hb hby d0_119) rfl k) ?_
                    show G s₁ (mkF m 120 #[.val (.int p0), .unset] [(.int p0)])
                    refine step (fun t k => XS.sipush X0.here hx rfl (hb hby d0_120) k) ?_
                    show G s₁ (mkF m 123 #[.val (.int p0), .unset] [(.int 429), (.int p0)])
                    by_cases hc48 : p0 = (429 : Int32)
                    · skip
                      refine step (fun t k => XS.icmpYes X0.here hx rfl (pc0 := 123) (pc' := 133) rfl (hb hby d0_123) rfl (teq hc48).1 (by decide) (by decide) k) ?_
                      show G s₁ (mkF m 133 #[.val (.int p0), .unset] [])
                      obtain ⟨T49, X49, e49, st49⟩ := getS2 X0 hx hZ hown (host := "") (Or.inl (ww38 hw)) Via.refl e0 (Sta.ext O0.2 ST.k18) (g := (mkF m 133 #[.val (.int p0), .unset] [])) rfl (hb hby d0_133)
                      refine step st49 ?_
                      show G T49 (mkF m 136 #[.val (.int p0), .unset] [(.ref w_BUSY)])
                      refine step (fun t k => XS.astoreN X49.here hx rfl (hb hby d0_136) rfl rfl (l' := #[.val (.int p0), .val (.ref w_BUSY)]) rfl k) ?_
                      show G T49 (mkF m 137 #[.val (.int p0), .val (.ref w_BUSY)] [])
                      refine step (fun t k => XS.goto X49.here hx rfl (pc0 := 137) (pc' := 186) rfl (hb hby d0_137) (by decide) (by decide) k) ?_
                      show G T49 (mkF m 186 #[.val (.int p0), .val (.ref w_BUSY)] [])
                      refine step (fun t k => XS.aloadN X49.here hx rfl (hb hby d0_186) rfl rfl k) ?_
                      show G T49 (mkF m 187 #[.val (.int p0), .val (.ref w_BUSY)] [(.ref w_BUSY)])
                      exact ret (v := some (.ref w_BUSY)) X49 (fun h => by rw [Bd.returns] at h; cases h) (fun fs hr => retA X49 hx Bd.returns rfl rfl (hb hby d0_187) hr) e49 ⟨by unfold f_of; rw [if_neg hc1, if_pos hc33, if_neg hc34, if_neg hc36, if_neg hc38, if_neg hc40, if_neg hc42, if_neg hc44, if_neg hc46, if_pos hc48], N0, rfl⟩ (by decide) (by decide)
                    · skip
                      refine step (fun t k => XS.icmpNo X0.here hx rfl (hb hby d0_123) rfl (feq hc48).1 k) ?_
                      show G s₁ (mkF m 126 #[.val (.int p0), .unset] [])
                      refine step (fun t k => XS.iloadN X0.here hx rfl (hb hby d0_126) rfl k) ?_
                      show G s₁ (mkF m 127 #[.val (.int p0), .unset] [(.int p0)])
                      refine step (fun t k => XS.sipush X0.here hx rfl (hb hby d0_127) k) ?_
                      show G s₁ (mkF m 130 #[.val (.int p0), .unset] [(.int 503), (.int p0)])
                      by_cases hc50 : p0 = (503 : Int32)
                      · skip
                        refine step (fun t k => XS.icmpNo X0.here hx rfl (hb hby d0_130) rfl (teq hc50).2 k) ?_
                        show G s₁ (mkF m 133 #[.val (.int p0), .unset] [])
                        obtain ⟨T51, X51, e51, st51⟩ := getS2 X0 hx hZ hown (host := "") (Or.inl (ww38 hw)) Via.refl e0 (Sta.ext O0.2 ST.k18) (g := (mkF m 133 #[.val (.int p0), .unset] [])) rfl (hb hby d0_133)
                        refine step st51 ?_
                        show G T51 (mkF m 136 #[.val (.int p0), .unset] [(.ref w_BUSY)])
                        refine step (fun t k => XS.astoreN X51.here hx rfl (hb hby d0_136) rfl rfl (l' := #[.val (.int p0), .val (.ref w_BUSY)]) rfl k) ?_
                        show G T51 (mkF m 137 #[.val (.int p0), .val (.ref w_BUSY)] [])
                        refine step (fun t k => XS.goto X51.here hx rfl (pc0 := 137) (pc' := 186) rfl (hb hby d0_137) (by decide) (by decide) k) ?_
                        show G T51 (mkF m 186 #[.val (.int p0), .val (.ref w_BUSY)] [])
                        refine step (fun t k => XS.aloadN X51.here hx rfl (hb hby d0_186) rfl rfl k) ?_
                        show G T51 (mkF m 187 #[.val (.int p0), .val (.ref w_BUSY)] [(.ref w_BUSY)])
                        exact ret (v := some (.ref w_BUSY)) X51 (fun h => by rw [Bd.returns] at h; cases h) (fun fs hr => retA X51 hx Bd.returns rfl rfl (hb hby d0_187) hr) e51 ⟨by unfold f_of; rw [if_neg hc1, if_pos hc33, if_neg hc34, if_neg hc36, if_neg hc38, if_neg hc40, if_neg hc42, if_neg hc44, if_neg hc46, if_neg hc48, if_pos hc50], N0, rfl⟩ (by decide) (by decide)
                      · skip
                        refine step (fun t k => XS.icmpYes X0.here hx rfl (pc0 := 130) (pc' := 140) rfl (hb hby d0_130) rfl (feq hc50).2 (by decide) (by decide) k) ?_
                        show G s₁ (mkF m 140 #[.val (.int p0), .unset] [])
                        refine step (fun t k => XS.iloadN X0.here hx rfl (hb hby d0_140) rfl k) ?_
                        show G s₁ (mkF m 141 #[.val (.int p0), .unset] [(.int p0)])
                        refine step (fun t k => XS.sipush X0.here hx rfl (hb hby d0_141) k) ?_
                        show G s₁ (mkF m 144 #[.val (.int p0), .unset] [(.int 300), (.int p0)])
                        by_cases hc52 : p0 < (300 : Int32)
                        · skip
                          refine step (fun t k => XS.icmpYes X0.here hx rfl (pc0 := 144) (pc' := 161) rfl (hb hby d0_144) rfl (tlt hc52).1 (by decide) (by decide) k) ?_
                          show G s₁ (mkF m 161 #[.val (.int p0), .unset] [])
                          refine step (fun t k => XS.iloadN X0.here hx rfl (hb hby d0_161) rfl k) ?_
                          show G s₁ (mkF m 162 #[.val (.int p0), .unset] [(.int p0)])
                          refine step (fun t k => XS.sipush X0.here hx rfl (hb hby d0_162) k) ?_
                          show G s₁ (mkF m 165 #[.val (.int p0), .unset] [(.int 500), (.int p0)])
                          by_cases hc53 : p0 < (500 : Int32)
                          · skip
                            refine step (fun t k => XS.icmpYes X0.here hx rfl (pc0 := 165) (pc' := 182) rfl (hb hby d0_165) rfl (tlt hc53).1 (by decide) (by decide) k) ?_
                            show G s₁ (mkF m 182 #[.val (.int p0), .unset] [])
                            obtain ⟨T54, X54, e54, st54⟩ := getS2 X0 hx hZ hown (host := "") (Or.inl (ww4 hw)) Via.refl e0 (Sta.ext O0.2 ST.k0) (g := (mkF m 182 #[.val (.int p0), .unset] [])) rfl (hb hby d0_182)
                            refine step st54 ?_
                            show G T54 (mkF m 185 #[.val (.int p0), .unset] [(.ref w_FAILED)])
                            refine step (fun t k => XS.astoreN X54.here hx rfl (hb hby d0_185) rfl rfl (l' := #[.val (.int p0), .val (.ref w_FAILED)]) rfl k) ?_
                            show G T54 (mkF m 186 #[.val (.int p0), .val (.ref w_FAILED)] [])
                            refine step (fun t k => XS.aloadN X54.here hx rfl (hb hby d0_186) rfl rfl k) ?_
                            show G T54 (mkF m 187 #[.val (.int p0), .val (.ref w_FAILED)] [(.ref w_FAILED)])
                            exact ret (v := some (.ref w_FAILED)) X54 (fun h => by rw [Bd.returns] at h; cases h) (fun fs hr => retA X54 hx Bd.returns rfl rfl (hb hby d0_187) hr) e54 ⟨by unfold f_of; rw [if_neg hc1, if_pos hc33, if_neg hc34, if_neg hc36, if_neg hc38, if_neg hc40, if_neg hc42, if_neg hc44, if_neg hc46, if_neg hc48, if_neg hc50, if_pos hc52, if_pos hc53], N0, rfl⟩ (by decide) (by decide)
                          · skip
                            refine step (fun t k => XS.icmpNo X0.here hx rfl (hb hby d0_165) rfl (flt hc53).1 k) ?_
                            show G s₁ (mkF m 168 #[.val (.int p0), .unset] [])
                            refine step (fun t k => XS.iloadN X0.here hx rfl (hb hby d0_168) rfl k) ?_
                            show G s₁ (mkF m 169 #[.val (.int p0), .unset] [(.int p0)])
                            refine step (fun t k => XS.sipush X0.here hx rfl (hb hby d0_169) k) ?_
                            show G s₁ (mkF m 172 #[.val (.int p0), .unset] [(.int 599), (.int p0)])
                            by_cases hc55 : (599 : Int32) < p0
                            · skip
                              refine step (fun t k => XS.icmpYes X0.here hx rfl (pc0 := 172) (pc' := 182) rfl (hb hby d0_172) rfl (tlt hc55).2.2.1 (by decide) (by decide) k) ?_
                              show G s₁ (mkF m 182 #[.val (.int p0), .unset] [])
                              obtain ⟨T56, X56, e56, st56⟩ := getS2 X0 hx hZ hown (host := "") (Or.inl (ww4 hw)) Via.refl e0 (Sta.ext O0.2 ST.k0) (g := (mkF m 182 #[.val (.int p0), .unset] [])) rfl (hb hby d0_182)
                              refine step st56 ?_
                              show G T56 (mkF m 185 #[.val (.int p0), .unset] [(.ref w_FAILED)])
                              refine step (fun t k => XS.astoreN X56.here hx rfl (hb hby d0_185) rfl rfl (l' := #[.val (.int p0), .val (.ref w_FAILED)]) rfl k) ?_
                              show G T56 (mkF m 186 #[.val (.int p0), .val (.ref w_FAILED)] [])
                              refine step (fun t k => XS.aloadN X56.here hx rfl (hb hby d0_186) rfl rfl k) ?_
                              show G T56 (mkF m 187 #[.val (.int p0), .val (.ref w_FAILED)] [(.ref w_FAILED)])
                              exact ret (v := some (.ref w_FAILED)) X56 (fun h => by rw [Bd.returns] at h; cases h) (fun fs hr => retA X56 hx Bd.returns rfl rfl (hb hby d0_187) hr) e56 ⟨by unfold f_of; rw [if_neg hc1, if_pos hc33, if_neg hc34, if_neg hc36, if_neg hc38, if_neg hc40, if_neg hc42, if_neg hc44, if_neg hc46, if_neg hc48, if_neg hc50, if_pos hc52, if_neg hc53, if_pos hc55], N0, rfl⟩ (by decide) (by decide)
                            · skip
                              refine step (fun t k => XS.icmpNo X0.here hx rfl (hb hby d0_172) rfl (flt hc55).2.2.1 k) ?_
                              show G s₁ (mkF m 175 #[.val (.int p0), .unset] [])
                              obtain ⟨T57, X57, e57, st57⟩ := getS2 X0 hx hZ hown (host := "") (Or.inl (ww20 hw)) Via.refl e0 (Sta.ext O0.2 ST.k6) (g := (mkF m 175 #[.val (.int p0), .unset] [])) rfl (hb hby d0_175)
                              refine step st57 ?_
                              show G T57 (mkF m 178 #[.val (.int p0), .unset] [(.ref w_SERVER_ERROR)])
                              refine step (fun t k => XS.astoreN X57.here hx rfl (hb hby d0_178) rfl rfl (l' := #[.val (.int p0), .val (.ref w_SERVER_ERROR)]) rfl k) ?_
                              show G T57 (mkF m 179 #[.val (.int p0), .val (.ref w_SERVER_ERROR)] [])
                              refine step (fun t k => XS.goto X57.here hx rfl (pc0 := 179) (pc' := 186) rfl (hb hby d0_179) (by decide) (by decide) k) ?_
                              show G T57 (mkF m 186 #[.val (.int p0), .val (.ref w_SERVER_ERROR)] [])
                              refine step (fun t k => XS.aloadN X57.here hx rfl (hb hby d0_186) rfl rfl k) ?_
                              show G T57 (mkF m 187 #[.val (.int p0), .val (.ref w_SERVER_ERROR)] [(.ref w_SERVER_ERROR)])
                              exact ret (v := some (.ref w_SERVER_ERROR)) X57 (fun h => by rw [Bd.returns] at h; cases h) (fun fs hr => retA X57 hx Bd.returns rfl rfl (hb hby d0_187) hr) e57 ⟨by unfold f_of; rw [if_neg hc1, if_pos hc33, if_neg hc34, if_neg hc36, if_neg hc38, if_neg hc40, if_neg hc42, if_neg hc44, if_neg hc46, if_neg hc48, if_neg hc50, if_pos hc52, if_neg hc53, if_neg hc55], N0, rfl⟩ (by decide) (by decide)
                        · skip
                          refine step (fun t k => XS.icmpNo X0.here hx rfl (hb hby d0_144) rfl (flt hc52).1 k) ?_
                          show G s₁ (mkF m 147 #[.val (.int p0), .unset] [])
                          refine step (fun t k => XS.iloadN X0.here hx rfl (hb hby d0_147) rfl k) ?_
                          show G s₁ (mkF m 148 #[.val (.int p0), .unset] [(.int p0)])
                          refine step (fun t k => XS.sipush X0.here hx rfl (hb hby d0_148) k) ?_
                          show G s₁ (mkF m 151 #[.val (.int p0), .unset] [(.int 399), (.int p0)])
                          by_cases hc58 : (399 : Int32) < p0
                          · skip
                            refine step (fun t k => XS.icmpYes X0.here hx rfl (pc0 := 151) (pc' := 161) rfl (hb hby d0_151) rfl (tlt hc58).2.2.1 (by decide) (by decide) k) ?_
                            show G s₁ (mkF m 161 #[.val (.int p0), .unset] [])
                            refine step (fun t k => XS.iloadN X0.here hx rfl (hb hby d0_161) rfl k) ?_
                            show G s₁ (mkF m 162 #[.val (.int p0), .unset] [(.int p0)])
                            refine step (fun t k => XS.sipush X0.here hx rfl (hb hby d0_162) k) ?_
                            show G s₁ (mkF m 165 #[.val (.int p0), .unset] [(.int 500), (.int p0)])
                            by_cases hc59 : p0 < (500 : Int32)
                            · skip
                              refine step (fun t k => XS.icmpYes X0.here hx rfl (pc0 := 165) (pc' := 182) rfl (hb hby d0_165) rfl (tlt hc59).1 (by decide) (by decide) k) ?_
                              show G s₁ (mkF m 182 #[.val (.int p0), .unset] [])
                              obtain ⟨T60, X60, e60, st60⟩ := getS2 X0 hx hZ hown (host := "") (Or.inl (ww4 hw)) Via.refl e0 (Sta.ext O0.2 ST.k0) (g := (mkF m 182 #[.val (.int p0), .unset] [])) rfl (hb hby d0_182)
                              refine step st60 ?_
                              show G T60 (mkF m 185 #[.val (.int p0), .unset] [(.ref w_FAILED)])
                              refine step (fun t k => XS.astoreN X60.here hx rfl (hb hby d0_185) rfl rfl (l' := #[.val (.int p0), .val (.ref w_FAILED)]) rfl k) ?_
                              show G T60 (mkF m 186 #[.val (.int p0), .val (.ref w_FAILED)] [])
                              refine step (fun t k => XS.aloadN X60.here hx rfl (hb hby d0_186) rfl rfl k) ?_
                              show G T60 (mkF m 187 #[.val (.int p0), .val (.ref w_FAILED)] [(.ref w_FAILED)])
                              exact ret (v := some (.ref w_FAILED)) X60 (fun h => by rw [Bd.returns] at h; cases h) (fun fs hr => retA X60 hx Bd.returns rfl rfl (hb hby d0_187) hr) e60 ⟨by unfold f_of; rw [if_neg hc1, if_pos hc33, if_neg hc34, if_neg hc36, if_neg hc38, if_neg hc40, if_neg hc42, if_neg hc44, if_neg hc46, if_neg hc48, if_neg hc50, if_neg hc52, if_pos hc58, if_pos hc59], N0, rfl⟩ (by decide) (by decide)
                            · skip
                              refine step (fun t k => XS.icmpNo X0.here hx rfl (hb hby d0_165) rfl (flt hc59).1 k) ?_
                              show G s₁ (mkF m 168 #[.val (.int p0), .unset] [])
                              refine step (fun t k => XS.iloadN X0.here hx rfl (hb hby d0_168) rfl k) ?_
                              show G s₁ (mkF m 169 #[.val (.int p0), .unset] [(.int p0)])
                              refine step (fun t k => XS.sipush X0.here hx rfl (hb hby d0_169) k) ?_
                              show G s₁ (mkF m 172 #[.val (.int p0), .unset] [(.int 599), (.int p0)])
                              by_cases hc61 : (599 : Int32) < p0
                              · skip
                                refine step (fun t k => XS.icmpYes X0.here hx rfl (pc0 := 172) (pc' := 182) rfl (hb hby d0_172) rfl (tlt hc61).2.2.1 (by decide) (by decide) k) ?_
                                show G s₁ (mkF m 182 #[.val (.int p0), .unset] [])
                                obtain ⟨T62, X62, e62, st62⟩ := getS2 X0 hx hZ hown (host := "") (Or.inl (ww4 hw)) Via.refl e0 (Sta.ext O0.2 ST.k0) (g := (mkF m 182 #[.val (.int p0), .unset] [])) rfl (hb hby d0_182)
                                refine step st62 ?_
                                show G T62 (mkF m 185 #[.val (.int p0), .unset] [(.ref w_FAILED)])
                                refine step (fun t k => XS.astoreN X62.here hx rfl (hb hby d0_185) rfl rfl (l' := #[.val (.int p0), .val (.ref w_FAILED)]) rfl k) ?_
                                show G T62 (mkF m 186 #[.val (.int p0), .val (.ref w_FAILED)] [])
                                refine step (fun t k => XS.aloadN X62.here hx rfl (hb hby d0_186) rfl rfl k) ?_
                                show G T62 (mkF m 187 #[.val (.int p0), .val (.ref w_FAILED)] [(.ref w_FAILED)])
                                exact ret (v := some (.ref w_FAILED)) X62 (fun h => by rw [Bd.returns] at h; cases h) (fun fs hr => retA X62 hx Bd.returns rfl rfl (hb hby d0_187) hr) e62 ⟨by unfold f_of; rw [if_neg hc1, if_pos hc33, if_neg hc34, if_neg hc36, if_neg hc38, if_neg hc40, if_neg hc42, if_neg hc44, if_neg hc46, if_neg hc48, if_neg hc50, if_neg hc52, if_pos hc58, if_neg hc59, if_pos hc61], N0, rfl⟩ (by decide) (by decide)
                              · skip
                                refine step (fun t k => XS.icmpNo X0.here hx rfl (hb hby d0_172) rfl (flt hc61).2.2.1 k) ?_
                                show G s₁ (mkF m 175 #[.val (.int p0), .unset] [])
                                obtain ⟨T63, X63, e63, st63⟩ := getS2 X0 hx hZ hown (host := "") (Or.inl (ww20 hw)) Via.refl e0 (Sta.ext O0.2 ST.k6) (g := (mkF m 175 #[.val (.int p0), .unset] [])) rfl (hb hby d0_175)
                                refine step st63 ?_
                                show G T63 (mkF m 178 #[.val (.int p0), .unset] [(.ref w_SERVER_ERROR)])
                                refine step (fun t k => XS.astoreN X63.here hx rfl (hb hby d0_178) rfl rfl (l' := #[.val (.int p0), .val (.ref w_SERVER_ERROR)]) rfl k) ?_
                                show G T63 (mkF m 179 #[.val (.int p0), .val (.ref w_SERVER_ERROR)] [])
                                refine step (fun t k => XS.goto X63.here hx rfl (pc0 := 179) (pc' := 186) rfl (hb hby d0_179) (by decide) (by decide) k) ?_
                                show G T63 (mkF m 186 #[.val (.int p0), .val (.ref w_SERVER_ERROR)] [])
                                refine step (fun t k => XS.aloadN X63.here hx rfl (hb hby d0_186) rfl rfl k) ?_
                                show G T63 (mkF m 187 #[.val (.int p0), .val (.ref w_SERVER_ERROR)] [(.ref w_SERVER_ERROR)])
                                exact ret (v := some (.ref w_SERVER_ERROR)) X63 (fun h => by rw [Bd.returns] at h; cases h) (fun fs hr => retA X63 hx Bd.returns rfl rfl (hb hby d0_187) hr) e63 ⟨by unfold f_of; rw [if_neg hc1, if_pos hc33, if_neg hc34, if_neg hc36, if_neg hc38, if_neg hc40, if_neg hc42, if_neg hc44, if_neg hc46, if_neg hc48, if_neg hc50, if_neg hc52, if_pos hc58, if_neg hc59, if_neg hc61], N0, rfl⟩ (by decide) (by decide)
                          · skip
                            refine step (fun t k => XS.icmpNo X0.here hx rfl (hb hby d0_151) rfl (flt hc58).2.2.1 k) ?_
                            show G s₁ (mkF m 154 #[.val (.int p0), .unset] [])
                            obtain ⟨T64, X64, e64, st64⟩ := getS2 X0 hx hZ hown (host := "") (Or.inl (ww17 hw)) Via.refl e0 (Sta.ext O0.2 ST.k4) (g := (mkF m 154 #[.val (.int p0), .unset] [])) rfl (hb hby d0_154)
                            refine step st64 ?_
                            show G T64 (mkF m 157 #[.val (.int p0), .unset] [(.ref w_REDIRECTED)])
                            refine step (fun t k => XS.astoreN X64.here hx rfl (hb hby d0_157) rfl rfl (l' := #[.val (.int p0), .val (.ref w_REDIRECTED)]) rfl k) ?_
                            show G T64 (mkF m 158 #[.val (.int p0), .val (.ref w_REDIRECTED)] [])
                            refine step (fun t k => XS.goto X64.here hx rfl (pc0 := 158) (pc' := 186) rfl (hb hby d0_158) (by decide) (by decide) k) ?_
                            show G T64 (mkF m 186 #[.val (.int p0), .val (.ref w_REDIRECTED)] [])
                            refine step (fun t k => XS.aloadN X64.here hx rfl (hb hby d0_186) rfl rfl k) ?_
                            show G T64 (mkF m 187 #[.val (.int p0), .val (.ref w_REDIRECTED)] [(.ref w_REDIRECTED)])
                            exact ret (v := some (.ref w_REDIRECTED)) X64 (fun h => by rw [Bd.returns] at h; cases h) (fun fs hr => retA X64 hx Bd.returns rfl rfl (hb hby d0_187) hr) e64 ⟨by unfold f_of; rw [if_neg hc1, if_pos hc33, if_neg hc34, if_neg hc36, if_neg hc38, if_neg hc40, if_neg hc42, if_neg hc44, if_neg hc46, if_neg hc48, if_neg hc50, if_neg hc52, if_neg hc58], N0, rfl⟩ (by decide) (by decide)
    · skip
      refine step (fun t k => XS.icmpNo X0.here hx rfl (hb hby d0_11) rfl (flt hc33).2.2.1 k) ?_
      show G s₁ (mkF m 14 #[.val (.int p0), .unset] [])
      obtain ⟨T65, X65, e65, st65⟩ := getS2 X0 hx hZ hown (host := "") (Or.inl (ww14 hw)) Via.refl e0 (Sta.ext O0.2 ST.k2) (g := (mkF m 14 #[.val (.int p0), .unset] [])) rfl (hb hby d0_14)
      refine step st65 ?_
      show G T65 (mkF m 17 #[.val (.int p0), .unset] [(.ref w_DELIVERED)])
      refine step (fun t k => XS.astoreN X65.here hx rfl (hb hby d0_17) rfl rfl (l' := #[.val (.int p0), .val (.ref w_DELIVERED)]) rfl k) ?_
      show G T65 (mkF m 18 #[.val (.int p0), .val (.ref w_DELIVERED)] [])
      refine step (fun t k => XS.goto X65.here hx rfl (pc0 := 18) (pc' := 186) rfl (hb hby d0_18) (by decide) (by decide) k) ?_
      show G T65 (mkF m 186 #[.val (.int p0), .val (.ref w_DELIVERED)] [])
      refine step (fun t k => XS.aloadN X65.here hx rfl (hb hby d0_186) rfl rfl k) ?_
      show G T65 (mkF m 187 #[.val (.int p0), .val (.ref w_DELIVERED)] [(.ref w_DELIVERED)])
      exact ret (v := some (.ref w_DELIVERED)) X65 (fun h => by rw [Bd.returns] at h; cases h) (fun fs hr => retA X65 hx Bd.returns rfl rfl (hb hby d0_187) hr) e65 ⟨by unfold f_of; rw [if_neg hc1, if_neg hc33], N0, rfl⟩ (by decide) (by decide)
theorem d1_0 : decode method_2_code 0 = .ok (.iload_n 0, 1) := by decide +kernel
theorem d1_1 : decode method_2_code 1 = .ok (.ifCond .ne 7, 3) := by decide +kernel
theorem d1_4 : decode method_2_code 4 = .ok (.getstatic 7, 3) := by decide +kernel
theorem ww34 {Z : State} {a0 : Array Value} (hw : ∀ d ∈ tables_1, d.before a0 Z = true) : Jvm.Cond.before (Jvm.Cond.fieldLink cn_2 (7 : Nat) cn_0 "BAD_REQUEST" cn_1) a0 Z = true := hw _ (List.mem_of_getElem? (i := 34) rfl)
theorem d1_7 : decode method_2_code 7 = .ok (.areturn, 1) := by decide +kernel
theorem d1_8 : decode method_2_code 8 = .ok (.iload_n 0, 1) := by decide +kernel
theorem d1_9 : decode method_2_code 9 = .ok (.iconst 1, 1) := by decide +kernel
theorem d1_10 : decode method_2_code 10 = .ok (.if_icmp .ne 7, 3) := by decide +kernel
theorem d1_13 : decode method_2_code 13 = .ok (.getstatic 13, 3) := by decide +kernel
theorem ww31 {Z : State} {a0 : Array Value} (hw : ∀ d ∈ tables_1, d.before a0 Z = true) : Jvm.Cond.before (Jvm.Cond.fieldLink cn_2 (13 : Nat) cn_0 "UNAUTHORIZED" cn_1) a0 Z = true := hw _ (List.mem_of_getElem? (i := 31) rfl)
theorem d1_16 : decode method_2_code 16 = .ok (.areturn, 1) := by decide +kernel
theorem d1_17 : decode method_2_code 17 = .ok (.iload_n 0, 1) := by decide +kernel
theorem d1_18 : decode method_2_code 18 = .ok (.iconst 3, 1) := by decide +kernel
theorem d1_19 : decode method_2_code 19 = .ok (.if_icmp .ne 7, 3) := by decide +kernel
theorem d1_22 : decode method_2_code 22 = .ok (.getstatic 16, 3) := by decide +kernel
theorem ww43 {Z : State} {a0 : Array Value} (hw : ∀ d ∈ tables_1, d.before a0 Z = true) : Jvm.Cond.before (Jvm.Cond.fieldLink cn_2 (16 : Nat) cn_0 "FORBIDDEN" cn_1) a0 Z = true := hw _ (List.mem_of_getElem? (i := 43) rfl)
theorem d1_25 : decode method_2_code 25 = .ok (.areturn, 1) := by decide +kernel
theorem d1_26 : decode method_2_code 26 = .ok (.iload_n 0, 1) := by decide +kernel
theorem d1_27 : decode method_2_code 27 = .ok (.iconst 4, 1) := by decide +kernel
theorem d1_28 : decode method_2_code 28 = .ok (.if_icmp .ne 7, 3) := by decide +kernel
theorem d1_31 : decode method_2_code 31 = .ok (.getstatic 19, 3) := by decide +kernel
theorem ww37 {Z : State} {a0 : Array Value} (hw : ∀ d ∈ tables_1, d.before a0 Z = true) : Jvm.Cond.before (Jvm.Cond.fieldLink cn_2 (19 : Nat) cn_0 "NOT_FOUND" cn_1) a0 Z = true := hw _ (List.mem_of_getElem? (i := 37) rfl)
theorem d1_34 : decode method_2_code 34 = .ok (.areturn, 1) := by decide +kernel
theorem d1_35 : decode method_2_code 35 = .ok (.iload_n 0, 1) := by decide +kernel
theorem d1_36 : decode method_2_code 36 = .ok (.bipush 8, 2) := by decide +kernel
theorem d1_38 : decode method_2_code 38 = .ok (.if_icmp .ne 7, 3) := by decide +kernel
theorem d1_41 : decode method_2_code 41 = .ok (.getstatic 22, 3) := by decide +kernel
theorem ww28 {Z : State} {a0 : Array Value} (hw : ∀ d ∈ tables_1, d.before a0 Z = true) : Jvm.Cond.before (Jvm.Cond.fieldLink cn_2 (22 : Nat) cn_0 "TIMED_OUT" cn_1) a0 Z = true := hw _ (List.mem_of_getElem? (i := 28) rfl)
theorem d1_44 : decode method_2_code 44 = .ok (.areturn, 1) := by decide +kernel
theorem d1_45 : decode method_2_code 45 = .ok (.iload_n 0, 1) := by decide +kernel
theorem d1_46 : decode method_2_code 46 = .ok (.bipush 10, 2) := by decide +kernel
theorem d1_48 : decode method_2_code 48 = .ok (.if_icmp .ne 7, 3) := by decide +kernel
theorem d1_51 : decode method_2_code 51 = .ok (.getstatic 25, 3) := by decide +kernel
theorem ww46 {Z : State} {a0 : Array Value} (hw : ∀ d ∈ tables_1, d.before a0 Z = true) : Jvm.Cond.before (Jvm.Cond.fieldLink cn_2 (25 : Nat) cn_0 "GONE" cn_1) a0 Z = true := hw _ (List.mem_of_getElem? (i := 46) rfl)
theorem d1_54 : decode method_2_code 54 = .ok (.areturn, 1) := by decide +kernel
theorem d1_55 : decode method_2_code 55 = .ok (.iload_n 0, 1) := by decide +kernel
theorem d1_56 : decode method_2_code 56 = .ok (.bipush 13, 2) := by decide +kernel
theorem d1_58 : decode method_2_code 58 = .ok (.if_icmp .ne 7, 3) := by decide +kernel
theorem d1_61 : decode method_2_code 61 = .ok (.getstatic 28, 3) := by decide +kernel
theorem ww25 {Z : State} {a0 : Array Value} (hw : ∀ d ∈ tables_1, d.before a0 Z = true) : Jvm.Cond.before (Jvm.Cond.fieldLink cn_2 (28 : Nat) cn_0 "PAYLOAD_TOO_LARGE" cn_1) a0 Z = true := hw _ (List.mem_of_getElem? (i := 25) rfl)
theorem d1_64 : decode method_2_code 64 = .ok (.areturn, 1) := by decide +kernel
theorem d1_65 : decode method_2_code 65 = .ok (.iload_n 0, 1) := by decide +kernel
theorem d1_66 : decode method_2_code 66 = .ok (.bipush 29, 2) := by decide +kernel
theorem d1_68 : decode method_2_code 68 = .ok (.if_icmp .ne 7, 3) := by decide +kernel
theorem d1_71 : decode method_2_code 71 = .ok (.getstatic 31, 3) := by decide +kernel
theorem ww40 {Z : State} {a0 : Array Value} (hw : ∀ d ∈ tables_1, d.before a0 Z = true) : Jvm.Cond.before (Jvm.Cond.fieldLink cn_2 (31 : Nat) cn_0 "BUSY" cn_1) a0 Z = true := hw _ (List.mem_of_getElem? (i := 40) rfl)
theorem d1_74 : decode method_2_code 74 = .ok (.areturn, 1) := by decide +kernel
theorem d1_75 : decode method_2_code 75 = .ok (.getstatic 34, 3) := by decide +kernel
theorem ww10 {Z : State} {a0 : Array Value} (hw : ∀ d ∈ tables_1, d.before a0 Z = true) : Jvm.Cond.before (Jvm.Cond.fieldLink cn_2 (34 : Nat) cn_0 "FAILED" cn_1) a0 Z = true := hw _ (List.mem_of_getElem? (i := 10) rfl)
theorem d1_78 : decode method_2_code 78 = .ok (.areturn, 1) := by decide +kernel
abbrev rr_four : Room := { frames := 0, cells := 0, slots := 0, locals := 0 }
abbrev y_1 : MethodName := ⟨cn_2, "fourHundreds", cn_3⟩
theorem pn_1 : plainName cn_2 = true := by first | (simp [plainName, overriddenIn]; done) | decide +kernel
theorem ef_four (m : MethodId) (p0 : Int32) : entryFrame m #[(.int p0)] 1 = mkF m 0 #[.val (.int p0)] [] := by first | (simp [entryFrame, mkF, argsToLocals, Value.category]; done) | rfl
def f_four (w_FAILED : Addr) (w_DELIVERED : Addr) (w_REDIRECTED : Addr) (w_SERVER_ERROR : Addr) (w_PAYLOAD_TOO_LARGE : Addr) (w_TIMED_OUT : Addr) (w_UNAUTHORIZED : Addr) (w_BAD_REQUEST : Addr) (w_NOT_FOUND : Addr) (w_BUSY : Addr) (w_FORBIDDEN : Addr) (w_GONE : Addr) (p0 : Int32) : Addr := (if p0 = (0 : Int32) then w_BAD_REQUEST else (if p0 = (1 : Int32) then w_UNAUTHORIZED else (if p0 = (3 : Int32) then w_FORBIDDEN else (if p0 = (4 : Int32) then w_NOT_FOUND else (if p0 = (8 : Int32) then w_TIMED_OUT else (if p0 = (10 : Int32) then w_GONE else (if p0 = (13 : Int32) then w_PAYLOAD_TOO_LARGE else (if p0 = (29 : Int32) then w_BUSY else w_FAILED))))))))
def Q_four (Z : State) (w_FAILED : Addr) (w_DELIVERED : Addr) (w_REDIRECTED : Addr) (w_SERVER_ERROR : Addr) (w_PAYLOAD_TOO_LARGE : Addr) (w_TIMED_OUT : Addr) (w_UNAUTHORIZED : Addr) (w_BAD_REQUEST : Addr) (w_NOT_FOUND : Addr) (w_BUSY : Addr) (w_FORBIDDEN : Addr) (w_GONE : Addr) (p0 : Int32) (h0 : Heap) (n0 : Nat) (v : Option Value) (h : Heap) (L : List Loc) : Prop := v = some (.ref (f_four w_FAILED w_DELIVERED w_REDIRECTED w_SERVER_ERROR w_PAYLOAD_TOO_LARGE w_TIMED_OUT w_UNAUTHORIZED w_BAD_REQUEST w_NOT_FOUND w_BUSY w_FORBIDDEN w_GONE p0)) ∧ Fr n0 L ∧ h = h0
set_option maxRecDepth 65536 in
set_option maxHeartbeats 40000000 in
theorem rm_four (l : Launch) (Z : State) (a0 : Array Value) (hw : ∀ d ∈ tables_1, d.before a0 Z = true) (ws : List Jvm.Cond) (w_FAILED : Addr) (w_DELIVERED : Addr) (w_REDIRECTED : Addr) (w_SERVER_ERROR : Addr) (w_PAYLOAD_TOO_LARGE : Addr) (w_TIMED_OUT : Addr) (w_UNAUTHORIZED : Addr) (w_BAD_REQUEST : Addr) (w_NOT_FOUND : Addr) (w_BUSY : Addr) (w_FORBIDDEN : Addr) (w_GONE : Addr) (p0 : Int32) (h0 : Heap) (n0 : Nat) (Z0 : n0 ≤ h0.size) (ST : own_St Z w_FAILED w_DELIVERED w_REDIRECTED w_SERVER_ERROR w_PAYLOAD_TOO_LARGE w_TIMED_OUT w_UNAUTHORIZED w_BAD_REQUEST w_NOT_FOUND w_BUSY w_FORBIDDEN w_GONE) (O0 : Old Z n0 h0) :
    MetFree l y_1 (head1 (Jvm.Cond.code y_1 method_2_code 1 (some (.object cn_0)) :: ws) rr_four) (fun a U => a = #[(.int p0)] ∧ Z.Warmed39 U.vm ∧ U.heap = h0) (fun _ _ _ _ _ => True) (fun _ U o U' => ∃ v L, o = .returned v ∧ Q_four Z w_FAILED w_DELIVERED w_REDIRECTED w_SERVER_ERROR w_PAYLOAD_TOO_LARGE w_TIMED_OUT w_UNAUTHORIZED w_BAD_REQUEST w_NOT_FOUND w_BUSY w_FORBIDDEN w_GONE p0 h0 n0 v U'.heap L ∧ FrameEnd U o U' L rr_four.cells rr_four.slots) := by
  refine MetFree.of_bodySF (plainFor_of_name pn_1) hisR ?_
  intro p e s m args below meth c s₁ Bd hml0 hP hK
  obtain ⟨rfl, hZ, hh⟩ := hP
  have hx := Bd.exec
  have hby := Bd.bytes
  have hml : c.maxLocals = 1 := hml0
  have hown : s.vm.findClass cn_2 = some m.cls := findClass_of_methodNamed Bd.named
  have hnm := (name_of_methodNamed Bd.named Bd.method).1
  have X0 : Stand p l e rr_four s m #[(.int p0)] below meth c s₁ [] 0 0 := Stand.of_body Bd
  have e0 : s₁.heap = h0 := by rw [← hh, Bd.state]; rfl
  have N0 := Fr.nil n0
  obtain ⟨G, step, ret, fin⟩ := own_open (p := p) (l := l) (e := e) (R := rr_four) (s := s) (m := m) (args := #[(.int p0)]) (below := below) (meth := meth) (c := c) (rr_four.cells) (rr_four.slots) (Q_four Z w_FAILED w_DELIVERED w_REDIRECTED w_SERVER_ERROR w_PAYLOAD_TOO_LARGE w_TIMED_OUT w_UNAUTHORIZED w_BAD_REQUEST w_NOT_FOUND w_BUSY w_FORBIDDEN w_GONE p0 h0 n0) Bd.notSynchronized
  refine fin (g := entryFrame m #[(.int p0)] 1) ?_
  rw [ef_four m p0]
  show G s₁ (mkF m 0 #[.val (.int p0)] [])
  refine step (fun t k => XS.iloadN X0.here hx rfl (hb hby d1_0) rfl k) ?_
  show G s₁ (mkF m 1 #[.val (.int p0)] [(.int p0)])
  by_cases hc1 : p0 = (0 : Int32)
  · skip
    refine step (fun t k => XS.ifNo X0.here hx rfl (hb hby d1_1) rfl ((if0 _ _).trans (teq hc1).2) k) ?_
    show G s₁ (mkF m 4 #[.val (.int p0)] [])
    obtain ⟨T2, X2, e2, st2⟩ := getS2 X0 hx hZ hown (host := "") (Or.inl (ww34 hw)) Via.refl e0 (Sta.ext O0.2 ST.k14) (g := (mkF m 4 #[.val (.int p0)] [])) rfl (hb hby d1_4)
    refine step st2 ?_
    show G T2 (mkF m 7 #[.val (.int p0)] [(.ref w_BAD_REQUEST)])
    exact ret (v := some (.ref w_BAD_REQUEST)) X2 (fun h => by rw [Bd.returns] at h; cases h) (fun fs hr => retA X2 hx Bd.returns rfl rfl (hb hby d1_7) hr) e2 ⟨by unfold f_four; rw [if_pos hc1], N0, rfl⟩ (by decide) (by decide)
  · skip
    refine step (fun t k => XS.ifYes X0.here hx rfl (pc0 := 1) (pc' := 8) rfl (hb hby d1_1) rfl ((if0 _ _).trans (feq hc1).2) (by decide) (by decide) k) ?_
    show G s₁ (mkF m 8 #[.val (.int p0)] [])
    refine step (fun t k => XS.iloadN X0.here hx rfl (hb hby d1_8) rfl k) ?_
    show G s₁ (mkF m 9 #[.val (.int p0)] [(.int p0)])
    refine step (fun t k => XS.iconst X0.here hx rfl (hb hby d1_9) k) ?_
    show G s₁ (mkF m 10 #[.val (.int p0)] [(.int 1), (.int p0)])
    by_cases hc3 : p0 = (1 : Int32)
    · skip
      refine step (fun t k => XS.icmpNo X0.here hx rfl (hb hby d1_10) rfl (teq hc3).2 k) ?_
      show G s₁ (mkF m 13 #[.val (.int p0)] [])
      obtain ⟨T4, X4, e4, st4⟩ := getS2 X0 hx hZ hown (host := "") (Or.inl (ww31 hw)) Via.refl e0 (Sta.ext O0.2 ST.k12) (g := (mkF m 13 #[.val (.int p0)] [])) rfl (hb hby d1_13)
      refine step st4 ?_
      show G T4 (mkF m 16 #[.val (.int p0)] [(.ref w_UNAUTHORIZED)])
      exact ret (v := some (.ref w_UNAUTHORIZED)) X4 (fun h => by rw [Bd.returns] at h; cases h) (fun fs hr => retA X4 hx Bd.returns rfl rfl (hb hby d1_16) hr) e4 ⟨by unfold f_four; rw [if_neg hc1, if_pos hc3], N0, rfl⟩ (by decide) (by decide)
    · skip
      refine step (fun t k => XS.icmpYes X0.here hx rfl (pc0 := 10) (pc' := 17) rfl (hb hby d1_10) rfl (feq hc3).2 (by decide) (by decide) k) ?_
      show G s₁ (mkF m 17 #[.val (.int p0)] [])
      refine step (fun t k => XS.iloadN X0.here hx rfl (hb hby d1_17) rfl k) ?_
      show G s₁ (mkF m 18 #[.val (.int p0)] [(.int p0)])
      refine step (fun t k => XS.iconst X0.here hx rfl (hb hby d1_18) k) ?_
      show G s₁ (mkF m 19 #[.val (.int p0)] [(.int 3), (.int p0)])
      by_cases hc5 : p0 = (3 : Int32)
      · skip
        refine step (fun t k => XS.icmpNo X0.here hx rfl (hb hby d1_19) rfl (teq hc5).2 k) ?_
        show G s₁ (mkF m 22 #[.val (.int p0)] [])
        obtain ⟨T6, X6, e6, st6⟩ := getS2 X0 hx hZ hown (host := "") (Or.inl (ww43 hw)) Via.refl e0 (Sta.ext O0.2 ST.k20) (g := (mkF m 22 #[.val (.int p0)] [])) rfl (hb hby d1_22)
        refine step st6 ?_
        show G T6 (mkF m 25 #[.val (.int p0)] [(.ref w_FORBIDDEN)])
        exact ret (v := some (.ref w_FORBIDDEN)) X6 (fun h => by rw [Bd.returns] at h; cases h) (fun fs hr => retA X6 hx Bd.returns rfl rfl (hb hby d1_25) hr) e6 ⟨by unfold f_four; rw [if_neg hc1, if_neg hc3, if_pos hc5], N0, rfl⟩ (by decide) (by decide)
      · skip
        refine step (fun t k => XS.icmpYes X0.here hx rfl (pc0 := 19) (pc' := 26) rfl (hb hby d1_19) rfl (feq hc5).2 (by decide) (by decide) k) ?_
        show G s₁ (mkF m 26 #[.val (.int p0)] [])
        refine step (fun t k => XS.iloadN X0.here hx rfl (hb hby d1_26) rfl k) ?_
        show G s₁ (mkF m 27 #[.val (.int p0)] [(.int p0)])
        refine step (fun t k => XS.iconst X0.here hx rfl (hb hby d1_27) k) ?_
        show G s₁ (mkF m 28 #[.val (.int p0)] [(.int 4), (.int p0)])
        by_cases hc7 : p0 = (4 : Int32)
        · skip
          refine step (fun t k => XS.icmpNo X0.here hx rfl (hb hby d1_28) rfl (teq hc7).2 k) ?_
          show G s₁ (mkF m 31 #[.val (.int p0)] [])
          obtain ⟨T8, X8, e8, st8⟩ := getS2 X0 hx hZ hown (host := "") (Or.inl (ww37 hw)) Via.refl e0 (Sta.ext O0.2 ST.k16) (g := (mkF m 31 #[.val (.int p0)] [])) rfl (hb hby d1_31)
          refine step st8 ?_
          show G T8 (mkF m 34 #[.val (.int p0)] [(.ref w_NOT_FOUND)])
          exact ret (v := some (.ref w_NOT_FOUND)) X8 (fun h => by rw [Bd.returns] at h; cases h) (fun fs hr => retA X8 hx Bd.returns rfl rfl (hb hby d1_34) hr) e8 ⟨by unfold f_four; rw [if_neg hc1, if_neg hc3, if_neg hc5, if_pos hc7], N0, rfl⟩ (by decide) (by decide)
        · skip
          refine step (fun t k => XS.icmpYes X0.here hx rfl (pc0 := 28) (pc' := 35) rfl (hb hby d1_28) rfl (feq hc7).2 (by decide) (by decide) k) ?_
          show G s₁ (mkF m 35 #[.val (.int p0)] [])
          refine step (fun t k => XS.iloadN X0.here hx rfl (hb hby d1_35) rfl k) ?_
          show G s₁ (mkF m 36 #[.val (.int p0)] [(.int p0)])
          refine step (fun t k => XS.bipush X0.here hx rfl (hb hby d1_36) k) ?_
          show G s₁ (mkF m 38 #[.val (.int p0)] [(.int 8), (.int p0)])
          by_cases hc9 : p0 = (8 : Int32)
          · skip
            refine step (fun t k => XS.icmpNo X0.here hx rfl (hb hby d1_38) rfl (teq hc9).2 k) ?_
            show G s₁ (mkF m 41 #[.val (.int p0)] [])
            obtain ⟨T10, X10, e10, st10⟩ := getS2 X0 hx hZ hown (host := "") (Or.inl (ww28 hw)) Via.refl e0 (Sta.ext O0.2 ST.k10) (g := (mkF m 41 #[.val (.int p0)] [])) rfl (hb hby d1_41)
            refine step st10 ?_
            show G T10 (mkF m 44 #[.val (.int p0)] [(.ref w_TIMED_OUT)])
            exact ret (v := some (.ref w_TIMED_OUT)) X10 (fun h => by rw [Bd.returns] at h; cases h) (fun fs hr => retA X10 hx Bd.returns rfl rfl (hb hby d1_44) hr) e10 ⟨by unfold f_four; rw [if_neg hc1, if_neg hc3, if_neg hc5, if_neg hc7, if_pos hc9], N0, rfl⟩ (by decide) (by decide)
          · skip
            refine step (fun t k => XS.icmpYes X0.here hx rfl (pc0 := 38) (pc' := 45) rfl (hb hby d1_38) rfl (feq hc9).2 (by decide) (by decide) k) ?_
            show G s₁ (mkF m 45 #[.val (.int p0)] [])
            refine step (fun t k => XS.iloadN X0.here hx rfl (hb hby d1_45) rfl k) ?_
            show G s₁ (mkF m 46 #[.val (.int p0)] [(.int p0)])
            refine step (fun t k => XS.bipush X0.here hx rfl (hb hby d1_46) k) ?_
            show G s₁ (mkF m 48 #[.val (.int p0)] [(.int 10), (.int p0)])
            by_cases hc11 : p0 = (10 : Int32)
            · skip
              refine step (fun t k => XS.icmpNo X0.here hx rfl (hb hby d1_48) rfl (teq hc11).2 k) ?_
              show G s₁ (mkF m 51 #[.val (.int p0)] [])
              obtain ⟨T12, X12, e12, st12⟩ := getS2 X0 hx hZ hown (host := "") (Or.inl (ww46 hw)) Via.refl e0 (Sta.ext O0.2 ST.k22) (g := (mkF m 51 #[.val (.int p0)] [])) rfl (hb hby d1_51)
              refine step st12 ?_
              show G T12 (mkF m 54 #[.val (.int p0)] [(.ref w_GONE)])
              exact ret (v := some (.ref w_GONE)) X12 (fun h => by rw [Bd.returns] at h; cases h) (fun fs hr => retA X12 hx Bd.returns rfl rfl (hb hby d1_54) hr) e12 ⟨by unfold f_four; rw [if_neg hc1, if_neg hc3, if_neg hc5, if_neg hc7, if_neg hc9, if_pos hc11], N0, rfl⟩ (by decide) (by decide)
            · skip
              refine step (fun t k => XS.icmpYes X0.here hx rfl (pc0 := 48) (pc' := 55) rfl (hb hby d1_48) rfl (feq hc11).2 (by decide) (by decide) k) ?_
              show G s₁ (mkF m 55 #[.val (.int p0)] [])
              refine step (fun t k => XS.iloadN X0.here hx rfl (hb hby d1_55) rfl k) ?_
              show G s₁ (mkF m 56 #[.val (.int p0)] [(.int p0)])
              refine step (fun t k => XS.bipush X0.here hx rfl (hb hby d1_56) k) ?_
              show G s₁ (mkF m 58 #[.val (.int p0)] [(.int 13), (.int p0)])
              by_cases hc13 : p0 = (13 : Int32)
              · skip
                refine step (fun t k => XS.icmpNo X0.here hx rfl (hb hby d1_58) rfl (teq hc13).2 k) ?_
                show G s₁ (mkF m 61 #[.val (.int p0)] [])
                obtain ⟨T14, X14, e14, st14⟩ := getS2 X0 hx hZ hown (host := "") (Or.inl (ww25 hw)) Via.refl e0 (Sta.ext O0.2 ST.k8) (g := (mkF m 61 #[.val (.int p0)] [])) rfl (hb hby d1_61)
                refine step st14 ?_
                show G T14 (mkF m 64 #[.val (.int p0)] [(.ref w_PAYLOAD_TOO_LARGE)])
                exact ret (v := some (.ref w_PAYLOAD_TOO_LARGE)) X14 (fun h => by rw [Bd.returns] at h; cases h) (fun fs hr => retA X14 hx Bd.returns rfl rfl (hb hby d1_64) hr) e14 ⟨by unfold f_four; rw [if_neg hc1, if_neg hc3, if_neg hc5, if_neg hc7, if_neg hc9, if_neg hc11, if_pos hc13], N0, rfl⟩ (by decide) (by decide)
              · skip
                refine step (fun t k => XS.icmpYes X0.here hx rfl (pc0 := 58) (pc' := 65) rfl (hb hby d1_58) rfl (feq hc13).2 (by decide) (by decide) k) ?_
                show G s₁ (mkF m 65 #[.val (.int p0)] [])
                refine step (fun t k => XS.iloadN X0.here hx rfl (hb hby d1_65) rfl k) ?_
                show G s₁ (mkF m 66 #[.val (.int p0)] [(.int p0)])
                refine step (fun t k => XS.bipush X0.here hx rfl (hb hby d1_66) k) ?_
                show G s₁ (mkF m 68 #[.val (.int p0)] [(.int 29), (.int p0)])
                by_cases hc15 : p0 = (29 : Int32)
                · skip
                  refine step (fun t k => XS.icmpNo X0.here hx rfl (hb hby d1_68) rfl (teq hc15).2 k) ?_
                  show G s₁ (mkF m 71 #[.val (.int p0)] [])
                  obtain ⟨T16, X16, e16, st16⟩ := getS2 X0 hx hZ hown (host := "") (Or.inl (ww40 hw)) Via.refl e0 (Sta.ext O0.2 ST.k18) (g := (mkF m 71 #[.val (.int p0)] [])) rfl (hb hby d1_71)
                  refine step st16 ?_
                  show G T16 (mkF m 74 #[.val (.int p0)] [(.ref w_BUSY)])
                  exact ret (v := some (.ref w_BUSY)) X16 (fun h => by rw [Bd.returns] at h; cases h) (fun fs hr => retA X16 hx Bd.returns rfl rfl (hb hby d1_74) hr) e16 ⟨by unfold f_four; rw [if_neg hc1, if_neg hc3, if_neg hc5, if_neg hc7, if_neg hc9, if_neg hc11, if_neg hc13, if_pos hc15], N0, rfl⟩ (by decide) (by decide)
                · skip
                  refine step (fun t k => XS.icmpYes X0.here hx rfl (pc0 := 68) (pc' := 75) rfl (hb hby d1_68) rfl (feq hc15).2 (by decide) (by decide) k) ?_
                  show G s₁ (mkF m 75 #[.val (.int p0)] [])
                  obtain ⟨T17, X17, e17, st17⟩ := getS2 X0 hx hZ hown (host := "") (Or.inl (ww10 hw)) Via.refl e0 (Sta.ext O0.2 ST.k0) (g := (mkF m 75 #[.val (.int p0)] [])) rfl (hb hby d1_75)
                  refine step st17 ?_
                  show G T17 (mkF m 78 #[.val (.int p0)] [(.ref w_FAILED)])
                  exact ret (v := some (.ref w_FAILED)) X17 (fun h => by rw [Bd.returns] at h; cases h) (fun fs hr => retA X17 hx Bd.returns rfl rfl (hb hby d1_78) hr) e17 ⟨by unfold f_four; rw [if_neg hc1, if_neg hc3, if_neg hc5, if_neg hc7, if_neg hc9, if_neg hc11, if_neg hc13, if_neg hc15], N0, rfl⟩ (by decide) (by decide)
theorem d2_0 : decode method_3_code 0 = .ok (.iload_n 0, 1) := by decide +kernel
theorem d2_1 : decode method_3_code 1 = .ok (.sipush 200, 3) := by decide +kernel
theorem d2_4 : decode method_3_code 4 = .ok (.if_icmp .lt 10, 3) := by decide +kernel
theorem d2_14 : decode method_3_code 14 = .ok (.getstatic 34, 3) := by decide +kernel
theorem d2_17 : decode method_3_code 17 = .ok (.areturn, 1) := by decide +kernel
theorem d2_7 : decode method_3_code 7 = .ok (.iload_n 0, 1) := by decide +kernel
theorem d2_8 : decode method_3_code 8 = .ok (.sipush 599, 3) := by decide +kernel
theorem d2_11 : decode method_3_code 11 = .ok (.if_icmp .le 7, 3) := by decide +kernel
theorem d2_18 : decode method_3_code 18 = .ok (.iload_n 0, 1) := by decide +kernel
theorem d2_19 : decode method_3_code 19 = .ok (.bipush 100, 2) := by decide +kernel
theorem d2_21 : decode method_3_code 21 = .ok (.idiv, 1) := by decide +kernel
theorem d2_22 : decode method_3_code 22 = .ok (.istore_n 1, 1) := by decide +kernel
theorem d2_23 : decode method_3_code 23 = .ok (.iload_n 0, 1) := by decide +kernel
theorem d2_24 : decode method_3_code 24 = .ok (.bipush 100, 2) := by decide +kernel
theorem d2_26 : decode method_3_code 26 = .ok (.irem, 1) := by decide +kernel
theorem d2_27 : decode method_3_code 27 = .ok (.istore_n 2, 1) := by decide +kernel
theorem d2_28 : decode method_3_code 28 = .ok (.iload_n 1, 1) := by decide +kernel
theorem d2_29 : decode method_3_code 29 = .ok (.iconst 2, 1) := by decide +kernel
theorem d2_30 : decode method_3_code 30 = .ok (.if_icmp .ne 18, 3) := by decide +kernel
theorem d2_33 : decode method_3_code 33 = .ok (.iload_n 2, 1) := by decide +kernel
theorem d2_34 : decode method_3_code 34 = .ok (.iconst 4, 1) := by decide +kernel
theorem d2_35 : decode method_3_code 35 = .ok (.if_icmp .gt 9, 3) := by decide +kernel
theorem d2_44 : decode method_3_code 44 = .ok (.getstatic 34, 3) := by decide +kernel
theorem d2_47 : decode method_3_code 47 = .ok (.areturn, 1) := by decide +kernel
theorem d2_38 : decode method_3_code 38 = .ok (.getstatic 37, 3) := by decide +kernel
theorem ww16 {Z : State} {a0 : Array Value} (hw : ∀ d ∈ tables_1, d.before a0 Z = true) : Jvm.Cond.before (Jvm.Cond.fieldLink cn_2 (37 : Nat) cn_0 "DELIVERED" cn_1) a0 Z = true := hw _ (List.mem_of_getElem? (i := 16) rfl)
theorem d2_41 : decode method_3_code 41 = .ok (.goto 6, 3) := by decide +kernel
theorem d2_48 : decode method_3_code 48 = .ok (.iload_n 1, 1) := by decide +kernel
theorem d2_49 : decode method_3_code 49 = .ok (.iconst 3, 1) := by decide +kernel
theorem d2_50 : decode method_3_code 50 = .ok (.if_icmp .ne 7, 3) := by decide +kernel
theorem d2_53 : decode method_3_code 53 = .ok (.getstatic 40, 3) := by decide +kernel
theorem ww19 {Z : State} {a0 : Array Value} (hw : ∀ d ∈ tables_1, d.before a0 Z = true) : Jvm.Cond.before (Jvm.Cond.fieldLink cn_2 (40 : Nat) cn_0 "REDIRECTED" cn_1) a0 Z = true := hw _ (List.mem_of_getElem? (i := 19) rfl)
theorem d2_56 : decode method_3_code 56 = .ok (.areturn, 1) := by decide +kernel
theorem d2_57 : decode method_3_code 57 = .ok (.iload_n 1, 1) := by decide +kernel
theorem d2_58 : decode method_3_code 58 = .ok (.iconst 4, 1) := by decide +kernel
theorem d2_59 : decode method_3_code 59 = .ok (.if_icmp .ne 8, 3) := by decide +kernel
theorem d2_62 : decode method_3_code 62 = .ok (.iload_n 2, 1) := by decide +kernel
theorem d2_63 : decode method_3_code 63 = .ok (.invokestatic 43, 3) := by decide +kernel
theorem ww11 {Z : State} {a0 : Array Value} (hw : ∀ d ∈ tables_1, d.before a0 Z = true) : Jvm.Cond.before (Jvm.Cond.methodLink cn_2 (43 : Nat) ({ cls := cn_2, name := "fourHundreds", desc := cn_3 } : Jvm.MethodName)) a0 Z = true := hw _ (List.mem_of_getElem? (i := 11) rfl)
theorem ww13 {Z : State} {a0 : Array Value} (hw : ∀ d ∈ tables_1, d.before a0 Z = true) : Jvm.Cond.before (Jvm.Cond.code ({ cls := cn_2, name := "fourHundreds", desc := cn_3 } : Jvm.MethodName) method_2_code (1 : Nat) (Option.some (Jvm.ClassFile.FieldType.object cn_0))) a0 Z = true := hw _ (List.mem_of_getElem? (i := 13) rfl)
theorem ww8 {Z : State} {a0 : Array Value} (hw : ∀ d ∈ tables_1, d.before a0 Z = true) : Jvm.Cond.before (Jvm.Cond.initialized cn_2) a0 Z = true := hw _ (List.mem_of_getElem? (i := 8) rfl)
theorem pd_0 : parseMethodDescriptor cn_3 = some ⟨[.int], some (.object cn_0)⟩ := by decide +kernel
theorem ww12 {Z : State} {a0 : Array Value} (hw : ∀ d ∈ tables_1, d.before a0 Z = true) : Jvm.Cond.before (Jvm.Cond.static ({ cls := cn_2, name := "fourHundreds", desc := cn_3 } : Jvm.MethodName)) a0 Z = true := hw _ (List.mem_of_getElem? (i := 12) rfl)
theorem d2_66 : decode method_3_code 66 = .ok (.areturn, 1) := by decide +kernel
theorem d2_67 : decode method_3_code 67 = .ok (.iload_n 2, 1) := by decide +kernel
theorem d2_68 : decode method_3_code 68 = .ok (.iconst 3, 1) := by decide +kernel
theorem d2_69 : decode method_3_code 69 = .ok (.if_icmp .ne 9, 3) := by decide +kernel
theorem d2_72 : decode method_3_code 72 = .ok (.getstatic 31, 3) := by decide +kernel
theorem d2_75 : decode method_3_code 75 = .ok (.goto 6, 3) := by decide +kernel
theorem d2_81 : decode method_3_code 81 = .ok (.areturn, 1) := by decide +kernel
theorem d2_78 : decode method_3_code 78 = .ok (.getstatic 49, 3) := by decide +kernel
theorem ww22 {Z : State} {a0 : Array Value} (hw : ∀ d ∈ tables_1, d.before a0 Z = true) : Jvm.Cond.before (Jvm.Cond.fieldLink cn_2 (49 : Nat) cn_0 "SERVER_ERROR" cn_1) a0 Z = true := hw _ (List.mem_of_getElem? (i := 22) rfl)
abbrev rr_ex : Room := { frames := 1, cells := 0, slots := 0, locals := 12 }
abbrev y_2 : MethodName := ⟨cn_2, "expected", cn_3⟩
theorem ef_ex (m : MethodId) (p0 : Int32) : entryFrame m #[(.int p0)] 3 = mkF m 0 #[.val (.int p0), .unset, .unset] [] := by first | (simp [entryFrame, mkF, argsToLocals, Value.category]; done) | rfl
def f_ex (w_FAILED : Addr) (w_DELIVERED : Addr) (w_REDIRECTED : Addr) (w_SERVER_ERROR : Addr) (w_PAYLOAD_TOO_LARGE : Addr) (w_TIMED_OUT : Addr) (w_UNAUTHORIZED : Addr) (w_BAD_REQUEST : Addr) (w_NOT_FOUND : Addr) (w_BUSY : Addr) (w_FORBIDDEN : Addr) (w_GONE : Addr) (p0 : Int32) : Addr := (if p0 < (200 : Int32) then w_FAILED else (if (599 : Int32) < p0 then w_FAILED else (if (p0 / (100 : Int32)) = (2 : Int32) then (if (4 : Int32) < (p0 % (100 : Int32)) then w_FAILED else w_DELIVERED) else (if (p0 / (100 : Int32)) = (3 : Int32) then w_REDIRECTED else (if (p0 / (100 : Int32)) = (4 : Int32) then (f_four w_FAILED w_DELIVERED w_REDIRECTED w_SERVER_ERROR w_PAYLOAD_TOO_LARGE w_TIMED_OUT w_UNAUTHORIZED w_BAD_REQUEST w_NOT_FOUND w_BUSY w_FORBIDDEN w_GONE (p0 % (100 : Int32))) else (if (p0 % (100 : Int32)) = (3 : Int32) then w_BUSY else w_SERVER_ERROR))))))
def Q_ex (Z : State) (w_FAILED : Addr) (w_DELIVERED : Addr) (w_REDIRECTED : Addr) (w_SERVER_ERROR : Addr) (w_PAYLOAD_TOO_LARGE : Addr) (w_TIMED_OUT : Addr) (w_UNAUTHORIZED : Addr) (w_BAD_REQUEST : Addr) (w_NOT_FOUND : Addr) (w_BUSY : Addr) (w_FORBIDDEN : Addr) (w_GONE : Addr) (p0 : Int32) (h0 : Heap) (n0 : Nat) (v : Option Value) (h : Heap) (L : List Loc) : Prop := v = some (.ref (f_ex w_FAILED w_DELIVERED w_REDIRECTED w_SERVER_ERROR w_PAYLOAD_TOO_LARGE w_TIMED_OUT w_UNAUTHORIZED w_BAD_REQUEST w_NOT_FOUND w_BUSY w_FORBIDDEN w_GONE p0)) ∧ Fr n0 L ∧ h = h0
set_option maxRecDepth 65536 in
set_option maxHeartbeats 40000000 in
theorem rm_ex (l : Launch) (Z : State) (a0 : Array Value) (hw : ∀ d ∈ tables_1, d.before a0 Z = true) (ws : List Jvm.Cond) (w_FAILED : Addr) (w_DELIVERED : Addr) (w_REDIRECTED : Addr) (w_SERVER_ERROR : Addr) (w_PAYLOAD_TOO_LARGE : Addr) (w_TIMED_OUT : Addr) (w_UNAUTHORIZED : Addr) (w_BAD_REQUEST : Addr) (w_NOT_FOUND : Addr) (w_BUSY : Addr) (w_FORBIDDEN : Addr) (w_GONE : Addr) (p0 : Int32) (h0 : Heap) (n0 : Nat) (Z0 : n0 ≤ h0.size) (ST : own_St Z w_FAILED w_DELIVERED w_REDIRECTED w_SERVER_ERROR w_PAYLOAD_TOO_LARGE w_TIMED_OUT w_UNAUTHORIZED w_BAD_REQUEST w_NOT_FOUND w_BUSY w_FORBIDDEN w_GONE) (O0 : Old Z n0 h0) :
    MetFree l y_2 (head1 (Jvm.Cond.code y_2 method_3_code 3 (some (.object cn_0)) :: ws) rr_ex) (fun a U => a = #[(.int p0)] ∧ Z.Warmed39 U.vm ∧ U.heap = h0) (fun _ _ _ _ _ => True) (fun _ U o U' => ∃ v L, o = .returned v ∧ Q_ex Z w_FAILED w_DELIVERED w_REDIRECTED w_SERVER_ERROR w_PAYLOAD_TOO_LARGE w_TIMED_OUT w_UNAUTHORIZED w_BAD_REQUEST w_NOT_FOUND w_BUSY w_FORBIDDEN w_GONE p0 h0 n0 v U'.heap L ∧ FrameEnd U o U' L rr_ex.cells rr_ex.slots) := by
  refine MetFree.of_bodySF (plainFor_of_name pn_1) hisR ?_
  intro p e s m args below meth c s₁ Bd hml0 hP hK
  obtain ⟨rfl, hZ, hh⟩ := hP
  have hx := Bd.exec
  have hby := Bd.bytes
  have hml : c.maxLocals = 3 := hml0
  have hown : s.vm.findClass cn_2 = some m.cls := findClass_of_methodNamed Bd.named
  have hnm := (name_of_methodNamed Bd.named Bd.method).1
  have X0 : Stand p l e rr_ex s m #[(.int p0)] below meth c s₁ [] 0 0 := Stand.of_body Bd
  have e0 : s₁.heap = h0 := by rw [← hh, Bd.state]; rfl
  have N0 := Fr.nil n0
  obtain ⟨G, step, ret, fin⟩ := own_open (p := p) (l := l) (e := e) (R := rr_ex) (s := s) (m := m) (args := #[(.int p0)]) (below := below) (meth := meth) (c := c) (rr_ex.cells) (rr_ex.slots) (Q_ex Z w_FAILED w_DELIVERED w_REDIRECTED w_SERVER_ERROR w_PAYLOAD_TOO_LARGE w_TIMED_OUT w_UNAUTHORIZED w_BAD_REQUEST w_NOT_FOUND w_BUSY w_FORBIDDEN w_GONE p0 h0 n0) Bd.notSynchronized
  refine fin (g := entryFrame m #[(.int p0)] 3) ?_
  rw [ef_ex m p0]
  show G s₁ (mkF m 0 #[.val (.int p0), .unset, .unset] [])
  refine step (fun t k => XS.iloadN X0.here hx rfl (hb hby d2_0) rfl k) ?_
  show G s₁ (mkF m 1 #[.val (.int p0), .unset, .unset] [(.int p0)])
  refine step (fun t k => XS.sipush X0.here hx rfl (hb hby d2_1) k) ?_
  show G s₁ (mkF m 4 #[.val (.int p0), .unset, .unset] [(.int 200), (.int p0)])
  by_cases hc1 : p0 < (200 : Int32)
  · skip
    refine step (fun t k => XS.icmpYes X0.here hx rfl (pc0 := 4) (pc' := 14) rfl (hb hby d2_4) rfl (tlt hc1).1 (by decide) (by decide) k) ?_
    show G s₁ (mkF m 14 #[.val (.int p0), .unset, .unset] [])
    obtain ⟨T2, X2, e2, st2⟩ := getS2 X0 hx hZ hown (host := "") (Or.inl (ww10 hw)) Via.refl e0 (Sta.ext O0.2 ST.k0) (g := (mkF m 14 #[.val (.int p0), .unset, .unset] [])) rfl (hb hby d2_14)
    refine step st2 ?_
    show G T2 (mkF m 17 #[.val (.int p0), .unset, .unset] [(.ref w_FAILED)])
    exact ret (v := some (.ref w_FAILED)) X2 (fun h => by rw [Bd.returns] at h; cases h) (fun fs hr => retA X2 hx Bd.returns rfl rfl (hb hby d2_17) hr) e2 ⟨by unfold f_ex; rw [if_pos hc1], N0, rfl⟩ (by decide) (by decide)
  · skip
    refine step (fun t k => XS.icmpNo X0.here hx rfl (hb hby d2_4) rfl (flt hc1).1 k) ?_
    show G s₁ (mkF m 7 #[.val (.int p0), .unset, .unset] [])
    refine step (fun t k => XS.iloadN X0.here hx rfl (hb hby d2_7) rfl k) ?_
    show G s₁ (mkF m 8 #[.val (.int p0), .unset, .unset] [(.int p0)])
    refine step (fun t k => XS.sipush X0.here hx rfl (hb hby d2_8) k) ?_
    show G s₁ (mkF m 11 #[.val (.int p0), .unset, .unset] [(.int 599), (.int p0)])
    by_cases hc3 : (599 : Int32) < p0
    · skip
      refine step (fun t k => XS.icmpNo X0.here hx rfl (hb hby d2_11) rfl (tlt hc3).2.2.2 k) ?_
      show G s₁ (mkF m 14 #[.val (.int p0), .unset, .unset] [])
      obtain ⟨T4, X4, e4, st4⟩ := getS2 X0 hx hZ hown (host := "") (Or.inl (ww10 hw)) Via.refl e0 (Sta.ext O0.2 ST.k0) (g := (mkF m 14 #[.val (.int p0), .unset, .unset] [])) rfl (hb hby d2_14)
      refine step st4 ?_
      show G T4 (mkF m 17 #[.val (.int p0), .unset, .unset] [(.ref w_FAILED)])
      exact ret (v := some (.ref w_FAILED)) X4 (fun h => by rw [Bd.returns] at h; cases h) (fun fs hr => retA X4 hx Bd.returns rfl rfl (hb hby d2_17) hr) e4 ⟨by unfold f_ex; rw [if_neg hc1, if_pos hc3], N0, rfl⟩ (by decide) (by decide)
    · skip
      refine step (fun t k => XS.icmpYes X0.here hx rfl (pc0 := 11) (pc' := 18) rfl (hb hby d2_11) rfl (flt hc3).2.2.2 (by decide) (by decide) k) ?_
      show G s₁ (mkF m 18 #[.val (.int p0), .unset, .unset] [])
      refine step (fun t k => XS.iloadN X0.here hx rfl (hb hby d2_18) rfl k) ?_
      show G s₁ (mkF m 19 #[.val (.int p0), .unset, .unset] [(.int p0)])
      refine step (fun t k => XS.bipush X0.here hx rfl (hb hby d2_19) k) ?_
      show G s₁ (mkF m 21 #[.val (.int p0), .unset, .unset] [(.int 100), (.int p0)])
      refine step (fun t k => XS.idiv X0.here hx rfl (hb hby d2_21) rfl (by decide) k) ?_
      show G s₁ (mkF m 22 #[.val (.int p0), .unset, .unset] [(.int (p0 / (100 : Int32)))])
      refine step (fun t k => XS.istoreN X0.here hx rfl (hb hby d2_22) rfl (l' := #[.val (.int p0), .val (.int (p0 / (100 : Int32))), .unset]) rfl k) ?_
      show G s₁ (mkF m 23 #[.val (.int p0), .val (.int (p0 / (100 : Int32))), .unset] [])
      refine step (fun t k => XS.iloadN X0.here hx rfl (hb hby d2_23) rfl k) ?_
      show G s₁ (mkF m 24 #[.val (.int p0), .val (.int (p0 / (100 : Int32))), .unset] [(.int p0)])
      refine step (fun t k => XS.bipush X0.here hx rfl (hb hby d2_24) k) ?_
      show G s₁ (mkF m 26 #[.val (.int p0), .val (.int (p0 / (100 : Int32))), .unset] [(.int 100), (.int p0)])
      refine step (fun t k => iremM X0 hx rfl (hb hby d2_26) rfl (by decide) k) ?_
      show G s₁ (mkF m 27 #[.val (.int p0), .val (.int (p0 / (100 : Int32))), .unset] [(.int (p0 % (100 : Int32)))])
      refine step (fun t k => XS.istoreN X0.here hx rfl (hb hby d2_27) rfl (l' := #[.val (.int p0), .val (.int (p0 / (100 : Int32))), .val (.int (p0 % (100 : Int32)))]) rfl k) ?_
      show G s₁ (mkF m 28 #[.val (.int p0), .val (.int (p0 / (100 : Int32))), .val (.int (p0 % (100 : Int32)))] [])
      refine step (fun t k => XS.iloadN X0.here hx rfl (hb hby d2_28) rfl k) ?_
      show G s₁ (mkF m 29 #[.val (.int p0), .val (.int (p0 / (100 : Int32))), .val (.int (p0 % (100 : Int32)))] [(.int (p0 / (100 : Int32)))])
      refine step (fun t k => XS.iconst X0.here hx rfl (hb hby d2_29) k) ?_
      show G s₁ (mkF m 30 #[.val (.int p0), .val (.int (p0 / (100 : Int32))), .val (.int (p0 % (100 : Int32)))] [(.int 2), (.int (p0 / (100 : Int32)))])
      by_cases hc5 : (p0 / (100 : Int32)) = (2 : Int32)
      · skip
        refine step (fun t k => XS.icmpNo X0.here hx rfl (hb hby d2_30) rfl (teq hc5).2 k) ?_
        show G s₁ (mkF m 33 #[.val (.int p0), .val (.int (p0 / (100 : Int32))), .val (.int (p0 % (100 : Int32)))] [])
        refine step (fun t k => XS.iloadN X0.here hx rfl (hb hby d2_33) rfl k) ?_
        show G s₁ (mkF m 34 #[.val (.int p0), .val (.int (p0 / (100 : Int32))), .val (.int (p0 % (100 : Int32)))] [(.int (p0 % (100 : Int32)))])
        refine step (fun t k => XS.iconst X0.here hx rfl (hb hby d2_34) k) ?_
        show G s₁ (mkF m 35 #[.val (.int p0), .val (.int (p0 / (100 : Int32))), .val (.int (p0 % (100 : Int32)))] [(.int 4), (.int (p0 % (100 : Int32)))])
        by_cases hc6 : (4 : Int32) < (p0 % (100 : Int32))
        · skip
          refine step (fun t k => XS.icmpYes X0.here hx rfl (pc0 := 35) (pc' := 44) rfl (hb hby d2_35) rfl (tlt hc6).2.2.1 (by decide) (by decide) k) ?_
          show G s₁ (mkF m 44 #[.val (.int p0), .val (.int (p0 / (100 : Int32))), .val (.int (p0 % (100 : Int32)))] [])
          obtain ⟨T7, X7, e7, st7⟩ := getS2 X0 hx hZ hown (host := "") (Or.inl (ww10 hw)) Via.refl e0 (Sta.ext O0.2 ST.k0) (g := (mkF m 44 #[.val (.int p0), .val (.int (p0 / (100 : Int32))), .val (.int (p0 % (100 : Int32)))] [])) rfl (hb hby d2_44)
          refine step st7 ?_
          show G T7 (mkF m 47 #[.val (.int p0), .val (.int (p0 / (100 : Int32))), .val (.int (p0 % (100 : Int32)))] [(.ref w_FAILED)])
          exact ret (v := some (.ref w_FAILED)) X7 (fun h => by rw [Bd.returns] at h; cases h) (fun fs hr => retA X7 hx Bd.returns rfl rfl (hb hby d2_47) hr) e7 ⟨by unfold f_ex; rw [if_neg hc1, if_neg hc3, if_pos hc5, if_pos hc6], N0, rfl⟩ (by decide) (by decide)
        · skip
          refine step (fun t k => XS.icmpNo X0.here hx rfl (hb hby d2_35) rfl (flt hc6).2.2.1 k) ?_
          show G s₁ (mkF m 38 #[.val (.int p0), .val (.int (p0 / (100 : Int32))), .val (.int (p0 % (100 : Int32)))] [])
          obtain ⟨T8, X8, e8, st8⟩ := getS2 X0 hx hZ hown (host := "") (Or.inl (ww16 hw)) Via.refl e0 (Sta.ext O0.2 ST.k2) (g := (mkF m 38 #[.val (.int p0), .val (.int (p0 / (100 : Int32))), .val (.int (p0 % (100 : Int32)))] [])) rfl (hb hby d2_38)
          refine step st8 ?_
          show G T8 (mkF m 41 #[.val (.int p0), .val (.int (p0 / (100 : Int32))), .val (.int (p0 % (100 : Int32)))] [(.ref w_DELIVERED)])
          refine step (fun t k => XS.goto X8.here hx rfl (pc0 := 41) (pc' := 47) rfl (hb hby d2_41) (by decide) (by decide) k) ?_
          show G T8 (mkF m 47 #[.val (.int p0), .val (.int (p0 / (100 : Int32))), .val (.int (p0 % (100 : Int32)))] [(.ref w_DELIVERED)])
          exact ret (v := some (.ref w_DELIVERED)) X8 (fun h => by rw [Bd.returns] at h; cases h) (fun fs hr => retA X8 hx Bd.returns rfl rfl (hb hby d2_47) hr) e8 ⟨by unfold f_ex; rw [if_neg hc1, if_neg hc3, if_pos hc5, if_neg hc6], N0, rfl⟩ (by decide) (by decide)
      · skip
        refine step (fun t k => XS.icmpYes X0.here hx rfl (pc0 := 30) (pc' := 48) rfl (hb hby d2_30) rfl (feq hc5).2 (by decide) (by decide) k) ?_
        show G s₁ (mkF m 48 #[.val (.int p0), .val (.int (p0 / (100 : Int32))), .val (.int (p0 % (100 : Int32)))] [])
        refine step (fun t k => XS.iloadN X0.here hx rfl (hb hby d2_48) rfl k) ?_
        show G s₁ (mkF m 49 #[.val (.int p0), .val (.int (p0 / (100 : Int32))), .val (.int (p0 % (100 : Int32)))] [(.int (p0 / (100 : Int32)))])
        refine step (fun t k => XS.iconst X0.here hx rfl (hb hby d2_49) k) ?_
        show G s₁ (mkF m 50 #[.val (.int p0), .val (.int (p0 / (100 : Int32))), .val (.int (p0 % (100 : Int32)))] [(.int 3), (.int (p0 / (100 : Int32)))])
        by_cases hc9 : (p0 / (100 : Int32)) = (3 : Int32)
        · skip
          refine step (fun t k => XS.icmpNo X0.here hx rfl (hb hby d2_50) rfl (teq hc9).2 k) ?_
          show G s₁ (mkF m 53 #[.val (.int p0), .val (.int (p0 / (100 : Int32))), .val (.int (p0 % (100 : Int32)))] [])
          obtain ⟨T10, X10, e10, st10⟩ := getS2 X0 hx hZ hown (host := "") (Or.inl (ww19 hw)) Via.refl e0 (Sta.ext O0.2 ST.k4) (g := (mkF m 53 #[.val (.int p0), .val (.int (p0 / (100 : Int32))), .val (.int (p0 % (100 : Int32)))] [])) rfl (hb hby d2_53)
          refine step st10 ?_
          show G T10 (mkF m 56 #[.val (.int p0), .val (.int (p0 / (100 : Int32))), .val (.int (p0 % (100 : Int32)))] [(.ref w_REDIRECTED)])
          exact ret (v := some (.ref w_REDIRECTED)) X10 (fun h => by rw [Bd.returns] at h; cases h) (fun fs hr => retA X10 hx Bd.returns rfl rfl (hb hby d2_56) hr) e10 ⟨by unfold f_ex; rw [if_neg hc1, if_neg hc3, if_neg hc5, if_pos hc9], N0, rfl⟩ (by decide) (by decide)
        · skip
          refine step (fun t k => XS.icmpYes X0.here hx rfl (pc0 := 50) (pc' := 57) rfl (hb hby d2_50) rfl (feq hc9).2 (by decide) (by decide) k) ?_
          show G s₁ (mkF m 57 #[.val (.int p0), .val (.int (p0 / (100 : Int32))), .val (.int (p0 % (100 : Int32)))] [])
          refine step (fun t k => XS.iloadN X0.here hx rfl (hb hby d2_57) rfl k) ?_
          show G s₁ (mkF m 58 #[.val (.int p0), .val (.int (p0 / (100 : Int32))), .val (.int (p0 % (100 : Int32)))] [(.int (p0 / (100 : Int32)))])
          refine step (fun t k => XS.iconst X0.here hx rfl (hb hby d2_58) k) ?_
          show G s₁ (mkF m 59 #[.val (.int p0), .val (.int (p0 / (100 : Int32))), .val (.int (p0 % (100 : Int32)))] [(.int 4), (.int (p0 / (100 : Int32)))])
          by_cases hc11 : (p0 / (100 : Int32)) = (4 : Int32)
          · skip
            refine step (fun t k => XS.icmpNo X0.here hx rfl (hb hby d2_59) rfl (teq hc11).2 k) ?_
            show G s₁ (mkF m 62 #[.val (.int p0), .val (.int (p0 / (100 : Int32))), .val (.int (p0 % (100 : Int32)))] [])
            refine step (fun t k => XS.iloadN X0.here hx rfl (hb hby d2_62) rfl k) ?_
            show G s₁ (mkF m 63 #[.val (.int p0), .val (.int (p0 / (100 : Int32))), .val (.int (p0 % (100 : Int32)))] [(.int (p0 % (100 : Int32)))])
            obtain ⟨_, _, ⟨T12, L12, k12, n12⟩, -, X12, ⟨Lc12, hQ12, l12, y12, z12⟩, st12⟩ := Jvm.LawKit.callS X0 hx (y := y_1) hown (mvT hZ (ww11 hw)) (mvT hZ (ww12 hw)) (mvT hZ (ww8 hw)) (mvT hZ (ww13 hw)) (by decide) (backOf (W := 0) (rm_four l Z a0 hw [] w_FAILED w_DELIVERED w_REDIRECTED w_SERVER_ERROR w_PAYLOAD_TOO_LARGE w_TIMED_OUT w_UNAUTHORIZED w_BAD_REQUEST w_NOT_FOUND w_BUSY w_FORBIDDEN w_GONE (p0 % (100 : Int32)) h0 n0 (own_old_le O0) ST O0) hZ (ww13 hw) (ww8 hw) (by decide) (by decide)) (g := (mkF m 63 #[.val (.int p0), .val (.int (p0 / (100 : Int32))), .val (.int (p0 % (100 : Int32)))] [(.int (p0 % (100 : Int32)))])) rfl (by rw [hml]; rfl) (argsL := [(.int (p0 % (100 : Int32)))]) (rest := []) (lenOf pd_0 rfl) rfl (by show 2 * 0 + _ ≤ _; exact Nat.le_of_eq rfl) (hb hby d2_63) (fun _ _ => ⟨rfl, e0, (by decide : 0 + 0 ≤ _), (by decide : 0 + 0 ≤ _)⟩)
            dsimp only [Pt.U, Pt.locs, Pt.cells, Pt.slots] at X12 l12 y12 z12 st12 hQ12
            subst l12 y12 z12
            obtain ⟨rfl, N12q, e12⟩ := hQ12
            have N12 := Fr.app N0 N12q
            refine step (fun t k => st12 t k) ?_
            show G T12 (mkF m 66 #[.val (.int p0), .val (.int (p0 / (100 : Int32))), .val (.int (p0 % (100 : Int32)))] [(.ref (f_four w_FAILED w_DELIVERED w_REDIRECTED w_SERVER_ERROR w_PAYLOAD_TOO_LARGE w_TIMED_OUT w_UNAUTHORIZED w_BAD_REQUEST w_NOT_FOUND w_BUSY w_FORBIDDEN w_GONE (p0 % (100 : Int32))))])
            exact ret (v := some (.ref (f_four w_FAILED w_DELIVERED w_REDIRECTED w_SERVER_ERROR w_PAYLOAD_TOO_LARGE w_TIMED_OUT w_UNAUTHORIZED w_BAD_REQUEST w_NOT_FOUND w_BUSY w_FORBIDDEN w_GONE (p0 % (100 : Int32))))) X12 (fun h => by rw [Bd.returns] at h; cases h) (fun fs hr => retA X12 hx Bd.returns rfl rfl (hb hby d2_66) hr) e12 ⟨by unfold f_ex; rw [if_neg hc1, if_neg hc3, if_neg hc5, if_neg hc9, if_pos hc11], N12, rfl⟩ (by decide) (by decide)
          · skip
            refine step (fun t k => XS.icmpYes X0.here hx rfl (pc0 := 59) (pc' := 67) rfl (hb hby d2_59) rfl (feq hc11).2 (by decide) (by decide) k) ?_
            show G s₁ (mkF m 67 #[.val (.int p0), .val (.int (p0 / (100 : Int32))), .val (.int (p0 % (100 : Int32)))] [])
            refine step (fun t k => XS.iloadN X0.here hx rfl (hb hby d2_67) rfl k) ?_
            show G s₁ (mkF m 68 #[.val (.int p0), .val (.int (p0 / (100 : Int32))), .val (.int (p0 % (100 : Int32)))] [(.int (p0 % (100 : Int32)))])
            refine step (fun t k => XS.iconst X0.here hx rfl (hb hby d2_68) k) ?_
            show G s₁ (mkF m 69 #[.val (.int p0), .val (.int (p0 / (100 : Int32))), .val (.int (p0 % (100 : Int32)))] [(.int 3), (.int (p0 % (100 : Int32)))])
            by_cases hc13 : (p0 % (100 : Int32)) = (3 : Int32)
            · skip
              refine step (fun t k => XS.icmpNo X0.here hx rfl (hb hby d2_69) rfl (teq hc13).2 k) ?_
              show G s₁ (mkF m 72 #[.val (.int p0), .val (.int (p0 / (100 : Int32))), .val (.int (p0 % (100 : Int32)))] [])
              obtain ⟨T14, X14, e14, st14⟩ := getS2 X0 hx hZ hown (host := "") (Or.inl (ww40 hw)) Via.refl e0 (Sta.ext O0.2 ST.k18) (g := (mkF m 72 #[.val (.int p0), .val (.int (p0 / (100 : Int32))), .val (.int (p0 % (100 : Int32)))] [])) rfl (hb hby d2_72)
              refine step st14 ?_
              show G T14 (mkF m 75 #[.val (.int p0), .val (.int (p0 / (100 : Int32))), .val (.int (p0 % (100 : Int32)))] [(.ref w_BUSY)])
              refine step (fun t k => XS.goto X14.here hx rfl (pc0 := 75) (pc' := 81) rfl (hb hby d2_75) (by decide) (by decide) k) ?_
              show G T14 (mkF m 81 #[.val (.int p0), .val (.int (p0 / (100 : Int32))), .val (.int (p0 % (100 : Int32)))] [(.ref w_BUSY)])
              exact ret (v := some (.ref w_BUSY)) X14 (fun h => by rw [Bd.returns] at h; cases h) (fun fs hr => retA X14 hx Bd.returns rfl rfl (hb hby d2_81) hr) e14 ⟨by unfold f_ex; rw [if_neg hc1, if_neg hc3, if_neg hc5, if_neg hc9, if_neg hc11, if_pos hc13], N0, rfl⟩ (by decide) (by decide)
            · skip
              refine step (fun t k => XS.icmpYes X0.here hx rfl (pc0 := 69) (pc' := 78) rfl (hb hby d2_69) rfl (feq hc13).2 (by decide) (by decide) k) ?_
              show G s₁ (mkF m 78 #[.val (.int p0), .val (.int (p0 / (100 : Int32))), .val (.int (p0 % (100 : Int32)))] [])
              obtain ⟨T15, X15, e15, st15⟩ := getS2 X0 hx hZ hown (host := "") (Or.inl (ww22 hw)) Via.refl e0 (Sta.ext O0.2 ST.k6) (g := (mkF m 78 #[.val (.int p0), .val (.int (p0 / (100 : Int32))), .val (.int (p0 % (100 : Int32)))] [])) rfl (hb hby d2_78)
              refine step st15 ?_
              show G T15 (mkF m 81 #[.val (.int p0), .val (.int (p0 / (100 : Int32))), .val (.int (p0 % (100 : Int32)))] [(.ref w_SERVER_ERROR)])
              exact ret (v := some (.ref w_SERVER_ERROR)) X15 (fun h => by rw [Bd.returns] at h; cases h) (fun fs hr => retA X15 hx Bd.returns rfl rfl (hb hby d2_81) hr) e15 ⟨by unfold f_ex; rw [if_neg hc1, if_neg hc3, if_neg hc5, if_neg hc9, if_neg hc11, if_neg hc13], N0, rfl⟩ (by decide) (by decide)
set_option maxRecDepth 65536 in
set_option maxHeartbeats 4000000 in
theorem own_same (w_FAILED w_DELIVERED w_REDIRECTED w_SERVER_ERROR w_PAYLOAD_TOO_LARGE w_TIMED_OUT w_UNAUTHORIZED w_BAD_REQUEST w_NOT_FOUND w_BUSY w_FORBIDDEN w_GONE : Addr) (s : Int32) : f_of w_FAILED w_DELIVERED w_REDIRECTED w_SERVER_ERROR w_PAYLOAD_TOO_LARGE w_TIMED_OUT w_UNAUTHORIZED w_BAD_REQUEST w_NOT_FOUND w_BUSY w_FORBIDDEN w_GONE s = f_ex w_FAILED w_DELIVERED w_REDIRECTED w_SERVER_ERROR w_PAYLOAD_TOO_LARGE w_TIMED_OUT w_UNAUTHORIZED w_BAD_REQUEST w_NOT_FOUND w_BUSY w_FORBIDDEN w_GONE s := by
  have c1 := c_idiv s (100 : Int32) 100 (by decide) (by decide)
  have c2 := c_irem s (100 : Int32) 100 (by decide)
  have r1 := rng32 s
  have q0 : (0 : Int32).toInt = 0 := by decide
  have q1 : (1 : Int32).toInt = 1 := by decide
  have q2 : (2 : Int32).toInt = 2 := by decide
  have q3 : (3 : Int32).toInt = 3 := by decide
  have q4 : (4 : Int32).toInt = 4 := by decide
  have q8 : (8 : Int32).toInt = 8 := by decide
  have q10 : (10 : Int32).toInt = 10 := by decide
  have q13 : (13 : Int32).toInt = 13 := by decide
  have q29 : (29 : Int32).toInt = 29 := by decide
  have q100 : (100 : Int32).toInt = 100 := by decide
  have q200 : (200 : Int32).toInt = 200 := by decide
  have q204 : (204 : Int32).toInt = 204 := by decide
  have q300 : (300 : Int32).toInt = 300 := by decide
  have q399 : (399 : Int32).toInt = 399 := by decide
  have q400 : (400 : Int32).toInt = 400 := by decide
  have q401 : (401 : Int32).toInt = 401 := by decide
  have q403 : (403 : Int32).toInt = 403 := by decide
  have q404 : (404 : Int32).toInt = 404 := by decide
  have q408 : (408 : Int32).toInt = 408 := by decide
  have q410 : (410 : Int32).toInt = 410 := by decide
  have q413 : (413 : Int32).toInt = 413 := by decide
  have q429 : (429 : Int32).toInt = 429 := by decide
  have q500 : (500 : Int32).toInt = 500 := by decide
  have q503 : (503 : Int32).toInt = 503 := by decide
  have q599 : (599 : Int32).toInt = 599 := by decide
  have hh : (-2147483648 ≤ s.toInt ∧ s.toInt ≤ 199) ∨ (200 ≤ s.toInt ∧ s.toInt ≤ 204) ∨ (205 ≤ s.toInt ∧ s.toInt ≤ 299) ∨ (300 ≤ s.toInt ∧ s.toInt ≤ 399) ∨ (400 ≤ s.toInt ∧ s.toInt ≤ 400) ∨ (401 ≤ s.toInt ∧ s.toInt ≤ 401) ∨ (402 ≤ s.toInt ∧ s.toInt ≤ 402) ∨ (403 ≤ s.toInt ∧ s.toInt ≤ 403) ∨ (404 ≤ s.toInt ∧ s.toInt ≤ 404) ∨ (405 ≤ s.toInt ∧ s.toInt ≤ 407) ∨ (408 ≤ s.toInt ∧ s.toInt ≤ 408) ∨ (409 ≤ s.toInt ∧ s.toInt ≤ 409) ∨ (410 ≤ s.toInt ∧ s.toInt ≤ 410) ∨ (411 ≤ s.toInt ∧ s.toInt ≤ 412) ∨ (413 ≤ s.toInt ∧ s.toInt ≤ 413) ∨ (414 ≤ s.toInt ∧ s.toInt ≤ 428) ∨ (429 ≤ s.toInt ∧ s.toInt ≤ 429) ∨ (430 ≤ s.toInt ∧ s.toInt ≤ 499) ∨ (500 ≤ s.toInt ∧ s.toInt ≤ 502) ∨ (503 ≤ s.toInt ∧ s.toInt ≤ 503) ∨ (504 ≤ s.toInt ∧ s.toInt ≤ 599) ∨ (600 ≤ s.toInt ∧ s.toInt ≤ 2147483647) := by omega
  rcases hh with hh | hh | hh | hh | hh | hh | hh | hh | hh | hh | hh | hh | hh | hh | hh | hh | hh | hh | hh | hh | hh | hh
  · unfold f_of f_ex
    rw [if_pos (by simp only [own_xlt, own_xeq]; omega : s < (200 : Int32)), if_neg (by simp only [own_xlt, own_xeq]; omega : ¬ (s = (400 : Int32))), if_neg (by simp only [own_xlt, own_xeq]; omega : ¬ (s = (401 : Int32))), if_neg (by simp only [own_xlt, own_xeq]; omega : ¬ (s = (403 : Int32))), if_neg (by simp only [own_xlt, own_xeq]; omega : ¬ (s = (404 : Int32))), if_neg (by simp only [own_xlt, own_xeq]; omega : ¬ (s = (408 : Int32))), if_neg (by simp only [own_xlt, own_xeq]; omega : ¬ (s = (410 : Int32))), if_neg (by simp only [own_xlt, own_xeq]; omega : ¬ (s = (413 : Int32))), if_neg (by simp only [own_xlt, own_xeq]; omega : ¬ (s = (429 : Int32))), if_neg (by simp only [own_xlt, own_xeq]; omega : ¬ (s = (503 : Int32))), if_pos (by simp only [own_xlt, own_xeq]; omega : s < (300 : Int32)), if_pos (by simp only [own_xlt, own_xeq]; omega : s < (500 : Int32)), if_pos (by simp only [own_xlt, own_xeq]; omega : s < (200 : Int32))]
  · unfold f_of f_ex
    rw [if_neg (by simp only [own_xlt, own_xeq]; omega : ¬ (s < (200 : Int32))), if_neg (by simp only [own_xlt, own_xeq]; omega : ¬ ((204 : Int32) < s)), if_neg (by simp only [own_xlt, own_xeq]; omega : ¬ (s < (200 : Int32))), if_neg (by simp only [own_xlt, own_xeq]; omega : ¬ ((599 : Int32) < s)), if_pos (by simp only [own_xlt, own_xeq]; omega : (s / (100 : Int32)) = (2 : Int32)), if_neg (by simp only [own_xlt, own_xeq]; omega : ¬ ((4 : Int32) < (s % (100 : Int32))))]
  · unfold f_of f_ex
    rw [if_neg (by simp only [own_xlt, own_xeq]; omega : ¬ (s < (200 : Int32))), if_pos (by simp only [own_xlt, own_xeq]; omega : (204 : Int32) < s), if_neg (by simp only [own_xlt, own_xeq]; omega : ¬ (s = (400 : Int32))), if_neg (by simp only [own_xlt, own_xeq]; omega : ¬ (s = (401 : Int32))), if_neg (by simp only [own_xlt, own_xeq]; omega : ¬ (s = (403 : Int32))), if_neg (by simp only [own_xlt, own_xeq]; omega : ¬ (s = (404 : Int32))), if_neg (by simp only [own_xlt, own_xeq]; omega : ¬ (s = (408 : Int32))), if_neg (by simp only [own_xlt, own_xeq]; omega : ¬ (s = (410 : Int32))), if_neg (by simp only [own_xlt, own_xeq]; omega : ¬ (s = (413 : Int32))), if_neg (by simp only [own_xlt, own_xeq]; omega : ¬ (s = (429 : Int32))), if_neg (by simp only [own_xlt, own_xeq]; omega : ¬ (s = (503 : Int32))), if_pos (by simp only [own_xlt, own_xeq]; omega : s < (300 : Int32)), if_pos (by simp only [own_xlt, own_xeq]; omega : s < (500 : Int32)), if_neg (by simp only [own_xlt, own_xeq]; omega : ¬ (s < (200 : Int32))), if_neg (by simp only [own_xlt, own_xeq]; omega : ¬ ((599 : Int32) < s)), if_pos (by simp only [own_xlt, own_xeq]; omega : (s / (100 : Int32)) = (2 : Int32)), if_pos (by simp only [own_xlt, own_xeq]; omega : (4 : Int32) < (s % (100 : Int32)))]
  · unfold f_of f_ex
    rw [if_neg (by simp only [own_xlt, own_xeq]; omega : ¬ (s < (200 : Int32))), if_pos (by simp only [own_xlt, own_xeq]; omega : (204 : Int32) < s), if_neg (by simp only [own_xlt, own_xeq]; omega : ¬ (s = (400 : Int32))), if_neg (by simp only [own_xlt, own_xeq]; omega : ¬ (s = (401 : Int32))), if_neg (by simp only [own_xlt, own_xeq]; omega : ¬ (s = (403 : Int32))), if_neg (by simp only [own_xlt, own_xeq]; omega : ¬ (s = (404 : Int32))), if_neg (by simp only [own_xlt, own_xeq]; omega : ¬ (s = (408 : Int32))), if_neg (by simp only [own_xlt, own_xeq]; omega : ¬ (s = (410 : Int32))), if_neg (by simp only [own_xlt, own_xeq]; omega : ¬ (s = (413 : Int32))), if_neg (by simp only [own_xlt, own_xeq]; omega : ¬ (s = (429 : Int32))), if_neg (by simp only [own_xlt, own_xeq]; omega : ¬ (s = (503 : Int32))), if_neg (by simp only [own_xlt, own_xeq]; omega : ¬ (s < (300 : Int32))), if_neg (by simp only [own_xlt, own_xeq]; omega : ¬ ((399 : Int32) < s)), if_neg (by simp only [own_xlt, own_xeq]; omega : ¬ (s < (200 : Int32))), if_neg (by simp only [own_xlt, own_xeq]; omega : ¬ ((599 : Int32) < s)), if_neg (by simp only [own_xlt, own_xeq]; omega : ¬ ((s / (100 : Int32)) = (2 : Int32))), if_pos (by simp only [own_xlt, own_xeq]; omega : (s / (100 : Int32)) = (3 : Int32))]
  · unfold f_of f_ex
    rw [if_neg (by simp only [own_xlt, own_xeq]; omega : ¬ (s < (200 : Int32))), if_pos (by simp only [own_xlt, own_xeq]; omega : (204 : Int32) < s), if_pos (by simp only [own_xlt, own_xeq]; omega : s = (400 : Int32)), if_neg (by simp only [own_xlt, own_xeq]; omega : ¬ (s < (200 : Int32))), if_neg (by simp only [own_xlt, own_xeq]; omega : ¬ ((599 : Int32) < s)), if_neg (by simp only [own_xlt, own_xeq]; omega : ¬ ((s / (100 : Int32)) = (2 : Int32))), if_neg (by simp only [own_xlt, own_xeq]; omega : ¬ ((s / (100 : Int32)) = (3 : Int32))), if_pos (by simp only [own_xlt, own_xeq]; omega : (s / (100 : Int32)) = (4 : Int32))]
    unfold f_four
    rw [if_pos (by simp only [own_xlt, own_xeq]; omega : (s % (100 : Int32)) = (0 : Int32))]
  · unfold f_of f_ex
    rw [if_neg (by simp only [own_xlt, own_xeq]; omega : ¬ (s < (200 : Int32))), if_pos (by simp only [own_xlt, own_xeq]; omega : (204 : Int32) < s), if_neg (by simp only [own_xlt, own_xeq]; omega : ¬ (s = (400 : Int32))), if_pos (by simp only [own_xlt, own_xeq]; omega : s = (401 : Int32)), if_neg (by simp only [own_xlt, own_xeq]; omega : ¬ (s < (200 : Int32))), if_neg (by simp only [own_xlt, own_xeq]; omega : ¬ ((599 : Int32) < s)), if_neg (by simp only [own_xlt, own_xeq]; omega : ¬ ((s / (100 : Int32)) = (2 : Int32))), if_neg (by simp only [own_xlt, own_xeq]; omega : ¬ ((s / (100 : Int32)) = (3 : Int32))), if_pos (by simp only [own_xlt, own_xeq]; omega : (s / (100 : Int32)) = (4 : Int32))]
    unfold f_four
    rw [if_neg (by simp only [own_xlt, own_xeq]; omega : ¬ ((s % (100 : Int32)) = (0 : Int32))), if_pos (by simp only [own_xlt, own_xeq]; omega : (s % (100 : Int32)) = (1 : Int32))]
  · unfold f_of f_ex
    rw [if_neg (by simp only [own_xlt, own_xeq]; omega : ¬ (s < (200 : Int32))), if_pos (by simp only [own_xlt, own_xeq]; omega : (204 : Int32) < s), if_neg (by simp only [own_xlt, own_xeq]; omega : ¬ (s = (400 : Int32))), if_neg (by simp only [own_xlt, own_xeq]; omega : ¬ (s = (401 : Int32))), if_neg (by simp only [own_xlt, own_xeq]; omega : ¬ (s = (403 : Int32))), if_neg (by simp only [own_xlt, own_xeq]; omega : ¬ (s = (404 : Int32))), if_neg (by simp only [own_xlt, own_xeq]; omega : ¬ (s = (408 : Int32))), if_neg (by simp only [own_xlt, own_xeq]; omega : ¬ (s = (410 : Int32))), if_neg (by simp only [own_xlt, own_xeq]; omega : ¬ (s = (413 : Int32))), if_neg (by simp only [own_xlt, own_xeq]; omega : ¬ (s = (429 : Int32))), if_neg (by simp only [own_xlt, own_xeq]; omega : ¬ (s = (503 : Int32))), if_neg (by simp only [own_xlt, own_xeq]; omega : ¬ (s < (300 : Int32))), if_pos (by simp only [own_xlt, own_xeq]; omega : (399 : Int32) < s), if_pos (by simp only [own_xlt, own_xeq]; omega : s < (500 : Int32)), if_neg (by simp only [own_xlt, own_xeq]; omega : ¬ (s < (200 : Int32))), if_neg (by simp only [own_xlt, own_xeq]; omega : ¬ ((599 : Int32) < s)), if_neg (by simp only [own_xlt, own_xeq]; omega : ¬ ((s / (100 : Int32)) = (2 : Int32))), if_neg (by simp only [own_xlt, own_xeq]; omega : ¬ ((s / (100 : Int32)) = (3 : Int32))), if_pos (by simp only [own_xlt, own_xeq]; omega : (s / (100 : Int32)) = (4 : Int32))]
    unfold f_four
    rw [if_neg (by simp only [own_xlt, own_xeq]; omega : ¬ ((s % (100 : Int32)) = (0 : Int32))), if_neg (by simp only [own_xlt, own_xeq]; omega : ¬ ((s % (100 : Int32)) = (1 : Int32))), if_neg (by simp only [own_xlt, own_xeq]; omega : ¬ ((s % (100 : Int32)) = (3 : Int32))), if_neg (by simp only [own_xlt, own_xeq]; omega : ¬ ((s % (100 : Int32)) = (4 : Int32))), if_neg (by simp only [own_xlt, own_xeq]; omega : ¬ ((s % (100 : Int32)) = (8 : Int32))), if_neg (by simp only [own_xlt, own_xeq]; omega : ¬ ((s % (100 : Int32)) = (10 : Int32))), if_neg (by simp only [own_xlt, own_xeq]; omega : ¬ ((s % (100 : Int32)) = (13 : Int32))), if_neg (by simp only [own_xlt, own_xeq]; omega : ¬ ((s % (100 : Int32)) = (29 : Int32)))]
  · unfold f_of f_ex
    rw [if_neg (by simp only [own_xlt, own_xeq]; omega : ¬ (s < (200 : Int32))), if_pos (by simp only [own_xlt, own_xeq]; omega : (204 : Int32) < s), if_neg (by simp only [own_xlt, own_xeq]; omega : ¬ (s = (400 : Int32))), if_neg (by simp only [own_xlt, own_xeq]; omega : ¬ (s = (401 : Int32))), if_pos (by simp only [own_xlt, own_xeq]; omega : s = (403 : Int32)), if_neg (by simp only [own_xlt, own_xeq]; omega : ¬ (s < (200 : Int32))), if_neg (by simp only [own_xlt, own_xeq]; omega : ¬ ((599 : Int32) < s)), if_neg (by simp only [own_xlt, own_xeq]; omega : ¬ ((s / (100 : Int32)) = (2 : Int32))), if_neg (by simp only [own_xlt, own_xeq]; omega : ¬ ((s / (100 : Int32)) = (3 : Int32))), if_pos (by simp only [own_xlt, own_xeq]; omega : (s / (100 : Int32)) = (4 : Int32))]
    unfold f_four
    rw [if_neg (by simp only [own_xlt, own_xeq]; omega : ¬ ((s % (100 : Int32)) = (0 : Int32))), if_neg (by simp only [own_xlt, own_xeq]; omega : ¬ ((s % (100 : Int32)) = (1 : Int32))), if_pos (by simp only [own_xlt, own_xeq]; omega : (s % (100 : Int32)) = (3 : Int32))]
  · unfold f_of f_ex
    rw [if_neg (by simp only [own_xlt, own_xeq]; omega : ¬ (s < (200 : Int32))), if_pos (by simp only [own_xlt, own_xeq]; omega : (204 : Int32) < s), if_neg (by simp only [own_xlt, own_xeq]; omega : ¬ (s = (400 : Int32))), if_neg (by simp only [own_xlt, own_xeq]; omega : ¬ (s = (401 : Int32))), if_neg (by simp only [own_xlt, own_xeq]; omega : ¬ (s = (403 : Int32))), if_pos (by simp only [own_xlt, own_xeq]; omega : s = (404 : Int32)), if_neg (by simp only [own_xlt, own_xeq]; omega : ¬ (s < (200 : Int32))), if_neg (by simp only [own_xlt, own_xeq]; omega : ¬ ((599 : Int32) < s)), if_neg (by simp only [own_xlt, own_xeq]; omega : ¬ ((s / (100 : Int32)) = (2 : Int32))), if_neg (by simp only [own_xlt, own_xeq]; omega : ¬ ((s / (100 : Int32)) = (3 : Int32))), if_pos (by simp only [own_xlt, own_xeq]; omega : (s / (100 : Int32)) = (4 : Int32))]
    unfold f_four
    rw [if_neg (by simp only [own_xlt, own_xeq]; omega : ¬ ((s % (100 : Int32)) = (0 : Int32))), if_neg (by simp only [own_xlt, own_xeq]; omega : ¬ ((s % (100 : Int32)) = (1 : Int32))), if_neg (by simp only [own_xlt, own_xeq]; omega : ¬ ((s % (100 : Int32)) = (3 : Int32))), if_pos (by simp only [own_xlt, own_xeq]; omega : (s % (100 : Int32)) = (4 : Int32))]
  · unfold f_of f_ex
    rw [if_neg (by simp only [own_xlt, own_xeq]; omega : ¬ (s < (200 : Int32))), if_pos (by simp only [own_xlt, own_xeq]; omega : (204 : Int32) < s), if_neg (by simp only [own_xlt, own_xeq]; omega : ¬ (s = (400 : Int32))), if_neg (by simp only [own_xlt, own_xeq]; omega : ¬ (s = (401 : Int32))), if_neg (by simp only [own_xlt, own_xeq]; omega : ¬ (s = (403 : Int32))), if_neg (by simp only [own_xlt, own_xeq]; omega : ¬ (s = (404 : Int32))), if_neg (by simp only [own_xlt, own_xeq]; omega : ¬ (s = (408 : Int32))), if_neg (by simp only [own_xlt, own_xeq]; omega : ¬ (s = (410 : Int32))), if_neg (by simp only [own_xlt, own_xeq]; omega : ¬ (s = (413 : Int32))), if_neg (by simp only [own_xlt, own_xeq]; omega : ¬ (s = (429 : Int32))), if_neg (by simp only [own_xlt, own_xeq]; omega : ¬ (s = (503 : Int32))), if_neg (by simp only [own_xlt, own_xeq]; omega : ¬ (s < (300 : Int32))), if_pos (by simp only [own_xlt, own_xeq]; omega : (399 : Int32) < s), if_pos (by simp only [own_xlt, own_xeq]; omega : s < (500 : Int32)), if_neg (by simp only [own_xlt, own_xeq]; omega : ¬ (s < (200 : Int32))), if_neg (by simp only [own_xlt, own_xeq]; omega : ¬ ((599 : Int32) < s)), if_neg (by simp only [own_xlt, own_xeq]; omega : ¬ ((s / (100 : Int32)) = (2 : Int32))), if_neg (by simp only [own_xlt, own_xeq]; omega : ¬ ((s / (100 : Int32)) = (3 : Int32))), if_pos (by simp only [own_xlt, own_xeq]; omega : (s / (100 : Int32)) = (4 : Int32))]
    unfold f_four
    rw [if_neg (by simp only [own_xlt, own_xeq]; omega : ¬ ((s % (100 : Int32)) = (0 : Int32))), if_neg (by simp only [own_xlt, own_xeq]; omega : ¬ ((s % (100 : Int32)) = (1 : Int32))), if_neg (by simp only [own_xlt, own_xeq]; omega : ¬ ((s % (100 : Int32)) = (3 : Int32))), if_neg (by simp only [own_xlt, own_xeq]; omega : ¬ ((s % (100 : Int32)) = (4 : Int32))), if_neg (by simp only [own_xlt, own_xeq]; omega : ¬ ((s % (100 : Int32)) = (8 : Int32))), if_neg (by simp only [own_xlt, own_xeq]; omega : ¬ ((s % (100 : Int32)) = (10 : Int32))), if_neg (by simp only [own_xlt, own_xeq]; omega : ¬ ((s % (100 : Int32)) = (13 : Int32))), if_neg (by simp only [own_xlt, own_xeq]; omega : ¬ ((s % (100 : Int32)) = (29 : Int32)))]
  · unfold f_of f_ex
    rw [if_neg (by simp only [own_xlt, own_xeq]; omega : ¬ (s < (200 : Int32))), if_pos (by simp only [own_xlt, own_xeq]; omega : (204 : Int32) < s), if_neg (by simp only [own_xlt, own_xeq]; omega : ¬ (s = (400 : Int32))), if_neg (by simp only [own_xlt, own_xeq]; omega : ¬ (s = (401 : Int32))), if_neg (by simp only [own_xlt, own_xeq]; omega : ¬ (s = (403 : Int32))), if_neg (by simp only [own_xlt, own_xeq]; omega : ¬ (s = (404 : Int32))), if_pos (by simp only [own_xlt, own_xeq]; omega : s = (408 : Int32)), if_neg (by simp only [own_xlt, own_xeq]; omega : ¬ (s < (200 : Int32))), if_neg (by simp only [own_xlt, own_xeq]; omega : ¬ ((599 : Int32) < s)), if_neg (by simp only [own_xlt, own_xeq]; omega : ¬ ((s / (100 : Int32)) = (2 : Int32))), if_neg (by simp only [own_xlt, own_xeq]; omega : ¬ ((s / (100 : Int32)) = (3 : Int32))), if_pos (by simp only [own_xlt, own_xeq]; omega : (s / (100 : Int32)) = (4 : Int32))]
    unfold f_four
    rw [if_neg (by simp only [own_xlt, own_xeq]; omega : ¬ ((s % (100 : Int32)) = (0 : Int32))), if_neg (by simp only [own_xlt, own_xeq]; omega : ¬ ((s % (100 : Int32)) = (1 : Int32))), if_neg (by simp only [own_xlt, own_xeq]; omega : ¬ ((s % (100 : Int32)) = (3 : Int32))), if_neg (by simp only [own_xlt, own_xeq]; omega : ¬ ((s % (100 : Int32)) = (4 : Int32))), if_pos (by simp only [own_xlt, own_xeq]; omega : (s % (100 : Int32)) = (8 : Int32))]
  · unfold f_of f_ex
    rw [if_neg (by simp only [own_xlt, own_xeq]; omega : ¬ (s < (200 : Int32))), if_pos (by simp only [own_xlt, own_xeq]; omega : (204 : Int32) < s), if_neg (by simp only [own_xlt, own_xeq]; omega : ¬ (s = (400 : Int32))), if_neg (by simp only [own_xlt, own_xeq]; omega : ¬ (s = (401 : Int32))), if_neg (by simp only [own_xlt, own_xeq]; omega : ¬ (s = (403 : Int32))), if_neg (by simp only [own_xlt, own_xeq]; omega : ¬ (s = (404 : Int32))), if_neg (by simp only [own_xlt, own_xeq]; omega : ¬ (s = (408 : Int32))), if_neg (by simp only [own_xlt, own_xeq]; omega : ¬ (s = (410 : Int32))), if_neg (by simp only [own_xlt, own_xeq]; omega : ¬ (s = (413 : Int32))), if_neg (by simp only [own_xlt, own_xeq]; omega : ¬ (s = (429 : Int32))), if_neg (by simp only [own_xlt, own_xeq]; omega : ¬ (s = (503 : Int32))), if_neg (by simp only [own_xlt, own_xeq]; omega : ¬ (s < (300 : Int32))), if_pos (by simp only [own_xlt, own_xeq]; omega : (399 : Int32) < s), if_pos (by simp only [own_xlt, own_xeq]; omega : s < (500 : Int32)), if_neg (by simp only [own_xlt, own_xeq]; omega : ¬ (s < (200 : Int32))), if_neg (by simp only [own_xlt, own_xeq]; omega : ¬ ((599 : Int32) < s)), if_neg (by simp only [own_xlt, own_xeq]; omega : ¬ ((s / (100 : Int32)) = (2 : Int32))), if_neg (by simp only [own_xlt, own_xeq]; omega : ¬ ((s / (100 : Int32)) = (3 : Int32))), if_pos (by simp only [own_xlt, own_xeq]; omega : (s / (100 : Int32)) = (4 : Int32))]
    unfold f_four
    rw [if_neg (by simp only [own_xlt, own_xeq]; omega : ¬ ((s % (100 : Int32)) = (0 : Int32))), if_neg (by simp only [own_xlt, own_xeq]; omega : ¬ ((s % (100 : Int32)) = (1 : Int32))), if_neg (by simp only [own_xlt, own_xeq]; omega : ¬ ((s % (100 : Int32)) = (3 : Int32))), if_neg (by simp only [own_xlt, own_xeq]; omega : ¬ ((s % (100 : Int32)) = (4 : Int32))), if_neg (by simp only [own_xlt, own_xeq]; omega : ¬ ((s % (100 : Int32)) = (8 : Int32))), if_neg (by simp only [own_xlt, own_xeq]; omega : ¬ ((s % (100 : Int32)) = (10 : Int32))), if_neg (by simp only [own_xlt, own_xeq]; omega : ¬ ((s % (100 : Int32)) = (13 : Int32))), if_neg (by simp only [own_xlt, own_xeq]; omega : ¬ ((s % (100 : Int32)) = (29 : Int32)))]
  · unfold f_of f_ex
    rw [if_neg (by simp only [own_xlt, own_xeq]; omega : ¬ (s < (200 : Int32))), if_pos (by simp only [own_xlt, own_xeq]; omega : (204 : Int32) < s), if_neg (by simp only [own_xlt, own_xeq]; omega : ¬ (s = (400 : Int32))), if_neg (by simp only [own_xlt, own_xeq]; omega : ¬ (s = (401 : Int32))), if_neg (by simp only [own_xlt, own_xeq]; omega : ¬ (s = (403 : Int32))), if_neg (by simp only [own_xlt, own_xeq]; omega : ¬ (s = (404 : Int32))), if_neg (by simp only [own_xlt, own_xeq]; omega : ¬ (s = (408 : Int32))), if_pos (by simp only [own_xlt, own_xeq]; omega : s = (410 : Int32)), if_neg (by simp only [own_xlt, own_xeq]; omega : ¬ (s < (200 : Int32))), if_neg (by simp only [own_xlt, own_xeq]; omega : ¬ ((599 : Int32) < s)), if_neg (by simp only [own_xlt, own_xeq]; omega : ¬ ((s / (100 : Int32)) = (2 : Int32))), if_neg (by simp only [own_xlt, own_xeq]; omega : ¬ ((s / (100 : Int32)) = (3 : Int32))), if_pos (by simp only [own_xlt, own_xeq]; omega : (s / (100 : Int32)) = (4 : Int32))]
    unfold f_four
    rw [if_neg (by simp only [own_xlt, own_xeq]; omega : ¬ ((s % (100 : Int32)) = (0 : Int32))), if_neg (by simp only [own_xlt, own_xeq]; omega : ¬ ((s % (100 : Int32)) = (1 : Int32))), if_neg (by simp only [own_xlt, own_xeq]; omega : ¬ ((s % (100 : Int32)) = (3 : Int32))), if_neg (by simp only [own_xlt, own_xeq]; omega : ¬ ((s % (100 : Int32)) = (4 : Int32))), if_neg (by simp only [own_xlt, own_xeq]; omega : ¬ ((s % (100 : Int32)) = (8 : Int32))), if_pos (by simp only [own_xlt, own_xeq]; omega : (s % (100 : Int32)) = (10 : Int32))]
  · unfold f_of f_ex
    rw [if_neg (by simp only [own_xlt, own_xeq]; omega : ¬ (s < (200 : Int32))), if_pos (by simp only [own_xlt, own_xeq]; omega : (204 : Int32) < s), if_neg (by simp only [own_xlt, own_xeq]; omega : ¬ (s = (400 : Int32))), if_neg (by simp only [own_xlt, own_xeq]; omega : ¬ (s = (401 : Int32))), if_neg (by simp only [own_xlt, own_xeq]; omega : ¬ (s = (403 : Int32))), if_neg (by simp only [own_xlt, own_xeq]; omega : ¬ (s = (404 : Int32))), if_neg (by simp only [own_xlt, own_xeq]; omega : ¬ (s = (408 : Int32))), if_neg (by simp only [own_xlt, own_xeq]; omega : ¬ (s = (410 : Int32))), if_neg (by simp only [own_xlt, own_xeq]; omega : ¬ (s = (413 : Int32))), if_neg (by simp only [own_xlt, own_xeq]; omega : ¬ (s = (429 : Int32))), if_neg (by simp only [own_xlt, own_xeq]; omega : ¬ (s = (503 : Int32))), if_neg (by simp only [own_xlt, own_xeq]; omega : ¬ (s < (300 : Int32))), if_pos (by simp only [own_xlt, own_xeq]; omega : (399 : Int32) < s), if_pos (by simp only [own_xlt, own_xeq]; omega : s < (500 : Int32)), if_neg (by simp only [own_xlt, own_xeq]; omega : ¬ (s < (200 : Int32))), if_neg (by simp only [own_xlt, own_xeq]; omega : ¬ ((599 : Int32) < s)), if_neg (by simp only [own_xlt, own_xeq]; omega : ¬ ((s / (100 : Int32)) = (2 : Int32))), if_neg (by simp only [own_xlt, own_xeq]; omega : ¬ ((s / (100 : Int32)) = (3 : Int32))), if_pos (by simp only [own_xlt, own_xeq]; omega : (s / (100 : Int32)) = (4 : Int32))]
    unfold f_four
    rw [if_neg (by simp only [own_xlt, own_xeq]; omega : ¬ ((s % (100 : Int32)) = (0 : Int32))), if_neg (by simp only [own_xlt, own_xeq]; omega : ¬ ((s % (100 : Int32)) = (1 : Int32))), if_neg (by simp only [own_xlt, own_xeq]; omega : ¬ ((s % (100 : Int32)) = (3 : Int32))), if_neg (by simp only [own_xlt, own_xeq]; omega : ¬ ((s % (100 : Int32)) = (4 : Int32))), if_neg (by simp only [own_xlt, own_xeq]; omega : ¬ ((s % (100 : Int32)) = (8 : Int32))), if_neg (by simp only [own_xlt, own_xeq]; omega : ¬ ((s % (100 : Int32)) = (10 : Int32))), if_neg (by simp only [own_xlt, own_xeq]; omega : ¬ ((s % (100 : Int32)) = (13 : Int32))), if_neg (by simp only [own_xlt, own_xeq]; omega : ¬ ((s % (100 : Int32)) = (29 : Int32)))]
  · unfold f_of f_ex
    rw [if_neg (by simp only [own_xlt, own_xeq]; omega : ¬ (s < (200 : Int32))), if_pos (by simp only [own_xlt, own_xeq]; omega : (204 : Int32) < s), if_neg (by simp only [own_xlt, own_xeq]; omega : ¬ (s = (400 : Int32))), if_neg (by simp only [own_xlt, own_xeq]; omega : ¬ (s = (401 : Int32))), if_neg (by simp only [own_xlt, own_xeq]; omega : ¬ (s = (403 : Int32))), if_neg (by simp only [own_xlt, own_xeq]; omega : ¬ (s = (404 : Int32))), if_neg (by simp only [own_xlt, own_xeq]; omega : ¬ (s = (408 : Int32))), if_neg (by simp only [own_xlt, own_xeq]; omega : ¬ (s = (410 : Int32))), if_pos (by simp only [own_xlt, own_xeq]; omega : s = (413 : Int32)), if_neg (by simp only [own_xlt, own_xeq]; omega : ¬ (s < (200 : Int32))), if_neg (by simp only [own_xlt, own_xeq]; omega : ¬ ((599 : Int32) < s)), if_neg (by simp only [own_xlt, own_xeq]; omega : ¬ ((s / (100 : Int32)) = (2 : Int32))), if_neg (by simp only [own_xlt, own_xeq]; omega : ¬ ((s / (100 : Int32)) = (3 : Int32))), if_pos (by simp only [own_xlt, own_xeq]; omega : (s / (100 : Int32)) = (4 : Int32))]
    unfold f_four
    rw [if_neg (by simp only [own_xlt, own_xeq]; omega : ¬ ((s % (100 : Int32)) = (0 : Int32))), if_neg (by simp only [own_xlt, own_xeq]; omega : ¬ ((s % (100 : Int32)) = (1 : Int32))), if_neg (by simp only [own_xlt, own_xeq]; omega : ¬ ((s % (100 : Int32)) = (3 : Int32))), if_neg (by simp only [own_xlt, own_xeq]; omega : ¬ ((s % (100 : Int32)) = (4 : Int32))), if_neg (by simp only [own_xlt, own_xeq]; omega : ¬ ((s % (100 : Int32)) = (8 : Int32))), if_neg (by simp only [own_xlt, own_xeq]; omega : ¬ ((s % (100 : Int32)) = (10 : Int32))), if_pos (by simp only [own_xlt, own_xeq]; omega : (s % (100 : Int32)) = (13 : Int32))]
  · unfold f_of f_ex
    rw [if_neg (by simp only [own_xlt, own_xeq]; omega : ¬ (s < (200 : Int32))), if_pos (by simp only [own_xlt, own_xeq]; omega : (204 : Int32) < s), if_neg (by simp only [own_xlt, own_xeq]; omega : ¬ (s = (400 : Int32))), if_neg (by simp only [own_xlt, own_xeq]; omega : ¬ (s = (401 : Int32))), if_neg (by simp only [own_xlt, own_xeq]; omega : ¬ (s = (403 : Int32))), if_neg (by simp only [own_xlt, own_xeq]; omega : ¬ (s = (404 : Int32))), if_neg (by simp only [own_xlt, own_xeq]; omega : ¬ (s = (408 : Int32))), if_neg (by simp only [own_xlt, own_xeq]; omega : ¬ (s = (410 : Int32))), if_neg (by simp only [own_xlt, own_xeq]; omega : ¬ (s = (413 : Int32))), if_neg (by simp only [own_xlt, own_xeq]; omega : ¬ (s = (429 : Int32))), if_neg (by simp only [own_xlt, own_xeq]; omega : ¬ (s = (503 : Int32))), if_neg (by simp only [own_xlt, own_xeq]; omega : ¬ (s < (300 : Int32))), if_pos (by simp only [own_xlt, own_xeq]; omega : (399 : Int32) < s), if_pos (by simp only [own_xlt, own_xeq]; omega : s < (500 : Int32)), if_neg (by simp only [own_xlt, own_xeq]; omega : ¬ (s < (200 : Int32))), if_neg (by simp only [own_xlt, own_xeq]; omega : ¬ ((599 : Int32) < s)), if_neg (by simp only [own_xlt, own_xeq]; omega : ¬ ((s / (100 : Int32)) = (2 : Int32))), if_neg (by simp only [own_xlt, own_xeq]; omega : ¬ ((s / (100 : Int32)) = (3 : Int32))), if_pos (by simp only [own_xlt, own_xeq]; omega : (s / (100 : Int32)) = (4 : Int32))]
    unfold f_four
    rw [if_neg (by simp only [own_xlt, own_xeq]; omega : ¬ ((s % (100 : Int32)) = (0 : Int32))), if_neg (by simp only [own_xlt, own_xeq]; omega : ¬ ((s % (100 : Int32)) = (1 : Int32))), if_neg (by simp only [own_xlt, own_xeq]; omega : ¬ ((s % (100 : Int32)) = (3 : Int32))), if_neg (by simp only [own_xlt, own_xeq]; omega : ¬ ((s % (100 : Int32)) = (4 : Int32))), if_neg (by simp only [own_xlt, own_xeq]; omega : ¬ ((s % (100 : Int32)) = (8 : Int32))), if_neg (by simp only [own_xlt, own_xeq]; omega : ¬ ((s % (100 : Int32)) = (10 : Int32))), if_neg (by simp only [own_xlt, own_xeq]; omega : ¬ ((s % (100 : Int32)) = (13 : Int32))), if_neg (by simp only [own_xlt, own_xeq]; omega : ¬ ((s % (100 : Int32)) = (29 : Int32)))]
  · unfold f_of f_ex
    rw [if_neg (by simp only [own_xlt, own_xeq]; omega : ¬ (s < (200 : Int32))), if_pos (by simp only [own_xlt, own_xeq]; omega : (204 : Int32) < s), if_neg (by simp only [own_xlt, own_xeq]; omega : ¬ (s = (400 : Int32))), if_neg (by simp only [own_xlt, own_xeq]; omega : ¬ (s = (401 : Int32))), if_neg (by simp only [own_xlt, own_xeq]; omega : ¬ (s = (403 : Int32))), if_neg (by simp only [own_xlt, own_xeq]; omega : ¬ (s = (404 : Int32))), if_neg (by simp only [own_xlt, own_xeq]; omega : ¬ (s = (408 : Int32))), if_neg (by simp only [own_xlt, own_xeq]; omega : ¬ (s = (410 : Int32))), if_neg (by simp only [own_xlt, own_xeq]; omega : ¬ (s = (413 : Int32))), if_pos (by simp only [own_xlt, own_xeq]; omega : s = (429 : Int32)), if_neg (by simp only [own_xlt, own_xeq]; omega : ¬ (s < (200 : Int32))), if_neg (by simp only [own_xlt, own_xeq]; omega : ¬ ((599 : Int32) < s)), if_neg (by simp only [own_xlt, own_xeq]; omega : ¬ ((s / (100 : Int32)) = (2 : Int32))), if_neg (by simp only [own_xlt, own_xeq]; omega : ¬ ((s / (100 : Int32)) = (3 : Int32))), if_pos (by simp only [own_xlt, own_xeq]; omega : (s / (100 : Int32)) = (4 : Int32))]
    unfold f_four
    rw [if_neg (by simp only [own_xlt, own_xeq]; omega : ¬ ((s % (100 : Int32)) = (0 : Int32))), if_neg (by simp only [own_xlt, own_xeq]; omega : ¬ ((s % (100 : Int32)) = (1 : Int32))), if_neg (by simp only [own_xlt, own_xeq]; omega : ¬ ((s % (100 : Int32)) = (3 : Int32))), if_neg (by simp only [own_xlt, own_xeq]; omega : ¬ ((s % (100 : Int32)) = (4 : Int32))), if_neg (by simp only [own_xlt, own_xeq]; omega : ¬ ((s % (100 : Int32)) = (8 : Int32))), if_neg (by simp only [own_xlt, own_xeq]; omega : ¬ ((s % (100 : Int32)) = (10 : Int32))), if_neg (by simp only [own_xlt, own_xeq]; omega : ¬ ((s % (100 : Int32)) = (13 : Int32))), if_pos (by simp only [own_xlt, own_xeq]; omega : (s % (100 : Int32)) = (29 : Int32))]
  · unfold f_of f_ex
    rw [if_neg (by simp only [own_xlt, own_xeq]; omega : ¬ (s < (200 : Int32))), if_pos (by simp only [own_xlt, own_xeq]; omega : (204 : Int32) < s), if_neg (by simp only [own_xlt, own_xeq]; omega : ¬ (s = (400 : Int32))), if_neg (by simp only [own_xlt, own_xeq]; omega : ¬ (s = (401 : Int32))), if_neg (by simp only [own_xlt, own_xeq]; omega : ¬ (s = (403 : Int32))), if_neg (by simp only [own_xlt, own_xeq]; omega : ¬ (s = (404 : Int32))), if_neg (by simp only [own_xlt, own_xeq]; omega : ¬ (s = (408 : Int32))), if_neg (by simp only [own_xlt, own_xeq]; omega : ¬ (s = (410 : Int32))), if_neg (by simp only [own_xlt, own_xeq]; omega : ¬ (s = (413 : Int32))), if_neg (by simp only [own_xlt, own_xeq]; omega : ¬ (s = (429 : Int32))), if_neg (by simp only [own_xlt, own_xeq]; omega : ¬ (s = (503 : Int32))), if_neg (by simp only [own_xlt, own_xeq]; omega : ¬ (s < (300 : Int32))), if_pos (by simp only [own_xlt, own_xeq]; omega : (399 : Int32) < s), if_pos (by simp only [own_xlt, own_xeq]; omega : s < (500 : Int32)), if_neg (by simp only [own_xlt, own_xeq]; omega : ¬ (s < (200 : Int32))), if_neg (by simp only [own_xlt, own_xeq]; omega : ¬ ((599 : Int32) < s)), if_neg (by simp only [own_xlt, own_xeq]; omega : ¬ ((s / (100 : Int32)) = (2 : Int32))), if_neg (by simp only [own_xlt, own_xeq]; omega : ¬ ((s / (100 : Int32)) = (3 : Int32))), if_pos (by simp only [own_xlt, own_xeq]; omega : (s / (100 : Int32)) = (4 : Int32))]
    unfold f_four
    rw [if_neg (by simp only [own_xlt, own_xeq]; omega : ¬ ((s % (100 : Int32)) = (0 : Int32))), if_neg (by simp only [own_xlt, own_xeq]; omega : ¬ ((s % (100 : Int32)) = (1 : Int32))), if_neg (by simp only [own_xlt, own_xeq]; omega : ¬ ((s % (100 : Int32)) = (3 : Int32))), if_neg (by simp only [own_xlt, own_xeq]; omega : ¬ ((s % (100 : Int32)) = (4 : Int32))), if_neg (by simp only [own_xlt, own_xeq]; omega : ¬ ((s % (100 : Int32)) = (8 : Int32))), if_neg (by simp only [own_xlt, own_xeq]; omega : ¬ ((s % (100 : Int32)) = (10 : Int32))), if_neg (by simp only [own_xlt, own_xeq]; omega : ¬ ((s % (100 : Int32)) = (13 : Int32))), if_neg (by simp only [own_xlt, own_xeq]; omega : ¬ ((s % (100 : Int32)) = (29 : Int32)))]
  · unfold f_of f_ex
    rw [if_neg (by simp only [own_xlt, own_xeq]; omega : ¬ (s < (200 : Int32))), if_pos (by simp only [own_xlt, own_xeq]; omega : (204 : Int32) < s), if_neg (by simp only [own_xlt, own_xeq]; omega : ¬ (s = (400 : Int32))), if_neg (by simp only [own_xlt, own_xeq]; omega : ¬ (s = (401 : Int32))), if_neg (by simp only [own_xlt, own_xeq]; omega : ¬ (s = (403 : Int32))), if_neg (by simp only [own_xlt, own_xeq]; omega : ¬ (s = (404 : Int32))), if_neg (by simp only [own_xlt, own_xeq]; omega : ¬ (s = (408 : Int32))), if_neg (by simp only [own_xlt, own_xeq]; omega : ¬ (s = (410 : Int32))), if_neg (by simp only [own_xlt, own_xeq]; omega : ¬ (s = (413 : Int32))), if_neg (by simp only [own_xlt, own_xeq]; omega : ¬ (s = (429 : Int32))), if_neg (by simp only [own_xlt, own_xeq]; omega : ¬ (s = (503 : Int32))), if_neg (by simp only [own_xlt, own_xeq]; omega : ¬ (s < (300 : Int32))), if_pos (by simp only [own_xlt, own_xeq]; omega : (399 : Int32) < s), if_neg (by simp only [own_xlt, own_xeq]; omega : ¬ (s < (500 : Int32))), if_neg (by simp only [own_xlt, own_xeq]; omega : ¬ ((599 : Int32) < s)), if_neg (by simp only [own_xlt, own_xeq]; omega : ¬ (s < (200 : Int32))), if_neg (by simp only [own_xlt, own_xeq]; omega : ¬ ((599 : Int32) < s)), if_neg (by simp only [own_xlt, own_xeq]; omega : ¬ ((s / (100 : Int32)) = (2 : Int32))), if_neg (by simp only [own_xlt, own_xeq]; omega : ¬ ((s / (100 : Int32)) = (3 : Int32))), if_neg (by simp only [own_xlt, own_xeq]; omega : ¬ ((s / (100 : Int32)) = (4 : Int32))), if_neg (by simp only [own_xlt, own_xeq]; omega : ¬ ((s % (100 : Int32)) = (3 : Int32)))]
  · unfold f_of f_ex
    rw [if_neg (by simp only [own_xlt, own_xeq]; omega : ¬ (s < (200 : Int32))), if_pos (by simp only [own_xlt, own_xeq]; omega : (204 : Int32) < s), if_neg (by simp only [own_xlt, own_xeq]; omega : ¬ (s = (400 : Int32))), if_neg (by simp only [own_xlt, own_xeq]; omega : ¬ (s = (401 : Int32))), if_neg (by simp only [own_xlt, own_xeq]; omega : ¬ (s = (403 : Int32))), if_neg (by simp only [own_xlt, own_xeq]; omega : ¬ (s = (404 : Int32))), if_neg (by simp only [own_xlt, own_xeq]; omega : ¬ (s = (408 : Int32))), if_neg (by simp only [own_xlt, own_xeq]; omega : ¬ (s = (410 : Int32))), if_neg (by simp only [own_xlt, own_xeq]; omega : ¬ (s = (413 : Int32))), if_neg (by simp only [own_xlt, own_xeq]; omega : ¬ (s = (429 : Int32))), if_pos (by simp only [own_xlt, own_xeq]; omega : s = (503 : Int32)), if_neg (by simp only [own_xlt, own_xeq]; omega : ¬ (s < (200 : Int32))), if_neg (by simp only [own_xlt, own_xeq]; omega : ¬ ((599 : Int32) < s)), if_neg (by simp only [own_xlt, own_xeq]; omega : ¬ ((s / (100 : Int32)) = (2 : Int32))), if_neg (by simp only [own_xlt, own_xeq]; omega : ¬ ((s / (100 : Int32)) = (3 : Int32))), if_neg (by simp only [own_xlt, own_xeq]; omega : ¬ ((s / (100 : Int32)) = (4 : Int32))), if_pos (by simp only [own_xlt, own_xeq]; omega : (s % (100 : Int32)) = (3 : Int32))]
  · unfold f_of f_ex
    rw [if_neg (by simp only [own_xlt, own_xeq]; omega : ¬ (s < (200 : Int32))), if_pos (by simp only [own_xlt, own_xeq]; omega : (204 : Int32) < s), if_neg (by simp only [own_xlt, own_xeq]; omega : ¬ (s = (400 : Int32))), if_neg (by simp only [own_xlt, own_xeq]; omega : ¬ (s = (401 : Int32))), if_neg (by simp only [own_xlt, own_xeq]; omega : ¬ (s = (403 : Int32))), if_neg (by simp only [own_xlt, own_xeq]; omega : ¬ (s = (404 : Int32))), if_neg (by simp only [own_xlt, own_xeq]; omega : ¬ (s = (408 : Int32))), if_neg (by simp only [own_xlt, own_xeq]; omega : ¬ (s = (410 : Int32))), if_neg (by simp only [own_xlt, own_xeq]; omega : ¬ (s = (413 : Int32))), if_neg (by simp only [own_xlt, own_xeq]; omega : ¬ (s = (429 : Int32))), if_neg (by simp only [own_xlt, own_xeq]; omega : ¬ (s = (503 : Int32))), if_neg (by simp only [own_xlt, own_xeq]; omega : ¬ (s < (300 : Int32))), if_pos (by simp only [own_xlt, own_xeq]; omega : (399 : Int32) < s), if_neg (by simp only [own_xlt, own_xeq]; omega : ¬ (s < (500 : Int32))), if_neg (by simp only [own_xlt, own_xeq]; omega : ¬ ((599 : Int32) < s)), if_neg (by simp only [own_xlt, own_xeq]; omega : ¬ (s < (200 : Int32))), if_neg (by simp only [own_xlt, own_xeq]; omega : ¬ ((599 : Int32) < s)), if_neg (by simp only [own_xlt, own_xeq]; omega : ¬ ((s / (100 : Int32)) = (2 : Int32))), if_neg (by simp only [own_xlt, own_xeq]; omega : ¬ ((s / (100 : Int32)) = (3 : Int32))), if_neg (by simp only [own_xlt, own_xeq]; omega : ¬ ((s / (100 : Int32)) = (4 : Int32))), if_neg (by simp only [own_xlt, own_xeq]; omega : ¬ ((s % (100 : Int32)) = (3 : Int32)))]
  · unfold f_of f_ex
    rw [if_neg (by simp only [own_xlt, own_xeq]; omega : ¬ (s < (200 : Int32))), if_pos (by simp only [own_xlt, own_xeq]; omega : (204 : Int32) < s), if_neg (by simp only [own_xlt, own_xeq]; omega : ¬ (s = (400 : Int32))), if_neg (by simp only [own_xlt, own_xeq]; omega : ¬ (s = (401 : Int32))), if_neg (by simp only [own_xlt, own_xeq]; omega : ¬ (s = (403 : Int32))), if_neg (by simp only [own_xlt, own_xeq]; omega : ¬ (s = (404 : Int32))), if_neg (by simp only [own_xlt, own_xeq]; omega : ¬ (s = (408 : Int32))), if_neg (by simp only [own_xlt, own_xeq]; omega : ¬ (s = (410 : Int32))), if_neg (by simp only [own_xlt, own_xeq]; omega : ¬ (s = (413 : Int32))), if_neg (by simp only [own_xlt, own_xeq]; omega : ¬ (s = (429 : Int32))), if_neg (by simp only [own_xlt, own_xeq]; omega : ¬ (s = (503 : Int32))), if_neg (by simp only [own_xlt, own_xeq]; omega : ¬ (s < (300 : Int32))), if_pos (by simp only [own_xlt, own_xeq]; omega : (399 : Int32) < s), if_neg (by simp only [own_xlt, own_xeq]; omega : ¬ (s < (500 : Int32))), if_pos (by simp only [own_xlt, own_xeq]; omega : (599 : Int32) < s), if_neg (by simp only [own_xlt, own_xeq]; omega : ¬ (s < (200 : Int32))), if_pos (by simp only [own_xlt, own_xeq]; omega : (599 : Int32) < s)]
theorem ww0 {Z : State} {a0 : Array Value} (hw : ∀ d ∈ tables_1, d.before a0 Z = true) : Jvm.Cond.before (Jvm.Cond.methodLink cn_2 (52 : Nat) ({ cls := cn_0, name := "ofStatus", desc := cn_3 } : Jvm.MethodName)) a0 Z = true := hw _ (List.mem_of_getElem? (i := 0) rfl)
theorem ww3 {Z : State} {a0 : Array Value} (hw : ∀ d ∈ tables_1, d.before a0 Z = true) : Jvm.Cond.before (Jvm.Cond.code ({ cls := cn_0, name := "ofStatus", desc := cn_3 } : Jvm.MethodName) prog_8_method_6_code (2 : Nat) (Option.some (Jvm.ClassFile.FieldType.object cn_0))) a0 Z = true := hw _ (List.mem_of_getElem? (i := 3) rfl)
theorem ww1 {Z : State} {a0 : Array Value} (hw : ∀ d ∈ tables_1, d.before a0 Z = true) : Jvm.Cond.before (Jvm.Cond.static ({ cls := cn_0, name := "ofStatus", desc := cn_3 } : Jvm.MethodName)) a0 Z = true := hw _ (List.mem_of_getElem? (i := 1) rfl)
theorem ww6 {Z : State} {a0 : Array Value} (hw : ∀ d ∈ tables_1, d.before a0 Z = true) : Jvm.Cond.before (Jvm.Cond.methodLink cn_2 (55 : Nat) ({ cls := cn_2, name := "expected", desc := cn_3 } : Jvm.MethodName)) a0 Z = true := hw _ (List.mem_of_getElem? (i := 6) rfl)
theorem ww9 {Z : State} {a0 : Array Value} (hw : ∀ d ∈ tables_1, d.before a0 Z = true) : Jvm.Cond.before (Jvm.Cond.code ({ cls := cn_2, name := "expected", desc := cn_3 } : Jvm.MethodName) method_3_code (3 : Nat) (Option.some (Jvm.ClassFile.FieldType.object cn_0))) a0 Z = true := hw _ (List.mem_of_getElem? (i := 9) rfl)
theorem ww7 {Z : State} {a0 : Array Value} (hw : ∀ d ∈ tables_1, d.before a0 Z = true) : Jvm.Cond.before (Jvm.Cond.static ({ cls := cn_2, name := "expected", desc := cn_3 } : Jvm.MethodName)) a0 Z = true := hw _ (List.mem_of_getElem? (i := 7) rfl)
abbrev y_3 : MethodName := ⟨cn_2, "law", "(II)Z"⟩
theorem ef_law (m : MethodId) (p0 : Int32) (p1 : Int32) : entryFrame m #[(.int p0), (.int p1)] maxLocals = mkF m 0 #[.val (.int p0), .val (.int p1), .unset, .unset] [] := by first | (simp [entryFrame, mkF, argsToLocals, Value.category, maxLocals]; done) | rfl
def Q_law (Z : State) (w_FAILED : Addr) (w_DELIVERED : Addr) (w_REDIRECTED : Addr) (w_SERVER_ERROR : Addr) (w_PAYLOAD_TOO_LARGE : Addr) (w_TIMED_OUT : Addr) (w_UNAUTHORIZED : Addr) (w_BAD_REQUEST : Addr) (w_NOT_FOUND : Addr) (w_BUSY : Addr) (w_FORBIDDEN : Addr) (w_GONE : Addr) (p0 : Int32) (p1 : Int32) (h0 : Heap) (n0 : Nat) (v : Option Value) (h : Heap) (L : List Loc) : Prop := v = some (.int 1) ∧ Fr n0 L
set_option maxRecDepth 65536 in
set_option maxHeartbeats 40000000 in
theorem rm_law (l : Launch) (Z : State) (a0 : Array Value) (hw : ∀ d ∈ tables_1, d.before a0 Z = true) (ws : List Jvm.Cond) (w_FAILED : Addr) (w_DELIVERED : Addr) (w_REDIRECTED : Addr) (w_SERVER_ERROR : Addr) (w_PAYLOAD_TOO_LARGE : Addr) (w_TIMED_OUT : Addr) (w_UNAUTHORIZED : Addr) (w_BAD_REQUEST : Addr) (w_NOT_FOUND : Addr) (w_BUSY : Addr) (w_FORBIDDEN : Addr) (w_GONE : Addr) (p0 : Int32) (p1 : Int32) (h0 : Heap) (n0 : Nat) (Z0 : n0 ≤ h0.size) (ST : own_St Z w_FAILED w_DELIVERED w_REDIRECTED w_SERVER_ERROR w_PAYLOAD_TOO_LARGE w_TIMED_OUT w_UNAUTHORIZED w_BAD_REQUEST w_NOT_FOUND w_BUSY w_FORBIDDEN w_GONE) (O0 : Old Z n0 h0) :
    MetFree l x (head1 (Jvm.Cond.code x code maxLocals ret :: ws) room_1) (fun a U => a = #[(.int p0), (.int p1)] ∧ Z.Warmed39 U.vm ∧ U.heap = h0) (fun _ _ _ _ _ => True) (fun _ U o U' => ∃ v L, o = .returned v ∧ Q_law Z w_FAILED w_DELIVERED w_REDIRECTED w_SERVER_ERROR w_PAYLOAD_TOO_LARGE w_TIMED_OUT w_UNAUTHORIZED w_BAD_REQUEST w_NOT_FOUND w_BUSY w_FORBIDDEN w_GONE p0 p1 h0 n0 v U'.heap L ∧ FrameEnd U o U' L 0 0) := by
  refine MetFree.of_bodySF (plainFor_of_name pn_1) hisR ?_
  intro p e s m args below meth c s₁ Bd hml0 hP hK
  obtain ⟨rfl, hZ, hh⟩ := hP
  have hx := Bd.exec
  have hby := Bd.bytes
  have hml : c.maxLocals = 4 := hml0
  have hown : s.vm.findClass cn_2 = some m.cls := findClass_of_methodNamed Bd.named
  have hnm := (name_of_methodNamed Bd.named Bd.method).1
  have X0 : Stand p l e room_1 s m #[(.int p0), (.int p1)] below meth c s₁ [] 0 0 := Stand.of_body Bd
  have e0 : s₁.heap = h0 := by rw [← hh, Bd.state]; rfl
  have N0 := Fr.nil n0
  obtain ⟨G, step, ret, fin⟩ := own_open (p := p) (l := l) (e := e) (R := room_1) (s := s) (m := m) (args := #[(.int p0), (.int p1)]) (below := below) (meth := meth) (c := c) (0) (0) (Q_law Z w_FAILED w_DELIVERED w_REDIRECTED w_SERVER_ERROR w_PAYLOAD_TOO_LARGE w_TIMED_OUT w_UNAUTHORIZED w_BAD_REQUEST w_NOT_FOUND w_BUSY w_FORBIDDEN w_GONE p0 p1 h0 n0) Bd.notSynchronized
  refine fin (g := entryFrame m #[(.int p0), (.int p1)] maxLocals) ?_
  rw [ef_law m p0 p1]
  show G s₁ (mkF m 0 #[.val (.int p0), .val (.int p1), .unset, .unset] [])
  refine step (fun t k => XS.iloadN X0.here hx rfl (hb hby at_0) rfl k) ?_
  show G s₁ (mkF m 1 #[.val (.int p0), .val (.int p1), .unset, .unset] [(.int p1)])
  refine step (fun t k => XS.iconst X0.here hx rfl (hb hby at_1) k) ?_
  show G s₁ (mkF m 2 #[.val (.int p0), .val (.int p1), .unset, .unset] [(.int 3), (.int p1)])
  refine step (fun t k => XS.iand X0.here hx rfl (hb hby at_2) rfl k) ?_
  show G s₁ (mkF m 3 #[.val (.int p0), .val (.int p1), .unset, .unset] [(.int (p1 &&& (3 : Int32)))])
  refine step (fun t k => XS.istoreN X0.here hx rfl (hb hby at_3) rfl (l' := #[.val (.int p0), .val (.int p1), .val (.int (p1 &&& (3 : Int32))), .unset]) rfl k) ?_
  show G s₁ (mkF m 4 #[.val (.int p0), .val (.int p1), .val (.int (p1 &&& (3 : Int32))), .unset] [])
  refine step (fun t k => XS.iloadN X0.here hx rfl (hb hby at_4) rfl k) ?_
  show G s₁ (mkF m 5 #[.val (.int p0), .val (.int p1), .val (.int (p1 &&& (3 : Int32))), .unset] [(.int (p1 &&& (3 : Int32)))])
  refine step (fun t k => XS.iconst X0.here hx rfl (hb hby at_5) k) ?_
  show G s₁ (mkF m 6 #[.val (.int p0), .val (.int p1), .val (.int (p1 &&& (3 : Int32))), .unset] [(.int 1), (.int (p1 &&& (3 : Int32)))])
  by_cases hc1 : (p1 &&& (3 : Int32)) = (1 : Int32)
  · skip
    refine step (fun t k => XS.icmpNo X0.here hx rfl (hb hby at_6) rfl (teq hc1).2 k) ?_
    show G s₁ (mkF m 9 #[.val (.int p0), .val (.int p1), .val (.int (p1 &&& (3 : Int32))), .unset] [])
    refine step (fun t k => XS.sipush X0.here hx rfl (hb hby at_9) k) ?_
    show G s₁ (mkF m 12 #[.val (.int p0), .val (.int p1), .val (.int (p1 &&& (3 : Int32))), .unset] [(.int 195)])
    refine step (fun t k => XS.iloadN X0.here hx rfl (hb hby at_12) rfl k) ?_
    show G s₁ (mkF m 13 #[.val (.int p0), .val (.int p1), .val (.int (p1 &&& (3 : Int32))), .unset] [(.int p0), (.int 195)])
    refine step (fun t k => XS.sipush X0.here hx rfl (hb hby at_13) k) ?_
    show G s₁ (mkF m 16 #[.val (.int p0), .val (.int p1), .val (.int (p1 &&& (3 : Int32))), .unset] [(.int 511), (.int p0), (.int 195)])
    refine step (fun t k => XS.iand X0.here hx rfl (hb hby at_16) rfl k) ?_
    show G s₁ (mkF m 17 #[.val (.int p0), .val (.int p1), .val (.int (p1 &&& (3 : Int32))), .unset] [(.int (p0 &&& (511 : Int32))), (.int 195)])
    refine step (fun t k => XS.iadd X0.here hx rfl (hb hby at_17) rfl k) ?_
    show G s₁ (mkF m 18 #[.val (.int p0), .val (.int p1), .val (.int (p1 &&& (3 : Int32))), .unset] [(.int ((195 : Int32) + (p0 &&& (511 : Int32))))])
    refine step (fun t k => XS.istoreN X0.here hx rfl (hb hby at_18) rfl (l' := #[.val (.int p0), .val (.int p1), .val (.int (p1 &&& (3 : Int32))), .val (.int ((195 : Int32) + (p0 &&& (511 : Int32))))]) rfl k) ?_
    show G s₁ (mkF m 19 #[.val (.int p0), .val (.int p1), .val (.int (p1 &&& (3 : Int32))), .val (.int ((195 : Int32) + (p0 &&& (511 : Int32))))] [])
    refine step (fun t k => XS.goto X0.here hx rfl (pc0 := 19) (pc' := 41) rfl (hb hby at_19) (by decide) (by decide) k) ?_
    show G s₁ (mkF m 41 #[.val (.int p0), .val (.int p1), .val (.int (p1 &&& (3 : Int32))), .val (.int ((195 : Int32) + (p0 &&& (511 : Int32))))] [])
    refine step (fun t k => XS.iloadN X0.here hx rfl (hb hby at_41) rfl k) ?_
    show G s₁ (mkF m 42 #[.val (.int p0), .val (.int p1), .val (.int (p1 &&& (3 : Int32))), .val (.int ((195 : Int32) + (p0 &&& (511 : Int32))))] [(.int ((195 : Int32) + (p0 &&& (511 : Int32))))])
    obtain ⟨_, _, ⟨T2, L2, k2, n2⟩, -, X2, ⟨Lc2, hQ2, l2, y2, z2⟩, st2⟩ := Jvm.LawKit.callS X0 hx (y := y_0) hown (mvT hZ (ww0 hw)) (mvT hZ (ww1 hw)) (mvT hZ (ww2 hw)) (mvT hZ (ww3 hw)) (by decide) (backOf (W := 0) (rm_of l Z a0 hw [] w_FAILED w_DELIVERED w_REDIRECTED w_SERVER_ERROR w_PAYLOAD_TOO_LARGE w_TIMED_OUT w_UNAUTHORIZED w_BAD_REQUEST w_NOT_FOUND w_BUSY w_FORBIDDEN w_GONE ((195 : Int32) + (p0 &&& (511 : Int32))) h0 n0 (own_old_le O0) ST O0) hZ (ww3 hw) (ww2 hw) (by decide) (by decide)) (g := (mkF m 42 #[.val (.int p0), .val (.int p1), .val (.int (p1 &&& (3 : Int32))), .val (.int ((195 : Int32) + (p0 &&& (511 : Int32))))] [(.int ((195 : Int32) + (p0 &&& (511 : Int32))))])) rfl (by rw [hml]; rfl) (argsL := [(.int ((195 : Int32) + (p0 &&& (511 : Int32))))]) (rest := []) (lenOf pd_0 rfl) rfl (by show 2 * 0 + _ ≤ _; exact Nat.le_of_eq rfl) (hb hby at_42) (fun _ _ => ⟨rfl, e0, (by decide : 0 + 0 ≤ _), (by decide : 0 + 0 ≤ _)⟩)
    dsimp only [Pt.U, Pt.locs, Pt.cells, Pt.slots] at X2 l2 y2 z2 st2 hQ2
    subst l2 y2 z2
    obtain ⟨rfl, N2q, e2⟩ := hQ2
    have N2 := Fr.app N0 N2q
    refine step (fun t k => st2 t k) ?_
    show G T2 (mkF m 45 #[.val (.int p0), .val (.int p1), .val (.int (p1 &&& (3 : Int32))), .val (.int ((195 : Int32) + (p0 &&& (511 : Int32))))] [(.ref (f_of w_FAILED w_DELIVERED w_REDIRECTED w_SERVER_ERROR w_PAYLOAD_TOO_LARGE w_TIMED_OUT w_UNAUTHORIZED w_BAD_REQUEST w_NOT_FOUND w_BUSY w_FORBIDDEN w_GONE ((195 : Int32) + (p0 &&& (511 : Int32)))))])
    refine step (fun t k => XS.iloadN X2.here hx rfl (hb hby at_45) rfl k) ?_
    show G T2 (mkF m 46 #[.val (.int p0), .val (.int p1), .val (.int (p1 &&& (3 : Int32))), .val (.int ((195 : Int32) + (p0 &&& (511 : Int32))))] [(.int ((195 : Int32) + (p0 &&& (511 : Int32)))), (.ref (f_of w_FAILED w_DELIVERED w_REDIRECTED w_SERVER_ERROR w_PAYLOAD_TOO_LARGE w_TIMED_OUT w_UNAUTHORIZED w_BAD_REQUEST w_NOT_FOUND w_BUSY w_FORBIDDEN w_GONE ((195 : Int32) + (p0 &&& (511 : Int32)))))])
    obtain ⟨_, _, ⟨T3, L3, k3, n3⟩, -, X3, ⟨Lc3, hQ3, l3, y3, z3⟩, st3⟩ := Jvm.LawKit.callS X2 hx (y := y_2) hown (mvT hZ (ww6 hw)) (mvT hZ (ww7 hw)) (mvT hZ (ww8 hw)) (mvT hZ (ww9 hw)) (by decide) (backOf (W := 1) (rm_ex l Z a0 hw [] w_FAILED w_DELIVERED w_REDIRECTED w_SERVER_ERROR w_PAYLOAD_TOO_LARGE w_TIMED_OUT w_UNAUTHORIZED w_BAD_REQUEST w_NOT_FOUND w_BUSY w_FORBIDDEN w_GONE ((195 : Int32) + (p0 &&& (511 : Int32))) h0 n0 (own_old_le O0) ST O0) hZ (ww9 hw) (ww8 hw) (by decide) (by decide)) (g := (mkF m 46 #[.val (.int p0), .val (.int p1), .val (.int (p1 &&& (3 : Int32))), .val (.int ((195 : Int32) + (p0 &&& (511 : Int32))))] [(.int ((195 : Int32) + (p0 &&& (511 : Int32)))), (.ref (f_of w_FAILED w_DELIVERED w_REDIRECTED w_SERVER_ERROR w_PAYLOAD_TOO_LARGE w_TIMED_OUT w_UNAUTHORIZED w_BAD_REQUEST w_NOT_FOUND w_BUSY w_FORBIDDEN w_GONE ((195 : Int32) + (p0 &&& (511 : Int32)))))])) rfl (by rw [hml]; rfl) (argsL := [(.int ((195 : Int32) + (p0 &&& (511 : Int32))))]) (rest := [(.ref (f_of w_FAILED w_DELIVERED w_REDIRECTED w_SERVER_ERROR w_PAYLOAD_TOO_LARGE w_TIMED_OUT w_UNAUTHORIZED w_BAD_REQUEST w_NOT_FOUND w_BUSY w_FORBIDDEN w_GONE ((195 : Int32) + (p0 &&& (511 : Int32)))))]) (lenOf pd_0 rfl) rfl (by show 2 * 0 + _ ≤ _; exact Nat.le_of_eq rfl) (hb hby at_46) (fun _ _ => ⟨rfl, e2, (by decide : 0 + 0 ≤ _), (by decide : 0 + 0 ≤ _)⟩)
    dsimp only [Pt.U, Pt.locs, Pt.cells, Pt.slots] at X3 l3 y3 z3 st3 hQ3
    subst l3 y3 z3
    obtain ⟨rfl, N3q, e3⟩ := hQ3
    have N3 := Fr.app N2 N3q
    refine step (fun t k => st3 t k) ?_
    show G T3 (mkF m 49 #[.val (.int p0), .val (.int p1), .val (.int (p1 &&& (3 : Int32))), .val (.int ((195 : Int32) + (p0 &&& (511 : Int32))))] [(.ref (f_ex w_FAILED w_DELIVERED w_REDIRECTED w_SERVER_ERROR w_PAYLOAD_TOO_LARGE w_TIMED_OUT w_UNAUTHORIZED w_BAD_REQUEST w_NOT_FOUND w_BUSY w_FORBIDDEN w_GONE ((195 : Int32) + (p0 &&& (511 : Int32))))), (.ref (f_of w_FAILED w_DELIVERED w_REDIRECTED w_SERVER_ERROR w_PAYLOAD_TOO_LARGE w_TIMED_OUT w_UNAUTHORIZED w_BAD_REQUEST w_NOT_FOUND w_BUSY w_FORBIDDEN w_GONE ((195 : Int32) + (p0 &&& (511 : Int32)))))])
    refine step (fun t k => Jvm.RoadKit.acmp X3 hx rfl rfl rfl (pc0 := 49) (pc' := 52) (same := true) rfl (hb hby at_49) rfl (decide_eq_true (congrArg Value.ref (own_same w_FAILED w_DELIVERED w_REDIRECTED w_SERVER_ERROR w_PAYLOAD_TOO_LARGE w_TIMED_OUT w_UNAUTHORIZED w_BAD_REQUEST w_NOT_FOUND w_BUSY w_FORBIDDEN w_GONE _))) (by decide) (by decide) k) ?_
    show G T3 (mkF m 52 #[.val (.int p0), .val (.int p1), .val (.int (p1 &&& (3 : Int32))), .val (.int ((195 : Int32) + (p0 &&& (511 : Int32))))] [])
    refine step (fun t k => XS.iconst X3.here hx rfl (hb hby at_52) k) ?_
    show G T3 (mkF m 53 #[.val (.int p0), .val (.int p1), .val (.int (p1 &&& (3 : Int32))), .val (.int ((195 : Int32) + (p0 &&& (511 : Int32))))] [(.int 1)])
    refine step (fun t k => XS.goto X3.here hx rfl (pc0 := 53) (pc' := 57) rfl (hb hby at_53) (by decide) (by decide) k) ?_
    show G T3 (mkF m 57 #[.val (.int p0), .val (.int p1), .val (.int (p1 &&& (3 : Int32))), .val (.int ((195 : Int32) + (p0 &&& (511 : Int32))))] [(.int 1)])
    exact ret (v := some (.int 1)) X3 (fun h => by rw [Bd.returns] at h; cases h) (fun fs hr => retN X3 hx (t := .boolean) Bd.returns (by simp) (hb hby at_57) hr) e3 ⟨rfl, N3⟩ (by decide) (by decide)
  · skip
    refine step (fun t k => XS.icmpYes X0.here hx rfl (pc0 := 6) (pc' := 22) rfl (hb hby at_6) rfl (feq hc1).2 (by decide) (by decide) k) ?_
    show G s₁ (mkF m 22 #[.val (.int p0), .val (.int p1), .val (.int (p1 &&& (3 : Int32))), .unset] [])
    refine step (fun t k => XS.iloadN X0.here hx rfl (hb hby at_22) rfl k) ?_
    show G s₁ (mkF m 23 #[.val (.int p0), .val (.int p1), .val (.int (p1 &&& (3 : Int32))), .unset] [(.int (p1 &&& (3 : Int32)))])
    refine step (fun t k => XS.iconst X0.here hx rfl (hb hby at_23) k) ?_
    show G s₁ (mkF m 24 #[.val (.int p0), .val (.int p1), .val (.int (p1 &&& (3 : Int32))), .unset] [(.int 2), (.int (p1 &&& (3 : Int32)))])
    by_cases hc4 : (p1 &&& (3 : Int32)) = (2 : Int32)
    · skip
      refine step (fun t k => XS.icmpNo X0.here hx rfl (hb hby at_24) rfl (teq hc4).2 k) ?_
      show G s₁ (mkF m 27 #[.val (.int p0), .val (.int p1), .val (.int (p1 &&& (3 : Int32))), .unset] [])
      refine step (fun t k => XS.sipush X0.here hx rfl (hb hby at_27) k) ?_
      show G s₁ (mkF m 30 #[.val (.int p0), .val (.int p1), .val (.int (p1 &&& (3 : Int32))), .unset] [(.int 395)])
      refine step (fun t k => XS.iloadN X0.here hx rfl (hb hby at_30) rfl k) ?_
      show G s₁ (mkF m 31 #[.val (.int p0), .val (.int p1), .val (.int (p1 &&& (3 : Int32))), .unset] [(.int p0), (.int 395)])
      refine step (fun t k => XS.bipush X0.here hx rfl (hb hby at_31) k) ?_
      show G s₁ (mkF m 33 #[.val (.int p0), .val (.int p1), .val (.int (p1 &&& (3 : Int32))), .unset] [(.int 63), (.int p0), (.int 395)])
      refine step (fun t k => XS.iand X0.here hx rfl (hb hby at_33) rfl k) ?_
      show G s₁ (mkF m 34 #[.val (.int p0), .val (.int p1), .val (.int (p1 &&& (3 : Int32))), .unset] [(.int (p0 &&& (63 : Int32))), (.int 395)])
      refine step (fun t k => XS.iadd X0.here hx rfl (hb hby at_34) rfl k) ?_
      show G s₁ (mkF m 35 #[.val (.int p0), .val (.int p1), .val (.int (p1 &&& (3 : Int32))), .unset] [(.int ((395 : Int32) + (p0 &&& (63 : Int32))))])
      refine step (fun t k => XS.istoreN X0.here hx rfl (hb hby at_35) rfl (l' := #[.val (.int p0), .val (.int p1), .val (.int (p1 &&& (3 : Int32))), .val (.int ((395 : Int32) + (p0 &&& (63 : Int32))))]) rfl k) ?_
      show G s₁ (mkF m 36 #[.val (.int p0), .val (.int p1), .val (.int (p1 &&& (3 : Int32))), .val (.int ((395 : Int32) + (p0 &&& (63 : Int32))))] [])
      refine step (fun t k => XS.goto X0.here hx rfl (pc0 := 36) (pc' := 41) rfl (hb hby at_36) (by decide) (by decide) k) ?_
      show G s₁ (mkF m 41 #[.val (.int p0), .val (.int p1), .val (.int (p1 &&& (3 : Int32))), .val (.int ((395 : Int32) + (p0 &&& (63 : Int32))))] [])
      refine step (fun t k => XS.iloadN X0.here hx rfl (hb hby at_41) rfl k) ?_
      show G s₁ (mkF m 42 #[.val (.int p0), .val (.int p1), .val (.int (p1 &&& (3 : Int32))), .val (.int ((395 : Int32) + (p0 &&& (63 : Int32))))] [(.int ((395 : Int32) + (p0 &&& (63 : Int32))))])
      obtain ⟨_, _, ⟨T5, L5, k5, n5⟩, -, X5, ⟨Lc5, hQ5, l5, y5, z5⟩, st5⟩ := Jvm.LawKit.callS X0 hx (y := y_0) hown (mvT hZ (ww0 hw)) (mvT hZ (ww1 hw)) (mvT hZ (ww2 hw)) (mvT hZ (ww3 hw)) (by decide) (backOf (W := 0) (rm_of l Z a0 hw [] w_FAILED w_DELIVERED w_REDIRECTED w_SERVER_ERROR w_PAYLOAD_TOO_LARGE w_TIMED_OUT w_UNAUTHORIZED w_BAD_REQUEST w_NOT_FOUND w_BUSY w_FORBIDDEN w_GONE ((395 : Int32) + (p0 &&& (63 : Int32))) h0 n0 (own_old_le O0) ST O0) hZ (ww3 hw) (ww2 hw) (by decide) (by decide)) (g := (mkF m 42 #[.val (.int p0), .val (.int p1), .val (.int (p1 &&& (3 : Int32))), .val (.int ((395 : Int32) + (p0 &&& (63 : Int32))))] [(.int ((395 : Int32) + (p0 &&& (63 : Int32))))])) rfl (by rw [hml]; rfl) (argsL := [(.int ((395 : Int32) + (p0 &&& (63 : Int32))))]) (rest := []) (lenOf pd_0 rfl) rfl (by show 2 * 0 + _ ≤ _; exact Nat.le_of_eq rfl) (hb hby at_42) (fun _ _ => ⟨rfl, e0, (by decide : 0 + 0 ≤ _), (by decide : 0 + 0 ≤ _)⟩)
      dsimp only [Pt.U, Pt.locs, Pt.cells, Pt.slots] at X5 l5 y5 z5 st5 hQ5
      subst l5 y5 z5
      obtain ⟨rfl, N5q, e5⟩ := hQ5
      have N5 := Fr.app N0 N5q
      refine step (fun t k => st5 t k) ?_
      show G T5 (mkF m 45 #[.val (.int p0), .val (.int p1), .val (.int (p1 &&& (3 : Int32))), .val (.int ((395 : Int32) + (p0 &&& (63 : Int32))))] [(.ref (f_of w_FAILED w_DELIVERED w_REDIRECTED w_SERVER_ERROR w_PAYLOAD_TOO_LARGE w_TIMED_OUT w_UNAUTHORIZED w_BAD_REQUEST w_NOT_FOUND w_BUSY w_FORBIDDEN w_GONE ((395 : Int32) + (p0 &&& (63 : Int32)))))])
      refine step (fun t k => XS.iloadN X5.here hx rfl (hb hby at_45) rfl k) ?_
      show G T5 (mkF m 46 #[.val (.int p0), .val (.int p1), .val (.int (p1 &&& (3 : Int32))), .val (.int ((395 : Int32) + (p0 &&& (63 : Int32))))] [(.int ((395 : Int32) + (p0 &&& (63 : Int32)))), (.ref (f_of w_FAILED w_DELIVERED w_REDIRECTED w_SERVER_ERROR w_PAYLOAD_TOO_LARGE w_TIMED_OUT w_UNAUTHORIZED w_BAD_REQUEST w_NOT_FOUND w_BUSY w_FORBIDDEN w_GONE ((395 : Int32) + (p0 &&& (63 : Int32)))))])
      obtain ⟨_, _, ⟨T6, L6, k6, n6⟩, -, X6, ⟨Lc6, hQ6, l6, y6, z6⟩, st6⟩ := Jvm.LawKit.callS X5 hx (y := y_2) hown (mvT hZ (ww6 hw)) (mvT hZ (ww7 hw)) (mvT hZ (ww8 hw)) (mvT hZ (ww9 hw)) (by decide) (backOf (W := 1) (rm_ex l Z a0 hw [] w_FAILED w_DELIVERED w_REDIRECTED w_SERVER_ERROR w_PAYLOAD_TOO_LARGE w_TIMED_OUT w_UNAUTHORIZED w_BAD_REQUEST w_NOT_FOUND w_BUSY w_FORBIDDEN w_GONE ((395 : Int32) + (p0 &&& (63 : Int32))) h0 n0 (own_old_le O0) ST O0) hZ (ww9 hw) (ww8 hw) (by decide) (by decide)) (g := (mkF m 46 #[.val (.int p0), .val (.int p1), .val (.int (p1 &&& (3 : Int32))), .val (.int ((395 : Int32) + (p0 &&& (63 : Int32))))] [(.int ((395 : Int32) + (p0 &&& (63 : Int32)))), (.ref (f_of w_FAILED w_DELIVERED w_REDIRECTED w_SERVER_ERROR w_PAYLOAD_TOO_LARGE w_TIMED_OUT w_UNAUTHORIZED w_BAD_REQUEST w_NOT_FOUND w_BUSY w_FORBIDDEN w_GONE ((395 : Int32) + (p0 &&& (63 : Int32)))))])) rfl (by rw [hml]; rfl) (argsL := [(.int ((395 : Int32) + (p0 &&& (63 : Int32))))]) (rest := [(.ref (f_of w_FAILED w_DELIVERED w_REDIRECTED w_SERVER_ERROR w_PAYLOAD_TOO_LARGE w_TIMED_OUT w_UNAUTHORIZED w_BAD_REQUEST w_NOT_FOUND w_BUSY w_FORBIDDEN w_GONE ((395 : Int32) + (p0 &&& (63 : Int32)))))]) (lenOf pd_0 rfl) rfl (by show 2 * 0 + _ ≤ _; exact Nat.le_of_eq rfl) (hb hby at_46) (fun _ _ => ⟨rfl, e5, (by decide : 0 + 0 ≤ _), (by decide : 0 + 0 ≤ _)⟩)
      dsimp only [Pt.U, Pt.locs, Pt.cells, Pt.slots] at X6 l6 y6 z6 st6 hQ6
      subst l6 y6 z6
      obtain ⟨rfl, N6q, e6⟩ := hQ6
      have N6 := Fr.app N5 N6q
      refine step (fun t k => st6 t k) ?_
      show G T6 (mkF m 49 #[.val (.int p0), .val (.int p1), .val (.int (p1 &&& (3 : Int32))), .val (.int ((395 : Int32) + (p0 &&& (63 : Int32))))] [(.ref (f_ex w_FAILED w_DELIVERED w_REDIRECTED w_SERVER_ERROR w_PAYLOAD_TOO_LARGE w_TIMED_OUT w_UNAUTHORIZED w_BAD_REQUEST w_NOT_FOUND w_BUSY w_FORBIDDEN w_GONE ((395 : Int32) + (p0 &&& (63 : Int32))))), (.ref (f_of w_FAILED w_DELIVERED w_REDIRECTED w_SERVER_ERROR w_PAYLOAD_TOO_LARGE w_TIMED_OUT w_UNAUTHORIZED w_BAD_REQUEST w_NOT_FOUND w_BUSY w_FORBIDDEN w_GONE ((395 : Int32) + (p0 &&& (63 : Int32)))))])
      refine step (fun t k => Jvm.RoadKit.acmp X6 hx rfl rfl rfl (pc0 := 49) (pc' := 52) (same := true) rfl (hb hby at_49) rfl (decide_eq_true (congrArg Value.ref (own_same w_FAILED w_DELIVERED w_REDIRECTED w_SERVER_ERROR w_PAYLOAD_TOO_LARGE w_TIMED_OUT w_UNAUTHORIZED w_BAD_REQUEST w_NOT_FOUND w_BUSY w_FORBIDDEN w_GONE _))) (by decide) (by decide) k) ?_
      show G T6 (mkF m 52 #[.val (.int p0), .val (.int p1), .val (.int (p1 &&& (3 : Int32))), .val (.int ((395 : Int32) + (p0 &&& (63 : Int32))))] [])
      refine step (fun t k => XS.iconst X6.here hx rfl (hb hby at_52) k) ?_
      show G T6 (mkF m 53 #[.val (.int p0), .val (.int p1), .val (.int (p1 &&& (3 : Int32))), .val (.int ((395 : Int32) + (p0 &&& (63 : Int32))))] [(.int 1)])
      refine step (fun t k => XS.goto X6.here hx rfl (pc0 := 53) (pc' := 57) rfl (hb hby at_53) (by decide) (by decide) k) ?_
      show G T6 (mkF m 57 #[.val (.int p0), .val (.int p1), .val (.int (p1 &&& (3 : Int32))), .val (.int ((395 : Int32) + (p0 &&& (63 : Int32))))] [(.int 1)])
      exact ret (v := some (.int 1)) X6 (fun h => by rw [Bd.returns] at h; cases h) (fun fs hr => retN X6 hx (t := .boolean) Bd.returns (by simp) (hb hby at_57) hr) e6 ⟨rfl, N6⟩ (by decide) (by decide)
    · skip
      refine step (fun t k => XS.icmpYes X0.here hx rfl (pc0 := 24) (pc' := 39) rfl (hb hby at_24) rfl (feq hc4).2 (by decide) (by decide) k) ?_
      show G s₁ (mkF m 39 #[.val (.int p0), .val (.int p1), .val (.int (p1 &&& (3 : Int32))), .unset] [])
      refine step (fun t k => XS.iloadN X0.here hx rfl (hb hby at_39) rfl k) ?_
      show G s₁ (mkF m 40 #[.val (.int p0), .val (.int p1), .val (.int (p1 &&& (3 : Int32))), .unset] [(.int p0)])
      refine step (fun t k => XS.istoreN X0.here hx rfl (hb hby at_40) rfl (l' := #[.val (.int p0), .val (.int p1), .val (.int (p1 &&& (3 : Int32))), .val (.int p0)]) rfl k) ?_
      show G s₁ (mkF m 41 #[.val (.int p0), .val (.int p1), .val (.int (p1 &&& (3 : Int32))), .val (.int p0)] [])
      refine step (fun t k => XS.iloadN X0.here hx rfl (hb hby at_41) rfl k) ?_
      show G s₁ (mkF m 42 #[.val (.int p0), .val (.int p1), .val (.int (p1 &&& (3 : Int32))), .val (.int p0)] [(.int p0)])
      obtain ⟨_, _, ⟨T7, L7, k7, n7⟩, -, X7, ⟨Lc7, hQ7, l7, y7, z7⟩, st7⟩ := Jvm.LawKit.callS X0 hx (y := y_0) hown (mvT hZ (ww0 hw)) (mvT hZ (ww1 hw)) (mvT hZ (ww2 hw)) (mvT hZ (ww3 hw)) (by decide) (backOf (W := 0) (rm_of l Z a0 hw [] w_FAILED w_DELIVERED w_REDIRECTED w_SERVER_ERROR w_PAYLOAD_TOO_LARGE w_TIMED_OUT w_UNAUTHORIZED w_BAD_REQUEST w_NOT_FOUND w_BUSY w_FORBIDDEN w_GONE p0 h0 n0 (own_old_le O0) ST O0) hZ (ww3 hw) (ww2 hw) (by decide) (by decide)) (g := (mkF m 42 #[.val (.int p0), .val (.int p1), .val (.int (p1 &&& (3 : Int32))), .val (.int p0)] [(.int p0)])) rfl (by rw [hml]; rfl) (argsL := [(.int p0)]) (rest := []) (lenOf pd_0 rfl) rfl (by show 2 * 0 + _ ≤ _; exact Nat.le_of_eq rfl) (hb hby at_42) (fun _ _ => ⟨rfl, e0, (by decide : 0 + 0 ≤ _), (by decide : 0 + 0 ≤ _)⟩)
      dsimp only [Pt.U, Pt.locs, Pt.cells, Pt.slots] at X7 l7 y7 z7 st7 hQ7
      subst l7 y7 z7
      obtain ⟨rfl, N7q, e7⟩ := hQ7
      have N7 := Fr.app N0 N7q
      refine step (fun t k => st7 t k) ?_
      show G T7 (mkF m 45 #[.val (.int p0), .val (.int p1), .val (.int (p1 &&& (3 : Int32))), .val (.int p0)] [(.ref (f_of w_FAILED w_DELIVERED w_REDIRECTED w_SERVER_ERROR w_PAYLOAD_TOO_LARGE w_TIMED_OUT w_UNAUTHORIZED w_BAD_REQUEST w_NOT_FOUND w_BUSY w_FORBIDDEN w_GONE p0))])
      refine step (fun t k => XS.iloadN X7.here hx rfl (hb hby at_45) rfl k) ?_
      show G T7 (mkF m 46 #[.val (.int p0), .val (.int p1), .val (.int (p1 &&& (3 : Int32))), .val (.int p0)] [(.int p0), (.ref (f_of w_FAILED w_DELIVERED w_REDIRECTED w_SERVER_ERROR w_PAYLOAD_TOO_LARGE w_TIMED_OUT w_UNAUTHORIZED w_BAD_REQUEST w_NOT_FOUND w_BUSY w_FORBIDDEN w_GONE p0))])
      obtain ⟨_, _, ⟨T8, L8, k8, n8⟩, -, X8, ⟨Lc8, hQ8, l8, y8, z8⟩, st8⟩ := Jvm.LawKit.callS X7 hx (y := y_2) hown (mvT hZ (ww6 hw)) (mvT hZ (ww7 hw)) (mvT hZ (ww8 hw)) (mvT hZ (ww9 hw)) (by decide) (backOf (W := 1) (rm_ex l Z a0 hw [] w_FAILED w_DELIVERED w_REDIRECTED w_SERVER_ERROR w_PAYLOAD_TOO_LARGE w_TIMED_OUT w_UNAUTHORIZED w_BAD_REQUEST w_NOT_FOUND w_BUSY w_FORBIDDEN w_GONE p0 h0 n0 (own_old_le O0) ST O0) hZ (ww9 hw) (ww8 hw) (by decide) (by decide)) (g := (mkF m 46 #[.val (.int p0), .val (.int p1), .val (.int (p1 &&& (3 : Int32))), .val (.int p0)] [(.int p0), (.ref (f_of w_FAILED w_DELIVERED w_REDIRECTED w_SERVER_ERROR w_PAYLOAD_TOO_LARGE w_TIMED_OUT w_UNAUTHORIZED w_BAD_REQUEST w_NOT_FOUND w_BUSY w_FORBIDDEN w_GONE p0))])) rfl (by rw [hml]; rfl) (argsL := [(.int p0)]) (rest := [(.ref (f_of w_FAILED w_DELIVERED w_REDIRECTED w_SERVER_ERROR w_PAYLOAD_TOO_LARGE w_TIMED_OUT w_UNAUTHORIZED w_BAD_REQUEST w_NOT_FOUND w_BUSY w_FORBIDDEN w_GONE p0))]) (lenOf pd_0 rfl) rfl (by show 2 * 0 + _ ≤ _; exact Nat.le_of_eq rfl) (hb hby at_46) (fun _ _ => ⟨rfl, e7, (by decide : 0 + 0 ≤ _), (by decide : 0 + 0 ≤ _)⟩)
      dsimp only [Pt.U, Pt.locs, Pt.cells, Pt.slots] at X8 l8 y8 z8 st8 hQ8
      subst l8 y8 z8
      obtain ⟨rfl, N8q, e8⟩ := hQ8
      have N8 := Fr.app N7 N8q
      refine step (fun t k => st8 t k) ?_
      show G T8 (mkF m 49 #[.val (.int p0), .val (.int p1), .val (.int (p1 &&& (3 : Int32))), .val (.int p0)] [(.ref (f_ex w_FAILED w_DELIVERED w_REDIRECTED w_SERVER_ERROR w_PAYLOAD_TOO_LARGE w_TIMED_OUT w_UNAUTHORIZED w_BAD_REQUEST w_NOT_FOUND w_BUSY w_FORBIDDEN w_GONE p0)), (.ref (f_of w_FAILED w_DELIVERED w_REDIRECTED w_SERVER_ERROR w_PAYLOAD_TOO_LARGE w_TIMED_OUT w_UNAUTHORIZED w_BAD_REQUEST w_NOT_FOUND w_BUSY w_FORBIDDEN w_GONE p0))])
      refine step (fun t k => Jvm.RoadKit.acmp X8 hx rfl rfl rfl (pc0 := 49) (pc' := 52) (same := true) rfl (hb hby at_49) rfl (decide_eq_true (congrArg Value.ref (own_same w_FAILED w_DELIVERED w_REDIRECTED w_SERVER_ERROR w_PAYLOAD_TOO_LARGE w_TIMED_OUT w_UNAUTHORIZED w_BAD_REQUEST w_NOT_FOUND w_BUSY w_FORBIDDEN w_GONE _))) (by decide) (by decide) k) ?_
      show G T8 (mkF m 52 #[.val (.int p0), .val (.int p1), .val (.int (p1 &&& (3 : Int32))), .val (.int p0)] [])
      refine step (fun t k => XS.iconst X8.here hx rfl (hb hby at_52) k) ?_
      show G T8 (mkF m 53 #[.val (.int p0), .val (.int p1), .val (.int (p1 &&& (3 : Int32))), .val (.int p0)] [(.int 1)])
      refine step (fun t k => XS.goto X8.here hx rfl (pc0 := 53) (pc' := 57) rfl (hb hby at_53) (by decide) (by decide) k) ?_
      show G T8 (mkF m 57 #[.val (.int p0), .val (.int p1), .val (.int (p1 &&& (3 : Int32))), .val (.int p0)] [(.int 1)])
      exact ret (v := some (.int 1)) X8 (fun h => by rw [Bd.returns] at h; cases h) (fun fs hr => retN X8 hx (t := .boolean) Bd.returns (by simp) (hb hby at_57) hr) e8 ⟨rfl, N8⟩ (by decide) (by decide)
set_option maxRecDepth 65536 in
set_option maxHeartbeats 40000000 in
theorem comes_1 {Post : Tables → Env → Array Value → State → Outcome → State → Prop} (hpost : ∀ tb e args s v u, (limb_1_1.after args s (.returned v) u = true ∧ limb_1_2.after args s (.returned v) u = true ∧ True) → FrameEnd s (.returned v) u (Jvm.fieldLocs frame_1_writes args s ++ Jvm.arrayLocs frame_1_arrays args s ++ Jvm.staticLocs frame_1_statics s) 0 0 → Post tb e args s (.returned v) u) :
    ArmFor flags0 classFile x code maxLocals ret World_1 tables_1 room_1 Calls_1 rest_1 Pre_1 Post := by
  intro l hfl _ _ p e ha hc hk s m args below hf hA hF happ hP
  obtain ⟨hcalls, hrest, hpre⟩ := hP
  obtain ⟨-, -, -, hnamed, -, -, -, hat⟩ := (Spec.applies_iff hf).mp happ
  obtain ⟨hg, hn⟩ := and_e (Cond.before_iff.mp (show (Jvm.Cond.and given_1 narrow_1).before args s = true from hpre))
  obtain ⟨g1a, g1b⟩ := and_e hg
  obtain ⟨g2a, g2b⟩ := and_e g1b
  obtain ⟨w0, w1, rfl⟩ : ∃ w0 w1 : Value, args = #[w0, w1] := by
    have hs : args.size = 2 := by simpa [Cond.value, given_1] using g1a
    obtain ⟨L⟩ := args
    match L, hs with
    | [w0, w1], _ => exact ⟨w0, w1, rfl⟩
  have hw := fun d (hd : d ∈ tables_1) => atoms_spec (ws := Jvm.Cond.code x code maxLocals ret :: tables_1) hat d (List.mem_cons_of_mem _ hd)
  have hfit : Fit s := fun {y c} hc i hi => by
    obtain ⟨ha, rfl⟩ := Array.getElem?_eq_some_iff.mp hc
    have q := List.all_eq_true.mp ((Array.all_eq_true_iff_forall_mem.mp hF) _ (Array.getElem_mem ha)) i (List.mem_range.mpr hi)
    simpa [Array.getElem?_eq_getElem hi] using q
  obtain ⟨i0, ei0⟩ := is_v g2a
  obtain rfl : w0 = (.int i0) := Option.some.inj ei0
  obtain ⟨i1, ei1⟩ := is_v g2b
  obtain rfl : w1 = (.int i1) := Option.some.inj ei1
  obtain ⟨k1a, k1b⟩ := and_e hn
  obtain ⟨k2a, k2b⟩ := and_e k1b
  obtain ⟨k3a, k3b⟩ := and_e k2b
  obtain ⟨k4a, k4b⟩ := and_e k3b
  obtain ⟨k5a, k5b⟩ := and_e k4b
  obtain ⟨k6a, k6b⟩ := and_e k5b
  obtain ⟨k7a, k7b⟩ := and_e k6b
  obtain ⟨k8a, k8b⟩ := and_e k7b
  obtain ⟨k9a, k9b⟩ := and_e k8b
  obtain ⟨k10a, k10b⟩ := and_e k9b
  obtain ⟨k11a, k11b⟩ := and_e k10b
  obtain ⟨w_FAILED, ev_FAILED⟩ := exa_v k1a
  obtain ⟨w_DELIVERED, ev_DELIVERED⟩ := exa_v k2a
  obtain ⟨w_REDIRECTED, ev_REDIRECTED⟩ := exa_v k3a
  obtain ⟨w_SERVER_ERROR, ev_SERVER_ERROR⟩ := exa_v k4a
  obtain ⟨w_PAYLOAD_TOO_LARGE, ev_PAYLOAD_TOO_LARGE⟩ := exa_v k5a
  obtain ⟨w_TIMED_OUT, ev_TIMED_OUT⟩ := exa_v k6a
  obtain ⟨w_UNAUTHORIZED, ev_UNAUTHORIZED⟩ := exa_v k7a
  obtain ⟨w_BAD_REQUEST, ev_BAD_REQUEST⟩ := exa_v k8a
  obtain ⟨w_NOT_FOUND, ev_NOT_FOUND⟩ := exa_v k9a
  obtain ⟨w_BUSY, ev_BUSY⟩ := exa_v k10a
  obtain ⟨w_FORBIDDEN, ev_FORBIDDEN⟩ := exa_v k11a
  obtain ⟨w_GONE, ev_GONE⟩ := exa_v k11b
  obtain ⟨n, o, h1, h2, h3, _, L, rfl, ⟨rfl, N⟩, hq⟩ := rm_law l s _ hw tables_1 w_FAILED w_DELIVERED w_REDIRECTED w_SERVER_ERROR w_PAYLOAD_TOO_LARGE w_TIMED_OUT w_UNAUTHORIZED w_BAD_REQUEST w_NOT_FOUND w_BUSY w_FORBIDDEN w_GONE i0 i1 s.heap s.heap.size (Nat.le_refl _) ⟨Sta.start ev_FAILED (Or.inr ⟨(ww2 hw), (ww5 hw)⟩), Exa.start ev_FAILED k1a, Sta.start ev_DELIVERED (Or.inr ⟨(ww2 hw), (ww15 hw)⟩), Exa.start ev_DELIVERED k2a, Sta.start ev_REDIRECTED (Or.inr ⟨(ww2 hw), (ww18 hw)⟩), Exa.start ev_REDIRECTED k3a, Sta.start ev_SERVER_ERROR (Or.inr ⟨(ww2 hw), (ww21 hw)⟩), Exa.start ev_SERVER_ERROR k4a, Sta.start ev_PAYLOAD_TOO_LARGE (Or.inr ⟨(ww2 hw), (ww24 hw)⟩), Exa.start ev_PAYLOAD_TOO_LARGE k5a, Sta.start ev_TIMED_OUT (Or.inr ⟨(ww2 hw), (ww27 hw)⟩), Exa.start ev_TIMED_OUT k6a, Sta.start ev_UNAUTHORIZED (Or.inr ⟨(ww2 hw), (ww30 hw)⟩), Exa.start ev_UNAUTHORIZED k7a, Sta.start ev_BAD_REQUEST (Or.inr ⟨(ww2 hw), (ww33 hw)⟩), Exa.start ev_BAD_REQUEST k8a, Sta.start ev_NOT_FOUND (Or.inr ⟨(ww2 hw), (ww36 hw)⟩), Exa.start ev_NOT_FOUND k9a, Sta.start ev_BUSY (Or.inr ⟨(ww2 hw), (ww39 hw)⟩), Exa.start ev_BUSY k10a, Sta.start ev_FORBIDDEN (Or.inr ⟨(ww2 hw), (ww42 hw)⟩), Exa.start ev_FORBIDDEN k11a, Sta.start ev_GONE (Or.inr ⟨(ww2 hw), (ww45 hw)⟩), Exa.start ev_GONE k11b⟩ (Old.start s)  p e ha hc hk s m _ below hf ((Spec.applies_iff_loose hf).mp happ).1 ⟨rfl, State.Warmed39.refl s, rfl⟩ trivial
  refine ⟨n, _, h1, h2, h3, hpost _ _ _ _ _ _ ⟨Cond.after_iff.mpr rfl, Cond.after_iff.mpr (eq_i res_at (Term.int_eval (1)) rfl), trivial⟩ ⟨hq.1, hq.2.1, (hq.2.2.sift fun y hy => Or.inr (N y hy)).mono (by decide) (by decide)⟩⟩
theorem main_1_1 : Claimed_1_1 := comes_1 fun _ _ _ _ _ _ h hF => ⟨h.1, hF⟩
theorem main_1_2 : Claimed_1_2 := comes_1 fun _ _ _ _ _ _ h hF => ⟨h.2.1, hF⟩
end Jvm.Pilot.@@N@@
namespace Jvm.Pilot.@@N@@
open Jvm Jvm.ClassFile Sem Op Lib Jvm.Free Jvm.Stand Jvm.Pilot.@@N@@.Jvm.D
/-! MADE BY PROGRAM (witnessworld.py) out of the Statement's table words and the real class files: 13 classes; the members and pool entries that the words name. The judged class is class 1, her method 3. -/
namespace start1
open Jvm.ClassFile
def u (s : String) : CpInfo := .utf8 (stringToUtf16 s)
/-- a pool by its gaps: so many unusable entries, then the entry; so many at the end -/
def gap : Nat → List CpInfo → List CpInfo
  | 0, r => r
  | n + 1, r => .unusable :: gap n r
def poolList (es : List (Nat × CpInfo)) (last : Nat) : List CpInfo := es.foldr (fun e r => gap e.1 (e.2 :: r)) (gap last [])
def pool (es : List (Nat × CpInfo)) (last : Nat) : Array CpInfo := ⟨poolList es last⟩
def fileOf (pool : Array CpInfo) (this : Nat) (attrs : Array Attribute := #[]) (ms : Array MethodInfo := #[]) (fl : Nat := 33) (sup : Nat := 0) (ifs : Array Nat := #[]) (fds : Array FieldInfo := #[]) : ClassFile where
  minorVersion := 0
  majorVersion := 65
  constantPool := pool
  accessFlags := fl
  thisClass := this
  superClass := sup
  interfaces := ifs
  fields := fds
  methods := ms
  attributes := attrs
def plain (name : String) (sup : Option ClassId) : Class where
  name := name
  kind := .ordinary
  loader := none
  accessFlags := 33
  super := sup
  interfaces := #[]
  cf := none
  fields := #[]
  methods := #[]
  instanceTypes := #[]
  staticTypes := #[]
  resolved := #[]
  callSites := []
  init := .initialized
  statics := none
  mirror := none

def pool0 : Array CpInfo := pool [(5, u "<init>"), (0, u "()V"), (1, .class_ 10), (1, u "java/lang/Object")] 113

def k0m0 : Method := { name := "<init>", desc := "()V", sig := { parameters := [], returnType := none }, accessFlags := 1, code := none }
/-- java/lang/Object -/
def k0 : Class := { plain "java/lang/Object" none with
  accessFlags := 33
  interfaces := #[]
  cf := some (fileOf pool0 8 #[] #[{ accessFlags := 1, nameIndex := 5, descriptorIndex := 6, attributes := #[] }] 33 0 #[] #[])
  fields := #[]
  methods := #[k0m0]
  instanceTypes := #[]
  staticTypes := #[]
  resolved := Array.replicate 124 none
  statics := none }

def pool1 : Array CpInfo := pool [(2, .class_ 4), (1, u "java/lang/Object"), (0, u "<init>"), (0, u "()V"), (0, .fieldref 8 9), (0, .class_ 10), (0, .nameAndType 11 12), (0, u "com/example/redeliver/redeliver/core/Outcome"), (0, u "BAD_REQUEST"), (0, u "Lcom/example/redeliver/redeliver/core/Outcome;"), (0, .fieldref 8 14), (0, .nameAndType 15 12), (0, u "UNAUTHORIZED"), (0, .fieldref 8 17), (0, .nameAndType 18 12), (0, u "FORBIDDEN"), (0, .fieldref 8 20), (0, .nameAndType 21 12), (0, u "NOT_FOUND"), (0, .fieldref 8 23), (0, .nameAndType 24 12), (0, u "TIMED_OUT"), (0, .fieldref 8 26), (0, .nameAndType 27 12), (0, u "GONE"), (0, .fieldref 8 29), (0, .nameAndType 30 12), (0, u "PAYLOAD_TOO_LARGE"), (0, .fieldref 8 32), (0, .nameAndType 33 12), (0, u "BUSY"), (0, .fieldref 8 35), (0, .nameAndType 36 12), (0, u "FAILED"), (0, .fieldref 8 38), (0, .nameAndType 39 12), (0, u "DELIVERED"), (0, .fieldref 8 41), (0, .nameAndType 42 12), (0, u "REDIRECTED"), (0, .methodref 44 45), (0, .class_ 46), (0, .nameAndType 47 48), (0, u "com/example/redeliver/redeliver/core/OutcomeOfStatusPinLaw"), (0, u "fourHundreds"), (0, u "(I)Lcom/example/redeliver/redeliver/core/Outcome;"), (0, .fieldref 8 50), (0, .nameAndType 51 12), (0, u "SERVER_ERROR"), (0, .methodref 8 53), (0, .nameAndType 54 48), (0, u "ofStatus"), (0, .methodref 44 56), (0, .nameAndType 57 48), (0, u "expected"), (3, u "law"), (0, u "(II)Z")] 2

def k1m0 : Method := { name := "<init>", desc := "()V", sig := { parameters := [], returnType := none }, accessFlags := 1, code := none }
def k1c1 : Code := { maxStack := 2, maxLocals := 1, code := method_2_code, exceptionTable := #[], attributes := #[] }
def k1m1 : Method := { name := "fourHundreds", desc := "(I)Lcom/example/redeliver/redeliver/core/Outcome;", sig := { parameters := [.int], returnType := some (.object "com/example/redeliver/redeliver/core/Outcome") }, accessFlags := 10, code := some k1c1 }
def k1c2 : Code := { maxStack := 2, maxLocals := 3, code := method_3_code, exceptionTable := #[], attributes := #[] }
def k1m2 : Method := { name := "expected", desc := "(I)Lcom/example/redeliver/redeliver/core/Outcome;", sig := { parameters := [.int], returnType := some (.object "com/example/redeliver/redeliver/core/Outcome") }, accessFlags := 10, code := some k1c2 }
def k1c3 : Code := { maxStack := 3, maxLocals := 4, code := code, exceptionTable := #[], attributes := #[] }
def k1m3 : Method := { name := "law", desc := "(II)Z", sig := { parameters := [.int, .int], returnType := some .boolean }, accessFlags := 9, code := some k1c3 }
/-- com/example/redeliver/redeliver/core/OutcomeOfStatusPinLaw -/
def k1 : Class := { plain "com/example/redeliver/redeliver/core/OutcomeOfStatusPinLaw" (some 0) with
  accessFlags := 49
  interfaces := #[]
  cf := some (fileOf pool1 44 #[] #[{ accessFlags := 1, nameIndex := 5, descriptorIndex := 6, attributes := #[] }, { accessFlags := 10, nameIndex := 47, descriptorIndex := 48, attributes := #[] }, { accessFlags := 10, nameIndex := 57, descriptorIndex := 48, attributes := #[] }, { accessFlags := 9, nameIndex := 61, descriptorIndex := 62, attributes := #[] }] 49 2 #[] #[])
  fields := #[]
  methods := #[k1m0, k1m1, k1m2, k1m3]
  instanceTypes := #[]
  staticTypes := #[]
  resolved := Array.replicate 65 none
  statics := none }

def pool2 : Array CpInfo := pool [(1, .class_ 2), (0, u "java/lang/constant/Constable"), (0, .class_ 4), (0, u "java/lang/Object")] 6

/-- java/lang/constant/Constable -/
def k2 : Class := { plain "java/lang/constant/Constable" (some 0) with
  accessFlags := 1537
  interfaces := #[]
  cf := some (fileOf pool2 1 #[] #[] 1537 3 #[] #[])
  fields := #[]
  methods := #[]
  instanceTypes := #[]
  staticTypes := #[]
  resolved := Array.replicate 11 none
  statics := none }

def pool3 : Array CpInfo := pool [(1, .class_ 2), (0, u "java/lang/Comparable"), (0, .class_ 4), (0, u "java/lang/Object")] 7

/-- java/lang/Comparable -/
def k3 : Class := { plain "java/lang/Comparable" (some 0) with
  accessFlags := 1537
  interfaces := #[]
  cf := some (fileOf pool3 1 #[] #[] 1537 3 #[] #[])
  fields := #[]
  methods := #[]
  instanceTypes := #[]
  staticTypes := #[]
  resolved := Array.replicate 12 none
  statics := none }

def pool4 : Array CpInfo := pool [(1, .class_ 2), (0, u "java/io/Serializable"), (0, .class_ 4), (0, u "java/lang/Object")] 2

/-- java/io/Serializable -/
def k4 : Class := { plain "java/io/Serializable" (some 0) with
  accessFlags := 1537
  interfaces := #[]
  cf := some (fileOf pool4 1 #[] #[] 1537 3 #[] #[])
  fields := #[]
  methods := #[]
  instanceTypes := #[]
  staticTypes := #[]
  resolved := Array.replicate 7 none
  statics := none }

def pool5 : Array CpInfo := pool [(2, .class_ 4), (1, u "java/lang/Enum"), (0, u "name"), (0, u "Ljava/lang/String;"), (2, u "ordinal"), (0, u "I"), (1, .class_ 14), (1, u "java/lang/Object"), (4, u "hash"), (86, .class_ 108), (1, u "java/lang/Enum$EnumDesc"), (2, .class_ 112), (0, u "java/lang/constant/Constable"), (0, .class_ 114), (0, u "java/lang/Comparable"), (0, .class_ 116), (0, u "java/io/Serializable")] 87

/-- java/lang/Enum -/
def k5 : Class := { plain "java/lang/Enum" (some 0) with
  accessFlags := 1057
  interfaces := #[2, 3, 4]
  cf := some (fileOf pool5 2 #[.nestMembers #[106]] #[] 1057 12 #[111, 113, 115] #[{ accessFlags := 18, nameIndex := 5, descriptorIndex := 6, attributes := #[] }, { accessFlags := 18, nameIndex := 9, descriptorIndex := 10, attributes := #[] }, { accessFlags := 2, nameIndex := 19, descriptorIndex := 10, attributes := #[] }])
  fields := #[{ name := "name", type := (.object "java/lang/String"), accessFlags := 18, slot := 0, constantValue := 0 }, { name := "ordinal", type := .int, accessFlags := 18, slot := 1, constantValue := 0 }, { name := "hash", type := .int, accessFlags := 2, slot := 2, constantValue := 0 }]
  methods := #[]
  instanceTypes := #[(.object "java/lang/String"), .int, .int]
  staticTypes := #[]
  resolved := Array.replicate 204 none
  statics := none }

def pool6 : Array CpInfo := pool [(9, .class_ 10), (0, u "com/example/redeliver/redeliver/core/Worded"), (23, .class_ 35), (0, u "java/lang/Object")] 24

/-- com/example/redeliver/redeliver/core/Worded -/
def k6 : Class := { plain "com/example/redeliver/redeliver/core/Worded" (some 0) with
  accessFlags := 1537
  interfaces := #[]
  cf := some (fileOf pool6 9 #[] #[] 1537 34 #[] #[])
  fields := #[]
  methods := #[]
  instanceTypes := #[]
  staticTypes := #[]
  resolved := Array.replicate 60 none
  statics := none }

def pool7 : Array CpInfo := pool [(1, .class_ 2), (0, u "com/example/redeliver/redeliver/core/Outcome"), (0, .fieldref 1 4), (0, .nameAndType 5 6), (0, u "DELIVERED"), (0, u "Lcom/example/redeliver/redeliver/core/Outcome;"), (0, .fieldref 1 8), (0, .nameAndType 9 6), (0, u "BAD_REQUEST"), (0, .fieldref 1 11), (0, .nameAndType 12 6), (0, u "UNAUTHORIZED"), (0, .fieldref 1 14), (0, .nameAndType 15 6), (0, u "FORBIDDEN"), (0, .fieldref 1 17), (0, .nameAndType 18 6), (0, u "NOT_FOUND"), (0, .fieldref 1 20), (0, .nameAndType 21 6), (0, u "GONE"), (0, .fieldref 1 23), (0, .nameAndType 24 6), (0, u "TIMED_OUT"), (0, .fieldref 1 26), (0, .nameAndType 27 6), (0, u "PAYLOAD_TOO_LARGE"), (0, .fieldref 1 29), (0, .nameAndType 30 6), (0, u "BUSY"), (0, .fieldref 1 32), (0, .nameAndType 33 6), (0, u "REDIRECTED"), (0, .fieldref 1 35), (0, .nameAndType 36 6), (0, u "SERVER_ERROR"), (0, .fieldref 1 38), (0, .nameAndType 39 6), (0, u "FAILED"), (2, u "SOCKET_ERROR"), (2, u "RESOLUTION_ERROR"), (2, u "PROBATION"), (2, u "$VALUES"), (0, u "[Lcom/example/redeliver/redeliver/core/Outcome;"), (6, .class_ 61), (1, u "java/lang/Enum"), (8, u "word"), (0, u "Ljava/lang/String;"), (1, .class_ 75), (1, u "com/example/redeliver/redeliver/core/Worded"), (65, u "ofStatus"), (0, u "(I)Lcom/example/redeliver/redeliver/core/Outcome;")] 8

def k7c0 : Code := { maxStack := 2, maxLocals := 2, code := prog_8_method_6_code, exceptionTable := #[], attributes := #[] }
def k7m0 : Method := { name := "ofStatus", desc := "(I)Lcom/example/redeliver/redeliver/core/Outcome;", sig := { parameters := [.int], returnType := some (.object "com/example/redeliver/redeliver/core/Outcome") }, accessFlags := 9, code := some k7c0 }
/-- com/example/redeliver/redeliver/core/Outcome -/
def k7 : Class := { plain "com/example/redeliver/redeliver/core/Outcome" (some 5) with
  accessFlags := 16433
  interfaces := #[6]
  cf := some (fileOf pool7 1 #[] #[{ accessFlags := 9, nameIndex := 141, descriptorIndex := 142, attributes := #[] }] 16433 59 #[73] #[{ accessFlags := 16409, nameIndex := 5, descriptorIndex := 6, attributes := #[] }, { accessFlags := 16409, nameIndex := 9, descriptorIndex := 6, attributes := #[] }, { accessFlags := 16409, nameIndex := 12, descriptorIndex := 6, attributes := #[] }, { accessFlags := 16409, nameIndex := 15, descriptorIndex := 6, attributes := #[] }, { accessFlags := 16409, nameIndex := 18, descriptorIndex := 6, attributes := #[] }, { accessFlags := 16409, nameIndex := 21, descriptorIndex := 6, attributes := #[] }, { accessFlags := 16409, nameIndex := 24, descriptorIndex := 6, attributes := #[] }, { accessFlags := 16409, nameIndex := 27, descriptorIndex := 6, attributes := #[] }, { accessFlags := 16409, nameIndex := 30, descriptorIndex := 6, attributes := #[] }, { accessFlags := 16409, nameIndex := 33, descriptorIndex := 6, attributes := #[] }, { accessFlags := 16409, nameIndex := 36, descriptorIndex := 6, attributes := #[] }, { accessFlags := 16409, nameIndex := 39, descriptorIndex := 6, attributes := #[] }, { accessFlags := 16409, nameIndex := 42, descriptorIndex := 6, attributes := #[] }, { accessFlags := 16409, nameIndex := 45, descriptorIndex := 6, attributes := #[] }, { accessFlags := 16409, nameIndex := 48, descriptorIndex := 6, attributes := #[] }, { accessFlags := 18, nameIndex := 70, descriptorIndex := 71, attributes := #[] }, { accessFlags := 4122, nameIndex := 51, descriptorIndex := 52, attributes := #[] }])
  fields := #[{ name := "DELIVERED", type := (.object "com/example/redeliver/redeliver/core/Outcome"), accessFlags := 16409, slot := 0, constantValue := 0 }, { name := "BAD_REQUEST", type := (.object "com/example/redeliver/redeliver/core/Outcome"), accessFlags := 16409, slot := 1, constantValue := 0 }, { name := "UNAUTHORIZED", type := (.object "com/example/redeliver/redeliver/core/Outcome"), accessFlags := 16409, slot := 2, constantValue := 0 }, { name := "FORBIDDEN", type := (.object "com/example/redeliver/redeliver/core/Outcome"), accessFlags := 16409, slot := 3, constantValue := 0 }, { name := "NOT_FOUND", type := (.object "com/example/redeliver/redeliver/core/Outcome"), accessFlags := 16409, slot := 4, constantValue := 0 }, { name := "GONE", type := (.object "com/example/redeliver/redeliver/core/Outcome"), accessFlags := 16409, slot := 5, constantValue := 0 }, { name := "TIMED_OUT", type := (.object "com/example/redeliver/redeliver/core/Outcome"), accessFlags := 16409, slot := 6, constantValue := 0 }, { name := "PAYLOAD_TOO_LARGE", type := (.object "com/example/redeliver/redeliver/core/Outcome"), accessFlags := 16409, slot := 7, constantValue := 0 }, { name := "BUSY", type := (.object "com/example/redeliver/redeliver/core/Outcome"), accessFlags := 16409, slot := 8, constantValue := 0 }, { name := "REDIRECTED", type := (.object "com/example/redeliver/redeliver/core/Outcome"), accessFlags := 16409, slot := 9, constantValue := 0 }, { name := "SERVER_ERROR", type := (.object "com/example/redeliver/redeliver/core/Outcome"), accessFlags := 16409, slot := 10, constantValue := 0 }, { name := "FAILED", type := (.object "com/example/redeliver/redeliver/core/Outcome"), accessFlags := 16409, slot := 11, constantValue := 0 }, { name := "SOCKET_ERROR", type := (.object "com/example/redeliver/redeliver/core/Outcome"), accessFlags := 16409, slot := 12, constantValue := 0 }, { name := "RESOLUTION_ERROR", type := (.object "com/example/redeliver/redeliver/core/Outcome"), accessFlags := 16409, slot := 13, constantValue := 0 }, { name := "PROBATION", type := (.object "com/example/redeliver/redeliver/core/Outcome"), accessFlags := 16409, slot := 14, constantValue := 0 }, { name := "word", type := (.object "java/lang/String"), accessFlags := 18, slot := 3, constantValue := 0 }, { name := "$VALUES", type := (.array (.object "com/example/redeliver/redeliver/core/Outcome")), accessFlags := 4122, slot := 15, constantValue := 0 }]
  methods := #[k7m0]
  instanceTypes := #[(.object "java/lang/String"), .int, .int, (.object "java/lang/String")]
  staticTypes := #[(.object "com/example/redeliver/redeliver/core/Outcome"), (.object "com/example/redeliver/redeliver/core/Outcome"), (.object "com/example/redeliver/redeliver/core/Outcome"), (.object "com/example/redeliver/redeliver/core/Outcome"), (.object "com/example/redeliver/redeliver/core/Outcome"), (.object "com/example/redeliver/redeliver/core/Outcome"), (.object "com/example/redeliver/redeliver/core/Outcome"), (.object "com/example/redeliver/redeliver/core/Outcome"), (.object "com/example/redeliver/redeliver/core/Outcome"), (.object "com/example/redeliver/redeliver/core/Outcome"), (.object "com/example/redeliver/redeliver/core/Outcome"), (.object "com/example/redeliver/redeliver/core/Outcome"), (.object "com/example/redeliver/redeliver/core/Outcome"), (.object "com/example/redeliver/redeliver/core/Outcome"), (.object "com/example/redeliver/redeliver/core/Outcome"), (.array (.object "com/example/redeliver/redeliver/core/Outcome"))]
  resolved := Array.replicate 151 none
  statics := some 0 }

def pool8 : Array CpInfo := pool [(1, u "java/lang/Cloneable"), (0, .class_ 1), (0, u "java/lang/Object"), (0, .class_ 3)] 3

/-- java/lang/Cloneable -/
def k8 : Class := { plain "java/lang/Cloneable" (some 0) with
  accessFlags := 1537
  interfaces := #[]
  cf := some (fileOf pool8 2 #[] #[] 1537 4 #[] #[])
  fields := #[]
  methods := #[]
  instanceTypes := #[]
  staticTypes := #[]
  resolved := Array.replicate 8 none
  statics := none }

/-- the primitive byte -/
def k9 : Class := { plain "byte" none with kind := .primitive 'B', accessFlags := 0x411 }
/-- [B -/
def k10 : Class := { plain "[B" (some 0) with kind := .array 9 .byte, interfaces := #[8, 4], accessFlags := 1041 }

/-- the primitive int -/
def k11 : Class := { plain "int" none with kind := .primitive 'I', accessFlags := 0x411 }
/-- [I -/
def k12 : Class := { plain "[I" (some 0) with kind := .array 11 .int, interfaces := #[8, 4], accessFlags := 1041 }

def heap : Heap := #[{ cls := 7, slots := #[.ref 2, .ref 8, .ref 7, .ref 11, .ref 9, .ref 12, .ref 6, .ref 5, .ref 10, .ref 3, .ref 4, .ref 1, .null, .null, .null, .null], vm := .statics 7 },
  { cls := 7, slots := #[.null, .int 0, .int 0, .null], vm := .none },
  { cls := 7, slots := #[.null, .int 0, .int 0, .null], vm := .none },
  { cls := 7, slots := #[.null, .int 0, .int 0, .null], vm := .none },
  { cls := 7, slots := #[.null, .int 0, .int 0, .null], vm := .none },
  { cls := 7, slots := #[.null, .int 0, .int 0, .null], vm := .none },
  { cls := 7, slots := #[.null, .int 0, .int 0, .null], vm := .none },
  { cls := 7, slots := #[.null, .int 0, .int 0, .null], vm := .none },
  { cls := 7, slots := #[.null, .int 0, .int 0, .null], vm := .none },
  { cls := 7, slots := #[.null, .int 0, .int 0, .null], vm := .none },
  { cls := 7, slots := #[.null, .int 0, .int 0, .null], vm := .none },
  { cls := 7, slots := #[.null, .int 0, .int 0, .null], vm := .none },
  { cls := 7, slots := #[.null, .int 0, .int 0, .null], vm := .none }]
def classes : Array Class := #[k0, k1, k2, k3, k4, k5, k6, k7, k8, k9, k10, k11, k12]
def interned : List (Array UInt16 × Addr) := []
def slotsUsed : Nat := 64
def theMethod : MethodId := ⟨1, 3⟩
def args0 : Array Value := #[.int 404, .int 1]
def aboutOver (below : List Frame) : State where
  vm := { classes := classes, interned := interned.toArray }
  heap := heap
  slotsUsed := slotsUsed
  threads := #[{ frames := .invoking theMethod args0 :: below }]
def below0 : List Frame := [.native { method := ⟨0, 0⟩, args := #[] }]
def about1 : State := aboutOver below0
def p0 : Program := .bare "" "" ""
def e0 : Env := launch0.env 0 0 0
theorem w_frames : about1.frames = Frame.invoking theMethod args0 :: below0 := rfl
set_option maxRecDepth 65536 in
theorem w_args : argsFit about1.vm theMethod args0 = true := by decide +kernel
set_option maxRecDepth 65536 in
theorem w_heap : heapFits about1 = true := by decide +kernel
set_option maxRecDepth 65536 in
theorem w_runnable : about1.curStatus? = some .runnable := by decide +kernel
set_option maxRecDepth 65536 in
theorem w_alone : about1.alone = true := by decide +kernel
set_option maxRecDepth 65536 in
theorem w_named : about1.methodNamed? x = some theMethod := by decide +kernel
set_option maxRecDepth 65536 in
theorem w_hears : about1.hears theMethod below0 = true := by decide +kernel
set_option maxRecDepth 65536 in
theorem w_ripe : about1.ripe theMethod args0 below0 = true := by decide +kernel
theorem w_running : about1.status = .running := rfl
set_option maxRecDepth 65536 in
theorem w_room : about1.hasRoom e0.platform room_1 = true :=
  launch0.hasRoom_least _ room_1 (by decide +kernel) (by decide +kernel) (by decide +kernel) (by decide +kernel) (by decide +kernel) (by decide +kernel)
theorem allAtoms_all (ts : List Jvm.Cond) (a : Array Jvm.Value) (st : Jvm.State) : (allAtoms ts).before a st = ts.all (fun c => c.before a st) := by
  induction ts with
  | nil => rfl
  | cons c t ih =>
    show (Jvm.Cond.and c (allAtoms t)).before a st = _
    rw [Jvm.Cond.before_and, ih, List.all_cons]
def words1 : List Jvm.Cond := Jvm.Cond.code x code maxLocals ret :: tables_1
/-- a 'code' word, met by the world's own term for the bytes: nothing is compared byte by byte -/
theorem code_word {y : MethodName} {bytes : ByteArray} {mx : Nat} {rt : Option FieldType} {a : Array Value} {s : State} {m : MethodId} {meth : Method} {c : Code} (h1 : s.methodNamed? y = some m) (h2 : s.vm.method? m = some meth) (h3 : meth.code = some c) (h4 : c.code = bytes)
    (h5 : (c.maxLocals == mx && c.exceptionTable.isEmpty && decide (c.maxStack ≤ mostOperands) && decide (meth.sig.returnType = rt) && !meth.locks && decide (parseMethodDescriptor y.desc = some meth.sig)) = true) : (Jvm.Cond.code y bytes mx rt).before a s = true := by
  simp only [Bool.and_eq_true, beq_iff_eq, Bool.not_eq_true', decide_eq_true_eq] at h5
  obtain ⟨⟨⟨⟨⟨g1, g2⟩, g3⟩, g4⟩, g5⟩, g6⟩ := h5
  simp [Cond.before, Cond.holds, Cond.value, h1, h2, h3, h4, g1, g2, g3, g4, g5, g6]
def isCode : Jvm.Cond → Bool
  | .code _ _ _ _ => true
  | _ => false
theorem all_split {L : List Jvm.Cond} {P : Jvm.Cond → Bool} (h1 : L.all (fun c => isCode c || P c) = true) (h2 : ∀ c ∈ L.filter isCode, P c = true) : L.all P = true := by
  refine List.all_eq_true.mpr fun c hc => ?_
  have h := List.all_eq_true.mp h1 c hc
  rcases Bool.eq_false_or_eq_true (isCode c) with hi | hi
  · exact h2 c (List.mem_filter.mpr ⟨hc, hi⟩)
  · simpa [hi] using h
set_option maxRecDepth 65536 in
theorem w_c0 : (Jvm.Cond.code x code maxLocals ret).before args0 about1 = true := code_word (m := ⟨1, 3⟩) (meth := k1m3) (c := k1c3) (by decide +kernel) rfl rfl rfl (by decide +kernel)
set_option maxRecDepth 65536 in
theorem w_c1 : (Jvm.Cond.code ({ cls := "com/example/redeliver/redeliver/core/Outcome", name := "ofStatus", desc := "(I)Lcom/example/redeliver/redeliver/core/Outcome;" } : Jvm.MethodName) prog_8_method_6_code (2 : Nat) (Option.some (Jvm.ClassFile.FieldType.object "com/example/redeliver/redeliver/core/Outcome"))).before args0 about1 = true := code_word (m := ⟨7, 0⟩) (meth := k7m0) (c := k7c0) (by decide +kernel) rfl rfl rfl (by decide +kernel)
set_option maxRecDepth 65536 in
theorem w_c2 : (Jvm.Cond.code ({ cls := "com/example/redeliver/redeliver/core/OutcomeOfStatusPinLaw", name := "expected", desc := "(I)Lcom/example/redeliver/redeliver/core/Outcome;" } : Jvm.MethodName) method_3_code (3 : Nat) (Option.some (Jvm.ClassFile.FieldType.object "com/example/redeliver/redeliver/core/Outcome"))).before args0 about1 = true := code_word (m := ⟨1, 2⟩) (meth := k1m2) (c := k1c2) (by decide +kernel) rfl rfl rfl (by decide +kernel)
set_option maxRecDepth 65536 in
theorem w_c3 : (Jvm.Cond.code ({ cls := "com/example/redeliver/redeliver/core/OutcomeOfStatusPinLaw", name := "fourHundreds", desc := "(I)Lcom/example/redeliver/redeliver/core/Outcome;" } : Jvm.MethodName) method_2_code (1 : Nat) (Option.some (Jvm.ClassFile.FieldType.object "com/example/redeliver/redeliver/core/Outcome"))).before args0 about1 = true := code_word (m := ⟨1, 1⟩) (meth := k1m1) (c := k1c1) (by decide +kernel) rfl rfl rfl (by decide +kernel)
def codes1 : List Jvm.Cond := [Jvm.Cond.code x code maxLocals ret, Jvm.Cond.code ({ cls := "com/example/redeliver/redeliver/core/Outcome", name := "ofStatus", desc := "(I)Lcom/example/redeliver/redeliver/core/Outcome;" } : Jvm.MethodName) prog_8_method_6_code (2 : Nat) (Option.some (Jvm.ClassFile.FieldType.object "com/example/redeliver/redeliver/core/Outcome")), Jvm.Cond.code ({ cls := "com/example/redeliver/redeliver/core/OutcomeOfStatusPinLaw", name := "expected", desc := "(I)Lcom/example/redeliver/redeliver/core/Outcome;" } : Jvm.MethodName) method_3_code (3 : Nat) (Option.some (Jvm.ClassFile.FieldType.object "com/example/redeliver/redeliver/core/Outcome")), Jvm.Cond.code ({ cls := "com/example/redeliver/redeliver/core/OutcomeOfStatusPinLaw", name := "fourHundreds", desc := "(I)Lcom/example/redeliver/redeliver/core/Outcome;" } : Jvm.MethodName) method_2_code (1 : Nat) (Option.some (Jvm.ClassFile.FieldType.object "com/example/redeliver/redeliver/core/Outcome"))]
set_option maxRecDepth 65536 in
theorem codes_eq : words1.filter isCode = codes1 := rfl
theorem w_codes : ∀ c ∈ words1.filter isCode, c.before args0 about1 = true := by
  rw [codes_eq]
  intro c hc
  simp only [codes1, List.mem_cons, List.not_mem_nil, or_false] at hc
  rcases hc with rfl | rfl | rfl | rfl
  · exact w_c0
  · exact w_c1
  · exact w_c2
  · exact w_c3
set_option maxRecDepth 65536 in
theorem w_t1 : (words1.take 24).all (fun c => isCode c || c.before args0 about1) = true := by decide +kernel
set_option maxRecDepth 65536 in
theorem w_t2 : (words1.drop 24).all (fun c => isCode c || c.before args0 about1) = true := by decide +kernel
theorem w_tables : (allAtoms (Jvm.Cond.code x code maxLocals ret :: tables_1)).before args0 about1 = true := by
  rw [allAtoms_all]
  show words1.all (fun c => c.before args0 about1) = true
  refine all_split ?_ w_codes
  rw [← List.take_append_drop 24 words1, List.all_append, w_t1, w_t2]
  rfl
set_option maxRecDepth 65536 in
theorem w_case : (Jvm.Cond.and given_1 narrow_1).before args0 about1 = true := by decide +kernel
theorem w_applies : (headSpec (Jvm.Cond.code x code maxLocals ret :: tables_1) room_1).applies x e0.platform about1 = true :=
  (Spec.applies_iff w_frames).mpr ⟨w_running, w_runnable, w_alone, w_named, w_hears, w_ripe, w_room, w_tables⟩
theorem atStart : AtStart classFile x code maxLocals ret World_1 tables_1 room_1 Calls_1 rest_1 Pre_1 launch0 p0 e0 about1 theMethod args0 below0 :=
  ⟨lists_1, trivial, launch0.admits_env _ _ _, launch0.least_env, fairChoices_fair.cas, fairChoices_fair.clock, w_frames, w_args, w_heap, w_applies, trivial, trivial, w_case⟩
end start1
theorem witness_1 : WitnessClaimed_1 := ⟨start1.p0, start1.e0, start1.about1, start1.theMethod, start1.args0, start1.below0, start1.atStart⟩
end Jvm.Pilot.@@N@@
