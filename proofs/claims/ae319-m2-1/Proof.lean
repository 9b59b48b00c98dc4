import JvmDerived
import JvmDerived.Pilot.@@N@@Statement
import JvmDerived.Pilot.@@N@@Code
set_option linter.unusedVariables false
set_option linter.unusedSimpArgs false
namespace Jvm.RoadKit
open Sem ClassFile Op Lib Jvm.Stand Jvm.Free Jvm.LawKit
section New
variable {p : Program} {l : Launch} {e : Env} {R : Room} {s : State} {m : MethodId} {args : Array Value} {below : List Frame} {meth : Method} {c : Code} {T : State} {locs : List Loc} {cells slots : Nat}
theorem retI (X : Stand p l e R s m args below meth c T locs cells slots) (hx : p.tables.exec = Jvm.exec) {pc : Nat} {Ls : Array Slot} {z : Int32} {rest : List Value} (hret : meth.sig.returnType = some .int) (hd : decode c.code pc = .ok (.ireturn, 1)) {fs : List Frame}
    (hl : ∀ (f : JFrame) (acts : List Action), f.method = m → f.locked = none → f.entered = [] → (doReturn e (T.setTop f) acts (some (.int z))).1 = T.setFrames fs) : Steps p.tables e below (T.setTop (mkF m pc Ls (.int z :: rest))) (T.setFrames fs) :=
  retOut X hx hret rfl (Or.inl ⟨rfl, Or.inl rfl, z, rfl⟩) hd hl
theorem retL (X : Stand p l e R s m args below meth c T locs cells slots) (hx : p.tables.exec = Jvm.exec) {pc : Nat} {Ls : Array Slot} {z : Int64} {rest : List Value} (hret : meth.sig.returnType = some .long) (hd : decode c.code pc = .ok (.lreturn, 1)) {fs : List Frame}
    (hl : ∀ (f : JFrame) (acts : List Action), f.method = m → f.locked = none → f.entered = [] → (doReturn e (T.setTop f) acts (some (.long z))).1 = T.setFrames fs) : Steps p.tables e below (T.setTop (mkF m pc Ls (.long z :: rest))) (T.setFrames fs) :=
  retOut X hx hret rfl (Or.inr (Or.inl ⟨rfl, rfl, z, rfl⟩)) hd hl
theorem own_retD (X : Stand p l e R s m args below meth c T locs cells slots) (hx : p.tables.exec = Jvm.exec) {pc : Nat} {Ls : Array Slot} {z : UInt64} {rest : List Value} (hret : meth.sig.returnType = some .double) (hd : decode c.code pc = .ok (.dreturn, 1)) {fs : List Frame}
    (hl : ∀ (f : JFrame) (acts : List Action), f.method = m → f.locked = none → f.entered = [] → (doReturn e (T.setTop f) acts (some (.double z))).1 = T.setFrames fs) : Steps p.tables e below (T.setTop (mkF m pc Ls (.double z :: rest))) (T.setFrames fs) :=
  retOut X hx hret rfl (Or.inr (Or.inr (Or.inl ⟨rfl, rfl, z, rfl⟩))) hd hl
theorem own_nar {t : FieldType} {w : Value} (ht : t.isReference = true) (hw : w.isRef = true) : narrow t w = w := by
  cases t <;> first | (cases ht; done) | (cases w <;> first | rfl | (cases hw; done))
theorem retA (X : Stand p l e R s m args below meth c T locs cells slots) (hx : p.tables.exec = Jvm.exec) {pc : Nat} {Ls : Array Slot} {w : Value} {t : FieldType} {rest : List Value} (hret : meth.sig.returnType = some t) (ht : t.isReference = true) (hw : w.isRef = true) (hd : decode c.code pc = .ok (.areturn, 1)) {fs : List Frame}
    (hl : ∀ (f : JFrame) (acts : List Action), f.method = m → f.locked = none → f.entered = [] → (doReturn e (T.setTop f) acts (some w)).1 = T.setFrames fs) : Steps p.tables e below (T.setTop (mkF m pc Ls (w :: rest))) (T.setFrames fs) :=
  retOut X hx hret (own_nar ht hw) (Or.inr (Or.inr (Or.inr (Or.inr ⟨rfl, ht, hw⟩)))) hd hl
/-- the rest of a walk, as a predicate on where it stands -/
theorem own_open (K N : Nat) (Q : Option Value → Heap → List Loc → Prop) (hlocks : meth.locks = false) :
    ∃ G : State → JFrame → Prop,
      (∀ {T T' : State} {g g' : JFrame}, (∀ t, Steps p.tables e below (T'.setTop g') t → Steps p.tables e below (T.setTop g) t) → G T' g' → G T g) ∧
      (∀ {T : State} {g : JFrame} {locs : List Loc} {cells slots : Nat} {v : Option Value} {h : Heap}, Stand p l e R s m args below meth c T locs cells slots → (meth.sig.returnType = none → v = none) →
        (∀ fs, (∀ (f : JFrame) (acts : List Action), f.method = m → f.locked = none → f.entered = [] → (doReturn e (T.setTop f) acts v).1 = T.setFrames fs) → Steps p.tables e below (T.setTop g) (T.setFrames fs)) → T.heap = h → Q v h locs → cells ≤ K → slots ≤ N → G T g) ∧
      (∀ {T : State} {g : JFrame}, G T g → ∃ t o, Steps p.tables e below (T.setTop g) t ∧ t.status = .running ∧ Ended t below o ∧ ∃ v L, o = .returned v ∧ Q v t.heap L ∧ FrameEnd s o t L K N) := by
  refine ⟨fun T g => ∃ t o, Steps p.tables e below (T.setTop g) t ∧ t.status = .running ∧ Ended t below o ∧ ∃ v L, o = .returned v ∧ Q v t.heap L ∧ FrameEnd s o t L K N, ?_, ?_, fun h => h⟩
  · intro T T' g g' hs hG
    obtain ⟨t, o, h1, h2⟩ := hG
    exact ⟨t, o, hs t h1, h2⟩
  · intro T g locs cells slots v h X hv hst hT hQ hk hn
    obtain ⟨fs, hr, hrun, hended, hW, hsame⟩ := X.leave hv hlocks
    exact ⟨_, _, hst fs hr, hrun, hended, v, locs, rfl, by show Q v T.heap locs; rw [hT]; exact hQ, ⟨_, rfl⟩, hW, hsame.mono hk hn⟩
theorem own_openW (K N : Nat) (Q : Option Value → Heap → List Loc → Prop) (hlocks : meth.locks = false) :
    ∃ G : State → JFrame → Prop,
      (∀ {T T' : State} {g g' : JFrame}, (∀ t, Steps p.tables e below (T'.setTop g') t → Steps p.tables e below (T.setTop g) t) → G T' g' → G T g) ∧
      (∀ {T : State} {g : JFrame} {locs : List Loc} {cells slots : Nat} {v : Option Value} {h : Heap} {vm0 : Vm} {k0 : Nat}, Stand p l e R (s.setVm vm0) m args below meth c T locs cells slots → s.Since vm0 k0 → k0 ≤ h.size → (meth.sig.returnType = none → v = none) →
        (∀ fs, (∀ (f : JFrame) (acts : List Action), f.method = m → f.locked = none → f.entered = [] → (doReturn e (T.setTop f) acts v).1 = T.setFrames fs) → Steps p.tables e below (T.setTop g) (T.setFrames fs)) → T.heap = h → Q v h locs → cells ≤ K → slots ≤ N → G T g) ∧
      (∀ {T : State} {g : JFrame}, G T g → ∃ t o, Steps p.tables e below (T.setTop g) t ∧ t.status = .running ∧ Ended t below o ∧ ∃ v L, o = .returned v ∧ Q v t.heap L ∧ ReturnedEndW s o t L K N) := by
  refine ⟨fun T g => ∃ t o, Steps p.tables e below (T.setTop g) t ∧ t.status = .running ∧ Ended t below o ∧ ∃ v L, o = .returned v ∧ Q v t.heap L ∧ ReturnedEndW s o t L K N, ?_, ?_, fun h => h⟩
  · intro T T' g g' hs hG
    obtain ⟨t, o, h1, h2⟩ := hG
    exact ⟨t, o, hs t h1, h2⟩
  · intro T g locs cells slots v h vm0 k0 X hS hk0 hv hst hT hQ hk hn
    obtain ⟨fs, hr, hrun, hended, hW⟩ := X.leaveW hS (by rw [hT]; exact hk0) hv hlocks
    exact ⟨_, _, hst fs hr, hrun, hended, v, locs, rfl, by show Q v T.heap locs; rw [hT]; exact hQ, hW.1, hW.2.1, hW.2.2.1, hW.2.2.2.mono hk hn⟩
theorem own_sl (a : Array Slot) : ∃ z, z = a := ⟨_, rfl⟩
theorem own_xlt {x y : Int32} : x < y ↔ x.toInt < y.toInt := Int32.lt_iff_toInt_lt
theorem own_xeq {x y : Int32} : x = y ↔ x.toInt = y.toInt := Int32.toInt_inj.symm
theorem own_xltL {x y : Int64} : x < y ↔ x.toInt < y.toInt := Int64.lt_iff_toInt_lt
theorem own_xeqL {x y : Int64} : x = y ↔ x.toInt = y.toInt := Int64.toInt_inj.symm
theorem own_old_le {Z : State} {n0 : Nat} {h : Heap} (O : Old Z n0 h) : n0 ≤ h.size := O.1 ▸ O.2.1
theorem own_oldne {Z : State} {n0 : Nat} {h : Heap} {a b : Addr} (O : Old Z n0 h) (q : a < Z.heap.size) (r : n0 ≤ b) : a ≠ b := O.ne q r
theorem own_fldI {Z : State} {args : Array Value} {t : Term} {C f d : String} {a : Addr} {k : Int32} (ht : t.eval args Z none [] Z = some (.ref a)) (h : (Cond.eq (.field t C f d) (.int k)).value args Z none Z [] = some true) : Fld Z Z.heap a C f d (.int k) := by
  refine Fld.start ?_
  rw [← fld_at (C := C) (n := f) (dd := d) ht]
  obtain ⟨x, y, h1, h2, h3, h4⟩ := cmp_v (Or.inl h)
  have h5 : y = .int k := Option.some.inj (h2.symm.trans (Term.int_eval k))
  subst h5
  obtain ⟨z, rfl⟩ := h4
  have := gotT (P := z = k) (by simp [Cond.value, h1, h2]) h
  rw [h1, this]
theorem own_fldD {Z : State} {args : Array Value} {t : Term} {C f d : String} {a : Addr} {k : Int64} {b : UInt64} (hb : k.toUInt64 = b) (ht : t.eval args Z none [] Z = some (.ref a)) (h : (Cond.eq (.field t C f d) (.op1 .bitsD (.long k))).value args Z none Z [] = some true) : Fld Z Z.heap a C f d (.double b) := by
  refine Fld.start ?_
  rw [← fld_at (C := C) (n := f) (dd := d) ht]
  obtain ⟨x, y, h1, h2, h3, h4⟩ := cmp_v (Or.inl h)
  have h5 : y = .double k.toUInt64 := Option.some.inj (h2.symm.trans rfl)
  subst h5
  obtain ⟨z, rfl⟩ := h4
  have := gotT (P := z = k.toUInt64) (by simp [Cond.value, h1, h2]) h
  rw [h1, this, hb]
theorem own_dnn {a b : UInt64} (ha : Jvm.Free.Fl.NoNaN64 a) (hb : FP.Core.DFin b) (hz : ¬ FP.Core.DZero b) : Jvm.Free.Fl.NoNaN64 (FP.ddiv a b) := by
  refine Jvm.Free.Fl.val64_no.mpr fun q => ?_
  have q2 := (FP.Core.quotient_nan FP.Core.b64 _ _).mp ((FP.Core.val64_ddiv a b).symm.trans q)
  rcases q2 with h | h | ⟨s, t, h1, h2⟩ | ⟨s, t, q, r, h1, h2⟩
  · exact Jvm.Free.Fl.val64_no.mp ha h
  · exact hb.ne_nan h
  · exact hb.ne_inf t h2
  · exact hz ⟨t, r, h2⟩
theorem own_i2dn (x : Int32) : Jvm.Free.Fl.NoNaN64 (FP.i2d x) := Jvm.Free.Fl.noNaN64_no.mpr (FP.Core.i2d_fin x).notNaN
theorem own_i2dz {x : Int32} (h : x ≠ 0) : ¬ FP.Core.DZero (FP.i2d x) := fun q => FP.Core.i2d_ne_zero h ((FP.Core.zero_bits2 _).mp q)
theorem own_and255 (x : Int32) : ¬ (x &&& (255 : Int32)) < 0 ∧ ¬ (255 : Int32) < (x &&& (255 : Int32)) := by
  have c1 := c_mask x (255 : Int32) 8 (by decide) (by decide)
  have q0 : (0 : Int32).toInt = 0 := by decide
  have q1 : (255 : Int32).toInt = 255 := by decide
  rw [own_xlt, own_xlt]
  omega
theorem own_l255 (x : Int64) : ¬ (x &&& (255 : Int64)).toInt32 < 0 ∧ ¬ (255 : Int32) < (x &&& (255 : Int64)).toInt32 := by
  have c1 := c_maskL x (255 : Int64) 8 (by decide) (by decide)
  have c2 := c_l2i (x &&& (255 : Int64))
  have r := rng32 (x &&& (255 : Int64)).toInt32
  have q0 : (0 : Int32).toInt = 0 := by decide
  have q1 : (255 : Int32).toInt = 255 := by decide
  rw [own_xlt, own_xlt]
  omega
theorem own_i2c {x : Int32} (h : ¬ x < 0 ∧ ¬ (255 : Int32) < x) : x.toUInt32.toUInt16.toUInt32.toInt32 = x := by
  have c1 := c_i2c x
  have q0 : (0 : Int32).toInt = 0 := by decide
  have q1 : (255 : Int32).toInt = 255 := by decide
  rw [own_xlt, own_xlt] at h
  rw [own_xeq]
  omega
theorem own_narc {x : Int32} (h : ¬ x < 0 ∧ ¬ (255 : Int32) < x) : nar .char x = x := own_i2c h
theorem own_nz {Z : State} {args : Array Value} {t : Term} {z : Int32} (ht : t.eval args Z none [] Z = some (.int z)) (h : (Cond.not (Cond.eq t (.int 0))).value args Z none Z [] = some true) : ¬ z = (0 : Int32) :=
  gotF (P := z = (0 : Int32)) (by simp [Cond.value, ht, Term.int_eval]) (not_v h)
theorem own_evI {Z : State} {args : Array Value} {u : Term} {k : Int32} (h : (Cond.eq u (.int k)).value args Z none Z [] = some true) : u.eval args Z none [] Z = some (.int k) := by
  obtain ⟨x, y, h1, h2, h3, h4⟩ := cmp_v (Or.inl h)
  have h5 : y = .int k := Option.some.inj (h2.symm.trans (Term.int_eval k))
  subst h5
  obtain ⟨z, rfl⟩ := h4
  have := gotT (P := z = k) (by simp [Cond.value, h1, h2]) h
  rw [h1, this]
theorem own_slotI {Z : State} {args : Array Value} {t : Term} {a : Addr} {i k : Int32} {cl : Cell} (ht : t.eval args Z none [] Z = some (.ref a)) (hc : Z.heap[a]? = some cl) (h : (Cond.eq (.elem t (.int i)) (.int k)).value args Z none Z [] = some true) : cl.slots[i.toNatClampNeg]? = some (.int k) :=
  (elem_in (own_evI h) ht (Term.int_eval i) hc).2
theorem own_lenI {Z : State} {args : Array Value} {t : Term} {a : Addr} {n : Int32} {cl : Cell} {ty : FieldType} (ht : t.eval args Z none [] Z = some (.ref a)) (A : Arr Z Z.heap a cl ty) (h : (Cond.eq (.length t) (.int n)).value args Z none Z [] = some true) : cl.slots.size < 2 ^ 31 ∧ cl.slots.size.toInt32 = n := by
  have hh := A.fin (Vm.Alike.refl _)
  have q := own_evI h
  simp only [Term.eval, ht, hh, Option.bind_eq_bind, Option.bind_some] at q
  split at q
  · rename_i hlt
    exact ⟨hlt, Value.int.inj (Option.some.inj q)⟩
  · cases q
theorem own_fldN {Z : State} {args : Array Value} {t : Term} {C f d : String} {a : Addr} (ht : t.eval args Z none [] Z = some (.ref a)) (h : (Cond.eq (.field t C f d) .null).value args Z none Z [] = some true) : Fld Z Z.heap a C f d .null := by
  refine Fld.start ?_
  rw [← fld_at (C := C) (n := f) (dd := d) ht]
  exact null_v h
theorem own_selpriv {Z s : State} {a0 args : Array Value} {y : MethodName} {n : Nat} (hZ : Z.Warmed39 s.vm) (wp : (Cond.privateMethod y).before a0 Z = true) (wi : (Cond.instanceMethod y).before a0 Z = true) (wk : (Cond.instantiable y.cls n).before a0 Z = true) (hy : y.cls ≠ "java/lang/invoke/MethodHandle" ∧ y.cls ≠ "java/lang/invoke/VarHandle") : (Cond.selects y.cls y y).before args s = true := by
  obtain ⟨c, k, h1, h2, -, h3, -⟩ := Cond.instantiable_spec (mv (s := s) (args := args) hZ wk)
  exact selects_self_of_private h1 h2 (Bool.or_eq_false_iff.mp h3).1 (Cond.privateMethod_at (mvP hZ wp (args := args))) (mv hZ wi) hy
theorem own_ne_arv {Z : State} {h : Heap} {a b : Addr} {C : String} {a0 : Array Value} {i : Nat} {k : ClassId} {ty : FieldType} {n : Int32} {vs : List Value} {dv : Value} (F : Exa Z h a C) (wi : (Cond.instantiable C i).before a0 Z = true) (V : Arv Z h b k ty n vs dv) : a ≠ b := by
  obtain ⟨cl, A, -⟩ := V
  exact ne_arr F wi A
theorem own_arr_keep {Z : State} {h h' : Heap} {a : Addr} {cl : Cell} {ty : FieldType} {ws : List Addr} (F : Arr Z h a cl ty) (K : Keep h h' ws) (q : a ∉ ws) : Arr Z h' a cl ty := ⟨K.2.1 a cl F.1 q, F.2⟩
section Arrays
variable {Z : State} {h : Heap} {a : Addr} {k : ClassId} {n : Int32} {vs : List Value} {dv : Value} {g : JFrame} {rest : List Value} {j : Int32} {v : Value}
theorem own_len {ty : FieldType} (X : Stand p l e R s m args below meth c T locs cells slots) (hx : p.tables.exec = Jvm.exec) (hZ : Z.Warmed39 s.vm) (eT : T.heap = h) (V : Arv Z h a k ty n vs dv) (hg : g.method = m) (hs : g.stack = .ref a :: rest) (hd : decode c.code g.pc = .ok (.arraylength, 1)) (target : State)
    (hr : Steps p.tables e below (T.setTop { g with pc := g.pc + 1, stack := .int n :: rest }) target) : Steps p.tables e below (T.setTop g) target := by
  obtain ⟨cl, A, -, S, N, -, -⟩ := V
  refine X.arraylength hx (by rw [eT]; exact A.1) (State.isArrayOf_alike hZ.alike A.2.1) hg hs hd target ?_
  rw [len_of S N]; exact hr
theorem own_ldI (X : Stand p l e R s m args below meth c T locs cells slots) (hx : p.tables.exec = Jvm.exec) (hZ : Z.Warmed39 s.vm) (eT : T.heap = h) (V : Arv Z h a k .int n vs dv) (hj : ¬ j < 0 ∧ j < n) (hv : vs.getD j.toNatClampNeg dv = v) (hg : g.method = m) (hs : g.stack = .int j :: .ref a :: rest) (hd : decode c.code g.pc = .ok (.iaload, 1)) (target : State)
    (hr : Steps p.tables e below (T.setTop { g with pc := g.pc + 1, stack := v :: rest }) target) : Steps p.tables e below (T.setTop g) target := by
  obtain ⟨cl, A, -, S, N, H, -⟩ := V
  have hin := inb_of S hj
  exact X.iaload hx (by rw [eT]; exact A.1) (State.isArrayOf_alike hZ.alike A.2.1) A.2.2 hin (H.at hin hv) hg hs hd target hr
theorem own_ldJ (X : Stand p l e R s m args below meth c T locs cells slots) (hx : p.tables.exec = Jvm.exec) (hZ : Z.Warmed39 s.vm) (eT : T.heap = h) (V : Arv Z h a k .long n vs dv) (hj : ¬ j < 0 ∧ j < n) (hv : vs.getD j.toNatClampNeg dv = v) (hg : g.method = m) (hs : g.stack = .int j :: .ref a :: rest) (hd : decode c.code g.pc = .ok (.laload, 1)) (target : State)
    (hr : Steps p.tables e below (T.setTop { g with pc := g.pc + 1, stack := v :: rest }) target) : Steps p.tables e below (T.setTop g) target := by
  obtain ⟨cl, A, -, S, N, H, -⟩ := V
  have hin := inb_of S hj
  exact X.laload hx (by rw [eT]; exact A.1) (State.isArrayOf_alike hZ.alike A.2.1) A.2.2 hin (H.at hin hv) hg hs hd target hr
theorem own_ldC (X : Stand p l e R s m args below meth c T locs cells slots) (hx : p.tables.exec = Jvm.exec) (hZ : Z.Warmed39 s.vm) (eT : T.heap = h) (V : Arv Z h a k .char n vs dv) (hj : ¬ j < 0 ∧ j < n) (hv : vs.getD j.toNatClampNeg dv = v) (hg : g.method = m) (hs : g.stack = .int j :: .ref a :: rest) (hd : decode c.code g.pc = .ok (.caload, 1)) (target : State)
    (hr : Steps p.tables e below (T.setTop { g with pc := g.pc + 1, stack := v :: rest }) target) : Steps p.tables e below (T.setTop g) target := by
  obtain ⟨cl, A, -, S, N, H, -⟩ := V
  have hin := inb_of S hj
  exact X.caload hx (by rw [eT]; exact A.1) (State.isArrayOf_alike hZ.alike A.2.1) A.2.2 hin (H.at hin hv) hg hs hd target hr
theorem own_ldB (X : Stand p l e R s m args below meth c T locs cells slots) (hx : p.tables.exec = Jvm.exec) (hZ : Z.Warmed39 s.vm) (eT : T.heap = h) (V : Arv Z h a k .byte n vs dv) (hj : ¬ j < 0 ∧ j < n) (hv : vs.getD j.toNatClampNeg dv = v) (hg : g.method = m) (hs : g.stack = .int j :: .ref a :: rest) (hd : decode c.code g.pc = .ok (.baload, 1)) (target : State)
    (hr : Steps p.tables e below (T.setTop { g with pc := g.pc + 1, stack := v :: rest }) target) : Steps p.tables e below (T.setTop g) target := by
  obtain ⟨cl, A, -, S, N, H, -⟩ := V
  have hin := inb_of S hj
  exact X.baloadBytes hx (by rw [eT]; exact A.1) (State.isArrayOf_alike hZ.alike A.2.1) A.2.2 hin (H.at hin hv) hg hs hd target hr
theorem own_ldR {ty : FieldType} (X : Stand p l e R s m args below meth c T locs cells slots) (hx : p.tables.exec = Jvm.exec) (hZ : Z.Warmed39 s.vm) (eT : T.heap = h) (V : Arv Z h a k ty n vs dv) (hj : ¬ j < 0 ∧ j < n) (hv : vs.getD j.toNatClampNeg dv = v) (hty : ty.isReference = true) (hg : g.method = m) (hs : g.stack = .int j :: .ref a :: rest) (hd : decode c.code g.pc = .ok (.aaload, 1)) (target : State)
    (hr : Steps p.tables e below (T.setTop { g with pc := g.pc + 1, stack := v :: rest }) target) : Steps p.tables e below (T.setTop g) target := by
  obtain ⟨cl, A, -, S, N, H, -⟩ := V
  have hin := inb_of S hj
  exact X.aaload hx (by rw [eT]; exact A.1) (State.isArrayOf_alike hZ.alike A.2.1) hty A.2.2 hin (H.at hin hv) hg hs hd target hr
theorem own_stI {x : Int32} (X : Stand p l e R s m args below meth c T locs cells slots) (hx : p.tables.exec = Jvm.exec) (hZ : Z.Warmed39 s.vm) (eT : T.heap = h) (V : Arv Z h a k .int n vs dv) (hj : ¬ j < 0 ∧ j < n) {i : Nat} (hji : j.toNatClampNeg = i) (hi : i < vs.length) (hg : g.method = m) (hs : g.stack = .int x :: .int j :: .ref a :: rest) (hd : decode c.code g.pc = .ok (.iastore, 1)) :
    ∃ T' h', Stand p l e R s m args below meth c T' (locs ++ [⟨a, j.toNatClampNeg⟩]) cells slots ∧ T'.heap = h' ∧ Wr h h' a j.toNatClampNeg (.int x) ∧ Arv Z h' a k .int n (vs.set i (.int x)) dv ∧ ∀ target, Steps p.tables e below (T'.setTop { g with pc := g.pc + 1, stack := rest }) target → Steps p.tables e below (T.setTop g) target := by
  obtain ⟨cl, A, q, S, N, H, Gf⟩ := V
  obtain ⟨T', h', X', e', W', st⟩ := stI X hx hZ eT A (inb_of S hj) hg hs hd
  exact ⟨T', h', X', e', W', Arv.set A q S N H Gf rfl W' i hji hi, st⟩
theorem own_stJ {x : Int64} (X : Stand p l e R s m args below meth c T locs cells slots) (hx : p.tables.exec = Jvm.exec) (hZ : Z.Warmed39 s.vm) (eT : T.heap = h) (V : Arv Z h a k .long n vs dv) (hj : ¬ j < 0 ∧ j < n) {i : Nat} (hji : j.toNatClampNeg = i) (hi : i < vs.length) (hg : g.method = m) (hs : g.stack = .long x :: .int j :: .ref a :: rest) (hd : decode c.code g.pc = .ok (.lastore, 1)) :
    ∃ T' h', Stand p l e R s m args below meth c T' (locs ++ [⟨a, j.toNatClampNeg⟩]) cells slots ∧ T'.heap = h' ∧ Wr h h' a j.toNatClampNeg (.long x) ∧ Arv Z h' a k .long n (vs.set i (.long x)) dv ∧ ∀ target, Steps p.tables e below (T'.setTop { g with pc := g.pc + 1, stack := rest }) target → Steps p.tables e below (T.setTop g) target := by
  obtain ⟨cl, A, q, S, N, H, Gf⟩ := V
  obtain ⟨T', h', X', e', W', st⟩ := stJ X hx hZ eT A (inb_of S hj) hg hs hd
  exact ⟨T', h', X', e', W', Arv.set A q S N H Gf rfl W' i hji hi, st⟩
theorem own_stC {x : Int32} (X : Stand p l e R s m args below meth c T locs cells slots) (hx : p.tables.exec = Jvm.exec) (hZ : Z.Warmed39 s.vm) (eT : T.heap = h) (V : Arv Z h a k .char n vs dv) (hj : ¬ j < 0 ∧ j < n) {i : Nat} (hji : j.toNatClampNeg = i) (hi : i < vs.length) (hg : g.method = m) (hs : g.stack = .int x :: .int j :: .ref a :: rest) (hd : decode c.code g.pc = .ok (.castore, 1)) :
    ∃ T' h', Stand p l e R s m args below meth c T' (locs ++ [⟨a, j.toNatClampNeg⟩]) cells slots ∧ T'.heap = h' ∧ Wr h h' a j.toNatClampNeg (.int (nar .char x)) ∧ Arv Z h' a k .char n (vs.set i (.int (nar .char x))) dv ∧ ∀ target, Steps p.tables e below (T'.setTop { g with pc := g.pc + 1, stack := rest }) target → Steps p.tables e below (T.setTop g) target := by
  obtain ⟨cl, A, q, S, N, H, Gf⟩ := V
  obtain ⟨T', h', X', e', W', st⟩ := stC X hx hZ eT A (inb_of S hj) hg hs hd
  exact ⟨T', h', X', e', W', Arv.set A q S N H Gf (fits_nar_char _) W' i hji hi, st⟩
theorem own_stB {x : Int32} (X : Stand p l e R s m args below meth c T locs cells slots) (hx : p.tables.exec = Jvm.exec) (hZ : Z.Warmed39 s.vm) (eT : T.heap = h) (V : Arv Z h a k .byte n vs dv) (hj : ¬ j < 0 ∧ j < n) {i : Nat} (hji : j.toNatClampNeg = i) (hi : i < vs.length) (hg : g.method = m) (hs : g.stack = .int x :: .int j :: .ref a :: rest) (hd : decode c.code g.pc = .ok (.bastore, 1)) :
    ∃ T' h', Stand p l e R s m args below meth c T' (locs ++ [⟨a, j.toNatClampNeg⟩]) cells slots ∧ T'.heap = h' ∧ Wr h h' a j.toNatClampNeg (.int (nar .byte x)) ∧ Arv Z h' a k .byte n (vs.set i (.int (nar .byte x))) dv ∧ ∀ target, Steps p.tables e below (T'.setTop { g with pc := g.pc + 1, stack := rest }) target → Steps p.tables e below (T.setTop g) target := by
  obtain ⟨cl, A, q, S, N, H, Gf⟩ := V
  obtain ⟨T', h', X', e', W', st⟩ := stB X hx hZ eT A (inb_of S hj) hg hs hd
  exact ⟨T', h', X', e', W', Arv.set A q S N H Gf (fits_nar_byte _) W' i hji hi, st⟩
theorem own_stR {K : String} (X : Stand p l e R s m args below meth c T locs cells slots) (hx : p.tables.exec = Jvm.exec) (hZ : Z.Warmed39 s.vm) (eT : T.heap = h) (V : Arv Z h a k (.object K) n vs dv) (hj : ¬ j < 0 ∧ j < n) {i : Nat} (hji : j.toNatClampNeg = i) (hi : i < vs.length) (hS : ∀ {cl : Cell}, Arr Z h a cl (.object K) → cl.cls = k → Sto Z h a v) (hg : g.method = m) (hs : g.stack = v :: .int j :: .ref a :: rest) (hd : decode c.code g.pc = .ok (.aastore, 1)) (hf : fits (.object K) v = true := by rfl) :
    ∃ T' h', Stand p l e R s m args below meth c T' (locs ++ [⟨a, j.toNatClampNeg⟩]) cells slots ∧ T'.heap = h' ∧ Wr h h' a j.toNatClampNeg v ∧ Arv Z h' a k (.object K) n (vs.set i v) dv ∧ ∀ target, Steps p.tables e below (T'.setTop { g with pc := g.pc + 1, stack := rest }) target → Steps p.tables e below (T.setTop g) target := by
  obtain ⟨cl, A, q, S, N, H, Gf⟩ := V
  obtain ⟨T', h', X', e', W', st⟩ := stR X hx hZ eT A (inb_of S hj) rfl (hS A q) hg hs hd
  exact ⟨T', h', X', e', W', Arv.set A q S N H Gf hf W' i hji hi, st⟩
end Arrays
end New
end Jvm.RoadKit
namespace Jvm.Pilot.@@N@@
open Jvm Jvm.ClassFile Sem Op Lib Jvm.Free Jvm.Stand Jvm.LawKit Jvm.RoadKit Bundle Jvm.Pilot.@@N@@.Jvm.D
abbrev cn_0 : String := "com/example/refmint/refmint/citedb/CitationRule$Mark"
abbrev cn_1 : String := "Lcom/example/refmint/refmint/citedb/CitationRule$Mark;"
abbrev cn_2 : String := "com/example/refmint/refmint/citedb/MarkIsSetPinLaw"
def own_St (Z : State) (w_KEY : Addr) (w_ANY : Addr) (w_ONE : Addr) (w_SOME : Addr) (w_OPTIONAL : Addr) : Prop := (Sta Z Z.heap cn_0 "KEY" cn_1 (.ref w_KEY)) ∧ (Exa Z Z.heap w_KEY cn_0) ∧ (Sta Z Z.heap cn_0 "ANY" cn_1 (.ref w_ANY)) ∧ (Exa Z Z.heap w_ANY cn_0) ∧ (Sta Z Z.heap cn_0 "ONE" cn_1 (.ref w_ONE)) ∧ (Exa Z Z.heap w_ONE cn_0) ∧ (Sta Z Z.heap cn_0 "SOME" cn_1 (.ref w_SOME)) ∧ (Exa Z Z.heap w_SOME cn_0) ∧ (Sta Z Z.heap cn_0 "OPTIONAL" cn_1 (.ref w_OPTIONAL)) ∧ (Exa Z Z.heap w_OPTIONAL cn_0) ∧ (Fld Z Z.heap w_KEY cn_0 "most" "I" (.int 1)) ∧ (Fld Z Z.heap w_KEY cn_0 "least" "I" (.int 1)) ∧ (Fld Z Z.heap w_ANY cn_0 "most" "I" (.int 2147483647)) ∧ (Fld Z Z.heap w_ANY cn_0 "least" "I" (.int 0)) ∧ (Fld Z Z.heap w_ONE cn_0 "most" "I" (.int 1)) ∧ (Fld Z Z.heap w_ONE cn_0 "least" "I" (.int 1)) ∧ (Fld Z Z.heap w_SOME cn_0 "most" "I" (.int 2147483647)) ∧ (Fld Z Z.heap w_SOME cn_0 "least" "I" (.int 1)) ∧ (Fld Z Z.heap w_OPTIONAL cn_0 "most" "I" (.int 1)) ∧ (Fld Z Z.heap w_OPTIONAL cn_0 "least" "I" (.int 0))
theorem own_St.k0 {Z : State} {w_KEY : Addr} {w_ANY : Addr} {w_ONE : Addr} {w_SOME : Addr} {w_OPTIONAL : Addr} (ST : own_St Z w_KEY w_ANY w_ONE w_SOME w_OPTIONAL) : Sta Z Z.heap cn_0 "KEY" cn_1 (.ref w_KEY) := ST.1
theorem own_St.k1 {Z : State} {w_KEY : Addr} {w_ANY : Addr} {w_ONE : Addr} {w_SOME : Addr} {w_OPTIONAL : Addr} (ST : own_St Z w_KEY w_ANY w_ONE w_SOME w_OPTIONAL) : Exa Z Z.heap w_KEY cn_0 := ST.2.1
theorem own_St.k2 {Z : State} {w_KEY : Addr} {w_ANY : Addr} {w_ONE : Addr} {w_SOME : Addr} {w_OPTIONAL : Addr} (ST : own_St Z w_KEY w_ANY w_ONE w_SOME w_OPTIONAL) : Sta Z Z.heap cn_0 "ANY" cn_1 (.ref w_ANY) := ST.2.2.1
theorem own_St.k3 {Z : State} {w_KEY : Addr} {w_ANY : Addr} {w_ONE : Addr} {w_SOME : Addr} {w_OPTIONAL : Addr} (ST : own_St Z w_KEY w_ANY w_ONE w_SOME w_OPTIONAL) : Exa Z Z.heap w_ANY cn_0 := ST.2.2.2.1
theorem own_St.k4 {Z : State} {w_KEY : Addr} {w_ANY : Addr} {w_ONE : Addr} {w_SOME : Addr} {w_OPTIONAL : Addr} (ST : own_St Z w_KEY w_ANY w_ONE w_SOME w_OPTIONAL) : Sta Z Z.heap cn_0 "ONE" cn_1 (.ref w_ONE) := ST.2.2.2.2.1
theorem own_St.k5 {Z : State} {w_KEY : Addr} {w_ANY : Addr} {w_ONE : Addr} {w_SOME : Addr} {w_OPTIONAL : Addr} (ST : own_St Z w_KEY w_ANY w_ONE w_SOME w_OPTIONAL) : Exa Z Z.heap w_ONE cn_0 := ST.2.2.2.2.2.1
theorem own_St.k6 {Z : State} {w_KEY : Addr} {w_ANY : Addr} {w_ONE : Addr} {w_SOME : Addr} {w_OPTIONAL : Addr} (ST : own_St Z w_KEY w_ANY w_ONE w_SOME w_OPTIONAL) : Sta Z Z.heap cn_0 "SOME" cn_1 (.ref w_SOME) := ST.2.2.2.2.2.2.1
theorem own_St.k7 {Z : State} {w_KEY : Addr} {w_ANY : Addr} {w_ONE : Addr} {w_SOME : Addr} {w_OPTIONAL : Addr} (ST : own_St Z w_KEY w_ANY w_ONE w_SOME w_OPTIONAL) : Exa Z Z.heap w_SOME cn_0 := ST.2.2.2.2.2.2.2.1
theorem own_St.k8 {Z : State} {w_KEY : Addr} {w_ANY : Addr} {w_ONE : Addr} {w_SOME : Addr} {w_OPTIONAL : Addr} (ST : own_St Z w_KEY w_ANY w_ONE w_SOME w_OPTIONAL) : Sta Z Z.heap cn_0 "OPTIONAL" cn_1 (.ref w_OPTIONAL) := ST.2.2.2.2.2.2.2.2.1
theorem own_St.k9 {Z : State} {w_KEY : Addr} {w_ANY : Addr} {w_ONE : Addr} {w_SOME : Addr} {w_OPTIONAL : Addr} (ST : own_St Z w_KEY w_ANY w_ONE w_SOME w_OPTIONAL) : Exa Z Z.heap w_OPTIONAL cn_0 := ST.2.2.2.2.2.2.2.2.2.1
theorem own_St.k10 {Z : State} {w_KEY : Addr} {w_ANY : Addr} {w_ONE : Addr} {w_SOME : Addr} {w_OPTIONAL : Addr} (ST : own_St Z w_KEY w_ANY w_ONE w_SOME w_OPTIONAL) : Fld Z Z.heap w_KEY cn_0 "most" "I" (.int 1) := ST.2.2.2.2.2.2.2.2.2.2.1
theorem own_St.k11 {Z : State} {w_KEY : Addr} {w_ANY : Addr} {w_ONE : Addr} {w_SOME : Addr} {w_OPTIONAL : Addr} (ST : own_St Z w_KEY w_ANY w_ONE w_SOME w_OPTIONAL) : Fld Z Z.heap w_KEY cn_0 "least" "I" (.int 1) := ST.2.2.2.2.2.2.2.2.2.2.2.1
theorem own_St.k12 {Z : State} {w_KEY : Addr} {w_ANY : Addr} {w_ONE : Addr} {w_SOME : Addr} {w_OPTIONAL : Addr} (ST : own_St Z w_KEY w_ANY w_ONE w_SOME w_OPTIONAL) : Fld Z Z.heap w_ANY cn_0 "most" "I" (.int 2147483647) := ST.2.2.2.2.2.2.2.2.2.2.2.2.1
theorem own_St.k13 {Z : State} {w_KEY : Addr} {w_ANY : Addr} {w_ONE : Addr} {w_SOME : Addr} {w_OPTIONAL : Addr} (ST : own_St Z w_KEY w_ANY w_ONE w_SOME w_OPTIONAL) : Fld Z Z.heap w_ANY cn_0 "least" "I" (.int 0) := ST.2.2.2.2.2.2.2.2.2.2.2.2.2.1
theorem own_St.k14 {Z : State} {w_KEY : Addr} {w_ANY : Addr} {w_ONE : Addr} {w_SOME : Addr} {w_OPTIONAL : Addr} (ST : own_St Z w_KEY w_ANY w_ONE w_SOME w_OPTIONAL) : Fld Z Z.heap w_ONE cn_0 "most" "I" (.int 1) := ST.2.2.2.2.2.2.2.2.2.2.2.2.2.2.1
theorem own_St.k15 {Z : State} {w_KEY : Addr} {w_ANY : Addr} {w_ONE : Addr} {w_SOME : Addr} {w_OPTIONAL : Addr} (ST : own_St Z w_KEY w_ANY w_ONE w_SOME w_OPTIONAL) : Fld Z Z.heap w_ONE cn_0 "least" "I" (.int 1) := ST.2.2.2.2.2.2.2.2.2.2.2.2.2.2.2.1
theorem own_St.k16 {Z : State} {w_KEY : Addr} {w_ANY : Addr} {w_ONE : Addr} {w_SOME : Addr} {w_OPTIONAL : Addr} (ST : own_St Z w_KEY w_ANY w_ONE w_SOME w_OPTIONAL) : Fld Z Z.heap w_SOME cn_0 "most" "I" (.int 2147483647) := ST.2.2.2.2.2.2.2.2.2.2.2.2.2.2.2.2.1
theorem own_St.k17 {Z : State} {w_KEY : Addr} {w_ANY : Addr} {w_ONE : Addr} {w_SOME : Addr} {w_OPTIONAL : Addr} (ST : own_St Z w_KEY w_ANY w_ONE w_SOME w_OPTIONAL) : Fld Z Z.heap w_SOME cn_0 "least" "I" (.int 1) := ST.2.2.2.2.2.2.2.2.2.2.2.2.2.2.2.2.2.1
theorem own_St.k18 {Z : State} {w_KEY : Addr} {w_ANY : Addr} {w_ONE : Addr} {w_SOME : Addr} {w_OPTIONAL : Addr} (ST : own_St Z w_KEY w_ANY w_ONE w_SOME w_OPTIONAL) : Fld Z Z.heap w_OPTIONAL cn_0 "most" "I" (.int 1) := ST.2.2.2.2.2.2.2.2.2.2.2.2.2.2.2.2.2.2.1
theorem own_St.k19 {Z : State} {w_KEY : Addr} {w_ANY : Addr} {w_ONE : Addr} {w_SOME : Addr} {w_OPTIONAL : Addr} (ST : own_St Z w_KEY w_ANY w_ONE w_SOME w_OPTIONAL) : Fld Z Z.heap w_OPTIONAL cn_0 "least" "I" (.int 0) := ST.2.2.2.2.2.2.2.2.2.2.2.2.2.2.2.2.2.2.2
theorem ww3 {Z : State} {a0 : Array Value} (hw : ∀ d ∈ tables_1, d.before a0 Z = true) : Jvm.Cond.before (Jvm.Cond.laysStatic cn_0 "KEY" cn_1) a0 Z = true := hw _ (List.mem_of_getElem? (i := 3) rfl)
theorem ww2 {Z : State} {a0 : Array Value} (hw : ∀ d ∈ tables_1, d.before a0 Z = true) : Jvm.Cond.before (Jvm.Cond.initialized cn_0) a0 Z = true := hw _ (List.mem_of_getElem? (i := 2) rfl)
theorem ww19 {Z : State} {a0 : Array Value} (hw : ∀ d ∈ tables_1, d.before a0 Z = true) : Jvm.Cond.before (Jvm.Cond.laysStatic cn_0 "ANY" cn_1) a0 Z = true := hw _ (List.mem_of_getElem? (i := 19) rfl)
theorem ww21 {Z : State} {a0 : Array Value} (hw : ∀ d ∈ tables_1, d.before a0 Z = true) : Jvm.Cond.before (Jvm.Cond.laysStatic cn_0 "ONE" cn_1) a0 Z = true := hw _ (List.mem_of_getElem? (i := 21) rfl)
theorem ww23 {Z : State} {a0 : Array Value} (hw : ∀ d ∈ tables_1, d.before a0 Z = true) : Jvm.Cond.before (Jvm.Cond.laysStatic cn_0 "SOME" cn_1) a0 Z = true := hw _ (List.mem_of_getElem? (i := 23) rfl)
theorem ww25 {Z : State} {a0 : Array Value} (hw : ∀ d ∈ tables_1, d.before a0 Z = true) : Jvm.Cond.before (Jvm.Cond.laysStatic cn_0 "OPTIONAL" cn_1) a0 Z = true := hw _ (List.mem_of_getElem? (i := 25) rfl)
theorem d0_0 : decode prog_11_method_4_code 0 = .ok (.iload_n 1, 1) := by decide +kernel
theorem d0_1 : decode prog_11_method_4_code 1 = .ok (.aload_n 0, 1) := by decide +kernel
theorem d0_2 : decode prog_11_method_4_code 2 = .ok (.getfield 42, 3) := by decide +kernel
theorem ww16 {Z : State} {a0 : Array Value} (hw : ∀ d ∈ tables_1, d.before a0 Z = true) : Jvm.Cond.before (Jvm.Cond.fieldLink cn_0 (42 : Nat) cn_0 "least" "I") a0 Z = true := hw _ (List.mem_of_getElem? (i := 16) rfl)
theorem d0_5 : decode prog_11_method_4_code 5 = .ok (.if_icmp .lt 15, 3) := by decide +kernel
theorem d0_20 : decode prog_11_method_4_code 20 = .ok (.iconst 0, 1) := by decide +kernel
theorem d0_21 : decode prog_11_method_4_code 21 = .ok (.ireturn, 1) := by decide +kernel
theorem d0_8 : decode prog_11_method_4_code 8 = .ok (.iload_n 1, 1) := by decide +kernel
theorem d0_9 : decode prog_11_method_4_code 9 = .ok (.aload_n 0, 1) := by decide +kernel
theorem d0_10 : decode prog_11_method_4_code 10 = .ok (.getfield 46, 3) := by decide +kernel
theorem ww9 {Z : State} {a0 : Array Value} (hw : ∀ d ∈ tables_1, d.before a0 Z = true) : Jvm.Cond.before (Jvm.Cond.fieldLink cn_0 (46 : Nat) cn_0 "most" "I") a0 Z = true := hw _ (List.mem_of_getElem? (i := 9) rfl)
theorem d0_13 : decode prog_11_method_4_code 13 = .ok (.if_icmp .gt 7, 3) := by decide +kernel
theorem d0_16 : decode prog_11_method_4_code 16 = .ok (.iconst 1, 1) := by decide +kernel
theorem d0_17 : decode prog_11_method_4_code 17 = .ok (.goto 4, 3) := by decide +kernel
abbrev rr_adm : Room := { frames := 0, cells := 0, slots := 0, locals := 0 }
abbrev y_0 : MethodName := ⟨cn_0, "admits", "(I)Z"⟩
theorem pn_0 : plainName cn_0 = true := by first | (simp [plainName, overriddenIn]; done) | decide +kernel
theorem ef_adm (m : MethodId) (o0 : Addr) (p1 : Int32) : entryFrame m #[(.ref o0), (.int p1)] 2 = mkF m 0 #[.val (.ref o0), .val (.int p1)] [] := by first | (simp [entryFrame, mkF, argsToLocals, Value.category]; done) | rfl
def f_adm (w_KEY : Addr) (w_ANY : Addr) (w_ONE : Addr) (w_SOME : Addr) (w_OPTIONAL : Addr) (o0 : Addr) (p1 : Int32) (lo : Int32) (hi : Int32) : Int32 := (if p1 < lo then (0 : Int32) else (if hi < p1 then (0 : Int32) else (1 : Int32)))
def Q_adm (Z : State) (w_KEY : Addr) (w_ANY : Addr) (w_ONE : Addr) (w_SOME : Addr) (w_OPTIONAL : Addr) (o0 : Addr) (p1 : Int32) (lo : Int32) (hi : Int32) (h0 : Heap) (n0 : Nat) (v : Option Value) (h : Heap) (L : List Loc) : Prop := v = some (.int (f_adm w_KEY w_ANY w_ONE w_SOME w_OPTIONAL o0 p1 lo hi)) ∧ Fr n0 L ∧ h = h0
set_option maxRecDepth 65536 in
set_option maxHeartbeats 40000000 in
theorem rm_adm (l : Launch) (Z : State) (a0 : Array Value) (hw : ∀ d ∈ tables_1, d.before a0 Z = true) (ws : List Jvm.Cond) (w_KEY : Addr) (w_ANY : Addr) (w_ONE : Addr) (w_SOME : Addr) (w_OPTIONAL : Addr) (o0 : Addr) (p1 : Int32) (lo : Int32) (hi : Int32) (h0 : Heap) (n0 : Nat) (Z0 : n0 ≤ h0.size) (ST : own_St Z w_KEY w_ANY w_ONE w_SOME w_OPTIONAL) (O0 : Old Z n0 h0) (Flo : Fld Z h0 o0 cn_0 "least" "I" (.int lo)) (Fhi : Fld Z h0 o0 cn_0 "most" "I" (.int hi)) :
    MetFree l y_0 (head1 (Jvm.Cond.code y_0 prog_11_method_4_code 2 (some .boolean) :: ws) rr_adm) (fun a U => a = #[(.ref o0), (.int p1)] ∧ Z.Warmed39 U.vm ∧ U.heap = h0) (fun _ _ _ _ _ => True) (fun _ U o U' => ∃ v L, o = .returned v ∧ Q_adm Z w_KEY w_ANY w_ONE w_SOME w_OPTIONAL o0 p1 lo hi h0 n0 v U'.heap L ∧ FrameEnd U o U' L rr_adm.cells rr_adm.slots) := by
  refine MetFree.of_bodySF (plainFor_of_name pn_0) hisR ?_
  intro p e s m args below meth c s₁ Bd hml0 hP hK
  obtain ⟨rfl, hZ, hh⟩ := hP
  have hx := Bd.exec
  have hby := Bd.bytes
  have hml : c.maxLocals = 2 := hml0
  have hown : s.vm.findClass cn_0 = some m.cls := findClass_of_methodNamed Bd.named
  have hnm := (name_of_methodNamed Bd.named Bd.method).1
  have X0 : Stand p l e rr_adm s m #[(.ref o0), (.int p1)] below meth c s₁ [] 0 0 := Stand.of_body Bd
  have e0 : s₁.heap = h0 := by rw [← hh, Bd.state]; rfl
  have N0 := Fr.nil n0
  obtain ⟨G, step, ret, fin⟩ := own_open (p := p) (l := l) (e := e) (R := rr_adm) (s := s) (m := m) (args := #[(.ref o0), (.int p1)]) (below := below) (meth := meth) (c := c) (rr_adm.cells) (rr_adm.slots) (Q_adm Z w_KEY w_ANY w_ONE w_SOME w_OPTIONAL o0 p1 lo hi h0 n0) Bd.notSynchronized
  refine fin (g := entryFrame m #[(.ref o0), (.int p1)] 2) ?_
  rw [ef_adm m o0 p1]
  show G s₁ (mkF m 0 #[.val (.ref o0), .val (.int p1)] [])
  refine step (fun t k => XS.iloadN X0.here hx rfl (hb hby d0_0) rfl k) ?_
  show G s₁ (mkF m 1 #[.val (.ref o0), .val (.int p1)] [(.int p1)])
  refine step (fun t k => XS.aloadN X0.here hx rfl (hb hby d0_1) rfl rfl k) ?_
  show G s₁ (mkF m 2 #[.val (.ref o0), .val (.int p1)] [(.ref o0), (.int p1)])
  obtain ⟨T1, X1, e1, st1⟩ := getF X0 hx hZ hown (host := "") (Or.inl (ww16 hw)) Via.refl e0 Flo (g := (mkF m 2 #[.val (.ref o0), .val (.int p1)] [(.ref o0), (.int p1)])) rfl rfl (hb hby d0_2)
  refine step st1 ?_
  show G T1 (mkF m 5 #[.val (.ref o0), .val (.int p1)] [(.int lo), (.int p1)])
  by_cases hc2 : p1 < lo
  · skip
    refine step (fun t k => XS.icmpYes X1.here hx rfl (pc0 := 5) (pc' := 20) rfl (hb hby d0_5) rfl (tlt hc2).1 (by decide) (by decide) k) ?_
    show G T1 (mkF m 20 #[.val (.ref o0), .val (.int p1)] [])
    refine step (fun t k => XS.iconst X1.here hx rfl (hb hby d0_20) k) ?_
    show G T1 (mkF m 21 #[.val (.ref o0), .val (.int p1)] [(.int 0)])
    exact ret (v := some (.int 0)) X1 (fun h => by rw [Bd.returns] at h; cases h) (fun fs hr => retN X1 hx (t := .boolean) Bd.returns (by simp) (hb hby d0_21) hr) e1 ⟨by unfold f_adm; rw [if_pos hc2], N0, rfl⟩ (by decide) (by decide)
  · skip
    refine step (fun t k => XS.icmpNo X1.here hx rfl (hb hby d0_5) rfl (flt hc2).1 k) ?_
    show G T1 (mkF m 8 #[.val (.ref o0), .val (.int p1)] [])
    refine step (fun t k => XS.iloadN X1.here hx rfl (hb hby d0_8) rfl k) ?_
    show G T1 (mkF m 9 #[.val (.ref o0), .val (.int p1)] [(.int p1)])
    refine step (fun t k => XS.aloadN X1.here hx rfl (hb hby d0_9) rfl rfl k) ?_
    show G T1 (mkF m 10 #[.val (.ref o0), .val (.int p1)] [(.ref o0), (.int p1)])
    obtain ⟨T3, X3, e3, st3⟩ := getF X1 hx hZ hown (host := "") (Or.inl (ww9 hw)) Via.refl e1 Fhi (g := (mkF m 10 #[.val (.ref o0), .val (.int p1)] [(.ref o0), (.int p1)])) rfl rfl (hb hby d0_10)
    refine step st3 ?_
    show G T3 (mkF m 13 #[.val (.ref o0), .val (.int p1)] [(.int hi), (.int p1)])
    by_cases hc4 : hi < p1
    · skip
      refine step (fun t k => XS.icmpYes X3.here hx rfl (pc0 := 13) (pc' := 20) rfl (hb hby d0_13) rfl (tlt hc4).2.2.1 (by decide) (by decide) k) ?_
      show G T3 (mkF m 20 #[.val (.ref o0), .val (.int p1)] [])
      refine step (fun t k => XS.iconst X3.here hx rfl (hb hby d0_20) k) ?_
      show G T3 (mkF m 21 #[.val (.ref o0), .val (.int p1)] [(.int 0)])
      exact ret (v := some (.int 0)) X3 (fun h => by rw [Bd.returns] at h; cases h) (fun fs hr => retN X3 hx (t := .boolean) Bd.returns (by simp) (hb hby d0_21) hr) e3 ⟨by unfold f_adm; rw [if_neg hc2, if_pos hc4], N0, rfl⟩ (by decide) (by decide)
    · skip
      refine step (fun t k => XS.icmpNo X3.here hx rfl (hb hby d0_13) rfl (flt hc4).2.2.1 k) ?_
      show G T3 (mkF m 16 #[.val (.ref o0), .val (.int p1)] [])
      refine step (fun t k => XS.iconst X3.here hx rfl (hb hby d0_16) k) ?_
      show G T3 (mkF m 17 #[.val (.ref o0), .val (.int p1)] [(.int 1)])
      refine step (fun t k => XS.goto X3.here hx rfl (pc0 := 17) (pc' := 21) rfl (hb hby d0_17) (by decide) (by decide) k) ?_
      show G T3 (mkF m 21 #[.val (.ref o0), .val (.int p1)] [(.int 1)])
      exact ret (v := some (.int 1)) X3 (fun h => by rw [Bd.returns] at h; cases h) (fun fs hr => retN X3 hx (t := .boolean) Bd.returns (by simp) (hb hby d0_21) hr) e3 ⟨by unfold f_adm; rw [if_neg hc2, if_neg hc4], N0, rfl⟩ (by decide) (by decide)
theorem d1_0 : decode prog_11_method_5_code 0 = .ok (.aload_n 0, 1) := by decide +kernel
theorem d1_1 : decode prog_11_method_5_code 1 = .ok (.getfield 46, 3) := by decide +kernel
theorem d1_4 : decode prog_11_method_5_code 4 = .ok (.iconst 1, 1) := by decide +kernel
theorem d1_5 : decode prog_11_method_5_code 5 = .ok (.if_icmp .le 7, 3) := by decide +kernel
theorem d1_8 : decode prog_11_method_5_code 8 = .ok (.iconst 1, 1) := by decide +kernel
theorem d1_9 : decode prog_11_method_5_code 9 = .ok (.goto 4, 3) := by decide +kernel
theorem d1_13 : decode prog_11_method_5_code 13 = .ok (.ireturn, 1) := by decide +kernel
theorem d1_12 : decode prog_11_method_5_code 12 = .ok (.iconst 0, 1) := by decide +kernel
abbrev rr_isset : Room := { frames := 0, cells := 0, slots := 0, locals := 0 }
abbrev y_1 : MethodName := ⟨cn_0, "isSet", "()Z"⟩
theorem ef_isset (m : MethodId) (o0 : Addr) : entryFrame m #[(.ref o0)] 1 = mkF m 0 #[.val (.ref o0)] [] := by first | (simp [entryFrame, mkF, argsToLocals, Value.category]; done) | rfl
def f_isset (w_KEY : Addr) (w_ANY : Addr) (w_ONE : Addr) (w_SOME : Addr) (w_OPTIONAL : Addr) (o0 : Addr) (hi : Int32) : Int32 := (if (1 : Int32) < hi then (1 : Int32) else (0 : Int32))
def Q_isset (Z : State) (w_KEY : Addr) (w_ANY : Addr) (w_ONE : Addr) (w_SOME : Addr) (w_OPTIONAL : Addr) (o0 : Addr) (hi : Int32) (h0 : Heap) (n0 : Nat) (v : Option Value) (h : Heap) (L : List Loc) : Prop := v = some (.int (f_isset w_KEY w_ANY w_ONE w_SOME w_OPTIONAL o0 hi)) ∧ Fr n0 L ∧ h = h0
set_option maxRecDepth 65536 in
set_option maxHeartbeats 40000000 in
theorem rm_isset (l : Launch) (Z : State) (a0 : Array Value) (hw : ∀ d ∈ tables_1, d.before a0 Z = true) (ws : List Jvm.Cond) (w_KEY : Addr) (w_ANY : Addr) (w_ONE : Addr) (w_SOME : Addr) (w_OPTIONAL : Addr) (o0 : Addr) (hi : Int32) (h0 : Heap) (n0 : Nat) (Z0 : n0 ≤ h0.size) (ST : own_St Z w_KEY w_ANY w_ONE w_SOME w_OPTIONAL) (O0 : Old Z n0 h0) (Fhi : Fld Z h0 o0 cn_0 "most" "I" (.int hi)) :
    MetFree l y_1 (head1 (Jvm.Cond.code y_1 prog_11_method_5_code 1 (some .boolean) :: ws) rr_isset) (fun a U => a = #[(.ref o0)] ∧ Z.Warmed39 U.vm ∧ U.heap = h0) (fun _ _ _ _ _ => True) (fun _ U o U' => ∃ v L, o = .returned v ∧ Q_isset Z w_KEY w_ANY w_ONE w_SOME w_OPTIONAL o0 hi h0 n0 v U'.heap L ∧ FrameEnd U o U' L rr_isset.cells rr_isset.slots) := by
  refine MetFree.of_bodySF (plainFor_of_name pn_0) hisR ?_
  intro p e s m args below meth c s₁ Bd hml0 hP hK
  obtain ⟨rfl, hZ, hh⟩ := hP
  have hx := Bd.exec
  have hby := Bd.bytes
  have hml : c.maxLocals = 1 := hml0
  have hown : s.vm.findClass cn_0 = some m.cls := findClass_of_methodNamed Bd.named
  have hnm := (name_of_methodNamed Bd.named Bd.method).1
  have X0 : Stand p l e rr_isset s m #[(.ref o0)] below meth c s₁ [] 0 0 := Stand.of_body Bd
  have e0 : s₁.heap = h0 := by rw [← hh, Bd.state]; rfl
  have N0 := Fr.nil n0
  obtain ⟨G, step, ret, fin⟩ := own_open (p := p) (l := l) (e := e) (R := rr_isset) (s := s) (m := m) (args := #[(.ref o0)]) (below := below) (meth := meth) (c := c) (rr_isset.cells) (rr_isset.slots) (Q_isset Z w_KEY w_ANY w_ONE w_SOME w_OPTIONAL o0 hi h0 n0) Bd.notSynchronized
  refine fin (g := entryFrame m #[(.ref o0)] 1) ?_
  rw [ef_isset m o0]
  show G s₁ (mkF m 0 #[.val (.ref o0)] [])
  refine step (fun t k => XS.aloadN X0.here hx rfl (hb hby d1_0) rfl rfl k) ?_
  show G s₁ (mkF m 1 #[.val (.ref o0)] [(.ref o0)])
  obtain ⟨T1, X1, e1, st1⟩ := getF X0 hx hZ hown (host := "") (Or.inl (ww9 hw)) Via.refl e0 Fhi (g := (mkF m 1 #[.val (.ref o0)] [(.ref o0)])) rfl rfl (hb hby d1_1)
  refine step st1 ?_
  show G T1 (mkF m 4 #[.val (.ref o0)] [(.int hi)])
  refine step (fun t k => XS.iconst X1.here hx rfl (hb hby d1_4) k) ?_
  show G T1 (mkF m 5 #[.val (.ref o0)] [(.int 1), (.int hi)])
  by_cases hc2 : (1 : Int32) < hi
  · skip
    refine step (fun t k => XS.icmpNo X1.here hx rfl (hb hby d1_5) rfl (tlt hc2).2.2.2 k) ?_
    show G T1 (mkF m 8 #[.val (.ref o0)] [])
    refine step (fun t k => XS.iconst X1.here hx rfl (hb hby d1_8) k) ?_
    show G T1 (mkF m 9 #[.val (.ref o0)] [(.int 1)])
    refine step (fun t k => XS.goto X1.here hx rfl (pc0 := 9) (pc' := 13) rfl (hb hby d1_9) (by decide) (by decide) k) ?_
    show G T1 (mkF m 13 #[.val (.ref o0)] [(.int 1)])
    exact ret (v := some (.int 1)) X1 (fun h => by rw [Bd.returns] at h; cases h) (fun fs hr => retN X1 hx (t := .boolean) Bd.returns (by simp) (hb hby d1_13) hr) e1 ⟨by unfold f_isset; rw [if_pos hc2], N0, rfl⟩ (by decide) (by decide)
  · skip
    refine step (fun t k => XS.icmpYes X1.here hx rfl (pc0 := 5) (pc' := 12) rfl (hb hby d1_5) rfl (flt hc2).2.2.2 (by decide) (by decide) k) ?_
    show G T1 (mkF m 12 #[.val (.ref o0)] [])
    refine step (fun t k => XS.iconst X1.here hx rfl (hb hby d1_12) k) ?_
    show G T1 (mkF m 13 #[.val (.ref o0)] [(.int 0)])
    exact ret (v := some (.int 0)) X1 (fun h => by rw [Bd.returns] at h; cases h) (fun fs hr => retN X1 hx (t := .boolean) Bd.returns (by simp) (hb hby d1_13) hr) e1 ⟨by unfold f_isset; rw [if_neg hc2], N0, rfl⟩ (by decide) (by decide)
theorem ww0 {Z : State} {a0 : Array Value} (hw : ∀ d ∈ tables_1, d.before a0 Z = true) : Jvm.Cond.before (Jvm.Cond.constant cn_2 (7 : Nat) (2147483647 : Int32)) a0 Z = true := hw _ (List.mem_of_getElem? (i := 0) rfl)
theorem ww1 {Z : State} {a0 : Array Value} (hw : ∀ d ∈ tables_1, d.before a0 Z = true) : Jvm.Cond.before (Jvm.Cond.fieldLink cn_2 (8 : Nat) cn_0 "KEY" cn_1) a0 Z = true := hw _ (List.mem_of_getElem? (i := 1) rfl)
theorem ww4 {Z : State} {a0 : Array Value} (hw : ∀ d ∈ tables_1, d.before a0 Z = true) : Jvm.Cond.before (Jvm.Cond.methodLink cn_2 (26 : Nat) ({ cls := cn_0, name := "isSet", desc := "()Z" } : Jvm.MethodName)) a0 Z = true := hw _ (List.mem_of_getElem? (i := 4) rfl)
theorem ww7 {Z : State} {a0 : Array Value} (hw : ∀ d ∈ tables_1, d.before a0 Z = true) : Jvm.Cond.before (Jvm.Cond.selects cn_0 ({ cls := cn_0, name := "isSet", desc := "()Z" } : Jvm.MethodName) ({ cls := cn_0, name := "isSet", desc := "()Z" } : Jvm.MethodName)) a0 Z = true := hw _ (List.mem_of_getElem? (i := 7) rfl)
theorem ww8 {Z : State} {a0 : Array Value} (hw : ∀ d ∈ tables_1, d.before a0 Z = true) : Jvm.Cond.before (Jvm.Cond.code ({ cls := cn_0, name := "isSet", desc := "()Z" } : Jvm.MethodName) prog_11_method_5_code (1 : Nat) (Option.some Jvm.ClassFile.FieldType.boolean)) a0 Z = true := hw _ (List.mem_of_getElem? (i := 8) rfl)
theorem pd_0 : parseMethodDescriptor "()Z" = some ⟨[], some .boolean⟩ := by decide +kernel
theorem ww5 {Z : State} {a0 : Array Value} (hw : ∀ d ∈ tables_1, d.before a0 Z = true) : Jvm.Cond.before (Jvm.Cond.declares ({ cls := cn_0, name := "isSet", desc := "()Z" } : Jvm.MethodName)) a0 Z = true := hw _ (List.mem_of_getElem? (i := 5) rfl)
theorem ww6 {Z : State} {a0 : Array Value} (hw : ∀ d ∈ tables_1, d.before a0 Z = true) : Jvm.Cond.before (Jvm.Cond.instanceMethod ({ cls := cn_0, name := "isSet", desc := "()Z" } : Jvm.MethodName)) a0 Z = true := hw _ (List.mem_of_getElem? (i := 6) rfl)
theorem ww11 {Z : State} {a0 : Array Value} (hw : ∀ d ∈ tables_1, d.before a0 Z = true) : Jvm.Cond.before (Jvm.Cond.methodLink cn_2 (30 : Nat) ({ cls := cn_0, name := "admits", desc := "(I)Z" } : Jvm.MethodName)) a0 Z = true := hw _ (List.mem_of_getElem? (i := 11) rfl)
theorem ww14 {Z : State} {a0 : Array Value} (hw : ∀ d ∈ tables_1, d.before a0 Z = true) : Jvm.Cond.before (Jvm.Cond.selects cn_0 ({ cls := cn_0, name := "admits", desc := "(I)Z" } : Jvm.MethodName) ({ cls := cn_0, name := "admits", desc := "(I)Z" } : Jvm.MethodName)) a0 Z = true := hw _ (List.mem_of_getElem? (i := 14) rfl)
theorem ww15 {Z : State} {a0 : Array Value} (hw : ∀ d ∈ tables_1, d.before a0 Z = true) : Jvm.Cond.before (Jvm.Cond.code ({ cls := cn_0, name := "admits", desc := "(I)Z" } : Jvm.MethodName) prog_11_method_4_code (2 : Nat) (Option.some Jvm.ClassFile.FieldType.boolean)) a0 Z = true := hw _ (List.mem_of_getElem? (i := 15) rfl)
theorem pd_1 : parseMethodDescriptor "(I)Z" = some ⟨[.int], some .boolean⟩ := by decide +kernel
theorem ww12 {Z : State} {a0 : Array Value} (hw : ∀ d ∈ tables_1, d.before a0 Z = true) : Jvm.Cond.before (Jvm.Cond.declares ({ cls := cn_0, name := "admits", desc := "(I)Z" } : Jvm.MethodName)) a0 Z = true := hw _ (List.mem_of_getElem? (i := 12) rfl)
theorem ww13 {Z : State} {a0 : Array Value} (hw : ∀ d ∈ tables_1, d.before a0 Z = true) : Jvm.Cond.before (Jvm.Cond.instanceMethod ({ cls := cn_0, name := "admits", desc := "(I)Z" } : Jvm.MethodName)) a0 Z = true := hw _ (List.mem_of_getElem? (i := 13) rfl)
theorem ww20 {Z : State} {a0 : Array Value} (hw : ∀ d ∈ tables_1, d.before a0 Z = true) : Jvm.Cond.before (Jvm.Cond.fieldLink cn_2 (14 : Nat) cn_0 "ONE" cn_1) a0 Z = true := hw _ (List.mem_of_getElem? (i := 20) rfl)
theorem ww24 {Z : State} {a0 : Array Value} (hw : ∀ d ∈ tables_1, d.before a0 Z = true) : Jvm.Cond.before (Jvm.Cond.fieldLink cn_2 (17 : Nat) cn_0 "OPTIONAL" cn_1) a0 Z = true := hw _ (List.mem_of_getElem? (i := 24) rfl)
theorem ww18 {Z : State} {a0 : Array Value} (hw : ∀ d ∈ tables_1, d.before a0 Z = true) : Jvm.Cond.before (Jvm.Cond.fieldLink cn_2 (20 : Nat) cn_0 "ANY" cn_1) a0 Z = true := hw _ (List.mem_of_getElem? (i := 18) rfl)
theorem ww22 {Z : State} {a0 : Array Value} (hw : ∀ d ∈ tables_1, d.before a0 Z = true) : Jvm.Cond.before (Jvm.Cond.fieldLink cn_2 (23 : Nat) cn_0 "SOME" cn_1) a0 Z = true := hw _ (List.mem_of_getElem? (i := 22) rfl)
abbrev y_2 : MethodName := ⟨cn_2, "law", "(I)Z"⟩
theorem pn_1 : plainName cn_2 = true := by first | (simp [plainName, overriddenIn]; done) | decide +kernel
theorem ef_law (m : MethodId) (p0 : Int32) : entryFrame m #[(.int p0)] maxLocals = mkF m 0 #[.val (.int p0), .unset, .unset, .unset, .unset] [] := by first | (simp [entryFrame, mkF, argsToLocals, Value.category, maxLocals]; done) | rfl
def Q_law (Z : State) (w_KEY : Addr) (w_ANY : Addr) (w_ONE : Addr) (w_SOME : Addr) (w_OPTIONAL : Addr) (p0 : Int32) (h0 : Heap) (n0 : Nat) (v : Option Value) (h : Heap) (L : List Loc) : Prop := v = some (.int 1) ∧ Fr n0 L
set_option maxRecDepth 65536 in
set_option maxHeartbeats 40000000 in
theorem rm_law (l : Launch) (Z : State) (a0 : Array Value) (hw : ∀ d ∈ tables_1, d.before a0 Z = true) (ws : List Jvm.Cond) (w_KEY : Addr) (w_ANY : Addr) (w_ONE : Addr) (w_SOME : Addr) (w_OPTIONAL : Addr) (p0 : Int32) (h0 : Heap) (n0 : Nat) (Z0 : n0 ≤ h0.size) (ST : own_St Z w_KEY w_ANY w_ONE w_SOME w_OPTIONAL) (O0 : Old Z n0 h0) :
    MetFree l x (head1 (Jvm.Cond.code x code maxLocals ret :: ws) room_1) (fun a U => a = #[(.int p0)] ∧ Z.Warmed39 U.vm ∧ U.heap = h0) (fun _ _ _ _ _ => True) (fun _ U o U' => ∃ v L, o = .returned v ∧ Q_law Z w_KEY w_ANY w_ONE w_SOME w_OPTIONAL p0 h0 n0 v U'.heap L ∧ FrameEnd U o U' L 0 0) := by
  refine MetFree.of_bodySF (plainFor_of_name pn_1) hisR ?_
  intro p e s m args below meth c s₁ Bd hml0 hP hK
  obtain ⟨rfl, hZ, hh⟩ := hP
  have hx := Bd.exec
  have hby := Bd.bytes
  have hml : c.maxLocals = 5 := hml0
  have hown : s.vm.findClass cn_2 = some m.cls := findClass_of_methodNamed Bd.named
  have hnm := (name_of_methodNamed Bd.named Bd.method).1
  have X0 : Stand p l e room_1 s m #[(.int p0)] below meth c s₁ [] 0 0 := Stand.of_body Bd
  have e0 : s₁.heap = h0 := by rw [← hh, Bd.state]; rfl
  have N0 := Fr.nil n0
  obtain ⟨G, step, ret, fin⟩ := own_open (p := p) (l := l) (e := e) (R := room_1) (s := s) (m := m) (args := #[(.int p0)]) (below := below) (meth := meth) (c := c) (0) (0) (Q_law Z w_KEY w_ANY w_ONE w_SOME w_OPTIONAL p0 h0 n0) Bd.notSynchronized
  refine fin (g := entryFrame m #[(.int p0)] maxLocals) ?_
  rw [ef_law m p0]
  show G s₁ (mkF m 0 #[.val (.int p0), .unset, .unset, .unset, .unset] [])
  refine step (fun t k => XS.iloadN X0.here hx rfl (hb hby at_0) rfl k) ?_
  show G s₁ (mkF m 1 #[.val (.int p0), .unset, .unset, .unset, .unset] [(.int p0)])
  have q1 := X0.ldcInt hx hown (mvT hZ (ww0 hw)) (g := (mkF m 1 #[.val (.int p0), .unset, .unset, .unset, .unset] [(.int p0)])) rfl (hb hby at_1)
  refine step q1 ?_
  show G s₁ (mkF m 3 #[.val (.int p0), .unset, .unset, .unset, .unset] [(.int 2147483647), (.int p0)])
  refine step (fun t k => XS.iand X0.here hx rfl (hb hby at_3) rfl k) ?_
  show G s₁ (mkF m 4 #[.val (.int p0), .unset, .unset, .unset, .unset] [(.int (p0 &&& (2147483647 : Int32)))])
  refine step (fun t k => XS.iconst X0.here hx rfl (hb hby at_4) k) ?_
  show G s₁ (mkF m 5 #[.val (.int p0), .unset, .unset, .unset, .unset] [(.int 5), (.int (p0 &&& (2147483647 : Int32)))])
  refine step (fun t k => iremM X0 hx rfl (hb hby at_5) rfl (by decide) k) ?_
  show G s₁ (mkF m 6 #[.val (.int p0), .unset, .unset, .unset, .unset] [(.int ((p0 &&& (2147483647 : Int32)) % (5 : Int32)))])
  refine step (fun t k => XS.istoreN X0.here hx rfl (hb hby at_6) rfl (l' := #[.val (.int p0), .val (.int ((p0 &&& (2147483647 : Int32)) % (5 : Int32))), .unset, .unset, .unset]) rfl k) ?_
  show G s₁ (mkF m 7 #[.val (.int p0), .val (.int ((p0 &&& (2147483647 : Int32)) % (5 : Int32))), .unset, .unset, .unset] [])
  refine step (fun t k => XS.iloadN X0.here hx rfl (hb hby at_7) rfl k) ?_
  show G s₁ (mkF m 8 #[.val (.int p0), .val (.int ((p0 &&& (2147483647 : Int32)) % (5 : Int32))), .unset, .unset, .unset] [(.int ((p0 &&& (2147483647 : Int32)) % (5 : Int32)))])
  by_cases hc2 : ((p0 &&& (2147483647 : Int32)) % (5 : Int32)) = (0 : Int32)
  · skip
    refine step (fun t k => XS.ifNo X0.here hx rfl (hb hby at_8) rfl ((if0 _ _).trans (teq hc2).2) k) ?_
    show G s₁ (mkF m 11 #[.val (.int p0), .val (.int ((p0 &&& (2147483647 : Int32)) % (5 : Int32))), .unset, .unset, .unset] [])
    obtain ⟨T3, X3, e3, st3⟩ := getS2 X0 hx hZ hown (host := "") (Or.inl (ww1 hw)) Via.refl e0 (Sta.ext O0.2 ST.k0) (g := (mkF m 11 #[.val (.int p0), .val (.int ((p0 &&& (2147483647 : Int32)) % (5 : Int32))), .unset, .unset, .unset] [])) rfl (hb hby at_11)
    refine step st3 ?_
    show G T3 (mkF m 14 #[.val (.int p0), .val (.int ((p0 &&& (2147483647 : Int32)) % (5 : Int32))), .unset, .unset, .unset] [(.ref w_KEY)])
    refine step (fun t k => XS.astoreN X3.here hx rfl (hb hby at_14) rfl rfl (l' := #[.val (.int p0), .val (.int ((p0 &&& (2147483647 : Int32)) % (5 : Int32))), .val (.ref w_KEY), .unset, .unset]) rfl k) ?_
    show G T3 (mkF m 15 #[.val (.int p0), .val (.int ((p0 &&& (2147483647 : Int32)) % (5 : Int32))), .val (.ref w_KEY), .unset, .unset] [])
    refine step (fun t k => XS.iconst X3.here hx rfl (hb hby at_15) k) ?_
    show G T3 (mkF m 16 #[.val (.int p0), .val (.int ((p0 &&& (2147483647 : Int32)) % (5 : Int32))), .val (.ref w_KEY), .unset, .unset] [(.int 0)])
    refine step (fun t k => XS.istoreN X3.here hx rfl (hb hby at_16) rfl (l' := #[.val (.int p0), .val (.int ((p0 &&& (2147483647 : Int32)) % (5 : Int32))), .val (.ref w_KEY), .val (.int 0), .unset]) rfl k) ?_
    show G T3 (mkF m 17 #[.val (.int p0), .val (.int ((p0 &&& (2147483647 : Int32)) % (5 : Int32))), .val (.ref w_KEY), .val (.int 0), .unset] [])
    refine step (fun t k => XS.goto X3.here hx rfl (pc0 := 17) (pc' := 68) rfl (hb hby at_17) (by decide) (by decide) k) ?_
    show G T3 (mkF m 68 #[.val (.int p0), .val (.int ((p0 &&& (2147483647 : Int32)) % (5 : Int32))), .val (.ref w_KEY), .val (.int 0), .unset] [])
    refine step (fun t k => XS.aloadN X3.here hx rfl (hb hby at_68) rfl rfl k) ?_
    show G T3 (mkF m 69 #[.val (.int p0), .val (.int ((p0 &&& (2147483647 : Int32)) % (5 : Int32))), .val (.ref w_KEY), .val (.int 0), .unset] [(.ref w_KEY)])
    obtain ⟨cq4, kq4, q4a, q4b, q4c⟩ := isOf hZ e3 (Exa.ext O0.2 ST.k1)
    obtain ⟨_, _, ⟨T4, L4, k4, n4⟩, -, X4, ⟨Lc4, hQ4, l4, y4, z4⟩, st4⟩ := X3.virtualBack hx (y := y_1) (z := y_1) hown (mvT hZ (ww4 hw)) (mvT hZ (ww5 hw)) (notFace_of_selects (args := #[]) (mvT hZ (ww7 hw))) (mvT hZ (ww7 hw)) (mvT hZ (ww6 hw)) (by decide) (backOf (W := 0) (rm_isset l Z a0 hw [] w_KEY w_ANY w_ONE w_SOME w_OPTIONAL w_KEY (1 : Int32) h0 n0 (own_old_le O0) ST O0 (Fld.ext O0.2 ST.k10)) hZ (ww8 hw) (ww2 hw) (by decide) (by decide)) q4a q4c (g := (mkF m 69 #[.val (.int p0), .val (.int ((p0 &&& (2147483647 : Int32)) % (5 : Int32))), .val (.ref w_KEY), .val (.int 0), .unset] [(.ref w_KEY)])) rfl (by rw [hml]; rfl) (Steps.refl _) (argsL := []) (rest := []) (lenOf pd_0 rfl) rfl (by show 2 * 0 + _ ≤ _; exact Nat.le_of_eq rfl) (hb hby at_69) (fun _ _ => ⟨rfl, e3, (by decide : 0 + 0 ≤ _), (by decide : 0 + 0 ≤ _)⟩)
    dsimp only [Pt.U, Pt.locs, Pt.cells, Pt.slots] at X4 l4 y4 z4 st4 hQ4
    subst l4 y4 z4
    obtain ⟨rfl, N4q, e4⟩ := hQ4
    have N4 := Fr.app N0 N4q
    refine step (fun t k => st4.trans k) ?_
    show G T4 (mkF m 72 #[.val (.int p0), .val (.int ((p0 &&& (2147483647 : Int32)) % (5 : Int32))), .val (.ref w_KEY), .val (.int 0), .unset] [(.int (f_isset w_KEY w_ANY w_ONE w_SOME w_OPTIONAL w_KEY (1 : Int32)))])
    have r5 : (f_isset w_KEY w_ANY w_ONE w_SOME w_OPTIONAL w_KEY (1 : Int32)) = (0 : Int32) := by
      unfold f_isset
      rw [if_neg (by decide : ¬ ((1 : Int32) < (1 : Int32)))]
    rw [r5]
    show G T4 (mkF m 72 #[.val (.int p0), .val (.int ((p0 &&& (2147483647 : Int32)) % (5 : Int32))), .val (.ref w_KEY), .val (.int 0), .unset] [(.int 0)])
    refine step (fun t k => XS.istore X4.here hx rfl (hb hby at_72) rfl (l' := #[.val (.int p0), .val (.int ((p0 &&& (2147483647 : Int32)) % (5 : Int32))), .val (.ref w_KEY), .val (.int 0), .val (.int 0)]) rfl k) ?_
    show G T4 (mkF m 74 #[.val (.int p0), .val (.int ((p0 &&& (2147483647 : Int32)) % (5 : Int32))), .val (.ref w_KEY), .val (.int 0), .val (.int 0)] [])
    refine step (fun t k => XS.iload X4.here hx rfl (hb hby at_74) rfl k) ?_
    show G T4 (mkF m 76 #[.val (.int p0), .val (.int ((p0 &&& (2147483647 : Int32)) % (5 : Int32))), .val (.ref w_KEY), .val (.int 0), .val (.int 0)] [(.int 0)])
    refine step (fun t k => XS.iloadN X4.here hx rfl (hb hby at_76) rfl k) ?_
    show G T4 (mkF m 77 #[.val (.int p0), .val (.int ((p0 &&& (2147483647 : Int32)) % (5 : Int32))), .val (.ref w_KEY), .val (.int 0), .val (.int 0)] [(.int 0), (.int 0)])
    refine step (fun t k => XS.icmpNo X4.here hx rfl (hb hby at_77) rfl (teq (by decide : (0 : Int32) = (0 : Int32))).2 k) ?_
    show G T4 (mkF m 80 #[.val (.int p0), .val (.int ((p0 &&& (2147483647 : Int32)) % (5 : Int32))), .val (.ref w_KEY), .val (.int 0), .val (.int 0)] [])
    refine step (fun t k => XS.iload X4.here hx rfl (hb hby at_80) rfl k) ?_
    show G T4 (mkF m 82 #[.val (.int p0), .val (.int ((p0 &&& (2147483647 : Int32)) % (5 : Int32))), .val (.ref w_KEY), .val (.int 0), .val (.int 0)] [(.int 0)])
    refine step (fun t k => XS.aloadN X4.here hx rfl (hb hby at_82) rfl rfl k) ?_
    show G T4 (mkF m 83 #[.val (.int p0), .val (.int ((p0 &&& (2147483647 : Int32)) % (5 : Int32))), .val (.ref w_KEY), .val (.int 0), .val (.int 0)] [(.ref w_KEY), (.int 0)])
    refine step (fun t k => XS.iconst X4.here hx rfl (hb hby at_83) k) ?_
    show G T4 (mkF m 84 #[.val (.int p0), .val (.int ((p0 &&& (2147483647 : Int32)) % (5 : Int32))), .val (.ref w_KEY), .val (.int 0), .val (.int 0)] [(.int 2), (.ref w_KEY), (.int 0)])
    obtain ⟨cq6, kq6, q6a, q6b, q6c⟩ := isOf hZ e4 (Exa.ext O0.2 ST.k1)
    obtain ⟨_, _, ⟨T6, L6, k6, n6⟩, -, X6, ⟨Lc6, hQ6, l6, y6, z6⟩, st6⟩ := X4.virtualBack hx (y := y_0) (z := y_0) hown (mvT hZ (ww11 hw)) (mvT hZ (ww12 hw)) (notFace_of_selects (args := #[]) (mvT hZ (ww14 hw))) (mvT hZ (ww14 hw)) (mvT hZ (ww13 hw)) (by decide) (backOf (W := 1) (rm_adm l Z a0 hw [] w_KEY w_ANY w_ONE w_SOME w_OPTIONAL w_KEY (2 : Int32) (1 : Int32) (1 : Int32) h0 n0 (own_old_le O0) ST O0 (Fld.ext O0.2 ST.k11) (Fld.ext O0.2 ST.k10)) hZ (ww15 hw) (ww2 hw) (by decide) (by decide)) q6a q6c (g := (mkF m 84 #[.val (.int p0), .val (.int ((p0 &&& (2147483647 : Int32)) % (5 : Int32))), .val (.ref w_KEY), .val (.int 0), .val (.int 0)] [(.int 2), (.ref w_KEY), (.int 0)])) rfl (by rw [hml]; rfl) (Steps.refl _) (argsL := [(.int 2)]) (rest := [(.int 0)]) (lenOf pd_1 rfl) rfl (by show 2 * 0 + _ ≤ _; exact Nat.le_of_eq rfl) (hb hby at_84) (fun _ _ => ⟨rfl, e4, (by decide : 0 + 0 ≤ _), (by decide : 0 + 0 ≤ _)⟩)
    dsimp only [Pt.U, Pt.locs, Pt.cells, Pt.slots] at X6 l6 y6 z6 st6 hQ6
    subst l6 y6 z6
    obtain ⟨rfl, N6q, e6⟩ := hQ6
    have N6 := Fr.app N4 N6q
    refine step (fun t k => st6.trans k) ?_
    show G T6 (mkF m 87 #[.val (.int p0), .val (.int ((p0 &&& (2147483647 : Int32)) % (5 : Int32))), .val (.ref w_KEY), .val (.int 0), .val (.int 0)] [(.int (f_adm w_KEY w_ANY w_ONE w_SOME w_OPTIONAL w_KEY (2 : Int32) (1 : Int32) (1 : Int32))), (.int 0)])
    have r7 : (f_adm w_KEY w_ANY w_ONE w_SOME w_OPTIONAL w_KEY (2 : Int32) (1 : Int32) (1 : Int32)) = (0 : Int32) := by
      unfold f_adm
      rw [if_neg (by decide : ¬ ((2 : Int32) < (1 : Int32))), if_pos (by decide : (1 : Int32) < (2 : Int32))]
    rw [r7]
    show G T6 (mkF m 87 #[.val (.int p0), .val (.int ((p0 &&& (2147483647 : Int32)) % (5 : Int32))), .val (.ref w_KEY), .val (.int 0), .val (.int 0)] [(.int 0), (.int 0)])
    refine step (fun t k => XS.icmpNo X6.here hx rfl (hb hby at_87) rfl (teq (by decide : (0 : Int32) = (0 : Int32))).2 k) ?_
    show G T6 (mkF m 90 #[.val (.int p0), .val (.int ((p0 &&& (2147483647 : Int32)) % (5 : Int32))), .val (.ref w_KEY), .val (.int 0), .val (.int 0)] [])
    refine step (fun t k => XS.iconst X6.here hx rfl (hb hby at_90) k) ?_
    show G T6 (mkF m 91 #[.val (.int p0), .val (.int ((p0 &&& (2147483647 : Int32)) % (5 : Int32))), .val (.ref w_KEY), .val (.int 0), .val (.int 0)] [(.int 1)])
    refine step (fun t k => XS.goto X6.here hx rfl (pc0 := 91) (pc' := 95) rfl (hb hby at_91) (by decide) (by decide) k) ?_
    show G T6 (mkF m 95 #[.val (.int p0), .val (.int ((p0 &&& (2147483647 : Int32)) % (5 : Int32))), .val (.ref w_KEY), .val (.int 0), .val (.int 0)] [(.int 1)])
    exact ret (v := some (.int 1)) X6 (fun h => by rw [Bd.returns] at h; cases h) (fun fs hr => retN X6 hx (t := .boolean) Bd.returns (by simp) (hb hby at_95) hr) e6 ⟨rfl, N6⟩ (by decide) (by decide)
  · skip
    refine step (fun t k => XS.ifYes X0.here hx rfl (pc0 := 8) (pc' := 20) rfl (hb hby at_8) rfl ((if0 _ _).trans (feq hc2).2) (by decide) (by decide) k) ?_
    show G s₁ (mkF m 20 #[.val (.int p0), .val (.int ((p0 &&& (2147483647 : Int32)) % (5 : Int32))), .unset, .unset, .unset] [])
    refine step (fun t k => XS.iloadN X0.here hx rfl (hb hby at_20) rfl k) ?_
    show G s₁ (mkF m 21 #[.val (.int p0), .val (.int ((p0 &&& (2147483647 : Int32)) % (5 : Int32))), .unset, .unset, .unset] [(.int ((p0 &&& (2147483647 : Int32)) % (5 : Int32)))])
    refine step (fun t k => XS.iconst X0.here hx rfl (hb hby at_21) k) ?_
    show G s₁ (mkF m 22 #[.val (.int p0), .val (.int ((p0 &&& (2147483647 : Int32)) % (5 : Int32))), .unset, .unset, .unset] [(.int 1), (.int ((p0 &&& (2147483647 : Int32)) % (5 : Int32)))])
    by_cases hc8 : ((p0 &&& (2147483647 : Int32)) % (5 : Int32)) = (1 : Int32)
    · skip
      refine step (fun t k => XS.icmpNo X0.here hx rfl (hb hby at_22) rfl (teq hc8).2 k) ?_
      show G s₁ (mkF m 25 #[.val (.int p0), .val (.int ((p0 &&& (2147483647 : Int32)) % (5 : Int32))), .unset, .unset, .unset] [])
      obtain ⟨T9, X9, e9, st9⟩ := getS2 X0 hx hZ hown (host := "") (Or.inl (ww20 hw)) Via.refl e0 (Sta.ext O0.2 ST.k4) (g := (mkF m 25 #[.val (.int p0), .val (.int ((p0 &&& (2147483647 : Int32)) % (5 : Int32))), .unset, .unset, .unset] [])) rfl (hb hby at_25)
      refine step st9 ?_
      show G T9 (mkF m 28 #[.val (.int p0), .val (.int ((p0 &&& (2147483647 : Int32)) % (5 : Int32))), .unset, .unset, .unset] [(.ref w_ONE)])
      refine step (fun t k => XS.astoreN X9.here hx rfl (hb hby at_28) rfl rfl (l' := #[.val (.int p0), .val (.int ((p0 &&& (2147483647 : Int32)) % (5 : Int32))), .val (.ref w_ONE), .unset, .unset]) rfl k) ?_
      show G T9 (mkF m 29 #[.val (.int p0), .val (.int ((p0 &&& (2147483647 : Int32)) % (5 : Int32))), .val (.ref w_ONE), .unset, .unset] [])
      refine step (fun t k => XS.iconst X9.here hx rfl (hb hby at_29) k) ?_
      show G T9 (mkF m 30 #[.val (.int p0), .val (.int ((p0 &&& (2147483647 : Int32)) % (5 : Int32))), .val (.ref w_ONE), .unset, .unset] [(.int 0)])
      refine step (fun t k => XS.istoreN X9.here hx rfl (hb hby at_30) rfl (l' := #[.val (.int p0), .val (.int ((p0 &&& (2147483647 : Int32)) % (5 : Int32))), .val (.ref w_ONE), .val (.int 0), .unset]) rfl k) ?_
      show G T9 (mkF m 31 #[.val (.int p0), .val (.int ((p0 &&& (2147483647 : Int32)) % (5 : Int32))), .val (.ref w_ONE), .val (.int 0), .unset] [])
      refine step (fun t k => XS.goto X9.here hx rfl (pc0 := 31) (pc' := 68) rfl (hb hby at_31) (by decide) (by decide) k) ?_
      show G T9 (mkF m 68 #[.val (.int p0), .val (.int ((p0 &&& (2147483647 : Int32)) % (5 : Int32))), .val (.ref w_ONE), .val (.int 0), .unset] [])
      refine step (fun t k => XS.aloadN X9.here hx rfl (hb hby at_68) rfl rfl k) ?_
      show G T9 (mkF m 69 #[.val (.int p0), .val (.int ((p0 &&& (2147483647 : Int32)) % (5 : Int32))), .val (.ref w_ONE), .val (.int 0), .unset] [(.ref w_ONE)])
      obtain ⟨cq10, kq10, q10a, q10b, q10c⟩ := isOf hZ e9 (Exa.ext O0.2 ST.k5)
      obtain ⟨_, _, ⟨T10, L10, k10, n10⟩, -, X10, ⟨Lc10, hQ10, l10, y10, z10⟩, st10⟩ := X9.virtualBack hx (y := y_1) (z := y_1) hown (mvT hZ (ww4 hw)) (mvT hZ (ww5 hw)) (notFace_of_selects (args := #[]) (mvT hZ (ww7 hw))) (mvT hZ (ww7 hw)) (mvT hZ (ww6 hw)) (by decide) (backOf (W := 0) (rm_isset l Z a0 hw [] w_KEY w_ANY w_ONE w_SOME w_OPTIONAL w_ONE (1 : Int32) h0 n0 (own_old_le O0) ST O0 (Fld.ext O0.2 ST.k14)) hZ (ww8 hw) (ww2 hw) (by decide) (by decide)) q10a q10c (g := (mkF m 69 #[.val (.int p0), .val (.int ((p0 &&& (2147483647 : Int32)) % (5 : Int32))), .val (.ref w_ONE), .val (.int 0), .unset] [(.ref w_ONE)])) rfl (by rw [hml]; rfl) (Steps.refl _) (argsL := []) (rest := []) (lenOf pd_0 rfl) rfl (by show 2 * 0 + _ ≤ _; exact Nat.le_of_eq rfl) (hb hby at_69) (fun _ _ => ⟨rfl, e9, (by decide : 0 + 0 ≤ _), (by decide : 0 + 0 ≤ _)⟩)
      dsimp only [Pt.U, Pt.locs, Pt.cells, Pt.slots] at X10 l10 y10 z10 st10 hQ10
      subst l10 y10 z10
      obtain ⟨rfl, N10q, e10⟩ := hQ10
      have N10 := Fr.app N0 N10q
      refine step (fun t k => st10.trans k) ?_
      show G T10 (mkF m 72 #[.val (.int p0), .val (.int ((p0 &&& (2147483647 : Int32)) % (5 : Int32))), .val (.ref w_ONE), .val (.int 0), .unset] [(.int (f_isset w_KEY w_ANY w_ONE w_SOME w_OPTIONAL w_ONE (1 : Int32)))])
      have r11 : (f_isset w_KEY w_ANY w_ONE w_SOME w_OPTIONAL w_ONE (1 : Int32)) = (0 : Int32) := by
        unfold f_isset
        rw [if_neg (by decide : ¬ ((1 : Int32) < (1 : Int32)))]
      rw [r11]
      show G T10 (mkF m 72 #[.val (.int p0), .val (.int ((p0 &&& (2147483647 : Int32)) % (5 : Int32))), .val (.ref w_ONE), .val (.int 0), .unset] [(.int 0)])
      refine step (fun t k => XS.istore X10.here hx rfl (hb hby at_72) rfl (l' := #[.val (.int p0), .val (.int ((p0 &&& (2147483647 : Int32)) % (5 : Int32))), .val (.ref w_ONE), .val (.int 0), .val (.int 0)]) rfl k) ?_
      show G T10 (mkF m 74 #[.val (.int p0), .val (.int ((p0 &&& (2147483647 : Int32)) % (5 : Int32))), .val (.ref w_ONE), .val (.int 0), .val (.int 0)] [])
      refine step (fun t k => XS.iload X10.here hx rfl (hb hby at_74) rfl k) ?_
      show G T10 (mkF m 76 #[.val (.int p0), .val (.int ((p0 &&& (2147483647 : Int32)) % (5 : Int32))), .val (.ref w_ONE), .val (.int 0), .val (.int 0)] [(.int 0)])
      refine step (fun t k => XS.iloadN X10.here hx rfl (hb hby at_76) rfl k) ?_
      show G T10 (mkF m 77 #[.val (.int p0), .val (.int ((p0 &&& (2147483647 : Int32)) % (5 : Int32))), .val (.ref w_ONE), .val (.int 0), .val (.int 0)] [(.int 0), (.int 0)])
      refine step (fun t k => XS.icmpNo X10.here hx rfl (hb hby at_77) rfl (teq (by decide : (0 : Int32) = (0 : Int32))).2 k) ?_
      show G T10 (mkF m 80 #[.val (.int p0), .val (.int ((p0 &&& (2147483647 : Int32)) % (5 : Int32))), .val (.ref w_ONE), .val (.int 0), .val (.int 0)] [])
      refine step (fun t k => XS.iload X10.here hx rfl (hb hby at_80) rfl k) ?_
      show G T10 (mkF m 82 #[.val (.int p0), .val (.int ((p0 &&& (2147483647 : Int32)) % (5 : Int32))), .val (.ref w_ONE), .val (.int 0), .val (.int 0)] [(.int 0)])
      refine step (fun t k => XS.aloadN X10.here hx rfl (hb hby at_82) rfl rfl k) ?_
      show G T10 (mkF m 83 #[.val (.int p0), .val (.int ((p0 &&& (2147483647 : Int32)) % (5 : Int32))), .val (.ref w_ONE), .val (.int 0), .val (.int 0)] [(.ref w_ONE), (.int 0)])
      refine step (fun t k => XS.iconst X10.here hx rfl (hb hby at_83) k) ?_
      show G T10 (mkF m 84 #[.val (.int p0), .val (.int ((p0 &&& (2147483647 : Int32)) % (5 : Int32))), .val (.ref w_ONE), .val (.int 0), .val (.int 0)] [(.int 2), (.ref w_ONE), (.int 0)])
      obtain ⟨cq12, kq12, q12a, q12b, q12c⟩ := isOf hZ e10 (Exa.ext O0.2 ST.k5)
      obtain ⟨_, _, ⟨T12, L12, k12, n12⟩, -, X12, ⟨Lc12, hQ12, l12, y12, z12⟩, st12⟩ := X10.virtualBack hx (y := y_0) (z := y_0) hown (mvT hZ (ww11 hw)) (mvT hZ (ww12 hw)) (notFace_of_selects (args := #[]) (mvT hZ (ww14 hw))) (mvT hZ (ww14 hw)) (mvT hZ (ww13 hw)) (by decide) (backOf (W := 1) (rm_adm l Z a0 hw [] w_KEY w_ANY w_ONE w_SOME w_OPTIONAL w_ONE (2 : Int32) (1 : Int32) (1 : Int32) h0 n0 (own_old_le O0) ST O0 (Fld.ext O0.2 ST.k15) (Fld.ext O0.2 ST.k14)) hZ (ww15 hw) (ww2 hw) (by decide) (by decide)) q12a q12c (g := (mkF m 84 #[.val (.int p0), .val (.int ((p0 &&& (2147483647 : Int32)) % (5 : Int32))), .val (.ref w_ONE), .val (.int 0), .val (.int 0)] [(.int 2), (.ref w_ONE), (.int 0)])) rfl (by rw [hml]; rfl) (Steps.refl _) (argsL := [(.int 2)]) (rest := [(.int 0)]) (lenOf pd_1 rfl) rfl (by show 2 * 0 + _ ≤ _; exact Nat.le_of_eq rfl) (hb hby at_84) (fun _ _ => ⟨rfl, e10, (by decide : 0 + 0 ≤ _), (by decide : 0 + 0 ≤ _)⟩)
      dsimp only [Pt.U, Pt.locs, Pt.cells, Pt.slots] at X12 l12 y12 z12 st12 hQ12
      subst l12 y12 z12
      obtain ⟨rfl, N12q, e12⟩ := hQ12
      have N12 := Fr.app N10 N12q
      refine step (fun t k => st12.trans k) ?_
      show G T12 (mkF m 87 #[.val (.int p0), .val (.int ((p0 &&& (2147483647 : Int32)) % (5 : Int32))), .val (.ref w_ONE), .val (.int 0), .val (.int 0)] [(.int (f_adm w_KEY w_ANY w_ONE w_SOME w_OPTIONAL w_ONE (2 : Int32) (1 : Int32) (1 : Int32))), (.int 0)])
      have r13 : (f_adm w_KEY w_ANY w_ONE w_SOME w_OPTIONAL w_ONE (2 : Int32) (1 : Int32) (1 : Int32)) = (0 : Int32) := by
        unfold f_adm
        rw [if_neg (by decide : ¬ ((2 : Int32) < (1 : Int32))), if_pos (by decide : (1 : Int32) < (2 : Int32))]
      rw [r13]
      show G T12 (mkF m 87 #[.val (.int p0), .val (.int ((p0 &&& (2147483647 : Int32)) % (5 : Int32))), .val (.ref w_ONE), .val (.int 0), .val (.int 0)] [(.int 0), (.int 0)])
      refine step (fun t k => XS.icmpNo X12.here hx rfl (hb hby at_87) rfl (teq (by decide : (0 : Int32) = (0 : Int32))).2 k) ?_
      show G T12 (mkF m 90 #[.val (.int p0), .val (.int ((p0 &&& (2147483647 : Int32)) % (5 : Int32))), .val (.ref w_ONE), .val (.int 0), .val (.int 0)] [])
      refine step (fun t k => XS.iconst X12.here hx rfl (hb hby at_90) k) ?_
      show G T12 (mkF m 91 #[.val (.int p0), .val (.int ((p0 &&& (2147483647 : Int32)) % (5 : Int32))), .val (.ref w_ONE), .val (.int 0), .val (.int 0)] [(.int 1)])
      refine step (fun t k => XS.goto X12.here hx rfl (pc0 := 91) (pc' := 95) rfl (hb hby at_91) (by decide) (by decide) k) ?_
      show G T12 (mkF m 95 #[.val (.int p0), .val (.int ((p0 &&& (2147483647 : Int32)) % (5 : Int32))), .val (.ref w_ONE), .val (.int 0), .val (.int 0)] [(.int 1)])
      exact ret (v := some (.int 1)) X12 (fun h => by rw [Bd.returns] at h; cases h) (fun fs hr => retN X12 hx (t := .boolean) Bd.returns (by simp) (hb hby at_95) hr) e12 ⟨rfl, N12⟩ (by decide) (by decide)
    · skip
      refine step (fun t k => XS.icmpYes X0.here hx rfl (pc0 := 22) (pc' := 34) rfl (hb hby at_22) rfl (feq hc8).2 (by decide) (by decide) k) ?_
      show G s₁ (mkF m 34 #[.val (.int p0), .val (.int ((p0 &&& (2147483647 : Int32)) % (5 : Int32))), .unset, .unset, .unset] [])
      refine step (fun t k => XS.iloadN X0.here hx rfl (hb hby at_34) rfl k) ?_
      show G s₁ (mkF m 35 #[.val (.int p0), .val (.int ((p0 &&& (2147483647 : Int32)) % (5 : Int32))), .unset, .unset, .unset] [(.int ((p0 &&& (2147483647 : Int32)) % (5 : Int32)))])
      refine step (fun t k => XS.iconst X0.here hx rfl (hb hby at_35) k) ?_
      show G s₁ (mkF m 36 #[.val (.int p0), .val (.int ((p0 &&& (2147483647 : Int32)) % (5 : Int32))), .unset, .unset, .unset] [(.int 2), (.int ((p0 &&& (2147483647 : Int32)) % (5 : Int32)))])
      by_cases hc14 : ((p0 &&& (2147483647 : Int32)) % (5 : Int32)) = (2 : Int32)
      · skip
        refine step (fun t k => XS.icmpNo X0.here hx rfl (hb hby at_36) rfl (teq hc14).2 k) ?_
        show G s₁ (mkF m 39 #[.val (.int p0), .val (.int ((p0 &&& (2147483647 : Int32)) % (5 : Int32))), .unset, .unset, .unset] [])
        obtain ⟨T15, X15, e15, st15⟩ := getS2 X0 hx hZ hown (host := "") (Or.inl (ww24 hw)) Via.refl e0 (Sta.ext O0.2 ST.k8) (g := (mkF m 39 #[.val (.int p0), .val (.int ((p0 &&& (2147483647 : Int32)) % (5 : Int32))), .unset, .unset, .unset] [])) rfl (hb hby at_39)
        refine step st15 ?_
        show G T15 (mkF m 42 #[.val (.int p0), .val (.int ((p0 &&& (2147483647 : Int32)) % (5 : Int32))), .unset, .unset, .unset] [(.ref w_OPTIONAL)])
        refine step (fun t k => XS.astoreN X15.here hx rfl (hb hby at_42) rfl rfl (l' := #[.val (.int p0), .val (.int ((p0 &&& (2147483647 : Int32)) % (5 : Int32))), .val (.ref w_OPTIONAL), .unset, .unset]) rfl k) ?_
        show G T15 (mkF m 43 #[.val (.int p0), .val (.int ((p0 &&& (2147483647 : Int32)) % (5 : Int32))), .val (.ref w_OPTIONAL), .unset, .unset] [])
        refine step (fun t k => XS.iconst X15.here hx rfl (hb hby at_43) k) ?_
        show G T15 (mkF m 44 #[.val (.int p0), .val (.int ((p0 &&& (2147483647 : Int32)) % (5 : Int32))), .val (.ref w_OPTIONAL), .unset, .unset] [(.int 0)])
        refine step (fun t k => XS.istoreN X15.here hx rfl (hb hby at_44) rfl (l' := #[.val (.int p0), .val (.int ((p0 &&& (2147483647 : Int32)) % (5 : Int32))), .val (.ref w_OPTIONAL), .val (.int 0), .unset]) rfl k) ?_
        show G T15 (mkF m 45 #[.val (.int p0), .val (.int ((p0 &&& (2147483647 : Int32)) % (5 : Int32))), .val (.ref w_OPTIONAL), .val (.int 0), .unset] [])
        refine step (fun t k => XS.goto X15.here hx rfl (pc0 := 45) (pc' := 68) rfl (hb hby at_45) (by decide) (by decide) k) ?_
        show G T15 (mkF m 68 #[.val (.int p0), .val (.int ((p0 &&& (2147483647 : Int32)) % (5 : Int32))), .val (.ref w_OPTIONAL), .val (.int 0), .unset] [])
        refine step (fun t k => XS.aloadN X15.here hx rfl (hb hby at_68) rfl rfl k) ?_
        show G T15 (mkF m 69 #[.val (.int p0), .val (.int ((p0 &&& (2147483647 : Int32)) % (5 : Int32))), .val (.ref w_OPTIONAL), .val (.int 0), .unset] [(.ref w_OPTIONAL)])
        obtain ⟨cq16, kq16, q16a, q16b, q16c⟩ := isOf hZ e15 (Exa.ext O0.2 ST.k9)
        obtain ⟨_, _, ⟨T16, L16, k16, n16⟩, -, X16, ⟨Lc16, hQ16, l16, y16, z16⟩, st16⟩ := X15.virtualBack hx (y := y_1) (z := y_1) hown (mvT hZ (ww4 hw)) (mvT hZ (ww5 hw)) (notFace_of_selects (args := #[]) (mvT hZ (ww7 hw))) (mvT hZ (ww7 hw)) (mvT hZ (ww6 hw)) (by decide) (backOf (W := 0) (rm_isset l Z a0 hw [] w_KEY w_ANY w_ONE w_SOME w_OPTIONAL w_OPTIONAL (1 : Int32) h0 n0 (own_old_le O0) ST O0 (Fld.ext O0.2 ST.k18)) hZ (ww8 hw) (ww2 hw) (by decide) (by decide)) q16a q16c (g := (mkF m 69 #[.val (.int p0), .val (.int ((p0 &&& (2147483647 : Int32)) % (5 : Int32))), .val (.ref w_OPTIONAL), .val (.int 0), .unset] [(.ref w_OPTIONAL)])) rfl (by rw [hml]; rfl) (Steps.refl _) (argsL := []) (rest := []) (lenOf pd_0 rfl) rfl (by show 2 * 0 + _ ≤ _; exact Nat.le_of_eq rfl) (hb hby at_69) (fun _ _ => ⟨rfl, e15, (by decide : 0 + 0 ≤ _), (by decide : 0 + 0 ≤ _)⟩)
        dsimp only [Pt.U, Pt.locs, Pt.cells, Pt.slots] at X16 l16 y16 z16 st16 hQ16
        subst l16 y16 z16
        obtain ⟨rfl, N16q, e16⟩ := hQ16
        have N16 := Fr.app N0 N16q
        refine step (fun t k => st16.trans k) ?_
        show G T16 (mkF m 72 #[.val (.int p0), .val (.int ((p0 &&& (2147483647 : Int32)) % (5 : Int32))), .val (.ref w_OPTIONAL), .val (.int 0), .unset] [(.int (f_isset w_KEY w_ANY w_ONE w_SOME w_OPTIONAL w_OPTIONAL (1 : Int32)))])
        have r17 : (f_isset w_KEY w_ANY w_ONE w_SOME w_OPTIONAL w_OPTIONAL (1 : Int32)) = (0 : Int32) := by
          unfold f_isset
          rw [if_neg (by decide : ¬ ((1 : Int32) < (1 : Int32)))]
        rw [r17]
        show G T16 (mkF m 72 #[.val (.int p0), .val (.int ((p0 &&& (2147483647 : Int32)) % (5 : Int32))), .val (.ref w_OPTIONAL), .val (.int 0), .unset] [(.int 0)])
        refine step (fun t k => XS.istore X16.here hx rfl (hb hby at_72) rfl (l' := #[.val (.int p0), .val (.int ((p0 &&& (2147483647 : Int32)) % (5 : Int32))), .val (.ref w_OPTIONAL), .val (.int 0), .val (.int 0)]) rfl k) ?_
        show G T16 (mkF m 74 #[.val (.int p0), .val (.int ((p0 &&& (2147483647 : Int32)) % (5 : Int32))), .val (.ref w_OPTIONAL), .val (.int 0), .val (.int 0)] [])
        refine step (fun t k => XS.iload X16.here hx rfl (hb hby at_74) rfl k) ?_
        show G T16 (mkF m 76 #[.val (.int p0), .val (.int ((p0 &&& (2147483647 : Int32)) % (5 : Int32))), .val (.ref w_OPTIONAL), .val (.int 0), .val (.int 0)] [(.int 0)])
        refine step (fun t k => XS.iloadN X16.here hx rfl (hb hby at_76) rfl k) ?_
        show G T16 (mkF m 77 #[.val (.int p0), .val (.int ((p0 &&& (2147483647 : Int32)) % (5 : Int32))), .val (.ref w_OPTIONAL), .val (.int 0), .val (.int 0)] [(.int 0), (.int 0)])
        refine step (fun t k => XS.icmpNo X16.here hx rfl (hb hby at_77) rfl (teq (by decide : (0 : Int32) = (0 : Int32))).2 k) ?_
        show G T16 (mkF m 80 #[.val (.int p0), .val (.int ((p0 &&& (2147483647 : Int32)) % (5 : Int32))), .val (.ref w_OPTIONAL), .val (.int 0), .val (.int 0)] [])
        refine step (fun t k => XS.iload X16.here hx rfl (hb hby at_80) rfl k) ?_
        show G T16 (mkF m 82 #[.val (.int p0), .val (.int ((p0 &&& (2147483647 : Int32)) % (5 : Int32))), .val (.ref w_OPTIONAL), .val (.int 0), .val (.int 0)] [(.int 0)])
        refine step (fun t k => XS.aloadN X16.here hx rfl (hb hby at_82) rfl rfl k) ?_
        show G T16 (mkF m 83 #[.val (.int p0), .val (.int ((p0 &&& (2147483647 : Int32)) % (5 : Int32))), .val (.ref w_OPTIONAL), .val (.int 0), .val (.int 0)] [(.ref w_OPTIONAL), (.int 0)])
        refine step (fun t k => XS.iconst X16.here hx rfl (hb hby at_83) k) ?_
        show G T16 (mkF m 84 #[.val (.int p0), .val (.int ((p0 &&& (2147483647 : Int32)) % (5 : Int32))), .val (.ref w_OPTIONAL), .val (.int 0), .val (.int 0)] [(.int 2), (.ref w_OPTIONAL), (.int 0)])
        obtain ⟨cq18, kq18, q18a, q18b, q18c⟩ := isOf hZ e16 (Exa.ext O0.2 ST.k9)
        obtain ⟨_, _, ⟨T18, L18, k18, n18⟩, -, X18, ⟨Lc18, hQ18, l18, y18, z18⟩, st18⟩ := X16.virtualBack hx (y := y_0) (z := y_0) hown (mvT hZ (ww11 hw)) (mvT hZ (ww12 hw)) (notFace_of_selects (args := #[]) (mvT hZ (ww14 hw))) (mvT hZ (ww14 hw)) (mvT hZ (ww13 hw)) (by decide) (backOf (W := 1) (rm_adm l Z a0 hw [] w_KEY w_ANY w_ONE w_SOME w_OPTIONAL w_OPTIONAL (2 : Int32) (0 : Int32) (1 : Int32) h0 n0 (own_old_le O0) ST O0 (Fld.ext O0.2 ST.k19) (Fld.ext O0.2 ST.k18)) hZ (ww15 hw) (ww2 hw) (by decide) (by decide)) q18a q18c (g := (mkF m 84 #[.val (.int p0), .val (.int ((p0 &&& (2147483647 : Int32)) % (5 : Int32))), .val (.ref w_OPTIONAL), .val (.int 0), .val (.int 0)] [(.int 2), (.ref w_OPTIONAL), (.int 0)])) rfl (by rw [hml]; rfl) (Steps.refl _) (argsL := [(.int 2)]) (rest := [(.int 0)]) (lenOf pd_1 rfl) rfl (by show 2 * 0 + _ ≤ _; exact Nat.le_of_eq rfl) (hb hby at_84) (fun _ _ => ⟨rfl, e16, (by decide : 0 + 0 ≤ _), (by decide : 0 + 0 ≤ _)⟩)
        dsimp only [Pt.U, Pt.locs, Pt.cells, Pt.slots] at X18 l18 y18 z18 st18 hQ18
        subst l18 y18 z18
        obtain ⟨rfl, N18q, e18⟩ := hQ18
        have N18 := Fr.app N16 N18q
        refine step (fun t k => st18.trans k) ?_
        show G T18 (mkF m 87 #[.val (.int p0), .val (.int ((p0 &&& (2147483647 : Int32)) % (5 : Int32))), .val (.ref w_OPTIONAL), .val (.int 0), .val (.int 0)] [(.int (f_adm w_KEY w_ANY w_ONE w_SOME w_OPTIONAL w_OPTIONAL (2 : Int32) (0 : Int32) (1 : Int32))), (.int 0)])
        have r19 : (f_adm w_KEY w_ANY w_ONE w_SOME w_OPTIONAL w_OPTIONAL (2 : Int32) (0 : Int32) (1 : Int32)) = (0 : Int32) := by
          unfold f_adm
          rw [if_neg (by decide : ¬ ((2 : Int32) < (0 : Int32))), if_pos (by decide : (1 : Int32) < (2 : Int32))]
        rw [r19]
        show G T18 (mkF m 87 #[.val (.int p0), .val (.int ((p0 &&& (2147483647 : Int32)) % (5 : Int32))), .val (.ref w_OPTIONAL), .val (.int 0), .val (.int 0)] [(.int 0), (.int 0)])
        refine step (fun t k => XS.icmpNo X18.here hx rfl (hb hby at_87) rfl (teq (by decide : (0 : Int32) = (0 : Int32))).2 k) ?_
        show G T18 (mkF m 90 #[.val (.int p0), .val (.int ((p0 &&& (2147483647 : Int32)) % (5 : Int32))), .val (.ref w_OPTIONAL), .val (.int 0), .val (.int 0)] [])
        refine step (fun t k => XS.iconst X18.here hx rfl (hb hby at_90) k) ?_
        show G T18 (mkF m 91 #[.val (.int p0), .val (.int ((p0 &&& (2147483647 : Int32)) % (5 : Int32))), .val (.ref w_OPTIONAL), .val (.int 0), .val (.int 0)] [(.int 1)])
        refine step (fun t k => XS.goto X18.here hx rfl (pc0 := 91) (pc' := 95) rfl (hb hby at_91) (by decide) (by decide) k) ?_
        show G T18 (mkF m 95 #[.val (.int p0), .val (.int ((p0 &&& (2147483647 : Int32)) % (5 : Int32))), .val (.ref w_OPTIONAL), .val (.int 0), .val (.int 0)] [(.int 1)])
        exact ret (v := some (.int 1)) X18 (fun h => by rw [Bd.returns] at h; cases h) (fun fs hr => retN X18 hx (t := .boolean) Bd.returns (by simp) (hb hby at_95) hr) e18 ⟨rfl, N18⟩ (by decide) (by decide)
      · skip
        refine step (fun t k => XS.icmpYes X0.here hx rfl (pc0 := 36) (pc' := 48) rfl (hb hby at_36) rfl (feq hc14).2 (by decide) (by decide) k) ?_
        show G s₁ (mkF m 48 #[.val (.int p0), .val (.int ((p0 &&& (2147483647 : Int32)) % (5 : Int32))), .unset, .unset, .unset] [])
        refine step (fun t k => XS.iloadN X0.here hx rfl (hb hby at_48) rfl k) ?_
        show G s₁ (mkF m 49 #[.val (.int p0), .val (.int ((p0 &&& (2147483647 : Int32)) % (5 : Int32))), .unset, .unset, .unset] [(.int ((p0 &&& (2147483647 : Int32)) % (5 : Int32)))])
        refine step (fun t k => XS.iconst X0.here hx rfl (hb hby at_49) k) ?_
        show G s₁ (mkF m 50 #[.val (.int p0), .val (.int ((p0 &&& (2147483647 : Int32)) % (5 : Int32))), .unset, .unset, .unset] [(.int 3), (.int ((p0 &&& (2147483647 : Int32)) % (5 : Int32)))])
        by_cases hc20 : ((p0 &&& (2147483647 : Int32)) % (5 : Int32)) = (3 : Int32)
        · skip
          refine step (fun t k => XS.icmpNo X0.here hx rfl (hb hby at_50) rfl (teq hc20).2 k) ?_
          show G s₁ (mkF m 53 #[.val (.int p0), .val (.int ((p0 &&& (2147483647 : Int32)) % (5 : Int32))), .unset, .unset, .unset] [])
          obtain ⟨T21, X21, e21, st21⟩ := getS2 X0 hx hZ hown (host := "") (Or.inl (ww18 hw)) Via.refl e0 (Sta.ext O0.2 ST.k2) (g := (mkF m 53 #[.val (.int p0), .val (.int ((p0 &&& (2147483647 : Int32)) % (5 : Int32))), .unset, .unset, .unset] [])) rfl (hb hby at_53)
          refine step st21 ?_
          show G T21 (mkF m 56 #[.val (.int p0), .val (.int ((p0 &&& (2147483647 : Int32)) % (5 : Int32))), .unset, .unset, .unset] [(.ref w_ANY)])
          refine step (fun t k => XS.astoreN X21.here hx rfl (hb hby at_56) rfl rfl (l' := #[.val (.int p0), .val (.int ((p0 &&& (2147483647 : Int32)) % (5 : Int32))), .val (.ref w_ANY), .unset, .unset]) rfl k) ?_
          show G T21 (mkF m 57 #[.val (.int p0), .val (.int ((p0 &&& (2147483647 : Int32)) % (5 : Int32))), .val (.ref w_ANY), .unset, .unset] [])
          refine step (fun t k => XS.iconst X21.here hx rfl (hb hby at_57) k) ?_
          show G T21 (mkF m 58 #[.val (.int p0), .val (.int ((p0 &&& (2147483647 : Int32)) % (5 : Int32))), .val (.ref w_ANY), .unset, .unset] [(.int 1)])
          refine step (fun t k => XS.istoreN X21.here hx rfl (hb hby at_58) rfl (l' := #[.val (.int p0), .val (.int ((p0 &&& (2147483647 : Int32)) % (5 : Int32))), .val (.ref w_ANY), .val (.int 1), .unset]) rfl k) ?_
          show G T21 (mkF m 59 #[.val (.int p0), .val (.int ((p0 &&& (2147483647 : Int32)) % (5 : Int32))), .val (.ref w_ANY), .val (.int 1), .unset] [])
          refine step (fun t k => XS.goto X21.here hx rfl (pc0 := 59) (pc' := 68) rfl (hb hby at_59) (by decide) (by decide) k) ?_
          show G T21 (mkF m 68 #[.val (.int p0), .val (.int ((p0 &&& (2147483647 : Int32)) % (5 : Int32))), .val (.ref w_ANY), .val (.int 1), .unset] [])
          refine step (fun t k => XS.aloadN X21.here hx rfl (hb hby at_68) rfl rfl k) ?_
          show G T21 (mkF m 69 #[.val (.int p0), .val (.int ((p0 &&& (2147483647 : Int32)) % (5 : Int32))), .val (.ref w_ANY), .val (.int 1), .unset] [(.ref w_ANY)])
          obtain ⟨cq22, kq22, q22a, q22b, q22c⟩ := isOf hZ e21 (Exa.ext O0.2 ST.k3)
          obtain ⟨_, _, ⟨T22, L22, k22, n22⟩, -, X22, ⟨Lc22, hQ22, l22, y22, z22⟩, st22⟩ := X21.virtualBack hx (y := y_1) (z := y_1) hown (mvT hZ (ww4 hw)) (mvT hZ (ww5 hw)) (notFace_of_selects (args := #[]) (mvT hZ (ww7 hw))) (mvT hZ (ww7 hw)) (mvT hZ (ww6 hw)) (by decide) (backOf (W := 0) (rm_isset l Z a0 hw [] w_KEY w_ANY w_ONE w_SOME w_OPTIONAL w_ANY (2147483647 : Int32) h0 n0 (own_old_le O0) ST O0 (Fld.ext O0.2 ST.k12)) hZ (ww8 hw) (ww2 hw) (by decide) (by decide)) q22a q22c (g := (mkF m 69 #[.val (.int p0), .val (.int ((p0 &&& (2147483647 : Int32)) % (5 : Int32))), .val (.ref w_ANY), .val (.int 1), .unset] [(.ref w_ANY)])) rfl (by rw [hml]; rfl) (Steps.refl _) (argsL := []) (rest := []) (lenOf pd_0 rfl) rfl (by show 2 * 0 + _ ≤ _; exact Nat.le_of_eq rfl) (hb hby at_69) (fun _ _ => ⟨rfl, e21, (by decide : 0 + 0 ≤ _), (by decide : 0 + 0 ≤ _)⟩)
          dsimp only [Pt.U, Pt.locs, Pt.cells, Pt.slots] at X22 l22 y22 z22 st22 hQ22
          subst l22 y22 z22
          obtain ⟨rfl, N22q, e22⟩ := hQ22
          have N22 := Fr.app N0 N22q
          refine step (fun t k => st22.trans k) ?_
          show G T22 (mkF m 72 #[.val (.int p0), .val (.int ((p0 &&& (2147483647 : Int32)) % (5 : Int32))), .val (.ref w_ANY), .val (.int 1), .unset] [(.int (f_isset w_KEY w_ANY w_ONE w_SOME w_OPTIONAL w_ANY (2147483647 : Int32)))])
          have r23 : (f_isset w_KEY w_ANY w_ONE w_SOME w_OPTIONAL w_ANY (2147483647 : Int32)) = (1 : Int32) := by
            unfold f_isset
            rw [if_pos (by decide : (1 : Int32) < (2147483647 : Int32))]
          rw [r23]
          show G T22 (mkF m 72 #[.val (.int p0), .val (.int ((p0 &&& (2147483647 : Int32)) % (5 : Int32))), .val (.ref w_ANY), .val (.int 1), .unset] [(.int 1)])
          refine step (fun t k => XS.istore X22.here hx rfl (hb hby at_72) rfl (l' := #[.val (.int p0), .val (.int ((p0 &&& (2147483647 : Int32)) % (5 : Int32))), .val (.ref w_ANY), .val (.int 1), .val (.int 1)]) rfl k) ?_
          show G T22 (mkF m 74 #[.val (.int p0), .val (.int ((p0 &&& (2147483647 : Int32)) % (5 : Int32))), .val (.ref w_ANY), .val (.int 1), .val (.int 1)] [])
          refine step (fun t k => XS.iload X22.here hx rfl (hb hby at_74) rfl k) ?_
          show G T22 (mkF m 76 #[.val (.int p0), .val (.int ((p0 &&& (2147483647 : Int32)) % (5 : Int32))), .val (.ref w_ANY), .val (.int 1), .val (.int 1)] [(.int 1)])
          refine step (fun t k => XS.iloadN X22.here hx rfl (hb hby at_76) rfl k) ?_
          show G T22 (mkF m 77 #[.val (.int p0), .val (.int ((p0 &&& (2147483647 : Int32)) % (5 : Int32))), .val (.ref w_ANY), .val (.int 1), .val (.int 1)] [(.int 1), (.int 1)])
          refine step (fun t k => XS.icmpNo X22.here hx rfl (hb hby at_77) rfl (teq (by decide : (1 : Int32) = (1 : Int32))).2 k) ?_
          show G T22 (mkF m 80 #[.val (.int p0), .val (.int ((p0 &&& (2147483647 : Int32)) % (5 : Int32))), .val (.ref w_ANY), .val (.int 1), .val (.int 1)] [])
          refine step (fun t k => XS.iload X22.here hx rfl (hb hby at_80) rfl k) ?_
          show G T22 (mkF m 82 #[.val (.int p0), .val (.int ((p0 &&& (2147483647 : Int32)) % (5 : Int32))), .val (.ref w_ANY), .val (.int 1), .val (.int 1)] [(.int 1)])
          refine step (fun t k => XS.aloadN X22.here hx rfl (hb hby at_82) rfl rfl k) ?_
          show G T22 (mkF m 83 #[.val (.int p0), .val (.int ((p0 &&& (2147483647 : Int32)) % (5 : Int32))), .val (.ref w_ANY), .val (.int 1), .val (.int 1)] [(.ref w_ANY), (.int 1)])
          refine step (fun t k => XS.iconst X22.here hx rfl (hb hby at_83) k) ?_
          show G T22 (mkF m 84 #[.val (.int p0), .val (.int ((p0 &&& (2147483647 : Int32)) % (5 : Int32))), .val (.ref w_ANY), .val (.int 1), .val (.int 1)] [(.int 2), (.ref w_ANY), (.int 1)])
          obtain ⟨cq24, kq24, q24a, q24b, q24c⟩ := isOf hZ e22 (Exa.ext O0.2 ST.k3)
          obtain ⟨_, _, ⟨T24, L24, k24, n24⟩, -, X24, ⟨Lc24, hQ24, l24, y24, z24⟩, st24⟩ := X22.virtualBack hx (y := y_0) (z := y_0) hown (mvT hZ (ww11 hw)) (mvT hZ (ww12 hw)) (notFace_of_selects (args := #[]) (mvT hZ (ww14 hw))) (mvT hZ (ww14 hw)) (mvT hZ (ww13 hw)) (by decide) (backOf (W := 1) (rm_adm l Z a0 hw [] w_KEY w_ANY w_ONE w_SOME w_OPTIONAL w_ANY (2 : Int32) (0 : Int32) (2147483647 : Int32) h0 n0 (own_old_le O0) ST O0 (Fld.ext O0.2 ST.k13) (Fld.ext O0.2 ST.k12)) hZ (ww15 hw) (ww2 hw) (by decide) (by decide)) q24a q24c (g := (mkF m 84 #[.val (.int p0), .val (.int ((p0 &&& (2147483647 : Int32)) % (5 : Int32))), .val (.ref w_ANY), .val (.int 1), .val (.int 1)] [(.int 2), (.ref w_ANY), (.int 1)])) rfl (by rw [hml]; rfl) (Steps.refl _) (argsL := [(.int 2)]) (rest := [(.int 1)]) (lenOf pd_1 rfl) rfl (by show 2 * 0 + _ ≤ _; exact Nat.le_of_eq rfl) (hb hby at_84) (fun _ _ => ⟨rfl, e22, (by decide : 0 + 0 ≤ _), (by decide : 0 + 0 ≤ _)⟩)
          dsimp only [Pt.U, Pt.locs, Pt.cells, Pt.slots] at X24 l24 y24 z24 st24 hQ24
          subst l24 y24 z24
          obtain ⟨rfl, N24q, e24⟩ := hQ24
          have N24 := Fr.app N22 N24q
          refine step (fun t k => st24.trans k) ?_
          show G T24 (mkF m 87 #[.val (.int p0), .val (.int ((p0 &&& (2147483647 : Int32)) % (5 : Int32))), .val (.ref w_ANY), .val (.int 1), .val (.int 1)] [(.int (f_adm w_KEY w_ANY w_ONE w_SOME w_OPTIONAL w_ANY (2 : Int32) (0 : Int32) (2147483647 : Int32))), (.int 1)])
          have r25 : (f_adm w_KEY w_ANY w_ONE w_SOME w_OPTIONAL w_ANY (2 : Int32) (0 : Int32) (2147483647 : Int32)) = (1 : Int32) := by
            unfold f_adm
            rw [if_neg (by decide : ¬ ((2 : Int32) < (0 : Int32))), if_neg (by decide : ¬ ((2147483647 : Int32) < (2 : Int32)))]
          rw [r25]
          show G T24 (mkF m 87 #[.val (.int p0), .val (.int ((p0 &&& (2147483647 : Int32)) % (5 : Int32))), .val (.ref w_ANY), .val (.int 1), .val (.int 1)] [(.int 1), (.int 1)])
          refine step (fun t k => XS.icmpNo X24.here hx rfl (hb hby at_87) rfl (teq (by decide : (1 : Int32) = (1 : Int32))).2 k) ?_
          show G T24 (mkF m 90 #[.val (.int p0), .val (.int ((p0 &&& (2147483647 : Int32)) % (5 : Int32))), .val (.ref w_ANY), .val (.int 1), .val (.int 1)] [])
          refine step (fun t k => XS.iconst X24.here hx rfl (hb hby at_90) k) ?_
          show G T24 (mkF m 91 #[.val (.int p0), .val (.int ((p0 &&& (2147483647 : Int32)) % (5 : Int32))), .val (.ref w_ANY), .val (.int 1), .val (.int 1)] [(.int 1)])
          refine step (fun t k => XS.goto X24.here hx rfl (pc0 := 91) (pc' := 95) rfl (hb hby at_91) (by decide) (by decide) k) ?_
          show G T24 (mkF m 95 #[.val (.int p0), .val (.int ((p0 &&& (2147483647 : Int32)) % (5 : Int32))), .val (.ref w_ANY), .val (.int 1), .val (.int 1)] [(.int 1)])
          exact ret (v := some (.int 1)) X24 (fun h => by rw [Bd.returns] at h; cases h) (fun fs hr => retN X24 hx (t := .boolean) Bd.returns (by simp) (hb hby at_95) hr) e24 ⟨rfl, N24⟩ (by decide) (by decide)
        · skip
          refine step (fun t k => XS.icmpYes X0.here hx rfl (pc0 := 50) (pc' := 62) rfl (hb hby at_50) rfl (feq hc20).2 (by decide) (by decide) k) ?_
          show G s₁ (mkF m 62 #[.val (.int p0), .val (.int ((p0 &&& (2147483647 : Int32)) % (5 : Int32))), .unset, .unset, .unset] [])
          obtain ⟨T26, X26, e26, st26⟩ := getS2 X0 hx hZ hown (host := "") (Or.inl (ww22 hw)) Via.refl e0 (Sta.ext O0.2 ST.k6) (g := (mkF m 62 #[.val (.int p0), .val (.int ((p0 &&& (2147483647 : Int32)) % (5 : Int32))), .unset, .unset, .unset] [])) rfl (hb hby at_62)
          refine step st26 ?_
          show G T26 (mkF m 65 #[.val (.int p0), .val (.int ((p0 &&& (2147483647 : Int32)) % (5 : Int32))), .unset, .unset, .unset] [(.ref w_SOME)])
          refine step (fun t k => XS.astoreN X26.here hx rfl (hb hby at_65) rfl rfl (l' := #[.val (.int p0), .val (.int ((p0 &&& (2147483647 : Int32)) % (5 : Int32))), .val (.ref w_SOME), .unset, .unset]) rfl k) ?_
          show G T26 (mkF m 66 #[.val (.int p0), .val (.int ((p0 &&& (2147483647 : Int32)) % (5 : Int32))), .val (.ref w_SOME), .unset, .unset] [])
          refine step (fun t k => XS.iconst X26.here hx rfl (hb hby at_66) k) ?_
          show G T26 (mkF m 67 #[.val (.int p0), .val (.int ((p0 &&& (2147483647 : Int32)) % (5 : Int32))), .val (.ref w_SOME), .unset, .unset] [(.int 1)])
          refine step (fun t k => XS.istoreN X26.here hx rfl (hb hby at_67) rfl (l' := #[.val (.int p0), .val (.int ((p0 &&& (2147483647 : Int32)) % (5 : Int32))), .val (.ref w_SOME), .val (.int 1), .unset]) rfl k) ?_
          show G T26 (mkF m 68 #[.val (.int p0), .val (.int ((p0 &&& (2147483647 : Int32)) % (5 : Int32))), .val (.ref w_SOME), .val (.int 1), .unset] [])
          refine step (fun t k => XS.aloadN X26.here hx rfl (hb hby at_68) rfl rfl k) ?_
          show G T26 (mkF m 69 #[.val (.int p0), .val (.int ((p0 &&& (2147483647 : Int32)) % (5 : Int32))), .val (.ref w_SOME), .val (.int 1), .unset] [(.ref w_SOME)])
          obtain ⟨cq27, kq27, q27a, q27b, q27c⟩ := isOf hZ e26 (Exa.ext O0.2 ST.k7)
          obtain ⟨_, _, ⟨T27, L27, k27, n27⟩, -, X27, ⟨Lc27, hQ27, l27, y27, z27⟩, st27⟩ := X26.virtualBack hx (y := y_1) (z := y_1) hown (mvT hZ (ww4 hw)) (mvT hZ (ww5 hw)) (notFace_of_selects (args := #[]) (mvT hZ (ww7 hw))) (mvT hZ (ww7 hw)) (mvT hZ (ww6 hw)) (by decide) (backOf (W := 0) (rm_isset l Z a0 hw [] w_KEY w_ANY w_ONE w_SOME w_OPTIONAL w_SOME (2147483647 : Int32) h0 n0 (own_old_le O0) ST O0 (Fld.ext O0.2 ST.k16)) hZ (ww8 hw) (ww2 hw) (by decide) (by decide)) q27a q27c (g := (mkF m 69 #[.val (.int p0), .val (.int ((p0 &&& (2147483647 : Int32)) % (5 : Int32))), .val (.ref w_SOME), .val (.int 1), .unset] [(.ref w_SOME)])) rfl (by rw [hml]; rfl) (Steps.refl _) (argsL := []) (rest := []) (lenOf pd_0 rfl) rfl (by show 2 * 0 + _ ≤ _; exact Nat.le_of_eq rfl) (hb hby at_69) (fun _ _ => ⟨rfl, e26, (by decide : 0 + 0 ≤ _), (by decide : 0 + 0 ≤ _)⟩)
          dsimp only [Pt.U, Pt.locs, Pt.cells, Pt.slots] at X27 l27 y27 z27 st27 hQ27
          subst l27 y27 z27
          obtain ⟨rfl, N27q, e27⟩ := hQ27
          have N27 := Fr.app N0 N27q
          refine step (fun t k => st27.trans k) ?_
          show G T27 (mkF m 72 #[.val (.int p0), .val (.int ((p0 &&& (2147483647 : Int32)) % (5 : Int32))), .val (.ref w_SOME), .val (.int 1), .unset] [(.int (f_isset w_KEY w_ANY w_ONE w_SOME w_OPTIONAL w_SOME (2147483647 : Int32)))])
          have r28 : (f_isset w_KEY w_ANY w_ONE w_SOME w_OPTIONAL w_SOME (2147483647 : Int32)) = (1 : Int32) := by
            unfold f_isset
            rw [if_pos (by decide : (1 : Int32) < (2147483647 : Int32))]
          rw [r28]
          show G T27 (mkF m 72 #[.val (.int p0), .val (.int ((p0 &&& (2147483647 : Int32)) % (5 : Int32))), .val (.ref w_SOME), .val (.int 1), .unset] [(.int 1)])
          refine step (fun t k => XS.istore X27.here hx rfl (hb hby at_72) rfl (l' := #[.val (.int p0), .val (.int ((p0 &&& (2147483647 : Int32)) % (5 : Int32))), .val (.ref w_SOME), .val (.int 1), .val (.int 1)]) rfl k) ?_
          show G T27 (mkF m 74 #[.val (.int p0), .val (.int ((p0 &&& (2147483647 : Int32)) % (5 : Int32))), .val (.ref w_SOME), .val (.int 1), .val (.int 1)] [])
          refine step (fun t k => XS.iload X27.here hx rfl (hb hby at_74) rfl k) ?_
          show G T27 (mkF m 76 #[.val (.int p0), .val (.int ((p0 &&& (2147483647 : Int32)) % (5 : Int32))), .val (.ref w_SOME), .val (.int 1), .val (.int 1)] [(.int 1)])
          refine step (fun t k => XS.iloadN X27.here hx rfl (hb hby at_76) rfl k) ?_
          show G T27 (mkF m 77 #[.val (.int p0), .val (.int ((p0 &&& (2147483647 : Int32)) % (5 : Int32))), .val (.ref w_SOME), .val (.int 1), .val (.int 1)] [(.int 1), (.int 1)])
          refine step (fun t k => XS.icmpNo X27.here hx rfl (hb hby at_77) rfl (teq (by decide : (1 : Int32) = (1 : Int32))).2 k) ?_
          show G T27 (mkF m 80 #[.val (.int p0), .val (.int ((p0 &&& (2147483647 : Int32)) % (5 : Int32))), .val (.ref w_SOME), .val (.int 1), .val (.int 1)] [])
          refine step (fun t k => XS.iload X27.here hx rfl (hb hby at_80) rfl k) ?_
          show G T27 (mkF m 82 #[.val (.int p0), .val (.int ((p0 &&& (2147483647 : Int32)) % (5 : Int32))), .val (.ref w_SOME), .val (.int 1), .val (.int 1)] [(.int 1)])
          refine step (fun t k => XS.aloadN X27.here hx rfl (hb hby at_82) rfl rfl k) ?_
          show G T27 (mkF m 83 #[.val (.int p0), .val (.int ((p0 &&& (2147483647 : Int32)) % (5 : Int32))), .val (.ref w_SOME), .val (.int 1), .val (.int 1)] [(.ref w_SOME), (.int 1)])
          refine step (fun t k => XS.iconst X27.here hx rfl (hb hby at_83) k) ?_
          show G T27 (mkF m 84 #[.val (.int p0), .val (.int ((p0 &&& (2147483647 : Int32)) % (5 : Int32))), .val (.ref w_SOME), .val (.int 1), .val (.int 1)] [(.int 2), (.ref w_SOME), (.int 1)])
          obtain ⟨cq29, kq29, q29a, q29b, q29c⟩ := isOf hZ e27 (Exa.ext O0.2 ST.k7)
          obtain ⟨_, _, ⟨T29, L29, k29, n29⟩, -, X29, ⟨Lc29, hQ29, l29, y29, z29⟩, st29⟩ := X27.virtualBack hx (y := y_0) (z := y_0) hown (mvT hZ (ww11 hw)) (mvT hZ (ww12 hw)) (notFace_of_selects (args := #[]) (mvT hZ (ww14 hw))) (mvT hZ (ww14 hw)) (mvT hZ (ww13 hw)) (by decide) (backOf (W := 1) (rm_adm l Z a0 hw [] w_KEY w_ANY w_ONE w_SOME w_OPTIONAL w_SOME (2 : Int32) (1 : Int32) (2147483647 : Int32) h0 n0 (own_old_le O0) ST O0 (Fld.ext O0.2 ST.k17) (Fld.ext O0.2 ST.k16)) hZ (ww15 hw) (ww2 hw) (by decide) (by decide)) q29a q29c (g := (mkF m 84 #[.val (.int p0), .val (.int ((p0 &&& (2147483647 : Int32)) % (5 : Int32))), .val (.ref w_SOME), .val (.int 1), .val (.int 1)] [(.int 2), (.ref w_SOME), (.int 1)])) rfl (by rw [hml]; rfl) (Steps.refl _) (argsL := [(.int 2)]) (rest := [(.int 1)]) (lenOf pd_1 rfl) rfl (by show 2 * 0 + _ ≤ _; exact Nat.le_of_eq rfl) (hb hby at_84) (fun _ _ => ⟨rfl, e27, (by decide : 0 + 0 ≤ _), (by decide : 0 + 0 ≤ _)⟩)
          dsimp only [Pt.U, Pt.locs, Pt.cells, Pt.slots] at X29 l29 y29 z29 st29 hQ29
          subst l29 y29 z29
          obtain ⟨rfl, N29q, e29⟩ := hQ29
          have N29 := Fr.app N27 N29q
          refine step (fun t k => st29.trans k) ?_
          show G T29 (mkF m 87 #[.val (.int p0), .val (.int ((p0 &&& (2147483647 : Int32)) % (5 : Int32))), .val (.ref w_SOME), .val (.int 1), .val (.int 1)] [(.int (f_adm w_KEY w_ANY w_ONE w_SOME w_OPTIONAL w_SOME (2 : Int32) (1 : Int32) (2147483647 : Int32))), (.int 1)])
          have r30 : (f_adm w_KEY w_ANY w_ONE w_SOME w_OPTIONAL w_SOME (2 : Int32) (1 : Int32) (2147483647 : Int32)) = (1 : Int32) := by
            unfold f_adm
            rw [if_neg (by decide : ¬ ((2 : Int32) < (1 : Int32))), if_neg (by decide : ¬ ((2147483647 : Int32) < (2 : Int32)))]
          rw [r30]
          show G T29 (mkF m 87 #[.val (.int p0), .val (.int ((p0 &&& (2147483647 : Int32)) % (5 : Int32))), .val (.ref w_SOME), .val (.int 1), .val (.int 1)] [(.int 1), (.int 1)])
          refine step (fun t k => XS.icmpNo X29.here hx rfl (hb hby at_87) rfl (teq (by decide : (1 : Int32) = (1 : Int32))).2 k) ?_
          show G T29 (mkF m 90 #[.val (.int p0), .val (.int ((p0 &&& (2147483647 : Int32)) % (5 : Int32))), .val (.ref w_SOME), .val (.int 1), .val (.int 1)] [])
          refine step (fun t k => XS.iconst X29.here hx rfl (hb hby at_90) k) ?_
          show G T29 (mkF m 91 #[.val (.int p0), .val (.int ((p0 &&& (2147483647 : Int32)) % (5 : Int32))), .val (.ref w_SOME), .val (.int 1), .val (.int 1)] [(.int 1)])
          refine step (fun t k => XS.goto X29.here hx rfl (pc0 := 91) (pc' := 95) rfl (hb hby at_91) (by decide) (by decide) k) ?_
          show G T29 (mkF m 95 #[.val (.int p0), .val (.int ((p0 &&& (2147483647 : Int32)) % (5 : Int32))), .val (.ref w_SOME), .val (.int 1), .val (.int 1)] [(.int 1)])
          exact ret (v := some (.int 1)) X29 (fun h => by rw [Bd.returns] at h; cases h) (fun fs hr => retN X29 hx (t := .boolean) Bd.returns (by simp) (hb hby at_95) hr) e29 ⟨rfl, N29⟩ (by decide) (by decide)
set_option maxRecDepth 65536 in
set_option maxHeartbeats 40000000 in
theorem comes_1 {Post : Tables → Env → Array Value → State → Outcome → State → Prop} (hpost : ∀ tb e args s v u, (limb_1_1.after args s (.returned v) u = true ∧ limb_1_2.after args s (.returned v) u = true ∧ True) → FrameEnd s (.returned v) u (Jvm.fieldLocs frame_1_writes args s ++ Jvm.arrayLocs frame_1_arrays args s ++ Jvm.staticLocs frame_1_statics s) 0 0 → Post tb e args s (.returned v) u) :
    ArmFor flags0 classFile x code maxLocals ret World_1 tables_1 room_1 Calls_1 rest_1 Pre_1 Post := by
  intro l hfl _ _ p e ha hc hk s m args below hf hA hF happ hP
  obtain ⟨hcalls, hrest, hpre⟩ := hP
  obtain ⟨-, -, -, hnamed, -, -, -, hat⟩ := (Spec.applies_iff hf).mp happ
  obtain ⟨hg, hn⟩ := and_e (Cond.before_iff.mp (show (Jvm.Cond.and given_1 narrow_1).before args s = true from hpre))
  obtain ⟨g1a, g1b⟩ := and_e hg
  obtain ⟨w0, rfl⟩ : ∃ w0 : Value, args = #[w0] := by
    have hs : args.size = 1 := by simpa [Cond.value, given_1] using g1a
    obtain ⟨L⟩ := args
    match L, hs with
    | [w0], _ => exact ⟨w0, rfl⟩
  have hw := fun d (hd : d ∈ tables_1) => atoms_spec (ws := Jvm.Cond.code x code maxLocals ret :: tables_1) hat d (List.mem_cons_of_mem _ hd)
  have hfit : Fit s := fun {y c} hc i hi => by
    obtain ⟨ha, rfl⟩ := Array.getElem?_eq_some_iff.mp hc
    have q := List.all_eq_true.mp ((Array.all_eq_true_iff_forall_mem.mp hF) _ (Array.getElem_mem ha)) i (List.mem_range.mpr hi)
    simpa [Array.getElem?_eq_getElem hi] using q
  obtain ⟨i0, ei0⟩ := is_v g1b
  obtain rfl : w0 = (.int i0) := Option.some.inj ei0
  obtain ⟨k1a, k1b⟩ := and_e hn
  obtain ⟨k2a, k2b⟩ := and_e k1b
  obtain ⟨k3a, k3b⟩ := and_e k2b
  obtain ⟨k4a, k4b⟩ := and_e k3b
  obtain ⟨k5a, k5b⟩ := and_e k4b
  obtain ⟨k6a, k6b⟩ := and_e k5b
  obtain ⟨k7a, k7b⟩ := and_e k6b
  obtain ⟨k8a, k8b⟩ := and_e k7b
  obtain ⟨k9a, k9b⟩ := and_e k8b
  obtain ⟨k10a, k10b⟩ := and_e k9b
  obtain ⟨k11a, k11b⟩ := and_e k10b
  obtain ⟨k12a, k12b⟩ := and_e k11b
  obtain ⟨k13a, k13b⟩ := and_e k12b
  obtain ⟨k14a, k14b⟩ := and_e k13b
  obtain ⟨w_KEY, ev_KEY⟩ := exa_v k1a
  obtain ⟨w_ANY, ev_ANY⟩ := exa_v k4a
  obtain ⟨w_ONE, ev_ONE⟩ := exa_v k7a
  obtain ⟨w_SOME, ev_SOME⟩ := exa_v k10a
  obtain ⟨w_OPTIONAL, ev_OPTIONAL⟩ := exa_v k13a
  obtain ⟨n, o, h1, h2, h3, _, L, rfl, ⟨rfl, N⟩, hq⟩ := rm_law l s _ hw tables_1 w_KEY w_ANY w_ONE w_SOME w_OPTIONAL i0 s.heap s.heap.size (Nat.le_refl _) ⟨Sta.start ev_KEY (Or.inr ⟨(ww2 hw), (ww3 hw)⟩), Exa.start ev_KEY k1a, Sta.start ev_ANY (Or.inr ⟨(ww2 hw), (ww19 hw)⟩), Exa.start ev_ANY k4a, Sta.start ev_ONE (Or.inr ⟨(ww2 hw), (ww21 hw)⟩), Exa.start ev_ONE k7a, Sta.start ev_SOME (Or.inr ⟨(ww2 hw), (ww23 hw)⟩), Exa.start ev_SOME k10a, Sta.start ev_OPTIONAL (Or.inr ⟨(ww2 hw), (ww25 hw)⟩), Exa.start ev_OPTIONAL k13a, own_fldI ev_KEY k2a, own_fldI ev_KEY k3a, own_fldI ev_ANY k5a, own_fldI ev_ANY k6a, own_fldI ev_ONE k8a, own_fldI ev_ONE k9a, own_fldI ev_SOME k11a, own_fldI ev_SOME k12a, own_fldI ev_OPTIONAL k14a, own_fldI ev_OPTIONAL k14b⟩ (Old.start s)  p e ha hc hk s m _ below hf ((Spec.applies_iff_loose hf).mp happ).1 ⟨rfl, State.Warmed39.refl s, rfl⟩ trivial
  refine ⟨n, _, h1, h2, h3, hpost _ _ _ _ _ _ ⟨Cond.after_iff.mpr rfl, Cond.after_iff.mpr (eq_i res_at (Term.int_eval (1)) rfl), trivial⟩ ⟨hq.1, hq.2.1, (hq.2.2.sift fun y hy => Or.inr (N y hy)).mono (by decide) (by decide)⟩⟩
theorem main_1_1 : Claimed_1_1 := comes_1 fun _ _ _ _ _ _ h hF => ⟨h.1, hF⟩
theorem main_1_2 : Claimed_1_2 := comes_1 fun _ _ _ _ _ _ h hF => ⟨h.2.1, hF⟩
end Jvm.Pilot.@@N@@
namespace Jvm.Pilot.@@N@@
open Jvm Jvm.ClassFile Sem Op Lib Jvm.Free Jvm.Stand Jvm.Pilot.@@N@@.Jvm.D
/-! MADE BY PROGRAM (witnessworld.py) out of the Statement's table words and the real class files: 12 classes; the members and pool entries that the words name. The judged class is class 1, her method 1. -/
namespace start1
open Jvm.ClassFile
def u (s : String) : CpInfo := .utf8 (stringToUtf16 s)
/-- a pool by its gaps: so many unusable entries, then the entry; so many at the end -/
def gap : Nat → List CpInfo → List CpInfo
  | 0, r => r
  | n + 1, r => .unusable :: gap n r
def poolList (es : List (Nat × CpInfo)) (last : Nat) : List CpInfo := es.foldr (fun e r => gap e.1 (e.2 :: r)) (gap last [])
def pool (es : List (Nat × CpInfo)) (last : Nat) : Array CpInfo := ⟨poolList es last⟩
def fileOf (pool : Array CpInfo) (this : Nat) (attrs : Array Attribute := #[]) (ms : Array MethodInfo := #[]) (fl : Nat := 33) (sup : Nat := 0) (ifs : Array Nat := #[]) (fds : Array FieldInfo := #[]) : ClassFile where
  minorVersion := 0
  majorVersion := 65
  constantPool := pool
  accessFlags := fl
  thisClass := this
  superClass := sup
  interfaces := ifs
  fields := fds
  methods := ms
  attributes := attrs
def plain (name : String) (sup : Option ClassId) : Class where
  name := name
  kind := .ordinary
  loader := none
  accessFlags := 33
  super := sup
  interfaces := #[]
  cf := none
  fields := #[]
  methods := #[]
  instanceTypes := #[]
  staticTypes := #[]
  resolved := #[]
  callSites := []
  init := .initialized
  statics := none
  mirror := none

def pool0 : Array CpInfo := pool [(5, u "<init>"), (0, u "()V"), (1, .class_ 10), (1, u "java/lang/Object")] 113

def k0m0 : Method := { name := "<init>", desc := "()V", sig := { parameters := [], returnType := none }, accessFlags := 1, code := none }
/-- java/lang/Object -/
def k0 : Class := { plain "java/lang/Object" none with
  accessFlags := 33
  interfaces := #[]
  cf := some (fileOf pool0 8 #[] #[{ accessFlags := 1, nameIndex := 5, descriptorIndex := 6, attributes := #[] }] 33 0 #[] #[])
  fields := #[]
  methods := #[k0m0]
  instanceTypes := #[]
  staticTypes := #[]
  resolved := Array.replicate 124 none
  statics := none }

def pool1 : Array CpInfo := pool [(2, .class_ 4), (1, u "java/lang/Object"), (0, u "<init>"), (0, u "()V"), (0, .integer 2147483647), (0, .fieldref 9 10), (0, .class_ 11), (0, .nameAndType 12 13), (0, u "com/example/refmint/refmint/citedb/CitationRule$Mark"), (0, u "KEY"), (0, u "Lcom/example/refmint/refmint/citedb/CitationRule$Mark;"), (0, .fieldref 9 15), (0, .nameAndType 16 13), (0, u "ONE"), (0, .fieldref 9 18), (0, .nameAndType 19 13), (0, u "OPTIONAL"), (0, .fieldref 9 21), (0, .nameAndType 22 13), (0, u "ANY"), (0, .fieldref 9 24), (0, .nameAndType 25 13), (0, u "SOME"), (0, .methodref 9 27), (0, .nameAndType 28 29), (0, u "isSet"), (0, u "()Z"), (0, .methodref 9 31), (0, .nameAndType 32 33), (0, u "admits"), (0, u "(I)Z"), (0, .class_ 35), (0, u "com/example/refmint/refmint/citedb/MarkIsSetPinLaw"), (2, u "law")] 7

def k1m0 : Method := { name := "<init>", desc := "()V", sig := { parameters := [], returnType := none }, accessFlags := 1, code := none }
def k1c1 : Code := { maxStack := 3, maxLocals := 5, code := code, exceptionTable := #[], attributes := #[] }
def k1m1 : Method := { name := "law", desc := "(I)Z", sig := { parameters := [.int], returnType := some .boolean }, accessFlags := 9, code := some k1c1 }
/-- com/example/refmint/refmint/citedb/MarkIsSetPinLaw -/
def k1 : Class := { plain "com/example/refmint/refmint/citedb/MarkIsSetPinLaw" (some 0) with
  accessFlags := 49
  interfaces := #[]
  cf := some (fileOf pool1 34 #[] #[{ accessFlags := 1, nameIndex := 5, descriptorIndex := 6, attributes := #[] }, { accessFlags := 9, nameIndex := 38, descriptorIndex := 33, attributes := #[] }] 49 2 #[] #[])
  fields := #[]
  methods := #[k1m0, k1m1]
  instanceTypes := #[]
  staticTypes := #[]
  resolved := Array.replicate 46 none
  statics := none }

def pool2 : Array CpInfo := pool [(1, .class_ 2), (0, u "java/lang/constant/Constable"), (0, .class_ 4), (0, u "java/lang/Object")] 6

/-- java/lang/constant/Constable -/
def k2 : Class := { plain "java/lang/constant/Constable" (some 0) with
  accessFlags := 1537
  interfaces := #[]
  cf := some (fileOf pool2 1 #[] #[] 1537 3 #[] #[])
  fields := #[]
  methods := #[]
  instanceTypes := #[]
  staticTypes := #[]
  resolved := Array.replicate 11 none
  statics := none }

def pool3 : Array CpInfo := pool [(1, .class_ 2), (0, u "java/lang/Comparable"), (0, .class_ 4), (0, u "java/lang/Object")] 7

/-- java/lang/Comparable -/
def k3 : Class := { plain "java/lang/Comparable" (some 0) with
  accessFlags := 1537
  interfaces := #[]
  cf := some (fileOf pool3 1 #[] #[] 1537 3 #[] #[])
  fields := #[]
  methods := #[]
  instanceTypes := #[]
  staticTypes := #[]
  resolved := Array.replicate 12 none
  statics := none }

def pool4 : Array CpInfo := pool [(1, .class_ 2), (0, u "java/io/Serializable"), (0, .class_ 4), (0, u "java/lang/Object")] 2

/-- java/io/Serializable -/
def k4 : Class := { plain "java/io/Serializable" (some 0) with
  accessFlags := 1537
  interfaces := #[]
  cf := some (fileOf pool4 1 #[] #[] 1537 3 #[] #[])
  fields := #[]
  methods := #[]
  instanceTypes := #[]
  staticTypes := #[]
  resolved := Array.replicate 7 none
  statics := none }

def pool5 : Array CpInfo := pool [(2, .class_ 4), (1, u "java/lang/Enum"), (0, u "name"), (0, u "Ljava/lang/String;"), (2, u "ordinal"), (0, u "I"), (1, .class_ 14), (1, u "java/lang/Object"), (4, u "hash"), (86, .class_ 108), (1, u "java/lang/Enum$EnumDesc"), (2, .class_ 112), (0, u "java/lang/constant/Constable"), (0, .class_ 114), (0, u "java/lang/Comparable"), (0, .class_ 116), (0, u "java/io/Serializable")] 87

/-- java/lang/Enum -/
def k5 : Class := { plain "java/lang/Enum" (some 0) with
  accessFlags := 1057
  interfaces := #[2, 3, 4]
  cf := some (fileOf pool5 2 #[.nestMembers #[106]] #[] 1057 12 #[111, 113, 115] #[{ accessFlags := 18, nameIndex := 5, descriptorIndex := 6, attributes := #[] }, { accessFlags := 18, nameIndex := 9, descriptorIndex := 10, attributes := #[] }, { accessFlags := 2, nameIndex := 19, descriptorIndex := 10, attributes := #[] }])
  fields := #[{ name := "name", type := (.object "java/lang/String"), accessFlags := 18, slot := 0, constantValue := 0 }, { name := "ordinal", type := .int, accessFlags := 18, slot := 1, constantValue := 0 }, { name := "hash", type := .int, accessFlags := 2, slot := 2, constantValue := 0 }]
  methods := #[]
  instanceTypes := #[(.object "java/lang/String"), .int, .int]
  staticTypes := #[]
  resolved := Array.replicate 204 none
  statics := none }

def pool6 : Array CpInfo := pool [(1, .class_ 2), (0, u "com/example/refmint/refmint/citedb/CitationRule$Mark"), (2, u "KEY"), (0, u "Lcom/example/refmint/refmint/citedb/CitationRule$Mark;"), (2, u "ONE"), (2, u "OPTIONAL"), (2, u "ANY"), (2, u "SOME"), (2, u "$VALUES"), (0, u "[Lcom/example/refmint/refmint/citedb/CitationRule$Mark;"), (6, .class_ 31), (1, u "java/lang/Enum"), (8, u "sign"), (0, u "C"), (0, .fieldref 1 43), (0, .nameAndType 44 45), (0, u "least"), (0, u "I"), (0, .fieldref 1 47), (0, .nameAndType 48 45), (0, u "most"), (2, u "wants"), (0, u "Ljava/lang/String;"), (42, u "admits"), (0, u "(I)Z"), (1, u "isSet"), (0, u "()Z"), (10, .class_ 111), (0, u "com/example/refmint/refmint/citedb/CitationRule")] 2

def k6c0 : Code := { maxStack := 2, maxLocals := 2, code := prog_11_method_4_code, exceptionTable := #[], attributes := #[] }
def k6m0 : Method := { name := "admits", desc := "(I)Z", sig := { parameters := [.int], returnType := some .boolean }, accessFlags := 1, code := some k6c0 }
def k6c1 : Code := { maxStack := 2, maxLocals := 1, code := prog_11_method_5_code, exceptionTable := #[], attributes := #[] }
def k6m1 : Method := { name := "isSet", desc := "()Z", sig := { parameters := [], returnType := some .boolean }, accessFlags := 1, code := some k6c1 }
/-- com/example/refmint/refmint/citedb/CitationRule$Mark -/
def k6 : Class := { plain "com/example/refmint/refmint/citedb/CitationRule$Mark" (some 5) with
  accessFlags := 16433
  interfaces := #[]
  cf := some (fileOf pool6 1 #[.nestHost 110] #[{ accessFlags := 1, nameIndex := 95, descriptorIndex := 96, attributes := #[] }, { accessFlags := 1, nameIndex := 98, descriptorIndex := 99, attributes := #[] }] 16433 29 #[] #[{ accessFlags := 16409, nameIndex := 5, descriptorIndex := 6, attributes := #[] }, { accessFlags := 16409, nameIndex := 9, descriptorIndex := 6, attributes := #[] }, { accessFlags := 16409, nameIndex := 12, descriptorIndex := 6, attributes := #[] }, { accessFlags := 16409, nameIndex := 15, descriptorIndex := 6, attributes := #[] }, { accessFlags := 16409, nameIndex := 18, descriptorIndex := 6, attributes := #[] }, { accessFlags := 18, nameIndex := 40, descriptorIndex := 41, attributes := #[] }, { accessFlags := 18, nameIndex := 44, descriptorIndex := 45, attributes := #[] }, { accessFlags := 18, nameIndex := 48, descriptorIndex := 45, attributes := #[] }, { accessFlags := 18, nameIndex := 51, descriptorIndex := 52, attributes := #[] }, { accessFlags := 4122, nameIndex := 21, descriptorIndex := 22, attributes := #[] }])
  fields := #[{ name := "KEY", type := (.object "com/example/refmint/refmint/citedb/CitationRule$Mark"), accessFlags := 16409, slot := 0, constantValue := 0 }, { name := "ONE", type := (.object "com/example/refmint/refmint/citedb/CitationRule$Mark"), accessFlags := 16409, slot := 1, constantValue := 0 }, { name := "OPTIONAL", type := (.object "com/example/refmint/refmint/citedb/CitationRule$Mark"), accessFlags := 16409, slot := 2, constantValue := 0 }, { name := "ANY", type := (.object "com/example/refmint/refmint/citedb/CitationRule$Mark"), accessFlags := 16409, slot := 3, constantValue := 0 }, { name := "SOME", type := (.object "com/example/refmint/refmint/citedb/CitationRule$Mark"), accessFlags := 16409, slot := 4, constantValue := 0 }, { name := "sign", type := .char, accessFlags := 18, slot := 3, constantValue := 0 }, { name := "least", type := .int, accessFlags := 18, slot := 4, constantValue := 0 }, { name := "most", type := .int, accessFlags := 18, slot := 5, constantValue := 0 }, { name := "wants", type := (.object "java/lang/String"), accessFlags := 18, slot := 6, constantValue := 0 }, { name := "$VALUES", type := (.array (.object "com/example/refmint/refmint/citedb/CitationRule$Mark")), accessFlags := 4122, slot := 5, constantValue := 0 }]
  methods := #[k6m0, k6m1]
  instanceTypes := #[(.object "java/lang/String"), .int, .int, .char, .int, .int, (.object "java/lang/String")]
  staticTypes := #[(.object "com/example/refmint/refmint/citedb/CitationRule$Mark"), (.object "com/example/refmint/refmint/citedb/CitationRule$Mark"), (.object "com/example/refmint/refmint/citedb/CitationRule$Mark"), (.object "com/example/refmint/refmint/citedb/CitationRule$Mark"), (.object "com/example/refmint/refmint/citedb/CitationRule$Mark"), (.array (.object "com/example/refmint/refmint/citedb/CitationRule$Mark"))]
  resolved := Array.replicate 114 none
  statics := some 0 }

def pool7 : Array CpInfo := pool [(1, u "java/lang/Cloneable"), (0, .class_ 1), (0, u "java/lang/Object"), (0, .class_ 3)] 3

/-- java/lang/Cloneable -/
def k7 : Class := { plain "java/lang/Cloneable" (some 0) with
  accessFlags := 1537
  interfaces := #[]
  cf := some (fileOf pool7 2 #[] #[] 1537 4 #[] #[])
  fields := #[]
  methods := #[]
  instanceTypes := #[]
  staticTypes := #[]
  resolved := Array.replicate 8 none
  statics := none }

/-- the primitive byte -/
def k8 : Class := { plain "byte" none with kind := .primitive 'B', accessFlags := 0x411 }
/-- [B -/
def k9 : Class := { plain "[B" (some 0) with kind := .array 8 .byte, interfaces := #[7, 4], accessFlags := 1041 }

/-- the primitive int -/
def k10 : Class := { plain "int" none with kind := .primitive 'I', accessFlags := 0x411 }
/-- [I -/
def k11 : Class := { plain "[I" (some 0) with kind := .array 10 .int, interfaces := #[7, 4], accessFlags := 1041 }

def heap : Heap := #[{ cls := 6, slots := #[.ref 1, .ref 3, .ref 5, .ref 2, .ref 4, .null], vm := .statics 6 },
  { cls := 6, slots := #[.null, .int 0, .int 0, .int 0, .int (1), .int (1), .null], vm := .none },
  { cls := 6, slots := #[.null, .int 0, .int 0, .int 0, .int (0), .int (2147483647), .null], vm := .none },
  { cls := 6, slots := #[.null, .int 0, .int 0, .int 0, .int (1), .int (1), .null], vm := .none },
  { cls := 6, slots := #[.null, .int 0, .int 0, .int 0, .int (1), .int (2147483647), .null], vm := .none },
  { cls := 6, slots := #[.null, .int 0, .int 0, .int 0, .int (0), .int (1), .null], vm := .none }]
def classes : Array Class := #[k0, k1, k2, k3, k4, k5, k6, k7, k8, k9, k10, k11]
def interned : List (Array UInt16 × Addr) := []
def slotsUsed : Nat := 41
def theMethod : MethodId := ⟨1, 1⟩
def args0 : Array Value := #[.int 4]
def aboutOver (below : List Frame) : State where
  vm := { classes := classes, interned := interned.toArray }
  heap := heap
  slotsUsed := slotsUsed
  threads := #[{ frames := .invoking theMethod args0 :: below }]
def below0 : List Frame := [.native { method := ⟨0, 0⟩, args := #[] }]
def about1 : State := aboutOver below0
def p0 : Program := .bare "" "" ""
def e0 : Env := launch0.env 0 0 0
theorem w_frames : about1.frames = Frame.invoking theMethod args0 :: below0 := rfl
set_option maxRecDepth 65536 in
theorem w_args : argsFit about1.vm theMethod args0 = true := by decide +kernel
set_option maxRecDepth 65536 in
theorem w_heap : heapFits about1 = true := by decide +kernel
set_option maxRecDepth 65536 in
theorem w_runnable : about1.curStatus? = some .runnable := by decide +kernel
set_option maxRecDepth 65536 in
theorem w_alone : about1.alone = true := by decide +kernel
set_option maxRecDepth 65536 in
theorem w_named : about1.methodNamed? x = some theMethod := by decide +kernel
set_option maxRecDepth 65536 in
theorem w_hears : about1.hears theMethod below0 = true := by decide +kernel
set_option maxRecDepth 65536 in
theorem w_ripe : about1.ripe theMethod args0 below0 = true := by decide +kernel
theorem w_running : about1.status = .running := rfl
set_option maxRecDepth 65536 in
theorem w_room : about1.hasRoom e0.platform room_1 = true :=
  launch0.hasRoom_least _ room_1 (by decide +kernel) (by decide +kernel) (by decide +kernel) (by decide +kernel) (by decide +kernel) (by decide +kernel)
theorem allAtoms_all (ts : List Jvm.Cond) (a : Array Jvm.Value) (st : Jvm.State) : (allAtoms ts).before a st = ts.all (fun c => c.before a st) := by
  induction ts with
  | nil => rfl
  | cons c t ih =>
    show (Jvm.Cond.and c (allAtoms t)).before a st = _
    rw [Jvm.Cond.before_and, ih, List.all_cons]
def words1 : List Jvm.Cond := Jvm.Cond.code x code maxLocals ret :: tables_1
/-- a 'code' word, met by the world's own term for the bytes: nothing is compared byte by byte -/
theorem code_word {y : MethodName} {bytes : ByteArray} {mx : Nat} {rt : Option FieldType} {a : Array Value} {s : State} {m : MethodId} {meth : Method} {c : Code} (h1 : s.methodNamed? y = some m) (h2 : s.vm.method? m = some meth) (h3 : meth.code = some c) (h4 : c.code = bytes)
    (h5 : (c.maxLocals == mx && c.exceptionTable.isEmpty && decide (c.maxStack ≤ mostOperands) && decide (meth.sig.returnType = rt) && !meth.locks && decide (parseMethodDescriptor y.desc = some meth.sig)) = true) : (Jvm.Cond.code y bytes mx rt).before a s = true := by
  simp only [Bool.and_eq_true, beq_iff_eq, Bool.not_eq_true', decide_eq_true_eq] at h5
  obtain ⟨⟨⟨⟨⟨g1, g2⟩, g3⟩, g4⟩, g5⟩, g6⟩ := h5
  simp [Cond.before, Cond.holds, Cond.value, h1, h2, h3, h4, g1, g2, g3, g4, g5, g6]
def isCode : Jvm.Cond → Bool
  | .code _ _ _ _ => true
  | _ => false
theorem all_split {L : List Jvm.Cond} {P : Jvm.Cond → Bool} (h1 : L.all (fun c => isCode c || P c) = true) (h2 : ∀ c ∈ L.filter isCode, P c = true) : L.all P = true := by
  refine List.all_eq_true.mpr fun c hc => ?_
  have h := List.all_eq_true.mp h1 c hc
  rcases Bool.eq_false_or_eq_true (isCode c) with hi | hi
  · exact h2 c (List.mem_filter.mpr ⟨hc, hi⟩)
  · simpa [hi] using h
set_option maxRecDepth 65536 in
theorem w_c0 : (Jvm.Cond.code x code maxLocals ret).before args0 about1 = true := code_word (m := ⟨1, 1⟩) (meth := k1m1) (c := k1c1) (by decide +kernel) rfl rfl rfl (by decide +kernel)
set_option maxRecDepth 65536 in
theorem w_c1 : (Jvm.Cond.code ({ cls := "com/example/refmint/refmint/citedb/CitationRule$Mark", name := "isSet", desc := "()Z" } : Jvm.MethodName) prog_11_method_5_code (1 : Nat) (Option.some Jvm.ClassFile.FieldType.boolean)).before args0 about1 = true := code_word (m := ⟨6, 1⟩) (meth := k6m1) (c := k6c1) (by decide +kernel) rfl rfl rfl (by decide +kernel)
set_option maxRecDepth 65536 in
theorem w_c2 : (Jvm.Cond.code ({ cls := "com/example/refmint/refmint/citedb/CitationRule$Mark", name := "admits", desc := "(I)Z" } : Jvm.MethodName) prog_11_method_4_code (2 : Nat) (Option.some Jvm.ClassFile.FieldType.boolean)).before args0 about1 = true := code_word (m := ⟨6, 0⟩) (meth := k6m0) (c := k6c0) (by decide +kernel) rfl rfl rfl (by decide +kernel)
def codes1 : List Jvm.Cond := [Jvm.Cond.code x code maxLocals ret, Jvm.Cond.code ({ cls := "com/example/refmint/refmint/citedb/CitationRule$Mark", name := "isSet", desc := "()Z" } : Jvm.MethodName) prog_11_method_5_code (1 : Nat) (Option.some Jvm.ClassFile.FieldType.boolean), Jvm.Cond.code ({ cls := "com/example/refmint/refmint/citedb/CitationRule$Mark", name := "admits", desc := "(I)Z" } : Jvm.MethodName) prog_11_method_4_code (2 : Nat) (Option.some Jvm.ClassFile.FieldType.boolean)]
set_option maxRecDepth 65536 in
theorem codes_eq : words1.filter isCode = codes1 := rfl
theorem w_codes : ∀ c ∈ words1.filter isCode, c.before args0 about1 = true := by
  rw [codes_eq]
  intro c hc
  simp only [codes1, List.mem_cons, List.not_mem_nil, or_false] at hc
  rcases hc with rfl | rfl | rfl
  · exact w_c0
  · exact w_c1
  · exact w_c2
set_option maxRecDepth 65536 in
theorem w_t1 : (words1.take 24).all (fun c => isCode c || c.before args0 about1) = true := by decide +kernel
set_option maxRecDepth 65536 in
theorem w_t2 : (words1.drop 24).all (fun c => isCode c || c.before args0 about1) = true := by decide +kernel
theorem w_tables : (allAtoms (Jvm.Cond.code x code maxLocals ret :: tables_1)).before args0 about1 = true := by
  rw [allAtoms_all]
  show words1.all (fun c => c.before args0 about1) = true
  refine all_split ?_ w_codes
  rw [← List.take_append_drop 24 words1, List.all_append, w_t1, w_t2]
  rfl
set_option maxRecDepth 65536 in
theorem w_case : (Jvm.Cond.and given_1 narrow_1).before args0 about1 = true := by decide +kernel
theorem w_applies : (headSpec (Jvm.Cond.code x code maxLocals ret :: tables_1) room_1).applies x e0.platform about1 = true :=
  (Spec.applies_iff w_frames).mpr ⟨w_running, w_runnable, w_alone, w_named, w_hears, w_ripe, w_room, w_tables⟩
theorem atStart : AtStart classFile x code maxLocals ret World_1 tables_1 room_1 Calls_1 rest_1 Pre_1 launch0 p0 e0 about1 theMethod args0 below0 :=
  ⟨lists_1, trivial, launch0.admits_env _ _ _, launch0.least_env, fairChoices_fair.cas, fairChoices_fair.clock, w_frames, w_args, w_heap, w_applies, trivial, trivial, w_case⟩
end start1
theorem witness_1 : WitnessClaimed_1 := ⟨start1.p0, start1.e0, start1.about1, start1.theMethod, start1.args0, start1.below0, start1.atStart⟩
end Jvm.Pilot.@@N@@
