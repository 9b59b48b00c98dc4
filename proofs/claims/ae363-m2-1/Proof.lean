import JvmDerived
import JvmDerived.Pilot.@@N@@Statement
import JvmDerived.Pilot.@@N@@Code
set_option linter.unusedVariables false
set_option linter.unusedSimpArgs false
namespace Jvm.RoadKit
open Sem ClassFile Op Lib Jvm.Stand Jvm.Free Jvm.LawKit
section New
variable {p : Program} {l : Launch} {e : Env} {R : Room} {s : State} {m : MethodId} {args : Array Value} {below : List Frame} {meth : Method} {c : Code} {T : State} {locs : List Loc} {cells slots : Nat}
theorem retI (X : Stand p l e R s m args below meth c T locs cells slots) (hx : p.tables.exec = Jvm.exec) {pc : Nat} {Ls : Array Slot} {z : Int32} {rest : List Value} (hret : meth.sig.returnType = some .int) (hd : decode c.code pc = .ok (.ireturn, 1)) {fs : List Frame}
    (hl : ∀ (f : JFrame) (acts : List Action), f.method = m → f.locked = none → f.entered = [] → (doReturn e (T.setTop f) acts (some (.int z))).1 = T.setFrames fs) : Steps p.tables e below (T.setTop (mkF m pc Ls (.int z :: rest))) (T.setFrames fs) :=
  retOut X hx hret rfl (Or.inl ⟨rfl, Or.inl rfl, z, rfl⟩) hd hl
theorem retL (X : Stand p l e R s m args below meth c T locs cells slots) (hx : p.tables.exec = Jvm.exec) {pc : Nat} {Ls : Array Slot} {z : Int64} {rest : List Value} (hret : meth.sig.returnType = some .long) (hd : decode c.code pc = .ok (.lreturn, 1)) {fs : List Frame}
    (hl : ∀ (f : JFrame) (acts : List Action), f.method = m → f.locked = none → f.entered = [] → (doReturn e (T.setTop f) acts (some (.long z))).1 = T.setFrames fs) : Steps p.tables e below (T.setTop (mkF m pc Ls (.long z :: rest))) (T.setFrames fs) :=
  retOut X hx hret rfl (Or.inr (Or.inl ⟨rfl, rfl, z, rfl⟩)) hd hl
theorem own_retD (X : Stand p l e R s m args below meth c T locs cells slots) (hx : p.tables.exec = Jvm.exec) {pc : Nat} {Ls : Array Slot} {z : UInt64} {rest : List Value} (hret : meth.sig.returnType = some .double) (hd : decode c.code pc = .ok (.dreturn, 1)) {fs : List Frame}
    (hl : ∀ (f : JFrame) (acts : List Action), f.method = m → f.locked = none → f.entered = [] → (doReturn e (T.setTop f) acts (some (.double z))).1 = T.setFrames fs) : Steps p.tables e below (T.setTop (mkF m pc Ls (.double z :: rest))) (T.setFrames fs) :=
  retOut X hx hret rfl (Or.inr (Or.inr (Or.inl ⟨rfl, rfl, z, rfl⟩))) hd hl
theorem own_nar {t : FieldType} {w : Value} (ht : t.isReference = true) (hw : w.isRef = true) : narrow t w = w := by
  cases t <;> first | (cases ht; done) | (cases w <;> first | rfl | (cases hw; done))
theorem retA (X : Stand p l e R s m args below meth c T locs cells slots) (hx : p.tables.exec = Jvm.exec) {pc : Nat} {Ls : Array Slot} {w : Value} {t : FieldType} {rest : List Value} (hret : meth.sig.returnType = some t) (ht : t.isReference = true) (hw : w.isRef = true) (hd : decode c.code pc = .ok (.areturn, 1)) {fs : List Frame}
    (hl : ∀ (f : JFrame) (acts : List Action), f.method = m → f.locked = none → f.entered = [] → (doReturn e (T.setTop f) acts (some w)).1 = T.setFrames fs) : Steps p.tables e below (T.setTop (mkF m pc Ls (w :: rest))) (T.setFrames fs) :=
  retOut X hx hret (own_nar ht hw) (Or.inr (Or.inr (Or.inr (Or.inr ⟨rfl, ht, hw⟩)))) hd hl
/-- the rest of a walk, as a predicate on where it stands -/
theorem own_open (K N : Nat) (Q : Option Value → Heap → List Loc → Prop) (hlocks : meth.locks = false) :
    ∃ G : State → JFrame → Prop,
      (∀ {T T' : State} {g g' : JFrame}, (∀ t, Steps p.tables e below (T'.setTop g') t → Steps p.tables e below (T.setTop g) t) → G T' g' → G T g) ∧
      (∀ {T : State} {g : JFrame} {locs : List Loc} {cells slots : Nat} {v : Option Value} {h : Heap}, Stand p l e R s m args below meth c T locs cells slots → (meth.sig.returnType = none → v = none) →
        (∀ fs, (∀ (f : JFrame) (acts : List Action), f.method = m → f.locked = none → f.entered = [] → (doReturn e (T.setTop f) acts v).1 = T.setFrames fs) → Steps p.tables e below (T.setTop g) (T.setFrames fs)) → T.heap = h → Q v h locs → cells ≤ K → slots ≤ N → G T g) ∧
      (∀ {T : State} {g : JFrame}, G T g → ∃ t o, Steps p.tables e below (T.setTop g) t ∧ t.status = .running ∧ Ended t below o ∧ ∃ v L, o = .returned v ∧ Q v t.heap L ∧ FrameEnd s o t L K N) := by
  refine ⟨fun T g => ∃ t o, Steps p.tables e below (T.setTop g) t ∧ t.status = .running ∧ Ended t below o ∧ ∃ v L, o = .returned v ∧ Q v t.heap L ∧ FrameEnd s o t L K N, ?_, ?_, fun h => h⟩
  · intro T T' g g' hs hG
    obtain ⟨t, o, h1, h2⟩ := hG
    exact ⟨t, o, hs t h1, h2⟩
  · intro T g locs cells slots v h X hv hst hT hQ hk hn
    obtain ⟨fs, hr, hrun, hended, hW, hsame⟩ := X.leave hv hlocks
    exact ⟨_, _, hst fs hr, hrun, hended, v, locs, rfl, by show Q v T.heap locs; rw [hT]; exact hQ, ⟨_, rfl⟩, hW, hsame.mono hk hn⟩
theorem own_openW (K N : Nat) (Q : Option Value → Heap → List Loc → Prop) (hlocks : meth.locks = false) :
    ∃ G : State → JFrame → Prop,
      (∀ {T T' : State} {g g' : JFrame}, (∀ t, Steps p.tables e below (T'.setTop g') t → Steps p.tables e below (T.setTop g) t) → G T' g' → G T g) ∧
      (∀ {T : State} {g : JFrame} {locs : List Loc} {cells slots : Nat} {v : Option Value} {h : Heap} {vm0 : Vm} {k0 : Nat}, Stand p l e R (s.setVm vm0) m args below meth c T locs cells slots → s.Since vm0 k0 → k0 ≤ h.size → (meth.sig.returnType = none → v = none) →
        (∀ fs, (∀ (f : JFrame) (acts : List Action), f.method = m → f.locked = none → f.entered = [] → (doReturn e (T.setTop f) acts v).1 = T.setFrames fs) → Steps p.tables e below (T.setTop g) (T.setFrames fs)) → T.heap = h → Q v h locs → cells ≤ K → slots ≤ N → G T g) ∧
      (∀ {T : State} {g : JFrame}, G T g → ∃ t o, Steps p.tables e below (T.setTop g) t ∧ t.status = .running ∧ Ended t below o ∧ ∃ v L, o = .returned v ∧ Q v t.heap L ∧ ReturnedEndW s o t L K N) := by
  refine ⟨fun T g => ∃ t o, Steps p.tables e below (T.setTop g) t ∧ t.status = .running ∧ Ended t below o ∧ ∃ v L, o = .returned v ∧ Q v t.heap L ∧ ReturnedEndW s o t L K N, ?_, ?_, fun h => h⟩
  · intro T T' g g' hs hG
    obtain ⟨t, o, h1, h2⟩ := hG
    exact ⟨t, o, hs t h1, h2⟩
  · intro T g locs cells slots v h vm0 k0 X hS hk0 hv hst hT hQ hk hn
    obtain ⟨fs, hr, hrun, hended, hW⟩ := X.leaveW hS (by rw [hT]; exact hk0) hv hlocks
    exact ⟨_, _, hst fs hr, hrun, hended, v, locs, rfl, by show Q v T.heap locs; rw [hT]; exact hQ, hW.1, hW.2.1, hW.2.2.1, hW.2.2.2.mono hk hn⟩
theorem own_sl (a : Array Slot) : ∃ z, z = a := ⟨_, rfl⟩
theorem own_xlt {x y : Int32} : x < y ↔ x.toInt < y.toInt := Int32.lt_iff_toInt_lt
theorem own_xeq {x y : Int32} : x = y ↔ x.toInt = y.toInt := Int32.toInt_inj.symm
theorem own_xltL {x y : Int64} : x < y ↔ x.toInt < y.toInt := Int64.lt_iff_toInt_lt
theorem own_xeqL {x y : Int64} : x = y ↔ x.toInt = y.toInt := Int64.toInt_inj.symm
theorem own_old_le {Z : State} {n0 : Nat} {h : Heap} (O : Old Z n0 h) : n0 ≤ h.size := O.1 ▸ O.2.1
theorem own_oldne {Z : State} {n0 : Nat} {h : Heap} {a b : Addr} (O : Old Z n0 h) (q : a < Z.heap.size) (r : n0 ≤ b) : a ≠ b := O.ne q r
theorem own_fldI {Z : State} {args : Array Value} {t : Term} {C f d : String} {a : Addr} {k : Int32} (ht : t.eval args Z none [] Z = some (.ref a)) (h : (Cond.eq (.field t C f d) (.int k)).value args Z none Z [] = some true) : Fld Z Z.heap a C f d (.int k) := by
  refine Fld.start ?_
  rw [← fld_at (C := C) (n := f) (dd := d) ht]
  obtain ⟨x, y, h1, h2, h3, h4⟩ := cmp_v (Or.inl h)
  have h5 : y = .int k := Option.some.inj (h2.symm.trans (Term.int_eval k))
  subst h5
  obtain ⟨z, rfl⟩ := h4
  have := gotT (P := z = k) (by simp [Cond.value, h1, h2]) h
  rw [h1, this]
theorem own_fldD {Z : State} {args : Array Value} {t : Term} {C f d : String} {a : Addr} {k : Int64} {b : UInt64} (hb : k.toUInt64 = b) (ht : t.eval args Z none [] Z = some (.ref a)) (h : (Cond.eq (.field t C f d) (.op1 .bitsD (.long k))).value args Z none Z [] = some true) : Fld Z Z.heap a C f d (.double b) := by
  refine Fld.start ?_
  rw [← fld_at (C := C) (n := f) (dd := d) ht]
  obtain ⟨x, y, h1, h2, h3, h4⟩ := cmp_v (Or.inl h)
  have h5 : y = .double k.toUInt64 := Option.some.inj (h2.symm.trans rfl)
  subst h5
  obtain ⟨z, rfl⟩ := h4
  have := gotT (P := z = k.toUInt64) (by simp [Cond.value, h1, h2]) h
  rw [h1, this, hb]
theorem own_dnn {a b : UInt64} (ha : Jvm.Free.Fl.NoNaN64 a) (hb : FP.Core.DFin b) (hz : ¬ FP.Core.DZero b) : Jvm.Free.Fl.NoNaN64 (FP.ddiv a b) := by
  refine Jvm.Free.Fl.val64_no.mpr fun q => ?_
  have q2 := (FP.Core.quotient_nan FP.Core.b64 _ _).mp ((FP.Core.val64_ddiv a b).symm.trans q)
  rcases q2 with h | h | ⟨s, t, h1, h2⟩ | ⟨s, t, q, r, h1, h2⟩
  · exact Jvm.Free.Fl.val64_no.mp ha h
  · exact hb.ne_nan h
  · exact hb.ne_inf t h2
  · exact hz ⟨t, r, h2⟩
theorem own_i2dn (x : Int32) : Jvm.Free.Fl.NoNaN64 (FP.i2d x) := Jvm.Free.Fl.noNaN64_no.mpr (FP.Core.i2d_fin x).notNaN
theorem own_i2dz {x : Int32} (h : x ≠ 0) : ¬ FP.Core.DZero (FP.i2d x) := fun q => FP.Core.i2d_ne_zero h ((FP.Core.zero_bits2 _).mp q)
theorem own_and255 (x : Int32) : ¬ (x &&& (255 : Int32)) < 0 ∧ ¬ (255 : Int32) < (x &&& (255 : Int32)) := by
  have c1 := c_mask x (255 : Int32) 8 (by decide) (by decide)
  have q0 : (0 : Int32).toInt = 0 := by decide
  have q1 : (255 : Int32).toInt = 255 := by decide
  rw [own_xlt, own_xlt]
  omega
theorem own_l255 (x : Int64) : ¬ (x &&& (255 : Int64)).toInt32 < 0 ∧ ¬ (255 : Int32) < (x &&& (255 : Int64)).toInt32 := by
  have c1 := c_maskL x (255 : Int64) 8 (by decide) (by decide)
  have c2 := c_l2i (x &&& (255 : Int64))
  have r := rng32 (x &&& (255 : Int64)).toInt32
  have q0 : (0 : Int32).toInt = 0 := by decide
  have q1 : (255 : Int32).toInt = 255 := by decide
  rw [own_xlt, own_xlt]
  omega
theorem own_i2c {x : Int32} (h : ¬ x < 0 ∧ ¬ (255 : Int32) < x) : x.toUInt32.toUInt16.toUInt32.toInt32 = x := by
  have c1 := c_i2c x
  have q0 : (0 : Int32).toInt = 0 := by decide
  have q1 : (255 : Int32).toInt = 255 := by decide
  rw [own_xlt, own_xlt] at h
  rw [own_xeq]
  omega
theorem own_narc {x : Int32} (h : ¬ x < 0 ∧ ¬ (255 : Int32) < x) : nar .char x = x := own_i2c h
theorem own_nz {Z : State} {args : Array Value} {t : Term} {z : Int32} (ht : t.eval args Z none [] Z = some (.int z)) (h : (Cond.not (Cond.eq t (.int 0))).value args Z none Z [] = some true) : ¬ z = (0 : Int32) :=
  gotF (P := z = (0 : Int32)) (by simp [Cond.value, ht, Term.int_eval]) (not_v h)
theorem own_evI {Z : State} {args : Array Value} {u : Term} {k : Int32} (h : (Cond.eq u (.int k)).value args Z none Z [] = some true) : u.eval args Z none [] Z = some (.int k) := by
  obtain ⟨x, y, h1, h2, h3, h4⟩ := cmp_v (Or.inl h)
  have h5 : y = .int k := Option.some.inj (h2.symm.trans (Term.int_eval k))
  subst h5
  obtain ⟨z, rfl⟩ := h4
  have := gotT (P := z = k) (by simp [Cond.value, h1, h2]) h
  rw [h1, this]
theorem own_slotI {Z : State} {args : Array Value} {t : Term} {a : Addr} {i k : Int32} {cl : Cell} (ht : t.eval args Z none [] Z = some (.ref a)) (hc : Z.heap[a]? = some cl) (h : (Cond.eq (.elem t (.int i)) (.int k)).value args Z none Z [] = some true) : cl.slots[i.toNatClampNeg]? = some (.int k) :=
  (elem_in (own_evI h) ht (Term.int_eval i) hc).2
theorem own_lenI {Z : State} {args : Array Value} {t : Term} {a : Addr} {n : Int32} {cl : Cell} {ty : FieldType} (ht : t.eval args Z none [] Z = some (.ref a)) (A : Arr Z Z.heap a cl ty) (h : (Cond.eq (.length t) (.int n)).value args Z none Z [] = some true) : cl.slots.size < 2 ^ 31 ∧ cl.slots.size.toInt32 = n := by
  have hh := A.fin (Vm.Alike.refl _)
  have q := own_evI h
  simp only [Term.eval, ht, hh, Option.bind_eq_bind, Option.bind_some] at q
  split at q
  · rename_i hlt
    exact ⟨hlt, Value.int.inj (Option.some.inj q)⟩
  · cases q
theorem own_fldN {Z : State} {args : Array Value} {t : Term} {C f d : String} {a : Addr} (ht : t.eval args Z none [] Z = some (.ref a)) (h : (Cond.eq (.field t C f d) .null).value args Z none Z [] = some true) : Fld Z Z.heap a C f d .null := by
  refine Fld.start ?_
  rw [← fld_at (C := C) (n := f) (dd := d) ht]
  exact null_v h
theorem own_selpriv {Z s : State} {a0 args : Array Value} {y : MethodName} {n : Nat} (hZ : Z.Warmed39 s.vm) (wp : (Cond.privateMethod y).before a0 Z = true) (wi : (Cond.instanceMethod y).before a0 Z = true) (wk : (Cond.instantiable y.cls n).before a0 Z = true) (hy : y.cls ≠ "java/lang/invoke/MethodHandle" ∧ y.cls ≠ "java/lang/invoke/VarHandle") : (Cond.selects y.cls y y).before args s = true := by
  obtain ⟨c, k, h1, h2, -, h3, -⟩ := Cond.instantiable_spec (mv (s := s) (args := args) hZ wk)
  exact selects_self_of_private h1 h2 (Bool.or_eq_false_iff.mp h3).1 (Cond.privateMethod_at (mvP hZ wp (args := args))) (mv hZ wi) hy
theorem own_ne_arv {Z : State} {h : Heap} {a b : Addr} {C : String} {a0 : Array Value} {i : Nat} {k : ClassId} {ty : FieldType} {n : Int32} {vs : List Value} {dv : Value} (F : Exa Z h a C) (wi : (Cond.instantiable C i).before a0 Z = true) (V : Arv Z h b k ty n vs dv) : a ≠ b := by
  obtain ⟨cl, A, -⟩ := V
  exact ne_arr F wi A
theorem own_arr_keep {Z : State} {h h' : Heap} {a : Addr} {cl : Cell} {ty : FieldType} {ws : List Addr} (F : Arr Z h a cl ty) (K : Keep h h' ws) (q : a ∉ ws) : Arr Z h' a cl ty := ⟨K.2.1 a cl F.1 q, F.2⟩
section Arrays
variable {Z : State} {h : Heap} {a : Addr} {k : ClassId} {n : Int32} {vs : List Value} {dv : Value} {g : JFrame} {rest : List Value} {j : Int32} {v : Value}
theorem own_len {ty : FieldType} (X : Stand p l e R s m args below meth c T locs cells slots) (hx : p.tables.exec = Jvm.exec) (hZ : Z.Warmed39 s.vm) (eT : T.heap = h) (V : Arv Z h a k ty n vs dv) (hg : g.method = m) (hs : g.stack = .ref a :: rest) (hd : decode c.code g.pc = .ok (.arraylength, 1)) (target : State)
    (hr : Steps p.tables e below (T.setTop { g with pc := g.pc + 1, stack := .int n :: rest }) target) : Steps p.tables e below (T.setTop g) target := by
  obtain ⟨cl, A, -, S, N, -, -⟩ := V
  refine X.arraylength hx (by rw [eT]; exact A.1) (State.isArrayOf_alike hZ.alike A.2.1) hg hs hd target ?_
  rw [len_of S N]; exact hr
theorem own_ldI (X : Stand p l e R s m args below meth c T locs cells slots) (hx : p.tables.exec = Jvm.exec) (hZ : Z.Warmed39 s.vm) (eT : T.heap = h) (V : Arv Z h a k .int n vs dv) (hj : ¬ j < 0 ∧ j < n) (hv : vs.getD j.toNatClampNeg dv = v) (hg : g.method = m) (hs : g.stack = .int j :: .ref a :: rest) (hd : decode c.code g.pc = .ok (.iaload, 1)) (target : State)
    (hr : Steps p.tables e below (T.setTop { g with pc := g.pc + 1, stack := v :: rest }) target) : Steps p.tables e below (T.setTop g) target := by
  obtain ⟨cl, A, -, S, N, H, -⟩ := V
  have hin := inb_of S hj
  exact X.iaload hx (by rw [eT]; exact A.1) (State.isArrayOf_alike hZ.alike A.2.1) A.2.2 hin (H.at hin hv) hg hs hd target hr
theorem own_ldJ (X : Stand p l e R s m args below meth c T locs cells slots) (hx : p.tables.exec = Jvm.exec) (hZ : Z.Warmed39 s.vm) (eT : T.heap = h) (V : Arv Z h a k .long n vs dv) (hj : ¬ j < 0 ∧ j < n) (hv : vs.getD j.toNatClampNeg dv = v) (hg : g.method = m) (hs : g.stack = .int j :: .ref a :: rest) (hd : decode c.code g.pc = .ok (.laload, 1)) (target : State)
    (hr : Steps p.tables e below (T.setTop { g with pc := g.pc + 1, stack := v :: rest }) target) : Steps p.tables e below (T.setTop g) target := by
  obtain ⟨cl, A, -, S, N, H, -⟩ := V
  have hin := inb_of S hj
  exact X.laload hx (by rw [eT]; exact A.1) (State.isArrayOf_alike hZ.alike A.2.1) A.2.2 hin (H.at hin hv) hg hs hd target hr
theorem own_ldC (X : Stand p l e R s m args below meth c T locs cells slots) (hx : p.tables.exec = Jvm.exec) (hZ : Z.Warmed39 s.vm) (eT : T.heap = h) (V : Arv Z h a k .char n vs dv) (hj : ¬ j < 0 ∧ j < n) (hv : vs.getD j.toNatClampNeg dv = v) (hg : g.method = m) (hs : g.stack = .int j :: .ref a :: rest) (hd : decode c.code g.pc = .ok (.caload, 1)) (target : State)
    (hr : Steps p.tables e below (T.setTop { g with pc := g.pc + 1, stack := v :: rest }) target) : Steps p.tables e below (T.setTop g) target := by
  obtain ⟨cl, A, -, S, N, H, -⟩ := V
  have hin := inb_of S hj
  exact X.caload hx (by rw [eT]; exact A.1) (State.isArrayOf_alike hZ.alike A.2.1) A.2.2 hin (H.at hin hv) hg hs hd target hr
theorem own_ldB (X : Stand p l e R s m args below meth c T locs cells slots) (hx : p.tables.exec = Jvm.exec) (hZ : Z.Warmed39 s.vm) (eT : T.heap = h) (V : Arv Z h a k .byte n vs dv) (hj : ¬ j < 0 ∧ j < n) (hv : vs.getD j.toNatClampNeg dv = v) (hg : g.method = m) (hs : g.stack = .int j :: .ref a :: rest) (hd : decode c.code g.pc = .ok (.baload, 1)) (target : State)
    (hr : Steps p.tables e below (T.setTop { g with pc := g.pc + 1, stack := v :: rest }) target) : Steps p.tables e below (T.setTop g) target := by
  obtain ⟨cl, A, -, S, N, H, -⟩ := V
  have hin := inb_of S hj
  exact X.baloadBytes hx (by rw [eT]; exact A.1) (State.isArrayOf_alike hZ.alike A.2.1) A.2.2 hin (H.at hin hv) hg hs hd target hr
theorem own_ldR {ty : FieldType} (X : Stand p l e R s m args below meth c T locs cells slots) (hx : p.tables.exec = Jvm.exec) (hZ : Z.Warmed39 s.vm) (eT : T.heap = h) (V : Arv Z h a k ty n vs dv) (hj : ¬ j < 0 ∧ j < n) (hv : vs.getD j.toNatClampNeg dv = v) (hty : ty.isReference = true) (hg : g.method = m) (hs : g.stack = .int j :: .ref a :: rest) (hd : decode c.code g.pc = .ok (.aaload, 1)) (target : State)
    (hr : Steps p.tables e below (T.setTop { g with pc := g.pc + 1, stack := v :: rest }) target) : Steps p.tables e below (T.setTop g) target := by
  obtain ⟨cl, A, -, S, N, H, -⟩ := V
  have hin := inb_of S hj
  exact X.aaload hx (by rw [eT]; exact A.1) (State.isArrayOf_alike hZ.alike A.2.1) hty A.2.2 hin (H.at hin hv) hg hs hd target hr
theorem own_stI {x : Int32} (X : Stand p l e R s m args below meth c T locs cells slots) (hx : p.tables.exec = Jvm.exec) (hZ : Z.Warmed39 s.vm) (eT : T.heap = h) (V : Arv Z h a k .int n vs dv) (hj : ¬ j < 0 ∧ j < n) {i : Nat} (hji : j.toNatClampNeg = i) (hi : i < vs.length) (hg : g.method = m) (hs : g.stack = .int x :: .int j :: .ref a :: rest) (hd : decode c.code g.pc = .ok (.iastore, 1)) :
    ∃ T' h', Stand p l e R s m args below meth c T' (locs ++ [⟨a, j.toNatClampNeg⟩]) cells slots ∧ T'.heap = h' ∧ Wr h h' a j.toNatClampNeg (.int x) ∧ Arv Z h' a k .int n (vs.set i (.int x)) dv ∧ ∀ target, Steps p.tables e below (T'.setTop { g with pc := g.pc + 1, stack := rest }) target → Steps p.tables e below (T.setTop g) target := by
  obtain ⟨cl, A, q, S, N, H, Gf⟩ := V
  obtain ⟨T', h', X', e', W', st⟩ := stI X hx hZ eT A (inb_of S hj) hg hs hd
  exact ⟨T', h', X', e', W', Arv.set A q S N H Gf rfl W' i hji hi, st⟩
theorem own_stJ {x : Int64} (X : Stand p l e R s m args below meth c T locs cells slots) (hx : p.tables.exec = Jvm.exec) (hZ : Z.Warmed39 s.vm) (eT : T.heap = h) (V : Arv Z h a k .long n vs dv) (hj : ¬ j < 0 ∧ j < n) {i : Nat} (hji : j.toNatClampNeg = i) (hi : i < vs.length) (hg : g.method = m) (hs : g.stack = .long x :: .int j :: .ref a :: rest) (hd : decode c.code g.pc = .ok (.lastore, 1)) :
    ∃ T' h', Stand p l e R s m args below meth c T' (locs ++ [⟨a, j.toNatClampNeg⟩]) cells slots ∧ T'.heap = h' ∧ Wr h h' a j.toNatClampNeg (.long x) ∧ Arv Z h' a k .long n (vs.set i (.long x)) dv ∧ ∀ target, Steps p.tables e below (T'.setTop { g with pc := g.pc + 1, stack := rest }) target → Steps p.tables e below (T.setTop g) target := by
  obtain ⟨cl, A, q, S, N, H, Gf⟩ := V
  obtain ⟨T', h', X', e', W', st⟩ := stJ X hx hZ eT A (inb_of S hj) hg hs hd
  exact ⟨T', h', X', e', W', Arv.set A q S N H Gf rfl W' i hji hi, st⟩
theorem own_stC {x : Int32} (X : Stand p l e R s m args below meth c T locs cells slots) (hx : p.tables.exec = Jvm.exec) (hZ : Z.Warmed39 s.vm) (eT : T.heap = h) (V : Arv Z h a k .char n vs dv) (hj : ¬ j < 0 ∧ j < n) {i : Nat} (hji : j.toNatClampNeg = i) (hi : i < vs.length) (hg : g.method = m) (hs : g.stack = .int x :: .int j :: .ref a :: rest) (hd : decode c.code g.pc = .ok (.castore, 1)) :
    ∃ T' h', Stand p l e R s m args below meth c T' (locs ++ [⟨a, j.toNatClampNeg⟩]) cells slots ∧ T'.heap = h' ∧ Wr h h' a j.toNatClampNeg (.int (nar .char x)) ∧ Arv Z h' a k .char n (vs.set i (.int (nar .char x))) dv ∧ ∀ target, Steps p.tables e below (T'.setTop { g with pc := g.pc + 1, stack := rest }) target → Steps p.tables e below (T.setTop g) target := by
  obtain ⟨cl, A, q, S, N, H, Gf⟩ := V
  obtain ⟨T', h', X', e', W', st⟩ := stC X hx hZ eT A (inb_of S hj) hg hs hd
  exact ⟨T', h', X', e', W', Arv.set A q S N H Gf (fits_nar_char _) W' i hji hi, st⟩
theorem own_stB {x : Int32} (X : Stand p l e R s m args below meth c T locs cells slots) (hx : p.tables.exec = Jvm.exec) (hZ : Z.Warmed39 s.vm) (eT : T.heap = h) (V : Arv Z h a k .byte n vs dv) (hj : ¬ j < 0 ∧ j < n) {i : Nat} (hji : j.toNatClampNeg = i) (hi : i < vs.length) (hg : g.method = m) (hs : g.stack = .int x :: .int j :: .ref a :: rest) (hd : decode c.code g.pc = .ok (.bastore, 1)) :
    ∃ T' h', Stand p l e R s m args below meth c T' (locs ++ [⟨a, j.toNatClampNeg⟩]) cells slots ∧ T'.heap = h' ∧ Wr h h' a j.toNatClampNeg (.int (nar .byte x)) ∧ Arv Z h' a k .byte n (vs.set i (.int (nar .byte x))) dv ∧ ∀ target, Steps p.tables e below (T'.setTop { g with pc := g.pc + 1, stack := rest }) target → Steps p.tables e below (T.setTop g) target := by
  obtain ⟨cl, A, q, S, N, H, Gf⟩ := V
  obtain ⟨T', h', X', e', W', st⟩ := stB X hx hZ eT A (inb_of S hj) hg hs hd
  exact ⟨T', h', X', e', W', Arv.set A q S N H Gf (fits_nar_byte _) W' i hji hi, st⟩
theorem own_stR {K : String} (X : Stand p l e R s m args below meth c T locs cells slots) (hx : p.tables.exec = Jvm.exec) (hZ : Z.Warmed39 s.vm) (eT : T.heap = h) (V : Arv Z h a k (.object K) n vs dv) (hj : ¬ j < 0 ∧ j < n) {i : Nat} (hji : j.toNatClampNeg = i) (hi : i < vs.length) (hS : ∀ {cl : Cell}, Arr Z h a cl (.object K) → cl.cls = k → Sto Z h a v) (hg : g.method = m) (hs : g.stack = v :: .int j :: .ref a :: rest) (hd : decode c.code g.pc = .ok (.aastore, 1)) (hf : fits (.object K) v = true := by rfl) :
    ∃ T' h', Stand p l e R s m args below meth c T' (locs ++ [⟨a, j.toNatClampNeg⟩]) cells slots ∧ T'.heap = h' ∧ Wr h h' a j.toNatClampNeg v ∧ Arv Z h' a k (.object K) n (vs.set i v) dv ∧ ∀ target, Steps p.tables e below (T'.setTop { g with pc := g.pc + 1, stack := rest }) target → Steps p.tables e below (T.setTop g) target := by
  obtain ⟨cl, A, q, S, N, H, Gf⟩ := V
  obtain ⟨T', h', X', e', W', st⟩ := stR X hx hZ eT A (inb_of S hj) rfl (hS A q) hg hs hd
  exact ⟨T', h', X', e', W', Arv.set A q S N H Gf hf W' i hji hi, st⟩
end Arrays
end New
end Jvm.RoadKit
namespace Jvm.Pilot.@@N@@
open Jvm Jvm.ClassFile Sem Op Lib Jvm.Free Jvm.Stand Jvm.LawKit Jvm.RoadKit Bundle Jvm.Pilot.@@N@@.Jvm.D
abbrev cn_0 : String := "com/example/gapstone/gapstone/IsolationLevel"
abbrev cn_1 : String := "com/example/gapstone/gapstone/IsolationLevelLocksGapsPinLaw"
abbrev cn_2 : String := "Lcom/example/gapstone/gapstone/IsolationLevel;"
abbrev cn_3 : String := "(I)Lcom/example/gapstone/gapstone/IsolationLevel;"
abbrev cn_4 : String := "java/lang/Enum"
def own_St (Z : State) (w_READ_UNCOMMITTED : Addr) (w_REPEATABLE_READ : Addr) (w_SERIALIZABLE : Addr) (w_READ_COMMITTED : Addr) : Prop := (Sta Z Z.heap cn_0 "READ_UNCOMMITTED" cn_2 (.ref w_READ_UNCOMMITTED)) ∧ (Exa Z Z.heap w_READ_UNCOMMITTED cn_0) ∧ (Sta Z Z.heap cn_0 "REPEATABLE_READ" cn_2 (.ref w_REPEATABLE_READ)) ∧ (Exa Z Z.heap w_REPEATABLE_READ cn_0) ∧ (Sta Z Z.heap cn_0 "SERIALIZABLE" cn_2 (.ref w_SERIALIZABLE)) ∧ (Exa Z Z.heap w_SERIALIZABLE cn_0) ∧ (Sta Z Z.heap cn_0 "READ_COMMITTED" cn_2 (.ref w_READ_COMMITTED)) ∧ (Exa Z Z.heap w_READ_COMMITTED cn_0) ∧ (Fld Z Z.heap w_READ_UNCOMMITTED cn_4 "ordinal" "I" (.int 0)) ∧ (Fld Z Z.heap w_REPEATABLE_READ cn_4 "ordinal" "I" (.int 2)) ∧ (Fld Z Z.heap w_SERIALIZABLE cn_4 "ordinal" "I" (.int 3)) ∧ (Fld Z Z.heap w_READ_COMMITTED cn_4 "ordinal" "I" (.int 1))
theorem own_St.k0 {Z : State} {w_READ_UNCOMMITTED : Addr} {w_REPEATABLE_READ : Addr} {w_SERIALIZABLE : Addr} {w_READ_COMMITTED : Addr} (ST : own_St Z w_READ_UNCOMMITTED w_REPEATABLE_READ w_SERIALIZABLE w_READ_COMMITTED) : Sta Z Z.heap cn_0 "READ_UNCOMMITTED" cn_2 (.ref w_READ_UNCOMMITTED) := ST.1
theorem own_St.k1 {Z : State} {w_READ_UNCOMMITTED : Addr} {w_REPEATABLE_READ : Addr} {w_SERIALIZABLE : Addr} {w_READ_COMMITTED : Addr} (ST : own_St Z w_READ_UNCOMMITTED w_REPEATABLE_READ w_SERIALIZABLE w_READ_COMMITTED) : Exa Z Z.heap w_READ_UNCOMMITTED cn_0 := ST.2.1
theorem own_St.k2 {Z : State} {w_READ_UNCOMMITTED : Addr} {w_REPEATABLE_READ : Addr} {w_SERIALIZABLE : Addr} {w_READ_COMMITTED : Addr} (ST : own_St Z w_READ_UNCOMMITTED w_REPEATABLE_READ w_SERIALIZABLE w_READ_COMMITTED) : Sta Z Z.heap cn_0 "REPEATABLE_READ" cn_2 (.ref w_REPEATABLE_READ) := ST.2.2.1
theorem own_St.k3 {Z : State} {w_READ_UNCOMMITTED : Addr} {w_REPEATABLE_READ : Addr} {w_SERIALIZABLE : Addr} {w_READ_COMMITTED : Addr} (ST : own_St Z w_READ_UNCOMMITTED w_REPEATABLE_READ w_SERIALIZABLE w_READ_COMMITTED) : Exa Z Z.heap w_REPEATABLE_READ cn_0 := ST.2.2.2.1
theorem own_St.k4 {Z : State} {w_READ_UNCOMMITTED : Addr} {w_REPEATABLE_READ : Addr} {w_SERIALIZABLE : Addr} {w_READ_COMMITTED : Addr} (ST : own_St Z w_READ_UNCOMMITTED w_REPEATABLE_READ w_SERIALIZABLE w_READ_COMMITTED) : Sta Z Z.heap cn_0 "SERIALIZABLE" cn_2 (.ref w_SERIALIZABLE) := ST.2.2.2.2.1
theorem own_St.k5 {Z : State} {w_READ_UNCOMMITTED : Addr} {w_REPEATABLE_READ : Addr} {w_SERIALIZABLE : Addr} {w_READ_COMMITTED : Addr} (ST : own_St Z w_READ_UNCOMMITTED w_REPEATABLE_READ w_SERIALIZABLE w_READ_COMMITTED) : Exa Z Z.heap w_SERIALIZABLE cn_0 := ST.2.2.2.2.2.1
theorem own_St.k6 {Z : State} {w_READ_UNCOMMITTED : Addr} {w_REPEATABLE_READ : Addr} {w_SERIALIZABLE : Addr} {w_READ_COMMITTED : Addr} (ST : own_St Z w_READ_UNCOMMITTED w_REPEATABLE_READ w_SERIALIZABLE w_READ_COMMITTED) : Sta Z Z.heap cn_0 "READ_COMMITTED" cn_2 (.ref w_READ_COMMITTED) := ST.2.2.2.2.2.2.1
theorem own_St.k7 {Z : State} {w_READ_UNCOMMITTED : Addr} {w_REPEATABLE_READ : Addr} {w_SERIALIZABLE : Addr} {w_READ_COMMITTED : Addr} (ST : own_St Z w_READ_UNCOMMITTED w_REPEATABLE_READ w_SERIALIZABLE w_READ_COMMITTED) : Exa Z Z.heap w_READ_COMMITTED cn_0 := ST.2.2.2.2.2.2.2.1
theorem own_St.k8 {Z : State} {w_READ_UNCOMMITTED : Addr} {w_REPEATABLE_READ : Addr} {w_SERIALIZABLE : Addr} {w_READ_COMMITTED : Addr} (ST : own_St Z w_READ_UNCOMMITTED w_REPEATABLE_READ w_SERIALIZABLE w_READ_COMMITTED) : Fld Z Z.heap w_READ_UNCOMMITTED cn_4 "ordinal" "I" (.int 0) := ST.2.2.2.2.2.2.2.2.1
theorem own_St.k9 {Z : State} {w_READ_UNCOMMITTED : Addr} {w_REPEATABLE_READ : Addr} {w_SERIALIZABLE : Addr} {w_READ_COMMITTED : Addr} (ST : own_St Z w_READ_UNCOMMITTED w_REPEATABLE_READ w_SERIALIZABLE w_READ_COMMITTED) : Fld Z Z.heap w_REPEATABLE_READ cn_4 "ordinal" "I" (.int 2) := ST.2.2.2.2.2.2.2.2.2.1
theorem own_St.k10 {Z : State} {w_READ_UNCOMMITTED : Addr} {w_REPEATABLE_READ : Addr} {w_SERIALIZABLE : Addr} {w_READ_COMMITTED : Addr} (ST : own_St Z w_READ_UNCOMMITTED w_REPEATABLE_READ w_SERIALIZABLE w_READ_COMMITTED) : Fld Z Z.heap w_SERIALIZABLE cn_4 "ordinal" "I" (.int 3) := ST.2.2.2.2.2.2.2.2.2.2.1
theorem own_St.k11 {Z : State} {w_READ_UNCOMMITTED : Addr} {w_REPEATABLE_READ : Addr} {w_SERIALIZABLE : Addr} {w_READ_COMMITTED : Addr} (ST : own_St Z w_READ_UNCOMMITTED w_REPEATABLE_READ w_SERIALIZABLE w_READ_COMMITTED) : Fld Z Z.heap w_READ_COMMITTED cn_4 "ordinal" "I" (.int 1) := ST.2.2.2.2.2.2.2.2.2.2.2
theorem ww6 {Z : State} {a0 : Array Value} (hw : ∀ d ∈ tables_1, d.before a0 Z = true) : Jvm.Cond.before (Jvm.Cond.laysStatic cn_0 "READ_UNCOMMITTED" cn_2) a0 Z = true := hw _ (List.mem_of_getElem? (i := 6) rfl)
theorem ww5 {Z : State} {a0 : Array Value} (hw : ∀ d ∈ tables_1, d.before a0 Z = true) : Jvm.Cond.before (Jvm.Cond.initialized cn_0) a0 Z = true := hw _ (List.mem_of_getElem? (i := 5) rfl)
theorem ww13 {Z : State} {a0 : Array Value} (hw : ∀ d ∈ tables_1, d.before a0 Z = true) : Jvm.Cond.before (Jvm.Cond.laysStatic cn_0 "REPEATABLE_READ" cn_2) a0 Z = true := hw _ (List.mem_of_getElem? (i := 13) rfl)
theorem ww15 {Z : State} {a0 : Array Value} (hw : ∀ d ∈ tables_1, d.before a0 Z = true) : Jvm.Cond.before (Jvm.Cond.laysStatic cn_0 "SERIALIZABLE" cn_2) a0 Z = true := hw _ (List.mem_of_getElem? (i := 15) rfl)
theorem ww29 {Z : State} {a0 : Array Value} (hw : ∀ d ∈ tables_1, d.before a0 Z = true) : Jvm.Cond.before (Jvm.Cond.laysStatic cn_0 "READ_COMMITTED" cn_2) a0 Z = true := hw _ (List.mem_of_getElem? (i := 29) rfl)
theorem d0_0 : decode method_2_code 0 = .ok (.iload_n 0, 1) := by decide +kernel
theorem d0_1 : decode method_2_code 1 = .ok (.ifCond .ne 7, 3) := by decide +kernel
theorem d0_4 : decode method_2_code 4 = .ok (.getstatic 7, 3) := by decide +kernel
theorem ww4 {Z : State} {a0 : Array Value} (hw : ∀ d ∈ tables_1, d.before a0 Z = true) : Jvm.Cond.before (Jvm.Cond.fieldLink cn_1 (7 : Nat) cn_0 "READ_UNCOMMITTED" cn_2) a0 Z = true := hw _ (List.mem_of_getElem? (i := 4) rfl)
theorem d0_7 : decode method_2_code 7 = .ok (.areturn, 1) := by decide +kernel
theorem d0_8 : decode method_2_code 8 = .ok (.iload_n 0, 1) := by decide +kernel
theorem d0_9 : decode method_2_code 9 = .ok (.iconst 1, 1) := by decide +kernel
theorem d0_10 : decode method_2_code 10 = .ok (.if_icmp .ne 7, 3) := by decide +kernel
theorem d0_13 : decode method_2_code 13 = .ok (.getstatic 13, 3) := by decide +kernel
theorem ww28 {Z : State} {a0 : Array Value} (hw : ∀ d ∈ tables_1, d.before a0 Z = true) : Jvm.Cond.before (Jvm.Cond.fieldLink cn_1 (13 : Nat) cn_0 "READ_COMMITTED" cn_2) a0 Z = true := hw _ (List.mem_of_getElem? (i := 28) rfl)
theorem d0_16 : decode method_2_code 16 = .ok (.areturn, 1) := by decide +kernel
theorem d0_17 : decode method_2_code 17 = .ok (.iload_n 0, 1) := by decide +kernel
theorem d0_18 : decode method_2_code 18 = .ok (.iconst 2, 1) := by decide +kernel
theorem d0_19 : decode method_2_code 19 = .ok (.if_icmp .ne 7, 3) := by decide +kernel
theorem d0_22 : decode method_2_code 22 = .ok (.getstatic 16, 3) := by decide +kernel
theorem ww27 {Z : State} {a0 : Array Value} (hw : ∀ d ∈ tables_1, d.before a0 Z = true) : Jvm.Cond.before (Jvm.Cond.fieldLink cn_1 (16 : Nat) cn_0 "REPEATABLE_READ" cn_2) a0 Z = true := hw _ (List.mem_of_getElem? (i := 27) rfl)
theorem d0_25 : decode method_2_code 25 = .ok (.areturn, 1) := by decide +kernel
theorem d0_26 : decode method_2_code 26 = .ok (.getstatic 19, 3) := by decide +kernel
theorem ww26 {Z : State} {a0 : Array Value} (hw : ∀ d ∈ tables_1, d.before a0 Z = true) : Jvm.Cond.before (Jvm.Cond.fieldLink cn_1 (19 : Nat) cn_0 "SERIALIZABLE" cn_2) a0 Z = true := hw _ (List.mem_of_getElem? (i := 26) rfl)
theorem d0_29 : decode method_2_code 29 = .ok (.areturn, 1) := by decide +kernel
abbrev rr_pick : Room := { frames := 0, cells := 0, slots := 0, locals := 0 }
abbrev y_0 : MethodName := ⟨cn_1, "pick", cn_3⟩
theorem pn_0 : plainName cn_1 = true := by first | (simp [plainName, overriddenIn]; done) | decide +kernel
theorem ef_pick (m : MethodId) (p0 : Int32) : entryFrame m #[(.int p0)] 1 = mkF m 0 #[.val (.int p0)] [] := by first | (simp [entryFrame, mkF, argsToLocals, Value.category]; done) | rfl
def f_pick (w_READ_UNCOMMITTED : Addr) (w_REPEATABLE_READ : Addr) (w_SERIALIZABLE : Addr) (w_READ_COMMITTED : Addr) (p0 : Int32) : Addr := (if p0 = (0 : Int32) then w_READ_UNCOMMITTED else (if p0 = (1 : Int32) then w_READ_COMMITTED else (if p0 = (2 : Int32) then w_REPEATABLE_READ else w_SERIALIZABLE)))
def Q_pick (Z : State) (w_READ_UNCOMMITTED : Addr) (w_REPEATABLE_READ : Addr) (w_SERIALIZABLE : Addr) (w_READ_COMMITTED : Addr) (p0 : Int32) (h0 : Heap) (n0 : Nat) (v : Option Value) (h : Heap) (L : List Loc) : Prop := v = some (.ref (f_pick w_READ_UNCOMMITTED w_REPEATABLE_READ w_SERIALIZABLE w_READ_COMMITTED p0)) ∧ Fr n0 L ∧ h = h0
set_option maxRecDepth 65536 in
set_option maxHeartbeats 40000000 in
theorem rm_pick (l : Launch) (Z : State) (a0 : Array Value) (hw : ∀ d ∈ tables_1, d.before a0 Z = true) (ws : List Jvm.Cond) (w_READ_UNCOMMITTED : Addr) (w_REPEATABLE_READ : Addr) (w_SERIALIZABLE : Addr) (w_READ_COMMITTED : Addr) (p0 : Int32) (h0 : Heap) (n0 : Nat) (Z0 : n0 ≤ h0.size) (ST : own_St Z w_READ_UNCOMMITTED w_REPEATABLE_READ w_SERIALIZABLE w_READ_COMMITTED) (O0 : Old Z n0 h0) :
    MetFree l y_0 (head1 (Jvm.Cond.code y_0 method_2_code 1 (some (.object cn_0)) :: ws) rr_pick) (fun a U => a = #[(.int p0)] ∧ Z.Warmed39 U.vm ∧ U.heap = h0) (fun _ _ _ _ _ => True) (fun _ U o U' => ∃ v L, o = .returned v ∧ Q_pick Z w_READ_UNCOMMITTED w_REPEATABLE_READ w_SERIALIZABLE w_READ_COMMITTED p0 h0 n0 v U'.heap L ∧ FrameEnd U o U' L rr_pick.cells rr_pick.slots) := by
  refine MetFree.of_bodySF (plainFor_of_name pn_0) hisR ?_
  intro p e s m args below meth c s₁ Bd hml0 hP hK
  obtain ⟨rfl, hZ, hh⟩ := hP
  have hx := Bd.exec
  have hby := Bd.bytes
  have hml : c.maxLocals = 1 := hml0
  have hown : s.vm.findClass cn_1 = some m.cls := findClass_of_methodNamed Bd.named
  have hnm := (name_of_methodNamed Bd.named Bd.method).1
  have X0 : Stand p l e rr_pick s m #[(.int p0)] below meth c s₁ [] 0 0 := Stand.of_body Bd
  have e0 : s₁.heap = h0 := by rw [← hh, Bd.state]; rfl
  have N0 := Fr.nil n0
  obtain ⟨G, step, ret, fin⟩ := own_open (p := p) (l := l) (e := e) (R := rr_pick) (s := s) (m := m) (args := #[(.int p0)]) (below := below) (meth := meth) (c := c) (rr_pick.cells) (rr_pick.slots) (Q_pick Z w_READ_UNCOMMITTED w_REPEATABLE_READ w_SERIALIZABLE w_READ_COMMITTED p0 h0 n0) Bd.notSynchronized
  refine fin (g := entryFrame m #[(.int p0)] 1) ?_
  rw [ef_pick m p0]
  show G s₁ (mkF m 0 #[.val (.int p0)] [])
  refine step (fun t k => XS.iloadN X0.here hx rfl (hb hby d0_0) rfl k) ?_
  show G s₁ (mkF m 1 #[.val (.int p0)] [(.int p0)])
  by_cases hc1 : p0 = (0 : Int32)
  · skip
    refine step (fun t k => XS.ifNo X0.here hx rfl (hb hby d0_1) rfl ((if0 _ _).trans (teq hc1).2) k) ?_
    show G s₁ (mkF m 4 #[.val (.int p0)] [])
    obtain ⟨T2, X2, e2, st2⟩ := getS2 X0 hx hZ hown (host := "") (Or.inl (ww4 hw)) Via.refl e0 (Sta.ext O0.2 ST.k0) (g := (mkF m 4 #[.val (.int p0)] [])) rfl (hb hby d0_4)
    refine step st2 ?_
    show G T2 (mkF m 7 #[.val (.int p0)] [(.ref w_READ_UNCOMMITTED)])
    exact ret (v := some (.ref w_READ_UNCOMMITTED)) X2 (fun h => by rw [Bd.returns] at h; cases h) (fun fs hr => retA X2 hx Bd.returns rfl rfl (hb hby d0_7) hr) e2 ⟨by unfold f_pick; rw [if_pos hc1], N0, rfl⟩ (by decide) (by decide)
  · skip
    refine step (fun t k => XS.ifYes X0.here hx rfl (pc0 := 1) (pc' := 8) rfl (hb hby d0_1) rfl ((if0 _ _).trans (feq hc1).2) (by decide) (by decide) k) ?_
    show G s₁ (mkF m 8 #[.val (.int p0)] [])
    refine step (fun t k => XS.iloadN X0.here hx rfl (hb hby d0_8) rfl k) ?_
    show G s₁ (mkF m 9 #[.val (.int p0)] [(.int p0)])
    refine step (fun t k => XS.iconst X0.here hx rfl (hb hby d0_9) k) ?_
    show G s₁ (mkF m 10 #[.val (.int p0)] [(.int 1), (.int p0)])
    by_cases hc3 : p0 = (1 : Int32)
    · skip
      refine step (fun t k => XS.icmpNo X0.here hx rfl (hb hby d0_10) rfl (teq hc3).2 k) ?_
      show G s₁ (mkF m 13 #[.val (.int p0)] [])
      obtain ⟨T4, X4, e4, st4⟩ := getS2 X0 hx hZ hown (host := "") (Or.inl (ww28 hw)) Via.refl e0 (Sta.ext O0.2 ST.k6) (g := (mkF m 13 #[.val (.int p0)] [])) rfl (hb hby d0_13)
      refine step st4 ?_
      show G T4 (mkF m 16 #[.val (.int p0)] [(.ref w_READ_COMMITTED)])
      exact ret (v := some (.ref w_READ_COMMITTED)) X4 (fun h => by rw [Bd.returns] at h; cases h) (fun fs hr => retA X4 hx Bd.returns rfl rfl (hb hby d0_16) hr) e4 ⟨by unfold f_pick; rw [if_neg hc1, if_pos hc3], N0, rfl⟩ (by decide) (by decide)
    · skip
      refine step (fun t k => XS.icmpYes X0.here hx rfl (pc0 := 10) (pc' := 17) rfl (hb hby d0_10) rfl (feq hc3).2 (by decide) (by decide) k) ?_
      show G s₁ (mkF m 17 #[.val (.int p0)] [])
      refine step (fun t k => XS.iloadN X0.here hx rfl (hb hby d0_17) rfl k) ?_
      show G s₁ (mkF m 18 #[.val (.int p0)] [(.int p0)])
      refine step (fun t k => XS.iconst X0.here hx rfl (hb hby d0_18) k) ?_
      show G s₁ (mkF m 19 #[.val (.int p0)] [(.int 2), (.int p0)])
      by_cases hc5 : p0 = (2 : Int32)
      · skip
        refine step (fun t k => XS.icmpNo X0.here hx rfl (hb hby d0_19) rfl (teq hc5).2 k) ?_
        show G s₁ (mkF m 22 #[.val (.int p0)] [])
        obtain ⟨T6, X6, e6, st6⟩ := getS2 X0 hx hZ hown (host := "") (Or.inl (ww27 hw)) Via.refl e0 (Sta.ext O0.2 ST.k2) (g := (mkF m 22 #[.val (.int p0)] [])) rfl (hb hby d0_22)
        refine step st6 ?_
        show G T6 (mkF m 25 #[.val (.int p0)] [(.ref w_REPEATABLE_READ)])
        exact ret (v := some (.ref w_REPEATABLE_READ)) X6 (fun h => by rw [Bd.returns] at h; cases h) (fun fs hr => retA X6 hx Bd.returns rfl rfl (hb hby d0_25) hr) e6 ⟨by unfold f_pick; rw [if_neg hc1, if_neg hc3, if_pos hc5], N0, rfl⟩ (by decide) (by decide)
      · skip
        refine step (fun t k => XS.icmpYes X0.here hx rfl (pc0 := 19) (pc' := 26) rfl (hb hby d0_19) rfl (feq hc5).2 (by decide) (by decide) k) ?_
        show G s₁ (mkF m 26 #[.val (.int p0)] [])
        obtain ⟨T7, X7, e7, st7⟩ := getS2 X0 hx hZ hown (host := "") (Or.inl (ww26 hw)) Via.refl e0 (Sta.ext O0.2 ST.k4) (g := (mkF m 26 #[.val (.int p0)] [])) rfl (hb hby d0_26)
        refine step st7 ?_
        show G T7 (mkF m 29 #[.val (.int p0)] [(.ref w_SERIALIZABLE)])
        exact ret (v := some (.ref w_SERIALIZABLE)) X7 (fun h => by rw [Bd.returns] at h; cases h) (fun fs hr => retA X7 hx Bd.returns rfl rfl (hb hby d0_29) hr) e7 ⟨by unfold f_pick; rw [if_neg hc1, if_neg hc3, if_neg hc5], N0, rfl⟩ (by decide) (by decide)
theorem d1_0 : decode prog_19_method_6_code 0 = .ok (.aload_n 0, 1) := by decide +kernel
theorem d1_1 : decode prog_19_method_6_code 1 = .ok (.getstatic 10, 3) := by decide +kernel
theorem ww12 {Z : State} {a0 : Array Value} (hw : ∀ d ∈ tables_1, d.before a0 Z = true) : Jvm.Cond.before (Jvm.Cond.fieldLink cn_0 (10 : Nat) cn_0 "REPEATABLE_READ" cn_2) a0 Z = true := hw _ (List.mem_of_getElem? (i := 12) rfl)
theorem d1_4 : decode prog_19_method_6_code 4 = .ok (.if_acmp .eq 10, 3) := by decide +kernel
theorem d1_14 : decode prog_19_method_6_code 14 = .ok (.iconst 1, 1) := by decide +kernel
theorem d1_15 : decode prog_19_method_6_code 15 = .ok (.goto 4, 3) := by decide +kernel
theorem d1_19 : decode prog_19_method_6_code 19 = .ok (.ireturn, 1) := by decide +kernel
theorem d1_7 : decode prog_19_method_6_code 7 = .ok (.aload_n 0, 1) := by decide +kernel
theorem d1_8 : decode prog_19_method_6_code 8 = .ok (.getstatic 13, 3) := by decide +kernel
theorem ww14 {Z : State} {a0 : Array Value} (hw : ∀ d ∈ tables_1, d.before a0 Z = true) : Jvm.Cond.before (Jvm.Cond.fieldLink cn_0 (13 : Nat) cn_0 "SERIALIZABLE" cn_2) a0 Z = true := hw _ (List.mem_of_getElem? (i := 14) rfl)
theorem d1_11 : decode prog_19_method_6_code 11 = .ok (.if_acmp .ne 7, 3) := by decide +kernel
theorem d1_18 : decode prog_19_method_6_code 18 = .ok (.iconst 0, 1) := by decide +kernel
abbrev rr_locks : Room := { frames := 0, cells := 0, slots := 0, locals := 0 }
abbrev y_1 : MethodName := ⟨cn_0, "locksGaps", "()Z"⟩
theorem pn_1 : plainName cn_0 = true := by first | (simp [plainName, overriddenIn]; done) | decide +kernel
theorem ef_locks (m : MethodId) (o0 : Addr) : entryFrame m #[(.ref o0)] 1 = mkF m 0 #[.val (.ref o0)] [] := by first | (simp [entryFrame, mkF, argsToLocals, Value.category]; done) | rfl
def f_locks (w_READ_UNCOMMITTED : Addr) (w_REPEATABLE_READ : Addr) (w_SERIALIZABLE : Addr) (w_READ_COMMITTED : Addr) (o0 : Addr) : Int32 := (if o0 = w_REPEATABLE_READ then (1 : Int32) else (if o0 = w_SERIALIZABLE then (1 : Int32) else (0 : Int32)))
def Q_locks (Z : State) (w_READ_UNCOMMITTED : Addr) (w_REPEATABLE_READ : Addr) (w_SERIALIZABLE : Addr) (w_READ_COMMITTED : Addr) (o0 : Addr) (h0 : Heap) (n0 : Nat) (v : Option Value) (h : Heap) (L : List Loc) : Prop := v = some (.int (f_locks w_READ_UNCOMMITTED w_REPEATABLE_READ w_SERIALIZABLE w_READ_COMMITTED o0)) ∧ Fr n0 L ∧ h = h0
set_option maxRecDepth 65536 in
set_option maxHeartbeats 40000000 in
theorem rm_locks (l : Launch) (Z : State) (a0 : Array Value) (hw : ∀ d ∈ tables_1, d.before a0 Z = true) (ws : List Jvm.Cond) (w_READ_UNCOMMITTED : Addr) (w_REPEATABLE_READ : Addr) (w_SERIALIZABLE : Addr) (w_READ_COMMITTED : Addr) (o0 : Addr) (h0 : Heap) (n0 : Nat) (Z0 : n0 ≤ h0.size) (ST : own_St Z w_READ_UNCOMMITTED w_REPEATABLE_READ w_SERIALIZABLE w_READ_COMMITTED) (O0 : Old Z n0 h0) :
    MetFree l y_1 (head1 (Jvm.Cond.code y_1 prog_19_method_6_code 1 (some .boolean) :: ws) rr_locks) (fun a U => a = #[(.ref o0)] ∧ Z.Warmed39 U.vm ∧ U.heap = h0) (fun _ _ _ _ _ => True) (fun _ U o U' => ∃ v L, o = .returned v ∧ Q_locks Z w_READ_UNCOMMITTED w_REPEATABLE_READ w_SERIALIZABLE w_READ_COMMITTED o0 h0 n0 v U'.heap L ∧ FrameEnd U o U' L rr_locks.cells rr_locks.slots) := by
  refine MetFree.of_bodySF (plainFor_of_name pn_1) hisR ?_
  intro p e s m args below meth c s₁ Bd hml0 hP hK
  obtain ⟨rfl, hZ, hh⟩ := hP
  have hx := Bd.exec
  have hby := Bd.bytes
  have hml : c.maxLocals = 1 := hml0
  have hown : s.vm.findClass cn_0 = some m.cls := findClass_of_methodNamed Bd.named
  have hnm := (name_of_methodNamed Bd.named Bd.method).1
  have X0 : Stand p l e rr_locks s m #[(.ref o0)] below meth c s₁ [] 0 0 := Stand.of_body Bd
  have e0 : s₁.heap = h0 := by rw [← hh, Bd.state]; rfl
  have N0 := Fr.nil n0
  obtain ⟨G, step, ret, fin⟩ := own_open (p := p) (l := l) (e := e) (R := rr_locks) (s := s) (m := m) (args := #[(.ref o0)]) (below := below) (meth := meth) (c := c) (rr_locks.cells) (rr_locks.slots) (Q_locks Z w_READ_UNCOMMITTED w_REPEATABLE_READ w_SERIALIZABLE w_READ_COMMITTED o0 h0 n0) Bd.notSynchronized
  refine fin (g := entryFrame m #[(.ref o0)] 1) ?_
  rw [ef_locks m o0]
  show G s₁ (mkF m 0 #[.val (.ref o0)] [])
  refine step (fun t k => XS.aloadN X0.here hx rfl (hb hby d1_0) rfl rfl k) ?_
  show G s₁ (mkF m 1 #[.val (.ref o0)] [(.ref o0)])
  obtain ⟨T1, X1, e1, st1⟩ := getS2 X0 hx hZ hown (host := "") (Or.inl (ww12 hw)) Via.refl e0 (Sta.ext O0.2 ST.k2) (g := (mkF m 1 #[.val (.ref o0)] [(.ref o0)])) rfl (hb hby d1_1)
  refine step st1 ?_
  show G T1 (mkF m 4 #[.val (.ref o0)] [(.ref w_REPEATABLE_READ), (.ref o0)])
  by_cases hc2 : o0 = w_REPEATABLE_READ
  · skip
    refine step (fun t k => Jvm.RoadKit.acmp X1 hx rfl rfl rfl (pc0 := 4) (pc' := 14) (same := true) rfl (hb hby d1_4) rfl (decide_eq_true (congrArg Value.ref hc2)) (by decide) (by decide) k) ?_
    show G T1 (mkF m 14 #[.val (.ref o0)] [])
    refine step (fun t k => XS.iconst X1.here hx rfl (hb hby d1_14) k) ?_
    show G T1 (mkF m 15 #[.val (.ref o0)] [(.int 1)])
    refine step (fun t k => XS.goto X1.here hx rfl (pc0 := 15) (pc' := 19) rfl (hb hby d1_15) (by decide) (by decide) k) ?_
    show G T1 (mkF m 19 #[.val (.ref o0)] [(.int 1)])
    exact ret (v := some (.int 1)) X1 (fun h => by rw [Bd.returns] at h; cases h) (fun fs hr => retN X1 hx (t := .boolean) Bd.returns (by simp) (hb hby d1_19) hr) e1 ⟨by unfold f_locks; rw [if_pos hc2], N0, rfl⟩ (by decide) (by decide)
  · skip
    refine step (fun t k => Jvm.RoadKit.acmp X1 hx rfl rfl rfl (pc0 := 4) (pc' := 7) (same := false) rfl (hb hby d1_4) rfl (decide_eq_false fun q => hc2 (Value.ref.inj q)) (by decide) (by decide) k) ?_
    show G T1 (mkF m 7 #[.val (.ref o0)] [])
    refine step (fun t k => XS.aloadN X1.here hx rfl (hb hby d1_7) rfl rfl k) ?_
    show G T1 (mkF m 8 #[.val (.ref o0)] [(.ref o0)])
    obtain ⟨T3, X3, e3, st3⟩ := getS2 X1 hx hZ hown (host := "") (Or.inl (ww14 hw)) Via.refl e1 (Sta.ext O0.2 ST.k4) (g := (mkF m 8 #[.val (.ref o0)] [(.ref o0)])) rfl (hb hby d1_8)
    refine step st3 ?_
    show G T3 (mkF m 11 #[.val (.ref o0)] [(.ref w_SERIALIZABLE), (.ref o0)])
    by_cases hc4 : o0 = w_SERIALIZABLE
    · skip
      refine step (fun t k => Jvm.RoadKit.acmp X3 hx rfl rfl rfl (pc0 := 11) (pc' := 14) (same := true) rfl (hb hby d1_11) rfl (decide_eq_true (congrArg Value.ref hc4)) (by decide) (by decide) k) ?_
      show G T3 (mkF m 14 #[.val (.ref o0)] [])
      refine step (fun t k => XS.iconst X3.here hx rfl (hb hby d1_14) k) ?_
      show G T3 (mkF m 15 #[.val (.ref o0)] [(.int 1)])
      refine step (fun t k => XS.goto X3.here hx rfl (pc0 := 15) (pc' := 19) rfl (hb hby d1_15) (by decide) (by decide) k) ?_
      show G T3 (mkF m 19 #[.val (.ref o0)] [(.int 1)])
      exact ret (v := some (.int 1)) X3 (fun h => by rw [Bd.returns] at h; cases h) (fun fs hr => retN X3 hx (t := .boolean) Bd.returns (by simp) (hb hby d1_19) hr) e3 ⟨by unfold f_locks; rw [if_neg hc2, if_pos hc4], N0, rfl⟩ (by decide) (by decide)
    · skip
      refine step (fun t k => Jvm.RoadKit.acmp X3 hx rfl rfl rfl (pc0 := 11) (pc' := 18) (same := false) rfl (hb hby d1_11) rfl (decide_eq_false fun q => hc4 (Value.ref.inj q)) (by decide) (by decide) k) ?_
      show G T3 (mkF m 18 #[.val (.ref o0)] [])
      refine step (fun t k => XS.iconst X3.here hx rfl (hb hby d1_18) k) ?_
      show G T3 (mkF m 19 #[.val (.ref o0)] [(.int 0)])
      exact ret (v := some (.int 0)) X3 (fun h => by rw [Bd.returns] at h; cases h) (fun fs hr => retN X3 hx (t := .boolean) Bd.returns (by simp) (hb hby d1_19) hr) e3 ⟨by unfold f_locks; rw [if_neg hc2, if_neg hc4], N0, rfl⟩ (by decide) (by decide)
theorem d2_0 : decode prog_19_method_4_code 0 = .ok (.aload_n 0, 1) := by decide +kernel
theorem d2_1 : decode prog_19_method_4_code 1 = .ok (.getstatic 10, 3) := by decide +kernel
theorem d2_4 : decode prog_19_method_4_code 4 = .ok (.if_acmp .ne 7, 3) := by decide +kernel
theorem d2_7 : decode prog_19_method_4_code 7 = .ok (.iconst 1, 1) := by decide +kernel
theorem d2_8 : decode prog_19_method_4_code 8 = .ok (.goto 4, 3) := by decide +kernel
theorem d2_12 : decode prog_19_method_4_code 12 = .ok (.ireturn, 1) := by decide +kernel
theorem d2_11 : decode prog_19_method_4_code 11 = .ok (.iconst 0, 1) := by decide +kernel
abbrev rr_keeps : Room := { frames := 0, cells := 0, slots := 0, locals := 0 }
abbrev y_2 : MethodName := ⟨cn_0, "keepsView", "()Z"⟩
theorem ef_keeps (m : MethodId) (o0 : Addr) : entryFrame m #[(.ref o0)] 1 = mkF m 0 #[.val (.ref o0)] [] := by first | (simp [entryFrame, mkF, argsToLocals, Value.category]; done) | rfl
def f_keeps (w_READ_UNCOMMITTED : Addr) (w_REPEATABLE_READ : Addr) (w_SERIALIZABLE : Addr) (w_READ_COMMITTED : Addr) (o0 : Addr) : Int32 := (if o0 = w_REPEATABLE_READ then (1 : Int32) else (0 : Int32))
def Q_keeps (Z : State) (w_READ_UNCOMMITTED : Addr) (w_REPEATABLE_READ : Addr) (w_SERIALIZABLE : Addr) (w_READ_COMMITTED : Addr) (o0 : Addr) (h0 : Heap) (n0 : Nat) (v : Option Value) (h : Heap) (L : List Loc) : Prop := v = some (.int (f_keeps w_READ_UNCOMMITTED w_REPEATABLE_READ w_SERIALIZABLE w_READ_COMMITTED o0)) ∧ Fr n0 L ∧ h = h0
set_option maxRecDepth 65536 in
set_option maxHeartbeats 40000000 in
theorem rm_keeps (l : Launch) (Z : State) (a0 : Array Value) (hw : ∀ d ∈ tables_1, d.before a0 Z = true) (ws : List Jvm.Cond) (w_READ_UNCOMMITTED : Addr) (w_REPEATABLE_READ : Addr) (w_SERIALIZABLE : Addr) (w_READ_COMMITTED : Addr) (o0 : Addr) (h0 : Heap) (n0 : Nat) (Z0 : n0 ≤ h0.size) (ST : own_St Z w_READ_UNCOMMITTED w_REPEATABLE_READ w_SERIALIZABLE w_READ_COMMITTED) (O0 : Old Z n0 h0) :
    MetFree l y_2 (head1 (Jvm.Cond.code y_2 prog_19_method_4_code 1 (some .boolean) :: ws) rr_keeps) (fun a U => a = #[(.ref o0)] ∧ Z.Warmed39 U.vm ∧ U.heap = h0) (fun _ _ _ _ _ => True) (fun _ U o U' => ∃ v L, o = .returned v ∧ Q_keeps Z w_READ_UNCOMMITTED w_REPEATABLE_READ w_SERIALIZABLE w_READ_COMMITTED o0 h0 n0 v U'.heap L ∧ FrameEnd U o U' L rr_keeps.cells rr_keeps.slots) := by
  refine MetFree.of_bodySF (plainFor_of_name pn_1) hisR ?_
  intro p e s m args below meth c s₁ Bd hml0 hP hK
  obtain ⟨rfl, hZ, hh⟩ := hP
  have hx := Bd.exec
  have hby := Bd.bytes
  have hml : c.maxLocals = 1 := hml0
  have hown : s.vm.findClass cn_0 = some m.cls := findClass_of_methodNamed Bd.named
  have hnm := (name_of_methodNamed Bd.named Bd.method).1
  have X0 : Stand p l e rr_keeps s m #[(.ref o0)] below meth c s₁ [] 0 0 := Stand.of_body Bd
  have e0 : s₁.heap = h0 := by rw [← hh, Bd.state]; rfl
  have N0 := Fr.nil n0
  obtain ⟨G, step, ret, fin⟩ := own_open (p := p) (l := l) (e := e) (R := rr_keeps) (s := s) (m := m) (args := #[(.ref o0)]) (below := below) (meth := meth) (c := c) (rr_keeps.cells) (rr_keeps.slots) (Q_keeps Z w_READ_UNCOMMITTED w_REPEATABLE_READ w_SERIALIZABLE w_READ_COMMITTED o0 h0 n0) Bd.notSynchronized
  refine fin (g := entryFrame m #[(.ref o0)] 1) ?_
  rw [ef_keeps m o0]
  show G s₁ (mkF m 0 #[.val (.ref o0)] [])
  refine step (fun t k => XS.aloadN X0.here hx rfl (hb hby d2_0) rfl rfl k) ?_
  show G s₁ (mkF m 1 #[.val (.ref o0)] [(.ref o0)])
  obtain ⟨T1, X1, e1, st1⟩ := getS2 X0 hx hZ hown (host := "") (Or.inl (ww12 hw)) Via.refl e0 (Sta.ext O0.2 ST.k2) (g := (mkF m 1 #[.val (.ref o0)] [(.ref o0)])) rfl (hb hby d2_1)
  refine step st1 ?_
  show G T1 (mkF m 4 #[.val (.ref o0)] [(.ref w_REPEATABLE_READ), (.ref o0)])
  by_cases hc2 : o0 = w_REPEATABLE_READ
  · skip
    refine step (fun t k => Jvm.RoadKit.acmp X1 hx rfl rfl rfl (pc0 := 4) (pc' := 7) (same := true) rfl (hb hby d2_4) rfl (decide_eq_true (congrArg Value.ref hc2)) (by decide) (by decide) k) ?_
    show G T1 (mkF m 7 #[.val (.ref o0)] [])
    refine step (fun t k => XS.iconst X1.here hx rfl (hb hby d2_7) k) ?_
    show G T1 (mkF m 8 #[.val (.ref o0)] [(.int 1)])
    refine step (fun t k => XS.goto X1.here hx rfl (pc0 := 8) (pc' := 12) rfl (hb hby d2_8) (by decide) (by decide) k) ?_
    show G T1 (mkF m 12 #[.val (.ref o0)] [(.int 1)])
    exact ret (v := some (.int 1)) X1 (fun h => by rw [Bd.returns] at h; cases h) (fun fs hr => retN X1 hx (t := .boolean) Bd.returns (by simp) (hb hby d2_12) hr) e1 ⟨by unfold f_keeps; rw [if_pos hc2], N0, rfl⟩ (by decide) (by decide)
  · skip
    refine step (fun t k => Jvm.RoadKit.acmp X1 hx rfl rfl rfl (pc0 := 4) (pc' := 11) (same := false) rfl (hb hby d2_4) rfl (decide_eq_false fun q => hc2 (Value.ref.inj q)) (by decide) (by decide) k) ?_
    show G T1 (mkF m 11 #[.val (.ref o0)] [])
    refine step (fun t k => XS.iconst X1.here hx rfl (hb hby d2_11) k) ?_
    show G T1 (mkF m 12 #[.val (.ref o0)] [(.int 0)])
    exact ret (v := some (.int 0)) X1 (fun h => by rw [Bd.returns] at h; cases h) (fun fs hr => retN X1 hx (t := .boolean) Bd.returns (by simp) (hb hby d2_12) hr) e1 ⟨by unfold f_keeps; rw [if_neg hc2], N0, rfl⟩ (by decide) (by decide)
theorem d3_0 : decode prog_19_method_5_code 0 = .ok (.aload_n 0, 1) := by decide +kernel
theorem d3_1 : decode prog_19_method_5_code 1 = .ok (.getstatic 13, 3) := by decide +kernel
theorem d3_4 : decode prog_19_method_5_code 4 = .ok (.if_acmp .ne 7, 3) := by decide +kernel
theorem d3_7 : decode prog_19_method_5_code 7 = .ok (.iconst 1, 1) := by decide +kernel
theorem d3_8 : decode prog_19_method_5_code 8 = .ok (.goto 4, 3) := by decide +kernel
theorem d3_12 : decode prog_19_method_5_code 12 = .ok (.ireturn, 1) := by decide +kernel
theorem d3_11 : decode prog_19_method_5_code 11 = .ok (.iconst 0, 1) := by decide +kernel
abbrev rr_shares : Room := { frames := 0, cells := 0, slots := 0, locals := 0 }
abbrev y_3 : MethodName := ⟨cn_0, "sharesPlainReads", "()Z"⟩
theorem ef_shares (m : MethodId) (o0 : Addr) : entryFrame m #[(.ref o0)] 1 = mkF m 0 #[.val (.ref o0)] [] := by first | (simp [entryFrame, mkF, argsToLocals, Value.category]; done) | rfl
def f_shares (w_READ_UNCOMMITTED : Addr) (w_REPEATABLE_READ : Addr) (w_SERIALIZABLE : Addr) (w_READ_COMMITTED : Addr) (o0 : Addr) : Int32 := (if o0 = w_SERIALIZABLE then (1 : Int32) else (0 : Int32))
def Q_shares (Z : State) (w_READ_UNCOMMITTED : Addr) (w_REPEATABLE_READ : Addr) (w_SERIALIZABLE : Addr) (w_READ_COMMITTED : Addr) (o0 : Addr) (h0 : Heap) (n0 : Nat) (v : Option Value) (h : Heap) (L : List Loc) : Prop := v = some (.int (f_shares w_READ_UNCOMMITTED w_REPEATABLE_READ w_SERIALIZABLE w_READ_COMMITTED o0)) ∧ Fr n0 L ∧ h = h0
set_option maxRecDepth 65536 in
set_option maxHeartbeats 40000000 in
theorem rm_shares (l : Launch) (Z : State) (a0 : Array Value) (hw : ∀ d ∈ tables_1, d.before a0 Z = true) (ws : List Jvm.Cond) (w_READ_UNCOMMITTED : Addr) (w_REPEATABLE_READ : Addr) (w_SERIALIZABLE : Addr) (w_READ_COMMITTED : Addr) (o0 : Addr) (h0 : Heap) (n0 : Nat) (Z0 : n0 ≤ h0.size) (ST : own_St Z w_READ_UNCOMMITTED w_REPEATABLE_READ w_SERIALIZABLE w_READ_COMMITTED) (O0 : Old Z n0 h0) :
    MetFree l y_3 (head1 (Jvm.Cond.code y_3 prog_19_method_5_code 1 (some .boolean) :: ws) rr_shares) (fun a U => a = #[(.ref o0)] ∧ Z.Warmed39 U.vm ∧ U.heap = h0) (fun _ _ _ _ _ => True) (fun _ U o U' => ∃ v L, o = .returned v ∧ Q_shares Z w_READ_UNCOMMITTED w_REPEATABLE_READ w_SERIALIZABLE w_READ_COMMITTED o0 h0 n0 v U'.heap L ∧ FrameEnd U o U' L rr_shares.cells rr_shares.slots) := by
  refine MetFree.of_bodySF (plainFor_of_name pn_1) hisR ?_
  intro p e s m args below meth c s₁ Bd hml0 hP hK
  obtain ⟨rfl, hZ, hh⟩ := hP
  have hx := Bd.exec
  have hby := Bd.bytes
  have hml : c.maxLocals = 1 := hml0
  have hown : s.vm.findClass cn_0 = some m.cls := findClass_of_methodNamed Bd.named
  have hnm := (name_of_methodNamed Bd.named Bd.method).1
  have X0 : Stand p l e rr_shares s m #[(.ref o0)] below meth c s₁ [] 0 0 := Stand.of_body Bd
  have e0 : s₁.heap = h0 := by rw [← hh, Bd.state]; rfl
  have N0 := Fr.nil n0
  obtain ⟨G, step, ret, fin⟩ := own_open (p := p) (l := l) (e := e) (R := rr_shares) (s := s) (m := m) (args := #[(.ref o0)]) (below := below) (meth := meth) (c := c) (rr_shares.cells) (rr_shares.slots) (Q_shares Z w_READ_UNCOMMITTED w_REPEATABLE_READ w_SERIALIZABLE w_READ_COMMITTED o0 h0 n0) Bd.notSynchronized
  refine fin (g := entryFrame m #[(.ref o0)] 1) ?_
  rw [ef_shares m o0]
  show G s₁ (mkF m 0 #[.val (.ref o0)] [])
  refine step (fun t k => XS.aloadN X0.here hx rfl (hb hby d3_0) rfl rfl k) ?_
  show G s₁ (mkF m 1 #[.val (.ref o0)] [(.ref o0)])
  obtain ⟨T1, X1, e1, st1⟩ := getS2 X0 hx hZ hown (host := "") (Or.inl (ww14 hw)) Via.refl e0 (Sta.ext O0.2 ST.k4) (g := (mkF m 1 #[.val (.ref o0)] [(.ref o0)])) rfl (hb hby d3_1)
  refine step st1 ?_
  show G T1 (mkF m 4 #[.val (.ref o0)] [(.ref w_SERIALIZABLE), (.ref o0)])
  by_cases hc2 : o0 = w_SERIALIZABLE
  · skip
    refine step (fun t k => Jvm.RoadKit.acmp X1 hx rfl rfl rfl (pc0 := 4) (pc' := 7) (same := true) rfl (hb hby d3_4) rfl (decide_eq_true (congrArg Value.ref hc2)) (by decide) (by decide) k) ?_
    show G T1 (mkF m 7 #[.val (.ref o0)] [])
    refine step (fun t k => XS.iconst X1.here hx rfl (hb hby d3_7) k) ?_
    show G T1 (mkF m 8 #[.val (.ref o0)] [(.int 1)])
    refine step (fun t k => XS.goto X1.here hx rfl (pc0 := 8) (pc' := 12) rfl (hb hby d3_8) (by decide) (by decide) k) ?_
    show G T1 (mkF m 12 #[.val (.ref o0)] [(.int 1)])
    exact ret (v := some (.int 1)) X1 (fun h => by rw [Bd.returns] at h; cases h) (fun fs hr => retN X1 hx (t := .boolean) Bd.returns (by simp) (hb hby d3_12) hr) e1 ⟨by unfold f_shares; rw [if_pos hc2], N0, rfl⟩ (by decide) (by decide)
  · skip
    refine step (fun t k => Jvm.RoadKit.acmp X1 hx rfl rfl rfl (pc0 := 4) (pc' := 11) (same := false) rfl (hb hby d3_4) rfl (decide_eq_false fun q => hc2 (Value.ref.inj q)) (by decide) (by decide) k) ?_
    show G T1 (mkF m 11 #[.val (.ref o0)] [])
    refine step (fun t k => XS.iconst X1.here hx rfl (hb hby d3_11) k) ?_
    show G T1 (mkF m 12 #[.val (.ref o0)] [(.int 0)])
    exact ret (v := some (.int 0)) X1 (fun h => by rw [Bd.returns] at h; cases h) (fun fs hr => retN X1 hx (t := .boolean) Bd.returns (by simp) (hb hby d3_12) hr) e1 ⟨by unfold f_shares; rw [if_neg hc2], N0, rfl⟩ (by decide) (by decide)
theorem ww0 {Z : State} {a0 : Array Value} (hw : ∀ d ∈ tables_1, d.before a0 Z = true) : Jvm.Cond.before (Jvm.Cond.methodLink cn_1 (22 : Nat) ({ cls := cn_1, name := "pick", desc := cn_3 } : Jvm.MethodName)) a0 Z = true := hw _ (List.mem_of_getElem? (i := 0) rfl)
theorem ww3 {Z : State} {a0 : Array Value} (hw : ∀ d ∈ tables_1, d.before a0 Z = true) : Jvm.Cond.before (Jvm.Cond.code ({ cls := cn_1, name := "pick", desc := cn_3 } : Jvm.MethodName) method_2_code (1 : Nat) (Option.some (Jvm.ClassFile.FieldType.object cn_0))) a0 Z = true := hw _ (List.mem_of_getElem? (i := 3) rfl)
theorem ww2 {Z : State} {a0 : Array Value} (hw : ∀ d ∈ tables_1, d.before a0 Z = true) : Jvm.Cond.before (Jvm.Cond.initialized cn_1) a0 Z = true := hw _ (List.mem_of_getElem? (i := 2) rfl)
theorem pd_0 : parseMethodDescriptor cn_3 = some ⟨[.int], some (.object cn_0)⟩ := by decide +kernel
theorem ww1 {Z : State} {a0 : Array Value} (hw : ∀ d ∈ tables_1, d.before a0 Z = true) : Jvm.Cond.before (Jvm.Cond.static ({ cls := cn_1, name := "pick", desc := cn_3 } : Jvm.MethodName)) a0 Z = true := hw _ (List.mem_of_getElem? (i := 1) rfl)
theorem ww7 {Z : State} {a0 : Array Value} (hw : ∀ d ∈ tables_1, d.before a0 Z = true) : Jvm.Cond.before (Jvm.Cond.methodLink cn_1 (28 : Nat) ({ cls := cn_0, name := "locksGaps", desc := "()Z" } : Jvm.MethodName)) a0 Z = true := hw _ (List.mem_of_getElem? (i := 7) rfl)
theorem ww10 {Z : State} {a0 : Array Value} (hw : ∀ d ∈ tables_1, d.before a0 Z = true) : Jvm.Cond.before (Jvm.Cond.selects cn_0 ({ cls := cn_0, name := "locksGaps", desc := "()Z" } : Jvm.MethodName) ({ cls := cn_0, name := "locksGaps", desc := "()Z" } : Jvm.MethodName)) a0 Z = true := hw _ (List.mem_of_getElem? (i := 10) rfl)
theorem ww11 {Z : State} {a0 : Array Value} (hw : ∀ d ∈ tables_1, d.before a0 Z = true) : Jvm.Cond.before (Jvm.Cond.code ({ cls := cn_0, name := "locksGaps", desc := "()Z" } : Jvm.MethodName) prog_19_method_6_code (1 : Nat) (Option.some Jvm.ClassFile.FieldType.boolean)) a0 Z = true := hw _ (List.mem_of_getElem? (i := 11) rfl)
theorem pd_1 : parseMethodDescriptor "()Z" = some ⟨[], some .boolean⟩ := by decide +kernel
theorem ww8 {Z : State} {a0 : Array Value} (hw : ∀ d ∈ tables_1, d.before a0 Z = true) : Jvm.Cond.before (Jvm.Cond.declares ({ cls := cn_0, name := "locksGaps", desc := "()Z" } : Jvm.MethodName)) a0 Z = true := hw _ (List.mem_of_getElem? (i := 8) rfl)
theorem ww9 {Z : State} {a0 : Array Value} (hw : ∀ d ∈ tables_1, d.before a0 Z = true) : Jvm.Cond.before (Jvm.Cond.instanceMethod ({ cls := cn_0, name := "locksGaps", desc := "()Z" } : Jvm.MethodName)) a0 Z = true := hw _ (List.mem_of_getElem? (i := 9) rfl)
theorem ww16 {Z : State} {a0 : Array Value} (hw : ∀ d ∈ tables_1, d.before a0 Z = true) : Jvm.Cond.before (Jvm.Cond.methodLink cn_1 (32 : Nat) ({ cls := cn_0, name := "keepsView", desc := "()Z" } : Jvm.MethodName)) a0 Z = true := hw _ (List.mem_of_getElem? (i := 16) rfl)
theorem ww19 {Z : State} {a0 : Array Value} (hw : ∀ d ∈ tables_1, d.before a0 Z = true) : Jvm.Cond.before (Jvm.Cond.selects cn_0 ({ cls := cn_0, name := "keepsView", desc := "()Z" } : Jvm.MethodName) ({ cls := cn_0, name := "keepsView", desc := "()Z" } : Jvm.MethodName)) a0 Z = true := hw _ (List.mem_of_getElem? (i := 19) rfl)
theorem ww20 {Z : State} {a0 : Array Value} (hw : ∀ d ∈ tables_1, d.before a0 Z = true) : Jvm.Cond.before (Jvm.Cond.code ({ cls := cn_0, name := "keepsView", desc := "()Z" } : Jvm.MethodName) prog_19_method_4_code (1 : Nat) (Option.some Jvm.ClassFile.FieldType.boolean)) a0 Z = true := hw _ (List.mem_of_getElem? (i := 20) rfl)
theorem ww17 {Z : State} {a0 : Array Value} (hw : ∀ d ∈ tables_1, d.before a0 Z = true) : Jvm.Cond.before (Jvm.Cond.declares ({ cls := cn_0, name := "keepsView", desc := "()Z" } : Jvm.MethodName)) a0 Z = true := hw _ (List.mem_of_getElem? (i := 17) rfl)
theorem ww18 {Z : State} {a0 : Array Value} (hw : ∀ d ∈ tables_1, d.before a0 Z = true) : Jvm.Cond.before (Jvm.Cond.instanceMethod ({ cls := cn_0, name := "keepsView", desc := "()Z" } : Jvm.MethodName)) a0 Z = true := hw _ (List.mem_of_getElem? (i := 18) rfl)
theorem ww21 {Z : State} {a0 : Array Value} (hw : ∀ d ∈ tables_1, d.before a0 Z = true) : Jvm.Cond.before (Jvm.Cond.methodLink cn_1 (35 : Nat) ({ cls := cn_0, name := "sharesPlainReads", desc := "()Z" } : Jvm.MethodName)) a0 Z = true := hw _ (List.mem_of_getElem? (i := 21) rfl)
theorem ww24 {Z : State} {a0 : Array Value} (hw : ∀ d ∈ tables_1, d.before a0 Z = true) : Jvm.Cond.before (Jvm.Cond.selects cn_0 ({ cls := cn_0, name := "sharesPlainReads", desc := "()Z" } : Jvm.MethodName) ({ cls := cn_0, name := "sharesPlainReads", desc := "()Z" } : Jvm.MethodName)) a0 Z = true := hw _ (List.mem_of_getElem? (i := 24) rfl)
theorem ww25 {Z : State} {a0 : Array Value} (hw : ∀ d ∈ tables_1, d.before a0 Z = true) : Jvm.Cond.before (Jvm.Cond.code ({ cls := cn_0, name := "sharesPlainReads", desc := "()Z" } : Jvm.MethodName) prog_19_method_5_code (1 : Nat) (Option.some Jvm.ClassFile.FieldType.boolean)) a0 Z = true := hw _ (List.mem_of_getElem? (i := 25) rfl)
theorem ww22 {Z : State} {a0 : Array Value} (hw : ∀ d ∈ tables_1, d.before a0 Z = true) : Jvm.Cond.before (Jvm.Cond.declares ({ cls := cn_0, name := "sharesPlainReads", desc := "()Z" } : Jvm.MethodName)) a0 Z = true := hw _ (List.mem_of_getElem? (i := 22) rfl)
theorem ww23 {Z : State} {a0 : Array Value} (hw : ∀ d ∈ tables_1, d.before a0 Z = true) : Jvm.Cond.before (Jvm.Cond.instanceMethod ({ cls := cn_0, name := "sharesPlainReads", desc := "()Z" } : Jvm.MethodName)) a0 Z = true := hw _ (List.mem_of_getElem? (i := 23) rfl)
abbrev y_4 : MethodName := ⟨cn_1, "law", "(I)Z"⟩
theorem ef_law (m : MethodId) (p0 : Int32) : entryFrame m #[(.int p0)] maxLocals = mkF m 0 #[.val (.int p0), .unset, .unset, .unset, .unset, .unset] [] := by first | (simp [entryFrame, mkF, argsToLocals, Value.category, maxLocals]; done) | rfl
def Q_law (Z : State) (w_READ_UNCOMMITTED : Addr) (w_REPEATABLE_READ : Addr) (w_SERIALIZABLE : Addr) (w_READ_COMMITTED : Addr) (p0 : Int32) (h0 : Heap) (n0 : Nat) (v : Option Value) (h : Heap) (L : List Loc) : Prop := v = some (.int 1) ∧ Fr n0 L
set_option maxRecDepth 65536 in
set_option maxHeartbeats 40000000 in
theorem rm_law (l : Launch) (Z : State) (a0 : Array Value) (hw : ∀ d ∈ tables_1, d.before a0 Z = true) (ws : List Jvm.Cond) (w_READ_UNCOMMITTED : Addr) (w_REPEATABLE_READ : Addr) (w_SERIALIZABLE : Addr) (w_READ_COMMITTED : Addr) (p0 : Int32) (h0 : Heap) (n0 : Nat) (Z0 : n0 ≤ h0.size) (ST : own_St Z w_READ_UNCOMMITTED w_REPEATABLE_READ w_SERIALIZABLE w_READ_COMMITTED) (O0 : Old Z n0 h0) :
    MetFree l x (head1 (Jvm.Cond.code x code maxLocals ret :: ws) room_1) (fun a U => a = #[(.int p0)] ∧ Z.Warmed39 U.vm ∧ U.heap = h0) (fun _ _ _ _ _ => True) (fun _ U o U' => ∃ v L, o = .returned v ∧ Q_law Z w_READ_UNCOMMITTED w_REPEATABLE_READ w_SERIALIZABLE w_READ_COMMITTED p0 h0 n0 v U'.heap L ∧ FrameEnd U o U' L 0 0) := by
  refine MetFree.of_bodySF (plainFor_of_name pn_0) hisR ?_
  intro p e s m args below meth c s₁ Bd hml0 hP hK
  obtain ⟨rfl, hZ, hh⟩ := hP
  have hx := Bd.exec
  have hby := Bd.bytes
  have hml : c.maxLocals = 6 := hml0
  have hown : s.vm.findClass cn_1 = some m.cls := findClass_of_methodNamed Bd.named
  have hnm := (name_of_methodNamed Bd.named Bd.method).1
  have X0 : Stand p l e room_1 s m #[(.int p0)] below meth c s₁ [] 0 0 := Stand.of_body Bd
  have e0 : s₁.heap = h0 := by rw [← hh, Bd.state]; rfl
  have N0 := Fr.nil n0
  obtain ⟨G, step, ret, fin⟩ := own_open (p := p) (l := l) (e := e) (R := room_1) (s := s) (m := m) (args := #[(.int p0)]) (below := below) (meth := meth) (c := c) (0) (0) (Q_law Z w_READ_UNCOMMITTED w_REPEATABLE_READ w_SERIALIZABLE w_READ_COMMITTED p0 h0 n0) Bd.notSynchronized
  refine fin (g := entryFrame m #[(.int p0)] maxLocals) ?_
  rw [ef_law m p0]
  show G s₁ (mkF m 0 #[.val (.int p0), .unset, .unset, .unset, .unset, .unset] [])
  refine step (fun t k => XS.iloadN X0.here hx rfl (hb hby at_0) rfl k) ?_
  show G s₁ (mkF m 1 #[.val (.int p0), .unset, .unset, .unset, .unset, .unset] [(.int p0)])
  refine step (fun t k => XS.iconst X0.here hx rfl (hb hby at_1) k) ?_
  show G s₁ (mkF m 2 #[.val (.int p0), .unset, .unset, .unset, .unset, .unset] [(.int 3), (.int p0)])
  refine step (fun t k => XS.iand X0.here hx rfl (hb hby at_2) rfl k) ?_
  show G s₁ (mkF m 3 #[.val (.int p0), .unset, .unset, .unset, .unset, .unset] [(.int (p0 &&& (3 : Int32)))])
  refine step (fun t k => XS.istoreN X0.here hx rfl (hb hby at_3) rfl (l' := #[.val (.int p0), .val (.int (p0 &&& (3 : Int32))), .unset, .unset, .unset, .unset]) rfl k) ?_
  show G s₁ (mkF m 4 #[.val (.int p0), .val (.int (p0 &&& (3 : Int32))), .unset, .unset, .unset, .unset] [])
  refine step (fun t k => XS.iloadN X0.here hx rfl (hb hby at_4) rfl k) ?_
  show G s₁ (mkF m 5 #[.val (.int p0), .val (.int (p0 &&& (3 : Int32))), .unset, .unset, .unset, .unset] [(.int (p0 &&& (3 : Int32)))])
  obtain ⟨_, _, ⟨T1, L1, k1, n1⟩, -, X1, ⟨Lc1, hQ1, l1, y1, z1⟩, st1⟩ := Jvm.LawKit.callS X0 hx (y := y_0) hown (mvT hZ (ww0 hw)) (mvT hZ (ww1 hw)) (mvT hZ (ww2 hw)) (mvT hZ (ww3 hw)) (by decide) (backOf (W := 0) (rm_pick l Z a0 hw [] w_READ_UNCOMMITTED w_REPEATABLE_READ w_SERIALIZABLE w_READ_COMMITTED (p0 &&& (3 : Int32)) h0 n0 (own_old_le O0) ST O0) hZ (ww3 hw) (ww2 hw) (by decide) (by decide)) (g := (mkF m 5 #[.val (.int p0), .val (.int (p0 &&& (3 : Int32))), .unset, .unset, .unset, .unset] [(.int (p0 &&& (3 : Int32)))])) rfl (by rw [hml]; rfl) (argsL := [(.int (p0 &&& (3 : Int32)))]) (rest := []) (lenOf pd_0 rfl) rfl (by show 2 * 0 + _ ≤ _; exact Nat.le_of_eq rfl) (hb hby at_5) (fun _ _ => ⟨rfl, e0, (by decide : 0 + 0 ≤ _), (by decide : 0 + 0 ≤ _)⟩)
  dsimp only [Pt.U, Pt.locs, Pt.cells, Pt.slots] at X1 l1 y1 z1 st1 hQ1
  subst l1 y1 z1
  obtain ⟨rfl, N1q, e1⟩ := hQ1
  have N1 := Fr.app N0 N1q
  refine step (fun t k => st1 t k) ?_
  show G T1 (mkF m 8 #[.val (.int p0), .val (.int (p0 &&& (3 : Int32))), .unset, .unset, .unset, .unset] [(.ref (f_pick w_READ_UNCOMMITTED w_REPEATABLE_READ w_SERIALIZABLE w_READ_COMMITTED (p0 &&& (3 : Int32))))])
  by_cases hc2 : (p0 &&& (3 : Int32)) = (0 : Int32)
  · skip
    have r3 : (f_pick w_READ_UNCOMMITTED w_REPEATABLE_READ w_SERIALIZABLE w_READ_COMMITTED (p0 &&& (3 : Int32))) = w_READ_UNCOMMITTED := by
      unfold f_pick
      rw [if_pos hc2]
    rw [r3]
    show G T1 (mkF m 8 #[.val (.int p0), .val (.int (p0 &&& (3 : Int32))), .unset, .unset, .unset, .unset] [(.ref w_READ_UNCOMMITTED)])
    refine step (fun t k => XS.astoreN X1.here hx rfl (hb hby at_8) rfl rfl (l' := #[.val (.int p0), .val (.int (p0 &&& (3 : Int32))), .val (.ref w_READ_UNCOMMITTED), .unset, .unset, .unset]) rfl k) ?_
    show G T1 (mkF m 9 #[.val (.int p0), .val (.int (p0 &&& (3 : Int32))), .val (.ref w_READ_UNCOMMITTED), .unset, .unset, .unset] [])
    refine step (fun t k => XS.iloadN X1.here hx rfl (hb hby at_9) rfl k) ?_
    show G T1 (mkF m 10 #[.val (.int p0), .val (.int (p0 &&& (3 : Int32))), .val (.ref w_READ_UNCOMMITTED), .unset, .unset, .unset] [(.int (p0 &&& (3 : Int32)))])
    refine step (fun t k => XS.iconst X1.here hx rfl (hb hby at_10) k) ?_
    show G T1 (mkF m 11 #[.val (.int p0), .val (.int (p0 &&& (3 : Int32))), .val (.ref w_READ_UNCOMMITTED), .unset, .unset, .unset] [(.int 2), (.int (p0 &&& (3 : Int32)))])
    by_cases hc4 : (p0 &&& (3 : Int32)) < (2 : Int32)
    · skip
      refine step (fun t k => XS.icmpYes X1.here hx rfl (pc0 := 11) (pc' := 18) rfl (hb hby at_11) rfl (tlt hc4).1 (by decide) (by decide) k) ?_
      show G T1 (mkF m 18 #[.val (.int p0), .val (.int (p0 &&& (3 : Int32))), .val (.ref w_READ_UNCOMMITTED), .unset, .unset, .unset] [])
      refine step (fun t k => XS.iconst X1.here hx rfl (hb hby at_18) k) ?_
      show G T1 (mkF m 19 #[.val (.int p0), .val (.int (p0 &&& (3 : Int32))), .val (.ref w_READ_UNCOMMITTED), .unset, .unset, .unset] [(.int 0)])
      refine step (fun t k => XS.istoreN X1.here hx rfl (hb hby at_19) rfl (l' := #[.val (.int p0), .val (.int (p0 &&& (3 : Int32))), .val (.ref w_READ_UNCOMMITTED), .val (.int 0), .unset, .unset]) rfl k) ?_
      show G T1 (mkF m 20 #[.val (.int p0), .val (.int (p0 &&& (3 : Int32))), .val (.ref w_READ_UNCOMMITTED), .val (.int 0), .unset, .unset] [])
      refine step (fun t k => XS.aloadN X1.here hx rfl (hb hby at_20) rfl rfl k) ?_
      show G T1 (mkF m 21 #[.val (.int p0), .val (.int (p0 &&& (3 : Int32))), .val (.ref w_READ_UNCOMMITTED), .val (.int 0), .unset, .unset] [(.ref w_READ_UNCOMMITTED)])
      obtain ⟨cq5, kq5, q5a, q5b, q5c⟩ := isOf hZ e1 (Exa.ext O0.2 ST.k1)
      obtain ⟨_, _, ⟨T5, L5, k5, n5⟩, -, X5, ⟨Lc5, hQ5, l5, y5, z5⟩, st5⟩ := X1.virtualBack hx (y := y_1) (z := y_1) hown (mvT hZ (ww7 hw)) (mvT hZ (ww8 hw)) (notFace_of_selects (args := #[]) (mvT hZ (ww10 hw))) (mvT hZ (ww10 hw)) (mvT hZ (ww9 hw)) (by decide) (backOf (W := 0) (rm_locks l Z a0 hw [] w_READ_UNCOMMITTED w_REPEATABLE_READ w_SERIALIZABLE w_READ_COMMITTED w_READ_UNCOMMITTED h0 n0 (own_old_le O0) ST O0) hZ (ww11 hw) (ww5 hw) (by decide) (by decide)) q5a q5c (g := (mkF m 21 #[.val (.int p0), .val (.int (p0 &&& (3 : Int32))), .val (.ref w_READ_UNCOMMITTED), .val (.int 0), .unset, .unset] [(.ref w_READ_UNCOMMITTED)])) rfl (by rw [hml]; rfl) (Steps.refl _) (argsL := []) (rest := []) (lenOf pd_1 rfl) rfl (by show 2 * 0 + _ ≤ _; exact Nat.le_of_eq rfl) (hb hby at_21) (fun _ _ => ⟨rfl, e1, (by decide : 0 + 0 ≤ _), (by decide : 0 + 0 ≤ _)⟩)
      dsimp only [Pt.U, Pt.locs, Pt.cells, Pt.slots] at X5 l5 y5 z5 st5 hQ5
      subst l5 y5 z5
      obtain ⟨rfl, N5q, e5⟩ := hQ5
      have N5 := Fr.app N1 N5q
      refine step (fun t k => st5.trans k) ?_
      show G T5 (mkF m 24 #[.val (.int p0), .val (.int (p0 &&& (3 : Int32))), .val (.ref w_READ_UNCOMMITTED), .val (.int 0), .unset, .unset] [(.int (f_locks w_READ_UNCOMMITTED w_REPEATABLE_READ w_SERIALIZABLE w_READ_COMMITTED w_READ_UNCOMMITTED))])
      have r6 : (f_locks w_READ_UNCOMMITTED w_REPEATABLE_READ w_SERIALIZABLE w_READ_COMMITTED w_READ_UNCOMMITTED) = (0 : Int32) := by
        unfold f_locks
        rw [if_neg ((Fld.ne ST.k8 ST.k9 (fun q => absurd (Value.int.inj q) (by decide))) : ¬ (w_READ_UNCOMMITTED = w_REPEATABLE_READ)), if_neg ((Fld.ne ST.k8 ST.k10 (fun q => absurd (Value.int.inj q) (by decide))) : ¬ (w_READ_UNCOMMITTED = w_SERIALIZABLE))]
      rw [r6]
      show G T5 (mkF m 24 #[.val (.int p0), .val (.int (p0 &&& (3 : Int32))), .val (.ref w_READ_UNCOMMITTED), .val (.int 0), .unset, .unset] [(.int 0)])
      refine step (fun t k => XS.istore X5.here hx rfl (hb hby at_24) rfl (l' := #[.val (.int p0), .val (.int (p0 &&& (3 : Int32))), .val (.ref w_READ_UNCOMMITTED), .val (.int 0), .val (.int 0), .unset]) rfl k) ?_
      show G T5 (mkF m 26 #[.val (.int p0), .val (.int (p0 &&& (3 : Int32))), .val (.ref w_READ_UNCOMMITTED), .val (.int 0), .val (.int 0), .unset] [])
      refine step (fun t k => XS.aloadN X5.here hx rfl (hb hby at_26) rfl rfl k) ?_
      show G T5 (mkF m 27 #[.val (.int p0), .val (.int (p0 &&& (3 : Int32))), .val (.ref w_READ_UNCOMMITTED), .val (.int 0), .val (.int 0), .unset] [(.ref w_READ_UNCOMMITTED)])
      obtain ⟨cq7, kq7, q7a, q7b, q7c⟩ := isOf hZ e5 (Exa.ext O0.2 ST.k1)
      obtain ⟨_, _, ⟨T7, L7, k7, n7⟩, -, X7, ⟨Lc7, hQ7, l7, y7, z7⟩, st7⟩ := X5.virtualBack hx (y := y_2) (z := y_2) hown (mvT hZ (ww16 hw)) (mvT hZ (ww17 hw)) (notFace_of_selects (args := #[]) (mvT hZ (ww19 hw))) (mvT hZ (ww19 hw)) (mvT hZ (ww18 hw)) (by decide) (backOf (W := 0) (rm_keeps l Z a0 hw [] w_READ_UNCOMMITTED w_REPEATABLE_READ w_SERIALIZABLE w_READ_COMMITTED w_READ_UNCOMMITTED h0 n0 (own_old_le O0) ST O0) hZ (ww20 hw) (ww5 hw) (by decide) (by decide)) q7a q7c (g := (mkF m 27 #[.val (.int p0), .val (.int (p0 &&& (3 : Int32))), .val (.ref w_READ_UNCOMMITTED), .val (.int 0), .val (.int 0), .unset] [(.ref w_READ_UNCOMMITTED)])) rfl (by rw [hml]; rfl) (Steps.refl _) (argsL := []) (rest := []) (lenOf pd_1 rfl) rfl (by show 2 * 0 + _ ≤ _; exact Nat.le_of_eq rfl) (hb hby at_27) (fun _ _ => ⟨rfl, e5, (by decide : 0 + 0 ≤ _), (by decide : 0 + 0 ≤ _)⟩)
      dsimp only [Pt.U, Pt.locs, Pt.cells, Pt.slots] at X7 l7 y7 z7 st7 hQ7
      subst l7 y7 z7
      obtain ⟨rfl, N7q, e7⟩ := hQ7
      have N7 := Fr.app N5 N7q
      refine step (fun t k => st7.trans k) ?_
      show G T7 (mkF m 30 #[.val (.int p0), .val (.int (p0 &&& (3 : Int32))), .val (.ref w_READ_UNCOMMITTED), .val (.int 0), .val (.int 0), .unset] [(.int (f_keeps w_READ_UNCOMMITTED w_REPEATABLE_READ w_SERIALIZABLE w_READ_COMMITTED w_READ_UNCOMMITTED))])
      have r8 : (f_keeps w_READ_UNCOMMITTED w_REPEATABLE_READ w_SERIALIZABLE w_READ_COMMITTED w_READ_UNCOMMITTED) = (0 : Int32) := by
        unfold f_keeps
        rw [if_neg ((Fld.ne ST.k8 ST.k9 (fun q => absurd (Value.int.inj q) (by decide))) : ¬ (w_READ_UNCOMMITTED = w_REPEATABLE_READ))]
      rw [r8]
      show G T7 (mkF m 30 #[.val (.int p0), .val (.int (p0 &&& (3 : Int32))), .val (.ref w_READ_UNCOMMITTED), .val (.int 0), .val (.int 0), .unset] [(.int 0)])
      refine step (fun t k => XS.ifNo X7.here hx rfl (hb hby at_30) rfl ((if0 _ _).trans (teq (by decide : (0 : Int32) = (0 : Int32))).2) k) ?_
      show G T7 (mkF m 33 #[.val (.int p0), .val (.int (p0 &&& (3 : Int32))), .val (.ref w_READ_UNCOMMITTED), .val (.int 0), .val (.int 0), .unset] [])
      refine step (fun t k => XS.aloadN X7.here hx rfl (hb hby at_33) rfl rfl k) ?_
      show G T7 (mkF m 34 #[.val (.int p0), .val (.int (p0 &&& (3 : Int32))), .val (.ref w_READ_UNCOMMITTED), .val (.int 0), .val (.int 0), .unset] [(.ref w_READ_UNCOMMITTED)])
      obtain ⟨cq9, kq9, q9a, q9b, q9c⟩ := isOf hZ e7 (Exa.ext O0.2 ST.k1)
      obtain ⟨_, _, ⟨T9, L9, k9, n9⟩, -, X9, ⟨Lc9, hQ9, l9, y9, z9⟩, st9⟩ := X7.virtualBack hx (y := y_3) (z := y_3) hown (mvT hZ (ww21 hw)) (mvT hZ (ww22 hw)) (notFace_of_selects (args := #[]) (mvT hZ (ww24 hw))) (mvT hZ (ww24 hw)) (mvT hZ (ww23 hw)) (by decide) (backOf (W := 0) (rm_shares l Z a0 hw [] w_READ_UNCOMMITTED w_REPEATABLE_READ w_SERIALIZABLE w_READ_COMMITTED w_READ_UNCOMMITTED h0 n0 (own_old_le O0) ST O0) hZ (ww25 hw) (ww5 hw) (by decide) (by decide)) q9a q9c (g := (mkF m 34 #[.val (.int p0), .val (.int (p0 &&& (3 : Int32))), .val (.ref w_READ_UNCOMMITTED), .val (.int 0), .val (.int 0), .unset] [(.ref w_READ_UNCOMMITTED)])) rfl (by rw [hml]; rfl) (Steps.refl _) (argsL := []) (rest := []) (lenOf pd_1 rfl) rfl (by show 2 * 0 + _ ≤ _; exact Nat.le_of_eq rfl) (hb hby at_34) (fun _ _ => ⟨rfl, e7, (by decide : 0 + 0 ≤ _), (by decide : 0 + 0 ≤ _)⟩)
      dsimp only [Pt.U, Pt.locs, Pt.cells, Pt.slots] at X9 l9 y9 z9 st9 hQ9
      subst l9 y9 z9
      obtain ⟨rfl, N9q, e9⟩ := hQ9
      have N9 := Fr.app N7 N9q
      refine step (fun t k => st9.trans k) ?_
      show G T9 (mkF m 37 #[.val (.int p0), .val (.int (p0 &&& (3 : Int32))), .val (.ref w_READ_UNCOMMITTED), .val (.int 0), .val (.int 0), .unset] [(.int (f_shares w_READ_UNCOMMITTED w_REPEATABLE_READ w_SERIALIZABLE w_READ_COMMITTED w_READ_UNCOMMITTED))])
      have r10 : (f_shares w_READ_UNCOMMITTED w_REPEATABLE_READ w_SERIALIZABLE w_READ_COMMITTED w_READ_UNCOMMITTED) = (0 : Int32) := by
        unfold f_shares
        rw [if_neg ((Fld.ne ST.k8 ST.k10 (fun q => absurd (Value.int.inj q) (by decide))) : ¬ (w_READ_UNCOMMITTED = w_SERIALIZABLE))]
      rw [r10]
      show G T9 (mkF m 37 #[.val (.int p0), .val (.int (p0 &&& (3 : Int32))), .val (.ref w_READ_UNCOMMITTED), .val (.int 0), .val (.int 0), .unset] [(.int 0)])
      refine step (fun t k => XS.ifYes X9.here hx rfl (pc0 := 37) (pc' := 44) rfl (hb hby at_37) rfl ((if0 _ _).trans (teq (by decide : (0 : Int32) = (0 : Int32))).1) (by decide) (by decide) k) ?_
      show G T9 (mkF m 44 #[.val (.int p0), .val (.int (p0 &&& (3 : Int32))), .val (.ref w_READ_UNCOMMITTED), .val (.int 0), .val (.int 0), .unset] [])
      refine step (fun t k => XS.iconst X9.here hx rfl (hb hby at_44) k) ?_
      show G T9 (mkF m 45 #[.val (.int p0), .val (.int (p0 &&& (3 : Int32))), .val (.ref w_READ_UNCOMMITTED), .val (.int 0), .val (.int 0), .unset] [(.int 0)])
      refine step (fun t k => XS.istore X9.here hx rfl (hb hby at_45) rfl (l' := #[.val (.int p0), .val (.int (p0 &&& (3 : Int32))), .val (.ref w_READ_UNCOMMITTED), .val (.int 0), .val (.int 0), .val (.int 0)]) rfl k) ?_
      show G T9 (mkF m 47 #[.val (.int p0), .val (.int (p0 &&& (3 : Int32))), .val (.ref w_READ_UNCOMMITTED), .val (.int 0), .val (.int 0), .val (.int 0)] [])
      refine step (fun t k => XS.iload X9.here hx rfl (hb hby at_47) rfl k) ?_
      show G T9 (mkF m 49 #[.val (.int p0), .val (.int (p0 &&& (3 : Int32))), .val (.ref w_READ_UNCOMMITTED), .val (.int 0), .val (.int 0), .val (.int 0)] [(.int 0)])
      refine step (fun t k => XS.iloadN X9.here hx rfl (hb hby at_49) rfl k) ?_
      show G T9 (mkF m 50 #[.val (.int p0), .val (.int (p0 &&& (3 : Int32))), .val (.ref w_READ_UNCOMMITTED), .val (.int 0), .val (.int 0), .val (.int 0)] [(.int 0), (.int 0)])
      refine step (fun t k => XS.icmpNo X9.here hx rfl (hb hby at_50) rfl (teq (by decide : (0 : Int32) = (0 : Int32))).2 k) ?_
      show G T9 (mkF m 53 #[.val (.int p0), .val (.int (p0 &&& (3 : Int32))), .val (.ref w_READ_UNCOMMITTED), .val (.int 0), .val (.int 0), .val (.int 0)] [])
      refine step (fun t k => XS.iload X9.here hx rfl (hb hby at_53) rfl k) ?_
      show G T9 (mkF m 55 #[.val (.int p0), .val (.int (p0 &&& (3 : Int32))), .val (.ref w_READ_UNCOMMITTED), .val (.int 0), .val (.int 0), .val (.int 0)] [(.int 0)])
      refine step (fun t k => XS.iload X9.here hx rfl (hb hby at_55) rfl k) ?_
      show G T9 (mkF m 57 #[.val (.int p0), .val (.int (p0 &&& (3 : Int32))), .val (.ref w_READ_UNCOMMITTED), .val (.int 0), .val (.int 0), .val (.int 0)] [(.int 0), (.int 0)])
      refine step (fun t k => XS.icmpNo X9.here hx rfl (hb hby at_57) rfl (teq (by decide : (0 : Int32) = (0 : Int32))).2 k) ?_
      show G T9 (mkF m 60 #[.val (.int p0), .val (.int (p0 &&& (3 : Int32))), .val (.ref w_READ_UNCOMMITTED), .val (.int 0), .val (.int 0), .val (.int 0)] [])
      refine step (fun t k => XS.iconst X9.here hx rfl (hb hby at_60) k) ?_
      show G T9 (mkF m 61 #[.val (.int p0), .val (.int (p0 &&& (3 : Int32))), .val (.ref w_READ_UNCOMMITTED), .val (.int 0), .val (.int 0), .val (.int 0)] [(.int 1)])
      refine step (fun t k => XS.goto X9.here hx rfl (pc0 := 61) (pc' := 65) rfl (hb hby at_61) (by decide) (by decide) k) ?_
      show G T9 (mkF m 65 #[.val (.int p0), .val (.int (p0 &&& (3 : Int32))), .val (.ref w_READ_UNCOMMITTED), .val (.int 0), .val (.int 0), .val (.int 0)] [(.int 1)])
      exact ret (v := some (.int 1)) X9 (fun h => by rw [Bd.returns] at h; cases h) (fun fs hr => retN X9 hx (t := .boolean) Bd.returns (by simp) (hb hby at_65) hr) e9 ⟨rfl, N9⟩ (by decide) (by decide)
    · skip
      refine step (fun t k => XS.icmpNo X1.here hx rfl (hb hby at_11) rfl (flt hc4).1 k) ?_
      show G T1 (mkF m 14 #[.val (.int p0), .val (.int (p0 &&& (3 : Int32))), .val (.ref w_READ_UNCOMMITTED), .unset, .unset, .unset] [])
      refine step (fun t k => XS.iconst X1.here hx rfl (hb hby at_14) k) ?_
      show G T1 (mkF m 15 #[.val (.int p0), .val (.int (p0 &&& (3 : Int32))), .val (.ref w_READ_UNCOMMITTED), .unset, .unset, .unset] [(.int 1)])
      refine step (fun t k => XS.goto X1.here hx rfl (pc0 := 15) (pc' := 19) rfl (hb hby at_15) (by decide) (by decide) k) ?_
      show G T1 (mkF m 19 #[.val (.int p0), .val (.int (p0 &&& (3 : Int32))), .val (.ref w_READ_UNCOMMITTED), .unset, .unset, .unset] [(.int 1)])
      refine step (fun t k => XS.istoreN X1.here hx rfl (hb hby at_19) rfl (l' := #[.val (.int p0), .val (.int (p0 &&& (3 : Int32))), .val (.ref w_READ_UNCOMMITTED), .val (.int 1), .unset, .unset]) rfl k) ?_
      show G T1 (mkF m 20 #[.val (.int p0), .val (.int (p0 &&& (3 : Int32))), .val (.ref w_READ_UNCOMMITTED), .val (.int 1), .unset, .unset] [])
      refine step (fun t k => XS.aloadN X1.here hx rfl (hb hby at_20) rfl rfl k) ?_
      show G T1 (mkF m 21 #[.val (.int p0), .val (.int (p0 &&& (3 : Int32))), .val (.ref w_READ_UNCOMMITTED), .val (.int 1), .unset, .unset] [(.ref w_READ_UNCOMMITTED)])
      obtain ⟨cq11, kq11, q11a, q11b, q11c⟩ := isOf hZ e1 (Exa.ext O0.2 ST.k1)
      obtain ⟨_, _, ⟨T11, L11, k11, n11⟩, -, X11, ⟨Lc11, hQ11, l11, y11, z11⟩, st11⟩ := X1.virtualBack hx (y := y_1) (z := y_1) hown (mvT hZ (ww7 hw)) (mvT hZ (ww8 hw)) (notFace_of_selects (args := #[]) (mvT hZ (ww10 hw))) (mvT hZ (ww10 hw)) (mvT hZ (ww9 hw)) (by decide) (backOf (W := 0) (rm_locks l Z a0 hw [] w_READ_UNCOMMITTED w_REPEATABLE_READ w_SERIALIZABLE w_READ_COMMITTED w_READ_UNCOMMITTED h0 n0 (own_old_le O0) ST O0) hZ (ww11 hw) (ww5 hw) (by decide) (by decide)) q11a q11c (g := (mkF m 21 #[.val (.int p0), .val (.int (p0 &&& (3 : Int32))), .val (.ref w_READ_UNCOMMITTED), .val (.int 1), .unset, .unset] [(.ref w_READ_UNCOMMITTED)])) rfl (by rw [hml]; rfl) (Steps.refl _) (argsL := []) (rest := []) (lenOf pd_1 rfl) rfl (by show 2 * 0 + _ ≤ _; exact Nat.le_of_eq rfl) (hb hby at_21) (fun _ _ => ⟨rfl, e1, (by decide : 0 + 0 ≤ _), (by decide : 0 + 0 ≤ _)⟩)
      dsimp only [Pt.U, Pt.locs, Pt.cells, Pt.slots] at X11 l11 y11 z11 st11 hQ11
      subst l11 y11 z11
      obtain ⟨rfl, N11q, e11⟩ := hQ11
      have N11 := Fr.app N1 N11q
      refine step (fun t k => st11.trans k) ?_
      show G T11 (mkF m 24 #[.val (.int p0), .val (.int (p0 &&& (3 : Int32))), .val (.ref w_READ_UNCOMMITTED), .val (.int 1), .unset, .unset] [(.int (f_locks w_READ_UNCOMMITTED w_REPEATABLE_READ w_SERIALIZABLE w_READ_COMMITTED w_READ_UNCOMMITTED))])
      have r12 : (f_locks w_READ_UNCOMMITTED w_REPEATABLE_READ w_SERIALIZABLE w_READ_COMMITTED w_READ_UNCOMMITTED) = (0 : Int32) := by
        unfold f_locks
        rw [if_neg ((Fld.ne ST.k8 ST.k9 (fun q => absurd (Value.int.inj q) (by decide))) : ¬ (w_READ_UNCOMMITTED = w_REPEATABLE_READ)), if_neg ((Fld.ne ST.k8 ST.k10 (fun q => absurd (Value.int.inj q) (by decide))) : ¬ (w_READ_UNCOMMITTED = w_SERIALIZABLE))]
      rw [r12]
      show G T11 (mkF m 24 #[.val (.int p0), .val (.int (p0 &&& (3 : Int32))), .val (.ref w_READ_UNCOMMITTED), .val (.int 1), .unset, .unset] [(.int 0)])
      refine step (fun t k => XS.istore X11.here hx rfl (hb hby at_24) rfl (l' := #[.val (.int p0), .val (.int (p0 &&& (3 : Int32))), .val (.ref w_READ_UNCOMMITTED), .val (.int 1), .val (.int 0), .unset]) rfl k) ?_
      show G T11 (mkF m 26 #[.val (.int p0), .val (.int (p0 &&& (3 : Int32))), .val (.ref w_READ_UNCOMMITTED), .val (.int 1), .val (.int 0), .unset] [])
      refine step (fun t k => XS.aloadN X11.here hx rfl (hb hby at_26) rfl rfl k) ?_
      show G T11 (mkF m 27 #[.val (.int p0), .val (.int (p0 &&& (3 : Int32))), .val (.ref w_READ_UNCOMMITTED), .val (.int 1), .val (.int 0), .unset] [(.ref w_READ_UNCOMMITTED)])
      obtain ⟨cq13, kq13, q13a, q13b, q13c⟩ := isOf hZ e11 (Exa.ext O0.2 ST.k1)
      obtain ⟨_, _, ⟨T13, L13, k13, n13⟩, -, X13, ⟨Lc13, hQ13, l13, y13, z13⟩, st13⟩ := X11.virtualBack hx (y := y_2) (z := y_2) hown (mvT hZ (ww16 hw)) (mvT hZ (ww17 hw)) (notFace_of_selects (args := #[]) (mvT hZ (ww19 hw))) (mvT hZ (ww19 hw)) (mvT hZ (ww18 hw)) (by decide) (backOf (W := 0) (rm_keeps l Z a0 hw [] w_READ_UNCOMMITTED w_REPEATABLE_READ w_SERIALIZABLE w_READ_COMMITTED w_READ_UNCOMMITTED h0 n0 (own_old_le O0) ST O0) hZ (ww20 hw) (ww5 hw) (by decide) (by decide)) q13a q13c (g := (mkF m 27 #[.val (.int p0), .val (.int (p0 &&& (3 : Int32))), .val (.ref w_READ_UNCOMMITTED), .val (.int 1), .val (.int 0), .unset] [(.ref w_READ_UNCOMMITTED)])) rfl (by rw [hml]; rfl) (Steps.refl _) (argsL := []) (rest := []) (lenOf pd_1 rfl) rfl (by show 2 * 0 + _ ≤ _; exact Nat.le_of_eq rfl) (hb hby at_27) (fun _ _ => ⟨rfl, e11, (by decide : 0 + 0 ≤ _), (by decide : 0 + 0 ≤ _)⟩)
      dsimp only [Pt.U, Pt.locs, Pt.cells, Pt.slots] at X13 l13 y13 z13 st13 hQ13
      subst l13 y13 z13
      obtain ⟨rfl, N13q, e13⟩ := hQ13
      have N13 := Fr.app N11 N13q
      refine step (fun t k => st13.trans k) ?_
      show G T13 (mkF m 30 #[.val (.int p0), .val (.int (p0 &&& (3 : Int32))), .val (.ref w_READ_UNCOMMITTED), .val (.int 1), .val (.int 0), .unset] [(.int (f_keeps w_READ_UNCOMMITTED w_REPEATABLE_READ w_SERIALIZABLE w_READ_COMMITTED w_READ_UNCOMMITTED))])
      have r14 : (f_keeps w_READ_UNCOMMITTED w_REPEATABLE_READ w_SERIALIZABLE w_READ_COMMITTED w_READ_UNCOMMITTED) = (0 : Int32) := by
        unfold f_keeps
        rw [if_neg ((Fld.ne ST.k8 ST.k9 (fun q => absurd (Value.int.inj q) (by decide))) : ¬ (w_READ_UNCOMMITTED = w_REPEATABLE_READ))]
      rw [r14]
      show G T13 (mkF m 30 #[.val (.int p0), .val (.int (p0 &&& (3 : Int32))), .val (.ref w_READ_UNCOMMITTED), .val (.int 1), .val (.int 0), .unset] [(.int 0)])
      refine step (fun t k => XS.ifNo X13.here hx rfl (hb hby at_30) rfl ((if0 _ _).trans (teq (by decide : (0 : Int32) = (0 : Int32))).2) k) ?_
      show G T13 (mkF m 33 #[.val (.int p0), .val (.int (p0 &&& (3 : Int32))), .val (.ref w_READ_UNCOMMITTED), .val (.int 1), .val (.int 0), .unset] [])
      refine step (fun t k => XS.aloadN X13.here hx rfl (hb hby at_33) rfl rfl k) ?_
      show G T13 (mkF m 34 #[.val (.int p0), .val (.int (p0 &&& (3 : Int32))), .val (.ref w_READ_UNCOMMITTED), .val (.int 1), .val (.int 0), .unset] [(.ref w_READ_UNCOMMITTED)])
      obtain ⟨cq15, kq15, q15a, q15b, q15c⟩ := isOf hZ e13 (Exa.ext O0.2 ST.k1)
      obtain ⟨_, _, ⟨T15, L15, k15, n15⟩, -, X15, ⟨Lc15, hQ15, l15, y15, z15⟩, st15⟩ := X13.virtualBack hx (y := y_3) (z := y_3) hown (mvT hZ (ww21 hw)) (mvT hZ (ww22 hw)) (notFace_of_selects (args := #[]) (mvT hZ (ww24 hw))) (mvT hZ (ww24 hw)) (mvT hZ (ww23 hw)) (by decide) (backOf (W := 0) (rm_shares l Z a0 hw [] w_READ_UNCOMMITTED w_REPEATABLE_READ w_SERIALIZABLE w_READ_COMMITTED w_READ_UNCOMMITTED h0 n0 (own_old_le O0) ST O0) hZ (ww25 hw) (ww5 hw) (by decide) (by decide)) q15a q15c (g := (mkF m 34 #[.val (.int p0), .val (.int (p0 &&& (3 : Int32))), .val (.ref w_READ_UNCOMMITTED), .val (.int 1), .val (.int 0), .unset] [(.ref w_READ_UNCOMMITTED)])) rfl (by rw [hml]; rfl) (Steps.refl _) (argsL := []) (rest := []) (lenOf pd_1 rfl) rfl (by show 2 * 0 + _ ≤ _; exact Nat.le_of_eq rfl) (hb hby at_34) (fun _ _ => ⟨rfl, e13, (by decide : 0 + 0 ≤ _), (by decide : 0 + 0 ≤ _)⟩)
      dsimp only [Pt.U, Pt.locs, Pt.cells, Pt.slots] at X15 l15 y15 z15 st15 hQ15
      subst l15 y15 z15
      obtain ⟨rfl, N15q, e15⟩ := hQ15
      have N15 := Fr.app N13 N15q
      refine step (fun t k => st15.trans k) ?_
      show G T15 (mkF m 37 #[.val (.int p0), .val (.int (p0 &&& (3 : Int32))), .val (.ref w_READ_UNCOMMITTED), .val (.int 1), .val (.int 0), .unset] [(.int (f_shares w_READ_UNCOMMITTED w_REPEATABLE_READ w_SERIALIZABLE w_READ_COMMITTED w_READ_UNCOMMITTED))])
      have r16 : (f_shares w_READ_UNCOMMITTED w_REPEATABLE_READ w_SERIALIZABLE w_READ_COMMITTED w_READ_UNCOMMITTED) = (0 : Int32) := by
        unfold f_shares
        rw [if_neg ((Fld.ne ST.k8 ST.k10 (fun q => absurd (Value.int.inj q) (by decide))) : ¬ (w_READ_UNCOMMITTED = w_SERIALIZABLE))]
      rw [r16]
      show G T15 (mkF m 37 #[.val (.int p0), .val (.int (p0 &&& (3 : Int32))), .val (.ref w_READ_UNCOMMITTED), .val (.int 1), .val (.int 0), .unset] [(.int 0)])
      refine step (fun t k => XS.ifYes X15.here hx rfl (pc0 := 37) (pc' := 44) rfl (hb hby at_37) rfl ((if0 _ _).trans (teq (by decide : (0 : Int32) = (0 : Int32))).1) (by decide) (by decide) k) ?_
      show G T15 (mkF m 44 #[.val (.int p0), .val (.int (p0 &&& (3 : Int32))), .val (.ref w_READ_UNCOMMITTED), .val (.int 1), .val (.int 0), .unset] [])
      refine step (fun t k => XS.iconst X15.here hx rfl (hb hby at_44) k) ?_
      show G T15 (mkF m 45 #[.val (.int p0), .val (.int (p0 &&& (3 : Int32))), .val (.ref w_READ_UNCOMMITTED), .val (.int 1), .val (.int 0), .unset] [(.int 0)])
      refine step (fun t k => XS.istore X15.here hx rfl (hb hby at_45) rfl (l' := #[.val (.int p0), .val (.int (p0 &&& (3 : Int32))), .val (.ref w_READ_UNCOMMITTED), .val (.int 1), .val (.int 0), .val (.int 0)]) rfl k) ?_
      show G T15 (mkF m 47 #[.val (.int p0), .val (.int (p0 &&& (3 : Int32))), .val (.ref w_READ_UNCOMMITTED), .val (.int 1), .val (.int 0), .val (.int 0)] [])
      refine step (fun t k => XS.iload X15.here hx rfl (hb hby at_47) rfl k) ?_
      show G T15 (mkF m 49 #[.val (.int p0), .val (.int (p0 &&& (3 : Int32))), .val (.ref w_READ_UNCOMMITTED), .val (.int 1), .val (.int 0), .val (.int 0)] [(.int 0)])
      refine step (fun t k => XS.iloadN X15.here hx rfl (hb hby at_49) rfl k) ?_
      show G T15 (mkF m 50 #[.val (.int p0), .val (.int (p0 &&& (3 : Int32))), .val (.ref w_READ_UNCOMMITTED), .val (.int 1), .val (.int 0), .val (.int 0)] [(.int 1), (.int 0)])
      refine step (fun t k => XS.icmpYes X15.here hx rfl (pc0 := 50) (pc' := 64) rfl (hb hby at_50) rfl (feq (by decide : ¬ ((0 : Int32) = (1 : Int32)))).2 (by decide) (by decide) k) ?_
      show G T15 (mkF m 64 #[.val (.int p0), .val (.int (p0 &&& (3 : Int32))), .val (.ref w_READ_UNCOMMITTED), .val (.int 1), .val (.int 0), .val (.int 0)] [])
      refine step (fun t k => XS.iconst X15.here hx rfl (hb hby at_64) k) ?_
      show G T15 (mkF m 65 #[.val (.int p0), .val (.int (p0 &&& (3 : Int32))), .val (.ref w_READ_UNCOMMITTED), .val (.int 1), .val (.int 0), .val (.int 0)] [(.int 0)])
      exfalso
      have q0_32 : (0 : Int32).toInt = 0 := by decide
      have q2_32 : (2 : Int32).toInt = 2 := by decide
      have q3_32 : (3 : Int32).toInt = 3 := by decide
      have qm := c_mask p0 (3 : Int32) 2 (by decide) (by decide)
      rw [own_xeq] at hc2
      rw [own_xlt] at hc4
      omega
  · skip
    by_cases hc17 : (p0 &&& (3 : Int32)) = (1 : Int32)
    · skip
      have r18 : (f_pick w_READ_UNCOMMITTED w_REPEATABLE_READ w_SERIALIZABLE w_READ_COMMITTED (p0 &&& (3 : Int32))) = w_READ_COMMITTED := by
        unfold f_pick
        rw [if_neg hc2, if_pos hc17]
      rw [r18]
      show G T1 (mkF m 8 #[.val (.int p0), .val (.int (p0 &&& (3 : Int32))), .unset, .unset, .unset, .unset] [(.ref w_READ_COMMITTED)])
      refine step (fun t k => XS.astoreN X1.here hx rfl (hb hby at_8) rfl rfl (l' := #[.val (.int p0), .val (.int (p0 &&& (3 : Int32))), .val (.ref w_READ_COMMITTED), .unset, .unset, .unset]) rfl k) ?_
      show G T1 (mkF m 9 #[.val (.int p0), .val (.int (p0 &&& (3 : Int32))), .val (.ref w_READ_COMMITTED), .unset, .unset, .unset] [])
      refine step (fun t k => XS.iloadN X1.here hx rfl (hb hby at_9) rfl k) ?_
      show G T1 (mkF m 10 #[.val (.int p0), .val (.int (p0 &&& (3 : Int32))), .val (.ref w_READ_COMMITTED), .unset, .unset, .unset] [(.int (p0 &&& (3 : Int32)))])
      refine step (fun t k => XS.iconst X1.here hx rfl (hb hby at_10) k) ?_
      show G T1 (mkF m 11 #[.val (.int p0), .val (.int (p0 &&& (3 : Int32))), .val (.ref w_READ_COMMITTED), .unset, .unset, .unset] [(.int 2), (.int (p0 &&& (3 : Int32)))])
      by_cases hc19 : (p0 &&& (3 : Int32)) < (2 : Int32)
      · skip
        refine step (fun t k => XS.icmpYes X1.here hx rfl (pc0 := 11) (pc' := 18) rfl (hb hby at_11) rfl (tlt hc19).1 (by decide) (by decide) k) ?_
        show G T1 (mkF m 18 #[.val (.int p0), .val (.int (p0 &&& (3 : Int32))), .val (.ref w_READ_COMMITTED), .unset, .unset, .unset] [])
        refine step (fun t k => XS.iconst X1.here hx rfl (hb hby at_18) k) ?_
        show G T1 (mkF m 19 #[.val (.int p0), .val (.int (p0 &&& (3 : Int32))), .val (.ref w_READ_COMMITTED), .unset, .unset, .unset] [(.int 0)])
        refine step (fun t k => XS.istoreN X1.here hx rfl (hb hby at_19) rfl (l' := #[.val (.int p0), .val (.int (p0 &&& (3 : Int32))), .val (.ref w_READ_COMMITTED), .val (.int 0), .unset, .unset]) rfl k) ?_
        show G T1 (mkF m 20 #[.val (.int p0), .val (.int (p0 &&& (3 : Int32))), .val (.ref w_READ_COMMITTED), .val (.int 0), .unset, .unset] [])
        refine step (fun t k => XS.aloadN X1.here hx rfl (hb hby at_20) rfl rfl k) ?_
        show G T1 (mkF m 21 #[.val (.int p0), .val (.int (p0 &&& (3 : Int32))), .val (.ref w_READ_COMMITTED), .val (.int 0), .unset, .unset] [(.ref w_READ_COMMITTED)])
        obtain ⟨cq20, kq20, q20a, q20b, q20c⟩ := isOf hZ e1 (Exa.ext O0.2 ST.k7)
        obtain ⟨_, _, ⟨T20, L20, k20, n20⟩, -, X20, ⟨Lc20, hQ20, l20, y20, z20⟩, st20⟩ := X1.virtualBack hx (y := y_1) (z := y_1) hown (mvT hZ (ww7 hw)) (mvT hZ (ww8 hw)) (notFace_of_selects (args := #[]) (mvT hZ (ww10 hw))) (mvT hZ (ww10 hw)) (mvT hZ (ww9 hw)) (by decide) (backOf (W := 0) (rm_locks l Z a0 hw [] w_READ_UNCOMMITTED w_REPEATABLE_READ w_SERIALIZABLE w_READ_COMMITTED w_READ_COMMITTED h0 n0 (own_old_le O0) ST O0) hZ (ww11 hw) (ww5 hw) (by decide) (by decide)) q20a q20c (g := (mkF m 21 #[.val (.int p0), .val (.int (p0 &&& (3 : Int32))), .val (.ref w_READ_COMMITTED), .val (.int 0), .unset, .unset] [(.ref w_READ_COMMITTED)])) rfl (by rw [hml]; rfl) (Steps.refl _) (argsL := []) (rest := []) (lenOf pd_1 rfl) rfl (by show 2 * 0 + _ ≤ _; exact Nat.le_of_eq rfl) (hb hby at_21) (fun _ _ => ⟨rfl, e1, (by decide : 0 + 0 ≤ _), (by decide : 0 + 0 ≤ _)⟩)
        dsimp only [Pt.U, Pt.locs, Pt.cells, Pt.slots] at X20 l20 y20 z20 st20 hQ20
        subst l20 y20 z20
        obtain ⟨rfl, N20q, e20⟩ := hQ20
        have N20 := Fr.app N1 N20q
        refine step (fun t k => st20.trans k) ?_
        show G T20 (mkF m 24 #[.val (.int p0), .val (.int (p0 &&& (3 : Int32))), .val (.ref w_READ_COMMITTED), .val (.int 0), .unset, .unset] [(.int (f_locks w_READ_UNCOMMITTED w_REPEATABLE_READ w_SERIALIZABLE w_READ_COMMITTED w_READ_COMMITTED))])
        have r21 : (f_locks w_READ_UNCOMMITTED w_REPEATABLE_READ w_SERIALIZABLE w_READ_COMMITTED w_READ_COMMITTED) = (0 : Int32) := by
          unfold f_locks
          rw [if_neg ((Fld.ne ST.k11 ST.k9 (fun q => absurd (Value.int.inj q) (by decide))) : ¬ (w_READ_COMMITTED = w_REPEATABLE_READ)), if_neg ((Fld.ne ST.k11 ST.k10 (fun q => absurd (Value.int.inj q) (by decide))) : ¬ (w_READ_COMMITTED = w_SERIALIZABLE))]
        rw [r21]
        show G T20 (mkF m 24 #[.val (.int p0), .val (.int (p0 &&& (3 : Int32))), .val (.ref w_READ_COMMITTED), .val (.int 0), .unset, .unset] [(.int 0)])
        refine step (fun t k => XS.istore X20.here hx rfl (hb hby at_24) rfl (l' := #[.val (.int p0), .val (.int (p0 &&& (3 : Int32))), .val (.ref w_READ_COMMITTED), .val (.int 0), .val (.int 0), .unset]) rfl k) ?_
        show G T20 (mkF m 26 #[.val (.int p0), .val (.int (p0 &&& (3 : Int32))), .val (.ref w_READ_COMMITTED), .val (.int 0), .val (.int 0), .unset] [])
        refine step (fun t k => XS.aloadN X20.here hx rfl (hb hby at_26) rfl rfl k) ?_
        show G T20 (mkF m 27 #[.val (.int p0), .val (.int (p0 &&& (3 : Int32))), .val (.ref w_READ_COMMITTED), .val (.int 0), .val (.int 0), .unset] [(.ref w_READ_COMMITTED)])
        obtain ⟨cq22, kq22, q22a, q22b, q22c⟩ := isOf hZ e20 (Exa.ext O0.2 ST.k7)
        obtain ⟨_, _, ⟨T22, L22, k22, n22⟩, -, X22, ⟨Lc22, hQ22, l22, y22, z22⟩, st22⟩ := X20.virtualBack hx (y := y_2) (z := y_2) hown (mvT hZ (ww16 hw)) (mvT hZ (ww17 hw)) (notFace_of_selects (args := #[]) (mvT hZ (ww19 hw))) (mvT hZ (ww19 hw)) (mvT hZ (ww18 hw)) (by decide) (backOf (W := 0) (rm_keeps l Z a0 hw [] w_READ_UNCOMMITTED w_REPEATABLE_READ w_SERIALIZABLE w_READ_COMMITTED w_READ_COMMITTED h0 n0 (own_old_le O0) ST O0) hZ (ww20 hw) (ww5 hw) (by decide) (by decide)) q22a q22c (g := (mkF m 27 #[.val (.int p0), .val (.int (p0 &&& (3 : Int32))), .val (.ref w_READ_COMMITTED), .val (.int 0), .val (.int 0), .unset] [(.ref w_READ_COMMITTED)])) rfl (by rw [hml]; rfl) (Steps.refl _) (argsL := []) (rest := []) (lenOf pd_1 rfl) rfl (by show 2 * 0 + _ ≤ _; exact Nat.le_of_eq rfl) (hb hby at_27) (fun _ _ => ⟨rfl, e20, (by decide : 0 + 0 ≤ _), (by decide : 0 + 0 ≤ _)⟩)
        dsimp only [Pt.U, Pt.locs, Pt.cells, Pt.slots] at X22 l22 y22 z22 st22 hQ22
        subst l22 y22 z22
        obtain ⟨rfl, N22q, e22⟩ := hQ22
        have N22 := Fr.app N20 N22q
        refine step (fun t k => st22.trans k) ?_
        show G T22 (mkF m 30 #[.val (.int p0), .val (.int (p0 &&& (3 : Int32))), .val (.ref w_READ_COMMITTED), .val (.int 0), .val (.int 0), .unset] [(.int (f_keeps w_READ_UNCOMMITTED w_REPEATABLE_READ w_SERIALIZABLE w_READ_COMMITTED w_READ_COMMITTED))])
        have r23 : (f_keeps w_READ_UNCOMMITTED w_REPEATABLE_READ w_SERIALIZABLE w_READ_COMMITTED w_READ_COMMITTED) = (0 : Int32) := by
          unfold f_keeps
          rw [if_neg ((Fld.ne ST.k11 ST.k9 (fun q => absurd (Value.int.inj q) (by decide))) : ¬ (w_READ_COMMITTED = w_REPEATABLE_READ))]
        rw [r23]
        show G T22 (mkF m 30 #[.val (.int p0), .val (.int (p0 &&& (3 : Int32))), .val (.ref w_READ_COMMITTED), .val (.int 0), .val (.int 0), .unset] [(.int 0)])
        refine step (fun t k => XS.ifNo X22.here hx rfl (hb hby at_30) rfl ((if0 _ _).trans (teq (by decide : (0 : Int32) = (0 : Int32))).2) k) ?_
        show G T22 (mkF m 33 #[.val (.int p0), .val (.int (p0 &&& (3 : Int32))), .val (.ref w_READ_COMMITTED), .val (.int 0), .val (.int 0), .unset] [])
        refine step (fun t k => XS.aloadN X22.here hx rfl (hb hby at_33) rfl rfl k) ?_
        show G T22 (mkF m 34 #[.val (.int p0), .val (.int (p0 &&& (3 : Int32))), .val (.ref w_READ_COMMITTED), .val (.int 0), .val (.int 0), .unset] [(.ref w_READ_COMMITTED)])
        obtain ⟨cq24, kq24, q24a, q24b, q24c⟩ := isOf hZ e22 (Exa.ext O0.2 ST.k7)
        obtain ⟨_, _, ⟨T24, L24, k24, n24⟩, -, X24, ⟨Lc24, hQ24, l24, y24, z24⟩, st24⟩ := X22.virtualBack hx (y := y_3) (z := y_3) hown (mvT hZ (ww21 hw)) (mvT hZ (ww22 hw)) (notFace_of_selects (args := #[]) (mvT hZ (ww24 hw))) (mvT hZ (ww24 hw)) (mvT hZ (ww23 hw)) (by decide) (backOf (W := 0) (rm_shares l Z a0 hw [] w_READ_UNCOMMITTED w_REPEATABLE_READ w_SERIALIZABLE w_READ_COMMITTED w_READ_COMMITTED h0 n0 (own_old_le O0) ST O0) hZ (ww25 hw) (ww5 hw) (by decide) (by decide)) q24a q24c (g := (mkF m 34 #[.val (.int p0), .val (.int (p0 &&& (3 : Int32))), .val (.ref w_READ_COMMITTED), .val (.int 0), .val (.int 0), .unset] [(.ref w_READ_COMMITTED)])) rfl (by rw [hml]; rfl) (Steps.refl _) (argsL := []) (rest := []) (lenOf pd_1 rfl) rfl (by show 2 * 0 + _ ≤ _; exact Nat.le_of_eq rfl) (hb hby at_34) (fun _ _ => ⟨rfl, e22, (by decide : 0 + 0 ≤ _), (by decide : 0 + 0 ≤ _)⟩)
        dsimp only [Pt.U, Pt.locs, Pt.cells, Pt.slots] at X24 l24 y24 z24 st24 hQ24
        subst l24 y24 z24
        obtain ⟨rfl, N24q, e24⟩ := hQ24
        have N24 := Fr.app N22 N24q
        refine step (fun t k => st24.trans k) ?_
        show G T24 (mkF m 37 #[.val (.int p0), .val (.int (p0 &&& (3 : Int32))), .val (.ref w_READ_COMMITTED), .val (.int 0), .val (.int 0), .unset] [(.int (f_shares w_READ_UNCOMMITTED w_REPEATABLE_READ w_SERIALIZABLE w_READ_COMMITTED w_READ_COMMITTED))])
        have r25 : (f_shares w_READ_UNCOMMITTED w_REPEATABLE_READ w_SERIALIZABLE w_READ_COMMITTED w_READ_COMMITTED) = (0 : Int32) := by
          unfold f_shares
          rw [if_neg ((Fld.ne ST.k11 ST.k10 (fun q => absurd (Value.int.inj q) (by decide))) : ¬ (w_READ_COMMITTED = w_SERIALIZABLE))]
        rw [r25]
        show G T24 (mkF m 37 #[.val (.int p0), .val (.int (p0 &&& (3 : Int32))), .val (.ref w_READ_COMMITTED), .val (.int 0), .val (.int 0), .unset] [(.int 0)])
        refine step (fun t k => XS.ifYes X24.here hx rfl (pc0 := 37) (pc' := 44) rfl (hb hby at_37) rfl ((if0 _ _).trans (teq (by decide : (0 : Int32) = (0 : Int32))).1) (by decide) (by decide) k) ?_
        show G T24 (mkF m 44 #[.val (.int p0), .val (.int (p0 &&& (3 : Int32))), .val (.ref w_READ_COMMITTED), .val (.int 0), .val (.int 0), .unset] [])
        refine step (fun t k => XS.iconst X24.here hx rfl (hb hby at_44) k) ?_
        show G T24 (mkF m 45 #[.val (.int p0), .val (.int (p0 &&& (3 : Int32))), .val (.ref w_READ_COMMITTED), .val (.int 0), .val (.int 0), .unset] [(.int 0)])
        refine step (fun t k => XS.istore X24.here hx rfl (hb hby at_45) rfl (l' := #[.val (.int p0), .val (.int (p0 &&& (3 : Int32))), .val (.ref w_READ_COMMITTED), .val (.int 0), .val (.int 0), .val (.int 0)]) rfl k) ?_
        show G T24 (mkF m 47 #[.val (.int p0), .val (.int (p0 &&& (3 : Int32))), .val (.ref w_READ_COMMITTED), .val (.int 0), .val (.int 0), .val (.int 0)] [])
        refine step (fun t k => XS.iload X24.here hx rfl (hb hby at_47) rfl k) ?_
        show G T24 (mkF m 49 #[.val (.int p0), .val (.int (p0 &&& (3 : Int32))), .val (.ref w_READ_COMMITTED), .val (.int 0), .val (.int 0), .val (.int 0)] [(.int 0)])
        refine step (fun t k => XS.iloadN X24.here hx rfl (hb hby at_49) rfl k) ?_
        show G T24 (mkF m 50 #[.val (.int p0), .val (.int (p0 &&& (3 : Int32))), .val (.ref w_READ_COMMITTED), .val (.int 0), .val (.int 0), .val (.int 0)] [(.int 0), (.int 0)])
        refine step (fun t k => XS.icmpNo X24.here hx rfl (hb hby at_50) rfl (teq (by decide : (0 : Int32) = (0 : Int32))).2 k) ?_
        show G T24 (mkF m 53 #[.val (.int p0), .val (.int (p0 &&& (3 : Int32))), .val (.ref w_READ_COMMITTED), .val (.int 0), .val (.int 0), .val (.int 0)] [])
        refine step (fun t k => XS.iload X24.here hx rfl (hb hby at_53) rfl k) ?_
        show G T24 (mkF m 55 #[.val (.int p0), .val (.int (p0 &&& (3 : Int32))), .val (.ref w_READ_COMMITTED), .val (.int 0), .val (.int 0), .val (.int 0)] [(.int 0)])
        refine step (fun t k => XS.iload X24.here hx rfl (hb hby at_55) rfl k) ?_
        show G T24 (mkF m 57 #[.val (.int p0), .val (.int (p0 &&& (3 : Int32))), .val (.ref w_READ_COMMITTED), .val (.int 0), .val (.int 0), .val (.int 0)] [(.int 0), (.int 0)])
        refine step (fun t k => XS.icmpNo X24.here hx rfl (hb hby at_57) rfl (teq (by decide : (0 : Int32) = (0 : Int32))).2 k) ?_
        show G T24 (mkF m 60 #[.val (.int p0), .val (.int (p0 &&& (3 : Int32))), .val (.ref w_READ_COMMITTED), .val (.int 0), .val (.int 0), .val (.int 0)] [])
        refine step (fun t k => XS.iconst X24.here hx rfl (hb hby at_60) k) ?_
        show G T24 (mkF m 61 #[.val (.int p0), .val (.int (p0 &&& (3 : Int32))), .val (.ref w_READ_COMMITTED), .val (.int 0), .val (.int 0), .val (.int 0)] [(.int 1)])
        refine step (fun t k => XS.goto X24.here hx rfl (pc0 := 61) (pc' := 65) rfl (hb hby at_61) (by decide) (by decide) k) ?_
        show G T24 (mkF m 65 #[.val (.int p0), .val (.int (p0 &&& (3 : Int32))), .val (.ref w_READ_COMMITTED), .val (.int 0), .val (.int 0), .val (.int 0)] [(.int 1)])
        exact ret (v := some (.int 1)) X24 (fun h => by rw [Bd.returns] at h; cases h) (fun fs hr => retN X24 hx (t := .boolean) Bd.returns (by simp) (hb hby at_65) hr) e24 ⟨rfl, N24⟩ (by decide) (by decide)
      · skip
        refine step (fun t k => XS.icmpNo X1.here hx rfl (hb hby at_11) rfl (flt hc19).1 k) ?_
        show G T1 (mkF m 14 #[.val (.int p0), .val (.int (p0 &&& (3 : Int32))), .val (.ref w_READ_COMMITTED), .unset, .unset, .unset] [])
        refine step (fun t k => XS.iconst X1.here hx rfl (hb hby at_14) k) ?_
        show G T1 (mkF m 15 #[.val (.int p0), .val (.int (p0 &&& (3 : Int32))), .val (.ref w_READ_COMMITTED), .unset, .unset, .unset] [(.int 1)])
        refine step (fun t k => XS.goto X1.here hx rfl (pc0 := 15) (pc' := 19) rfl (hb hby at_15) (by decide) (by decide) k) ?_
        show G T1 (mkF m 19 #[.val (.int p0), .val (.int (p0 &&& (3 : Int32))), .val (.ref w_READ_COMMITTED), .unset, .unset, .unset] [(.int 1)])
        refine step (fun t k => XS.istoreN X1.here hx rfl (hb hby at_19) rfl (l' := #[.val (.int p0), .val (.int (p0 &&& (3 : Int32))), .val (.ref w_READ_COMMITTED), .val (.int 1), .unset, .unset]) rfl k) ?_
        show G T1 (mkF m 20 #[.val (.int p0), .val (.int (p0 &&& (3 : Int32))), .val (.ref w_READ_COMMITTED), .val (.int 1), .unset, .unset] [])
        refine step (fun t k => XS.aloadN X1.here hx rfl (hb hby at_20) rfl rfl k) ?_
        show G T1 (mkF m 21 #[.val (.int p0), .val (.int (p0 &&& (3 : Int32))), .val (.ref w_READ_COMMITTED), .val (.int 1), .unset, .unset] [(.ref w_READ_COMMITTED)])
        obtain ⟨cq26, kq26, q26a, q26b, q26c⟩ := isOf hZ e1 (Exa.ext O0.2 ST.k7)
        obtain ⟨_, _, ⟨T26, L26, k26, n26⟩, -, X26, ⟨Lc26, hQ26, l26, y26, z26⟩, st26⟩ := X1.virtualBack hx (y := y_1) (z := y_1) hown (mvT hZ (ww7 hw)) (mvT hZ (ww8 hw)) (notFace_of_selects (args := #[]) (mvT hZ (ww10 hw))) (mvT hZ (ww10 hw)) (mvT hZ (ww9 hw)) (by decide) (backOf (W := 0) (rm_locks l Z a0 hw [] w_READ_UNCOMMITTED w_REPEATABLE_READ w_SERIALIZABLE w_READ_COMMITTED w_READ_COMMITTED h0 n0 (own_old_le O0) ST O0) hZ (ww11 hw) (ww5 hw) (by decide) (by decide)) q26a q26c (g := (mkF m 21 #[.val (.int p0), .val (.int (p0 &&& (3 : Int32))), .val (.ref w_READ_COMMITTED), .val (.int 1), .unset, .unset] [(.ref w_READ_COMMITTED)])) rfl (by rw [hml]; rfl) (Steps.refl _) (argsL := []) (rest := []) (lenOf pd_1 rfl) rfl (by show 2 * 0 + _ ≤ _; exact Nat.le_of_eq rfl) (hb hby at_21) (fun _ _ => ⟨rfl, e1, (by decide : 0 + 0 ≤ _), (by decide : 0 + 0 ≤ _)⟩)
        dsimp only [Pt.U, Pt.locs, Pt.cells, Pt.slots] at X26 l26 y26 z26 st26 hQ26
        subst l26 y26 z26
        obtain ⟨rfl, N26q, e26⟩ := hQ26
        have N26 := Fr.app N1 N26q
        refine step (fun t k => st26.trans k) ?_
        show G T26 (mkF m 24 #[.val (.int p0), .val (.int (p0 &&& (3 : Int32))), .val (.ref w_READ_COMMITTED), .val (.int 1), .unset, .unset] [(.int (f_locks w_READ_UNCOMMITTED w_REPEATABLE_READ w_SERIALIZABLE w_READ_COMMITTED w_READ_COMMITTED))])
        have r27 : (f_locks w_READ_UNCOMMITTED w_REPEATABLE_READ w_SERIALIZABLE w_READ_COMMITTED w_READ_COMMITTED) = (0 : Int32) := by
          unfold f_locks
          rw [if_neg ((Fld.ne ST.k11 ST.k9 (fun q => absurd (Value.int.inj q) (by decide))) : ¬ (w_READ_COMMITTED = w_REPEATABLE_READ)), if_neg ((Fld.ne ST.k11 ST.k10 (fun q => absurd (Value.int.inj q) (by decide))) : ¬ (w_READ_COMMITTED = w_SERIALIZABLE))]
        rw [r27]
        show G T26 (mkF m 24 #[.val (.int p0), .val (.int (p0 &&& (3 : Int32))), .val (.ref w_READ_COMMITTED), .val (.int 1), .unset, .unset] [(.int 0)])
        refine step (fun t k => XS.istore X26.here hx rfl (hb hby at_24) rfl (l' := #[.val (.int p0), .val (.int (p0 &&& (3 : Int32))), .val (.ref w_READ_COMMITTED), .val (.int 1), .val (.int 0), .unset]) rfl k) ?_
        show G T26 (mkF m 26 #[.val (.int p0), .val (.int (p0 &&& (3 : Int32))), .val (.ref w_READ_COMMITTED), .val (.int 1), .val (.int 0), .unset] [])
        refine step (fun t k => XS.aloadN X26.here hx rfl (hb hby at_26) rfl rfl k) ?_
        show G T26 (mkF m 27 #[.val (.int p0), .val (.int (p0 &&& (3 : Int32))), .val (.ref w_READ_COMMITTED), .val (.int 1), .val (.int 0), .unset] [(.ref w_READ_COMMITTED)])
        obtain ⟨cq28, kq28, q28a, q28b, q28c⟩ := isOf hZ e26 (Exa.ext O0.2 ST.k7)
        obtain ⟨_, _, ⟨T28, L28, k28, n28⟩, -, X28, ⟨Lc28, hQ28, l28, y28, z28⟩, st28⟩ := X26.virtualBack hx (y := y_2) (z := y_2) hown (mvT hZ (ww16 hw)) (mvT hZ (ww17 hw)) (notFace_of_selects (args := #[]) (mvT hZ (ww19 hw))) (mvT hZ (ww19 hw)) (mvT hZ (ww18 hw)) (by decide) (backOf (W := 0) (rm_keeps l Z a0 hw [] w_READ_UNCOMMITTED w_REPEATABLE_READ w_SERIALIZABLE w_READ_COMMITTED w_READ_COMMITTED h0 n0 (own_old_le O0) ST O0) hZ (ww20 hw) (ww5 hw) (by decide) (by decide)) q28a q28c (g := (mkF m 27 #[.val (.int p0), .val (.int (p0 &&& (3 : Int32))), .val (.ref w_READ_COMMITTED), .val (.int 1), .val (.int 0), .unset] [(.ref w_READ_COMMITTED)])) rfl (by rw [hml]; rfl) (Steps.refl _) (argsL := []) (rest := []) (lenOf pd_1 rfl) rfl (by show 2 * 0 + _ ≤ _; exact Nat.le_of_eq rfl) (hb hby at_27) (fun _ _ => ⟨rfl, e26, (by decide : 0 + 0 ≤ _), (by decide : 0 + 0 ≤ _)⟩)
        dsimp only [Pt.U, Pt.locs, Pt.cells, Pt.slots] at X28 l28 y28 z28 st28 hQ28
        subst l28 y28 z28
        obtain ⟨rfl, N28q, e28⟩ := hQ28
        have N28 := Fr.app N26 N28q
        refine step (fun t k => st28.trans k) ?_
        show G T28 (mkF m 30 #[.val (.int p0), .val (.int (p0 &&& (3 : Int32))), .val (.ref w_READ_COMMITTED), .val (.int 1), .val (.int 0), .unset] [(.int (f_keeps w_READ_UNCOMMITTED w_REPEATABLE_READ w_SERIALIZABLE w_READ_COMMITTED w_READ_COMMITTED))])
        have r29 : (f_keeps w_READ_UNCOMMITTED w_REPEATABLE_READ w_SERIALIZABLE w_READ_COMMITTED w_READ_COMMITTED) = (0 : Int32) := by
          unfold f_keeps
          rw [if_neg ((Fld.ne ST.k11 ST.k9 (fun q => absurd (Value.int.inj q) (by decide))) : ¬ (w_READ_COMMITTED = w_REPEATABLE_READ))]
        rw [r29]
        show G T28 (mkF m 30 #[.val (.int p0), .val (.int (p0 &&& (3 : Int32))), .val (.ref w_READ_COMMITTED), .val (.int 1), .val (.int 0), .unset] [(.int 0)])
        refine step (fun t k => XS.ifNo X28.here hx rfl (hb hby at_30) rfl ((if0 _ _).trans (teq (by decide : (0 : Int32) = (0 : Int32))).2) k) ?_
        show G T28 (mkF m 33 #[.val (.int p0), .val (.int (p0 &&& (3 : Int32))), .val (.ref w_READ_COMMITTED), .val (.int 1), .val (.int 0), .unset] [])
        refine step (fun t k => XS.aloadN X28.here hx rfl (hb hby at_33) rfl rfl k) ?_
        show G T28 (mkF m 34 #[.val (.int p0), .val (.int (p0 &&& (3 : Int32))), .val (.ref w_READ_COMMITTED), .val (.int 1), .val (.int 0), .unset] [(.ref w_READ_COMMITTED)])
        obtain ⟨cq30, kq30, q30a, q30b, q30c⟩ := isOf hZ e28 (Exa.ext O0.2 ST.k7)
        obtain ⟨_, _, ⟨T30, L30, k30, n30⟩, -, X30, ⟨Lc30, hQ30, l30, y30, z30⟩, st30⟩ := X28.virtualBack hx (y := y_3) (z := y_3) hown (mvT hZ (ww21 hw)) (mvT hZ (ww22 hw)) (notFace_of_selects (args := #[]) (mvT hZ (ww24 hw))) (mvT hZ (ww24 hw)) (mvT hZ (ww23 hw)) (by decide) (backOf (W := 0) (rm_shares l Z a0 hw [] w_READ_UNCOMMITTED w_REPEATABLE_READ w_SERIALIZABLE w_READ_COMMITTED w_READ_COMMITTED h0 n0 (own_old_le O0) ST O0) hZ (ww25 hw) (ww5 hw) (by decide) (by decide)) q30a q30c (g := (mkF m 34 #[.val (.int p0), .val (.int (p0 &&& (3 : Int32))), .val (.ref w_READ_COMMITTED), .val (.int 1), .val (.int 0), .unset] [(.ref w_READ_COMMITTED)])) rfl (by rw [hml]; rfl) (Steps.refl _) (argsL := []) (rest := []) (lenOf pd_1 rfl) rfl (by show 2 * 0 + _ ≤ _; exact Nat.le_of_eq rfl) (hb hby at_34) (fun _ _ => ⟨rfl, e28, (by decide : 0 + 0 ≤ _), (by decide : 0 + 0 ≤ _)⟩)
        dsimp only [Pt.U, Pt.locs, Pt.cells, Pt.slots] at X30 l30 y30 z30 st30 hQ30
        subst l30 y30 z30
        obtain ⟨rfl, N30q, e30⟩ := hQ30
        have N30 := Fr.app N28 N30q
        refine step (fun t k => st30.trans k) ?_
        show G T30 (mkF m 37 #[.val (.int p0), .val (.int (p0 &&& (3 : Int32))), .val (.ref w_READ_COMMITTED), .val (.int 1), .val (.int 0), .unset] [(.int (f_shares w_READ_UNCOMMITTED w_REPEATABLE_READ w_SERIALIZABLE w_READ_COMMITTED w_READ_COMMITTED))])
        have r31 : (f_shares w_READ_UNCOMMITTED w_REPEATABLE_READ w_SERIALIZABLE w_READ_COMMITTED w_READ_COMMITTED) = (0 : Int32) := by
          unfold f_shares
          rw [if_neg ((Fld.ne ST.k11 ST.k10 (fun q => absurd (Value.int.inj q) (by decide))) : ¬ (w_READ_COMMITTED = w_SERIALIZABLE))]
        rw [r31]
        show G T30 (mkF m 37 #[.val (.int p0), .val (.int (p0 &&& (3 : Int32))), .val (.ref w_READ_COMMITTED), .val (.int 1), .val (.int 0), .unset] [(.int 0)])
        refine step (fun t k => XS.ifYes X30.here hx rfl (pc0 := 37) (pc' := 44) rfl (hb hby at_37) rfl ((if0 _ _).trans (teq (by decide : (0 : Int32) = (0 : Int32))).1) (by decide) (by decide) k) ?_
        show G T30 (mkF m 44 #[.val (.int p0), .val (.int (p0 &&& (3 : Int32))), .val (.ref w_READ_COMMITTED), .val (.int 1), .val (.int 0), .unset] [])
        refine step (fun t k => XS.iconst X30.here hx rfl (hb hby at_44) k) ?_
        show G T30 (mkF m 45 #[.val (.int p0), .val (.int (p0 &&& (3 : Int32))), .val (.ref w_READ_COMMITTED), .val (.int 1), .val (.int 0), .unset] [(.int 0)])
        refine step (fun t k => XS.istore X30.here hx rfl (hb hby at_45) rfl (l' := #[.val (.int p0), .val (.int (p0 &&& (3 : Int32))), .val (.ref w_READ_COMMITTED), .val (.int 1), .val (.int 0), .val (.int 0)]) rfl k) ?_
        show G T30 (mkF m 47 #[.val (.int p0), .val (.int (p0 &&& (3 : Int32))), .val (.ref w_READ_COMMITTED), .val (.int 1), .val (.int 0), .val (.int 0)] [])
        refine step (fun t k => XS.iload X30.here hx rfl (hb hby at_47) rfl k) ?_
        show G T30 (mkF m 49 #[.val (.int p0), .val (.int (p0 &&& (3 : Int32))), .val (.ref w_READ_COMMITTED), .val (.int 1), .val (.int 0), .val (.int 0)] [(.int 0)])
        refine step (fun t k => XS.iloadN X30.here hx rfl (hb hby at_49) rfl k) ?_
        show G T30 (mkF m 50 #[.val (.int p0), .val (.int (p0 &&& (3 : Int32))), .val (.ref w_READ_COMMITTED), .val (.int 1), .val (.int 0), .val (.int 0)] [(.int 1), (.int 0)])
        refine step (fun t k => XS.icmpYes X30.here hx rfl (pc0 := 50) (pc' := 64) rfl (hb hby at_50) rfl (feq (by decide : ¬ ((0 : Int32) = (1 : Int32)))).2 (by decide) (by decide) k) ?_
        show G T30 (mkF m 64 #[.val (.int p0), .val (.int (p0 &&& (3 : Int32))), .val (.ref w_READ_COMMITTED), .val (.int 1), .val (.int 0), .val (.int 0)] [])
        refine step (fun t k => XS.iconst X30.here hx rfl (hb hby at_64) k) ?_
        show G T30 (mkF m 65 #[.val (.int p0), .val (.int (p0 &&& (3 : Int32))), .val (.ref w_READ_COMMITTED), .val (.int 1), .val (.int 0), .val (.int 0)] [(.int 0)])
        exfalso
        have q0_32 : (0 : Int32).toInt = 0 := by decide
        have q1_32 : (1 : Int32).toInt = 1 := by decide
        have q2_32 : (2 : Int32).toInt = 2 := by decide
        have q3_32 : (3 : Int32).toInt = 3 := by decide
        have qm := c_mask p0 (3 : Int32) 2 (by decide) (by decide)
        rw [own_xeq] at hc2
        rw [own_xeq] at hc17
        rw [own_xlt] at hc19
        omega
    · skip
      by_cases hc32 : (p0 &&& (3 : Int32)) = (2 : Int32)
      · skip
        have r33 : (f_pick w_READ_UNCOMMITTED w_REPEATABLE_READ w_SERIALIZABLE w_READ_COMMITTED (p0 &&& (3 : Int32))) = w_REPEATABLE_READ := by
          unfold f_pick
          rw [if_neg hc2, if_neg hc17, if_pos hc32]
        rw [r33]
        show G T1 (mkF m 8 #[.val (.int p0), .val (.int (p0 &&& (3 : Int32))), .unset, .unset, .unset, .unset] [(.ref w_REPEATABLE_READ)])
        refine step (fun t k => XS.astoreN X1.here hx rfl (hb hby at_8) rfl rfl (l' := #[.val (.int p0), .val (.int (p0 &&& (3 : Int32))), .val (.ref w_REPEATABLE_READ), .unset, .unset, .unset]) rfl k) ?_
        show G T1 (mkF m 9 #[.val (.int p0), .val (.int (p0 &&& (3 : Int32))), .val (.ref w_REPEATABLE_READ), .unset, .unset, .unset] [])
        refine step (fun t k => XS.iloadN X1.here hx rfl (hb hby at_9) rfl k) ?_
        show G T1 (mkF m 10 #[.val (.int p0), .val (.int (p0 &&& (3 : Int32))), .val (.ref w_REPEATABLE_READ), .unset, .unset, .unset] [(.int (p0 &&& (3 : Int32)))])
        refine step (fun t k => XS.iconst X1.here hx rfl (hb hby at_10) k) ?_
        show G T1 (mkF m 11 #[.val (.int p0), .val (.int (p0 &&& (3 : Int32))), .val (.ref w_REPEATABLE_READ), .unset, .unset, .unset] [(.int 2), (.int (p0 &&& (3 : Int32)))])
        by_cases hc34 : (p0 &&& (3 : Int32)) < (2 : Int32)
        · skip
          refine step (fun t k => XS.icmpYes X1.here hx rfl (pc0 := 11) (pc' := 18) rfl (hb hby at_11) rfl (tlt hc34).1 (by decide) (by decide) k) ?_
          show G T1 (mkF m 18 #[.val (.int p0), .val (.int (p0 &&& (3 : Int32))), .val (.ref w_REPEATABLE_READ), .unset, .unset, .unset] [])
          refine step (fun t k => XS.iconst X1.here hx rfl (hb hby at_18) k) ?_
          show G T1 (mkF m 19 #[.val (.int p0), .val (.int (p0 &&& (3 : Int32))), .val (.ref w_REPEATABLE_READ), .unset, .unset, .unset] [(.int 0)])
          refine step (fun t k => XS.istoreN X1.here hx rfl (hb hby at_19) rfl (l' := #[.val (.int p0), .val (.int (p0 &&& (3 : Int32))), .val (.ref w_REPEATABLE_READ), .val (.int 0), .unset, .unset]) rfl k) ?_
          show G T1 (mkF m 20 #[.val (.int p0), .val (.int (p0 &&& (3 : Int32))), .val (.ref w_REPEATABLE_READ), .val (.int 0), .unset, .unset] [])
          refine step (fun t k => XS.aloadN X1.here hx rfl (hb hby at_20) rfl rfl k) ?_
          show G T1 (mkF m 21 #[.val (.int p0), .val (.int (p0 &&& (3 : Int32))), .val (.ref w_REPEATABLE_READ), .val (.int 0), .unset, .unset] [(.ref w_REPEATABLE_READ)])
          obtain ⟨cq35, kq35, q35a, q35b, q35c⟩ := isOf hZ e1 (Exa.ext O0.2 ST.k3)
          obtain ⟨_, _, ⟨T35, L35, k35, n35⟩, -, X35, ⟨Lc35, hQ35, l35, y35, z35⟩, st35⟩ := X1.virtualBack hx (y := y_1) (z := y_1) hown (mvT hZ (ww7 hw)) (mvT hZ (ww8 hw)) (notFace_of_selects (args := #[]) (mvT hZ (ww10 hw))) (mvT hZ (ww10 hw)) (mvT hZ (ww9 hw)) (by decide) (backOf (W := 0) (rm_locks l Z a0 hw [] w_READ_UNCOMMITTED w_REPEATABLE_READ w_SERIALIZABLE w_READ_COMMITTED w_REPEATABLE_READ h0 n0 (own_old_le O0) ST O0) hZ (ww11 hw) (ww5 hw) (by decide) (by decide)) q35a q35c (g := (mkF m 21 #[.val (.int p0), .val (.int (p0 &&& (3 : Int32))), .val (.ref w_REPEATABLE_READ), .val (.int 0), .unset, .unset] [(.ref w_REPEATABLE_READ)])) rfl (by rw [hml]; rfl) (Steps.refl _) (argsL := []) (rest := []) (lenOf pd_1 rfl) rfl (by show 2 * 0 + _ ≤ _; exact Nat.le_of_eq rfl) (hb hby at_21) (fun _ _ => ⟨rfl, e1, (by decide : 0 + 0 ≤ _), (by decide : 0 + 0 ≤ _)⟩)
          dsimp only [Pt.U, Pt.locs, Pt.cells, Pt.slots] at X35 l35 y35 z35 st35 hQ35
          subst l35 y35 z35
          obtain ⟨rfl, N35q, e35⟩ := hQ35
          have N35 := Fr.app N1 N35q
          refine step (fun t k => st35.trans k) ?_
          show G T35 (mkF m 24 #[.val (.int p0), .val (.int (p0 &&& (3 : Int32))), .val (.ref w_REPEATABLE_READ), .val (.int 0), .unset, .unset] [(.int (f_locks w_READ_UNCOMMITTED w_REPEATABLE_READ w_SERIALIZABLE w_READ_COMMITTED w_REPEATABLE_READ))])
          have r36 : (f_locks w_READ_UNCOMMITTED w_REPEATABLE_READ w_SERIALIZABLE w_READ_COMMITTED w_REPEATABLE_READ) = (1 : Int32) := by
            unfold f_locks
            rw [if_pos (rfl : w_REPEATABLE_READ = w_REPEATABLE_READ)]
          rw [r36]
          show G T35 (mkF m 24 #[.val (.int p0), .val (.int (p0 &&& (3 : Int32))), .val (.ref w_REPEATABLE_READ), .val (.int 0), .unset, .unset] [(.int 1)])
          refine step (fun t k => XS.istore X35.here hx rfl (hb hby at_24) rfl (l' := #[.val (.int p0), .val (.int (p0 &&& (3 : Int32))), .val (.ref w_REPEATABLE_READ), .val (.int 0), .val (.int 1), .unset]) rfl k) ?_
          show G T35 (mkF m 26 #[.val (.int p0), .val (.int (p0 &&& (3 : Int32))), .val (.ref w_REPEATABLE_READ), .val (.int 0), .val (.int 1), .unset] [])
          refine step (fun t k => XS.aloadN X35.here hx rfl (hb hby at_26) rfl rfl k) ?_
          show G T35 (mkF m 27 #[.val (.int p0), .val (.int (p0 &&& (3 : Int32))), .val (.ref w_REPEATABLE_READ), .val (.int 0), .val (.int 1), .unset] [(.ref w_REPEATABLE_READ)])
          obtain ⟨cq37, kq37, q37a, q37b, q37c⟩ := isOf hZ e35 (Exa.ext O0.2 ST.k3)
          obtain ⟨_, _, ⟨T37, L37, k37, n37⟩, -, X37, ⟨Lc37, hQ37, l37, y37, z37⟩, st37⟩ := X35.virtualBack hx (y := y_2) (z := y_2) hown (mvT hZ (ww16 hw)) (mvT hZ (ww17 hw)) (notFace_of_selects (args := #[]) (mvT hZ (ww19 hw))) (mvT hZ (ww19 hw)) (mvT hZ (ww18 hw)) (by decide) (backOf (W := 0) (rm_keeps l Z a0 hw [] w_READ_UNCOMMITTED w_REPEATABLE_READ w_SERIALIZABLE w_READ_COMMITTED w_REPEATABLE_READ h0 n0 (own_old_le O0) ST O0) hZ (ww20 hw) (ww5 hw) (by decide) (by decide)) q37a q37c (g := (mkF m 27 #[.val (.int p0), .val (.int (p0 &&& (3 : Int32))), .val (.ref w_REPEATABLE_READ), .val (.int 0), .val (.int 1), .unset] [(.ref w_REPEATABLE_READ)])) rfl (by rw [hml]; rfl) (Steps.refl _) (argsL := []) (rest := []) (lenOf pd_1 rfl) rfl (by show 2 * 0 + _ ≤ _; exact Nat.le_of_eq rfl) (hb hby at_27) (fun _ _ => ⟨rfl, e35, (by decide : 0 + 0 ≤ _), (by decide : 0 + 0 ≤ _)⟩)
          dsimp only [Pt.U, Pt.locs, Pt.cells, Pt.slots] at X37 l37 y37 z37 st37 hQ37
          subst l37 y37 z37
          obtain ⟨rfl, N37q, e37⟩ := hQ37
          have N37 := Fr.app N35 N37q
          refine step (fun t k => st37.trans k) ?_
          show G T37 (mkF m 30 #[.val (.int p0), .val (.int (p0 &&& (3 : Int32))), .val (.ref w_REPEATABLE_READ), .val (.int 0), .val (.int 1), .unset] [(.int (f_keeps w_READ_UNCOMMITTED w_REPEATABLE_READ w_SERIALIZABLE w_READ_COMMITTED w_REPEATABLE_READ))])
          have r38 : (f_keeps w_READ_UNCOMMITTED w_REPEATABLE_READ w_SERIALIZABLE w_READ_COMMITTED w_REPEATABLE_READ) = (1 : Int32) := by
            unfold f_keeps
            rw [if_pos (rfl : w_REPEATABLE_READ = w_REPEATABLE_READ)]
          rw [r38]
          show G T37 (mkF m 30 #[.val (.int p0), .val (.int (p0 &&& (3 : Int32))), .val (.ref w_REPEATABLE_READ), .val (.int 0), .val (.int 1), .unset] [(.int 1)])
          refine step (fun t k => XS.ifYes X37.here hx rfl (pc0 := 30) (pc' := 40) rfl (hb hby at_30) rfl ((if0 _ _).trans (feq (by decide : ¬ ((1 : Int32) = (0 : Int32)))).2) (by decide) (by decide) k) ?_
          show G T37 (mkF m 40 #[.val (.int p0), .val (.int (p0 &&& (3 : Int32))), .val (.ref w_REPEATABLE_READ), .val (.int 0), .val (.int 1), .unset] [])
          refine step (fun t k => XS.iconst X37.here hx rfl (hb hby at_40) k) ?_
          show G T37 (mkF m 41 #[.val (.int p0), .val (.int (p0 &&& (3 : Int32))), .val (.ref w_REPEATABLE_READ), .val (.int 0), .val (.int 1), .unset] [(.int 1)])
          refine step (fun t k => XS.goto X37.here hx rfl (pc0 := 41) (pc' := 45) rfl (hb hby at_41) (by decide) (by decide) k) ?_
          show G T37 (mkF m 45 #[.val (.int p0), .val (.int (p0 &&& (3 : Int32))), .val (.ref w_REPEATABLE_READ), .val (.int 0), .val (.int 1), .unset] [(.int 1)])
          refine step (fun t k => XS.istore X37.here hx rfl (hb hby at_45) rfl (l' := #[.val (.int p0), .val (.int (p0 &&& (3 : Int32))), .val (.ref w_REPEATABLE_READ), .val (.int 0), .val (.int 1), .val (.int 1)]) rfl k) ?_
          show G T37 (mkF m 47 #[.val (.int p0), .val (.int (p0 &&& (3 : Int32))), .val (.ref w_REPEATABLE_READ), .val (.int 0), .val (.int 1), .val (.int 1)] [])
          refine step (fun t k => XS.iload X37.here hx rfl (hb hby at_47) rfl k) ?_
          show G T37 (mkF m 49 #[.val (.int p0), .val (.int (p0 &&& (3 : Int32))), .val (.ref w_REPEATABLE_READ), .val (.int 0), .val (.int 1), .val (.int 1)] [(.int 1)])
          refine step (fun t k => XS.iloadN X37.here hx rfl (hb hby at_49) rfl k) ?_
          show G T37 (mkF m 50 #[.val (.int p0), .val (.int (p0 &&& (3 : Int32))), .val (.ref w_REPEATABLE_READ), .val (.int 0), .val (.int 1), .val (.int 1)] [(.int 0), (.int 1)])
          refine step (fun t k => XS.icmpYes X37.here hx rfl (pc0 := 50) (pc' := 64) rfl (hb hby at_50) rfl (feq (by decide : ¬ ((1 : Int32) = (0 : Int32)))).2 (by decide) (by decide) k) ?_
          show G T37 (mkF m 64 #[.val (.int p0), .val (.int (p0 &&& (3 : Int32))), .val (.ref w_REPEATABLE_READ), .val (.int 0), .val (.int 1), .val (.int 1)] [])
          refine step (fun t k => XS.iconst X37.here hx rfl (hb hby at_64) k) ?_
          show G T37 (mkF m 65 #[.val (.int p0), .val (.int (p0 &&& (3 : Int32))), .val (.ref w_REPEATABLE_READ), .val (.int 0), .val (.int 1), .val (.int 1)] [(.int 0)])
          exfalso
          have q0_32 : (0 : Int32).toInt = 0 := by decide
          have q1_32 : (1 : Int32).toInt = 1 := by decide
          have q2_32 : (2 : Int32).toInt = 2 := by decide
          have q3_32 : (3 : Int32).toInt = 3 := by decide
          have qm := c_mask p0 (3 : Int32) 2 (by decide) (by decide)
          rw [own_xeq] at hc2
          rw [own_xeq] at hc17
          rw [own_xeq] at hc32
          rw [own_xlt] at hc34
          omega
        · skip
          refine step (fun t k => XS.icmpNo X1.here hx rfl (hb hby at_11) rfl (flt hc34).1 k) ?_
          show G T1 (mkF m 14 #[.val (.int p0), .val (.int (p0 &&& (3 : Int32))), .val (.ref w_REPEATABLE_READ), .unset, .unset, .unset] [])
          refine step (fun t k => XS.iconst X1.here hx rfl (hb hby at_14) k) ?_
          show G T1 (mkF m 15 #[.val (.int p0), .val (.int (p0 &&& (3 : Int32))), .val (.ref w_REPEATABLE_READ), .unset, .unset, .unset] [(.int 1)])
          refine step (fun t k => XS.goto X1.here hx rfl (pc0 := 15) (pc' := 19) rfl (hb hby at_15) (by decide) (by decide) k) ?_
          show G T1 (mkF m 19 #[.val (.int p0), .val (.int (p0 &&& (3 : Int32))), .val (.ref w_REPEATABLE_READ), .unset, .unset, .unset] [(.int 1)])
          refine step (fun t k => XS.istoreN X1.here hx rfl (hb hby at_19) rfl (l' := #[.val (.int p0), .val (.int (p0 &&& (3 : Int32))), .val (.ref w_REPEATABLE_READ), .val (.int 1), .unset, .unset]) rfl k) ?_
          show G T1 (mkF m 20 #[.val (.int p0), .val (.int (p0 &&& (3 : Int32))), .val (.ref w_REPEATABLE_READ), .val (.int 1), .unset, .unset] [])
          refine step (fun t k => XS.aloadN X1.here hx rfl (hb hby at_20) rfl rfl k) ?_
          show G T1 (mkF m 21 #[.val (.int p0), .val (.int (p0 &&& (3 : Int32))), .val (.ref w_REPEATABLE_READ), .val (.int 1), .unset, .unset] [(.ref w_REPEATABLE_READ)])
          obtain ⟨cq39, kq39, q39a, q39b, q39c⟩ := isOf hZ e1 (Exa.ext O0.2 ST.k3)
          obtain ⟨_, _, ⟨T39, L39, k39, n39⟩, -, X39, ⟨Lc39, hQ39, l39, y39, z39⟩, st39⟩ := X1.virtualBack hx (y := y_1) (z := y_1) hown (mvT hZ (ww7 hw)) (mvT hZ (ww8 hw)) (notFace_of_selects (args := #[]) (mvT hZ (ww10 hw))) (mvT hZ (ww10 hw)) (mvT hZ (ww9 hw)) (by decide) (backOf (W := 0) (rm_locks l Z a0 hw [] w_READ_UNCOMMITTED w_REPEATABLE_READ w_SERIALIZABLE w_READ_COMMITTED w_REPEATABLE_READ h0 n0 (own_old_le O0) ST O0) hZ (ww11 hw) (ww5 hw) (by decide) (by decide)) q39a q39c (g := (mkF m 21 #[.val (.int p0), .val (.int (p0 &&& (3 : Int32))), .val (.ref w_REPEATABLE_READ), .val (.int 1), .unset, .unset] [(.ref w_REPEATABLE_READ)])) rfl (by rw [hml]; rfl) (Steps.refl _) (argsL := []) (rest := []) (lenOf pd_1 rfl) rfl (by show 2 * 0 + _ ≤ _; exact Nat.le_of_eq rfl) (hb hby at_21) (fun _ _ => ⟨rfl, e1, (by decide : 0 + 0 ≤ _), (by decide : 0 + 0 ≤ _)⟩)
          dsimp only [Pt.U, Pt.locs, Pt.cells, Pt.slots] at X39 l39 y39 z39 st39 hQ39
          subst l39 y39 z39
          obtain ⟨rfl, N39q, e39⟩ := hQ39
          have N39 := Fr.app N1 N39q
          refine step (fun t k => st39.trans k) ?_
          show G T39 (mkF m 24 #[.val (.int p0), .val (.int (p0 &&& (3 : Int32))), .val (.ref w_REPEATABLE_READ), .val (.int 1), .unset, .unset] [(.int (f_locks w_READ_UNCOMMITTED w_REPEATABLE_READ w_SERIALIZABLE w_READ_COMMITTED w_REPEATABLE_READ))])
          have r40 : (f_locks w_READ_UNCOMMITTED w_REPEATABLE_READ w_SERIALIZABLE w_READ_COMMITTED w_REPEATABLE_READ) = (1 : Int32) := by
            unfold f_locks
            rw [if_pos (rfl : w_REPEATABLE_READ = w_REPEATABLE_READ)]
          rw [r40]
          show G T39 (mkF m 24 #[.val (.int p0), .val (.int (p0 &&& (3 : Int32))), .val (.ref w_REPEATABLE_READ), .val (.int 1), .unset, .unset] [(.int 1)])
          refine step (fun t k => XS.istore X39.here hx rfl (hb hby at_24) rfl (l' := #[.val (.int p0), .val (.int (p0 &&& (3 : Int32))), .val (.ref w_REPEATABLE_READ), .val (.int 1), .val (.int 1), .unset]) rfl k) ?_
          show G T39 (mkF m 26 #[.val (.int p0), .val (.int (p0 &&& (3 : Int32))), .val (.ref w_REPEATABLE_READ), .val (.int 1), .val (.int 1), .unset] [])
          refine step (fun t k => XS.aloadN X39.here hx rfl (hb hby at_26) rfl rfl k) ?_
          show G T39 (mkF m 27 #[.val (.int p0), .val (.int (p0 &&& (3 : Int32))), .val (.ref w_REPEATABLE_READ), .val (.int 1), .val (.int 1), .unset] [(.ref w_REPEATABLE_READ)])
          obtain ⟨cq41, kq41, q41a, q41b, q41c⟩ := isOf hZ e39 (Exa.ext O0.2 ST.k3)
          obtain ⟨_, _, ⟨T41, L41, k41, n41⟩, -, X41, ⟨Lc41, hQ41, l41, y41, z41⟩, st41⟩ := X39.virtualBack hx (y := y_2) (z := y_2) hown (mvT hZ (ww16 hw)) (mvT hZ (ww17 hw)) (notFace_of_selects (args := #[]) (mvT hZ (ww19 hw))) (mvT hZ (ww19 hw)) (mvT hZ (ww18 hw)) (by decide) (backOf (W := 0) (rm_keeps l Z a0 hw [] w_READ_UNCOMMITTED w_REPEATABLE_READ w_SERIALIZABLE w_READ_COMMITTED w_REPEATABLE_READ h0 n0 (own_old_le O0) ST O0) hZ (ww20 hw) (ww5 hw) (by decide) (by decide)) q41a q41c (g := (mkF m 27 #[.val (.int p0), .val (.int (p0 &&& (3 : Int32))), .val (.ref w_REPEATABLE_READ), .val (.int 1), .val (.int 1), .unset] [(.ref w_REPEATABLE_READ)])) rfl (by rw [hml]; rfl) (Steps.refl _) (argsL := []) (rest := []) (lenOf pd_1 rfl) rfl (by show 2 * 0 + _ ≤ _; exact Nat.le_of_eq rfl) (hb hby at_27) (fun _ _ => ⟨rfl, e39, (by decide : 0 + 0 ≤ _), (by decide : 0 + 0 ≤ _)⟩)
          dsimp only [Pt.U, Pt.locs, Pt.cells, Pt.slots] at X41 l41 y41 z41 st41 hQ41
          subst l41 y41 z41
          obtain ⟨rfl, N41q, e41⟩ := hQ41
          have N41 := Fr.app N39 N41q
          refine step (fun t k => st41.trans k) ?_
          show G T41 (mkF m 30 #[.val (.int p0), .val (.int (p0 &&& (3 : Int32))), .val (.ref w_REPEATABLE_READ), .val (.int 1), .val (.int 1), .unset] [(.int (f_keeps w_READ_UNCOMMITTED w_REPEATABLE_READ w_SERIALIZABLE w_READ_COMMITTED w_REPEATABLE_READ))])
          have r42 : (f_keeps w_READ_UNCOMMITTED w_REPEATABLE_READ w_SERIALIZABLE w_READ_COMMITTED w_REPEATABLE_READ) = (1 : Int32) := by
            unfold f_keeps
            rw [if_pos (rfl : w_REPEATABLE_READ = w_REPEATABLE_READ)]
          rw [r42]
          show G T41 (mkF m 30 #[.val (.int p0), .val (.int (p0 &&& (3 : Int32))), .val (.ref w_REPEATABLE_READ), .val (.int 1), .val (.int 1), .unset] [(.int 1)])
          refine step (fun t k => XS.ifYes X41.here hx rfl (pc0 := 30) (pc' := 40) rfl (hb hby at_30) rfl ((if0 _ _).trans (feq (by decide : ¬ ((1 : Int32) = (0 : Int32)))).2) (by decide) (by decide) k) ?_
          show G T41 (mkF m 40 #[.val (.int p0), .val (.int (p0 &&& (3 : Int32))), .val (.ref w_REPEATABLE_READ), .val (.int 1), .val (.int 1), .unset] [])
          refine step (fun t k => XS.iconst X41.here hx rfl (hb hby at_40) k) ?_
          show G T41 (mkF m 41 #[.val (.int p0), .val (.int (p0 &&& (3 : Int32))), .val (.ref w_REPEATABLE_READ), .val (.int 1), .val (.int 1), .unset] [(.int 1)])
          refine step (fun t k => XS.goto X41.here hx rfl (pc0 := 41) (pc' := 45) rfl (hb hby at_41) (by decide) (by decide) k) ?_
          show G T41 (mkF m 45 #[.val (.int p0), .val (.int (p0 &&& (3 : Int32))), .val (.ref w_REPEATABLE_READ), .val (.int 1), .val (.int 1), .unset] [(.int 1)])
          refine step (fun t k => XS.istore X41.here hx rfl (hb hby at_45) rfl (l' := #[.val (.int p0), .val (.int (p0 &&& (3 : Int32))), .val (.ref w_REPEATABLE_READ), .val (.int 1), .val (.int 1), .val (.int 1)]) rfl k) ?_
          show G T41 (mkF m 47 #[.val (.int p0), .val (.int (p0 &&& (3 : Int32))), .val (.ref w_REPEATABLE_READ), .val (.int 1), .val (.int 1), .val (.int 1)] [])
          refine step (fun t k => XS.iload X41.here hx rfl (hb hby at_47) rfl k) ?_
          show G T41 (mkF m 49 #[.val (.int p0), .val (.int (p0 &&& (3 : Int32))), .val (.ref w_REPEATABLE_READ), .val (.int 1), .val (.int 1), .val (.int 1)] [(.int 1)])
          refine step (fun t k => XS.iloadN X41.here hx rfl (hb hby at_49) rfl k) ?_
          show G T41 (mkF m 50 #[.val (.int p0), .val (.int (p0 &&& (3 : Int32))), .val (.ref w_REPEATABLE_READ), .val (.int 1), .val (.int 1), .val (.int 1)] [(.int 1), (.int 1)])
          refine step (fun t k => XS.icmpNo X41.here hx rfl (hb hby at_50) rfl (teq (by decide : (1 : Int32) = (1 : Int32))).2 k) ?_
          show G T41 (mkF m 53 #[.val (.int p0), .val (.int (p0 &&& (3 : Int32))), .val (.ref w_REPEATABLE_READ), .val (.int 1), .val (.int 1), .val (.int 1)] [])
          refine step (fun t k => XS.iload X41.here hx rfl (hb hby at_53) rfl k) ?_
          show G T41 (mkF m 55 #[.val (.int p0), .val (.int (p0 &&& (3 : Int32))), .val (.ref w_REPEATABLE_READ), .val (.int 1), .val (.int 1), .val (.int 1)] [(.int 1)])
          refine step (fun t k => XS.iload X41.here hx rfl (hb hby at_55) rfl k) ?_
          show G T41 (mkF m 57 #[.val (.int p0), .val (.int (p0 &&& (3 : Int32))), .val (.ref w_REPEATABLE_READ), .val (.int 1), .val (.int 1), .val (.int 1)] [(.int 1), (.int 1)])
          refine step (fun t k => XS.icmpNo X41.here hx rfl (hb hby at_57) rfl (teq (by decide : (1 : Int32) = (1 : Int32))).2 k) ?_
          show G T41 (mkF m 60 #[.val (.int p0), .val (.int (p0 &&& (3 : Int32))), .val (.ref w_REPEATABLE_READ), .val (.int 1), .val (.int 1), .val (.int 1)] [])
          refine step (fun t k => XS.iconst X41.here hx rfl (hb hby at_60) k) ?_
          show G T41 (mkF m 61 #[.val (.int p0), .val (.int (p0 &&& (3 : Int32))), .val (.ref w_REPEATABLE_READ), .val (.int 1), .val (.int 1), .val (.int 1)] [(.int 1)])
          refine step (fun t k => XS.goto X41.here hx rfl (pc0 := 61) (pc' := 65) rfl (hb hby at_61) (by decide) (by decide) k) ?_
          show G T41 (mkF m 65 #[.val (.int p0), .val (.int (p0 &&& (3 : Int32))), .val (.ref w_REPEATABLE_READ), .val (.int 1), .val (.int 1), .val (.int 1)] [(.int 1)])
          exact ret (v := some (.int 1)) X41 (fun h => by rw [Bd.returns] at h; cases h) (fun fs hr => retN X41 hx (t := .boolean) Bd.returns (by simp) (hb hby at_65) hr) e41 ⟨rfl, N41⟩ (by decide) (by decide)
      · skip
        have r43 : (f_pick w_READ_UNCOMMITTED w_REPEATABLE_READ w_SERIALIZABLE w_READ_COMMITTED (p0 &&& (3 : Int32))) = w_SERIALIZABLE := by
          unfold f_pick
          rw [if_neg hc2, if_neg hc17, if_neg hc32]
        rw [r43]
        show G T1 (mkF m 8 #[.val (.int p0), .val (.int (p0 &&& (3 : Int32))), .unset, .unset, .unset, .unset] [(.ref w_SERIALIZABLE)])
        refine step (fun t k => XS.astoreN X1.here hx rfl (hb hby at_8) rfl rfl (l' := #[.val (.int p0), .val (.int (p0 &&& (3 : Int32))), .val (.ref w_SERIALIZABLE), .unset, .unset, .unset]) rfl k) ?_
        show G T1 (mkF m 9 #[.val (.int p0), .val (.int (p0 &&& (3 : Int32))), .val (.ref w_SERIALIZABLE), .unset, .unset, .unset] [])
        refine step (fun t k => XS.iloadN X1.here hx rfl (hb hby at_9) rfl k) ?_
        show G T1 (mkF m 10 #[.val (.int p0), .val (.int (p0 &&& (3 : Int32))), .val (.ref w_SERIALIZABLE), .unset, .unset, .unset] [(.int (p0 &&& (3 : Int32)))])
        refine step (fun t k => XS.iconst X1.here hx rfl (hb hby at_10) k) ?_
        show G T1 (mkF m 11 #[.val (.int p0), .val (.int (p0 &&& (3 : Int32))), .val (.ref w_SERIALIZABLE), .unset, .unset, .unset] [(.int 2), (.int (p0 &&& (3 : Int32)))])
        by_cases hc44 : (p0 &&& (3 : Int32)) < (2 : Int32)
        · skip
          refine step (fun t k => XS.icmpYes X1.here hx rfl (pc0 := 11) (pc' := 18) rfl (hb hby at_11) rfl (tlt hc44).1 (by decide) (by decide) k) ?_
          show G T1 (mkF m 18 #[.val (.int p0), .val (.int (p0 &&& (3 : Int32))), .val (.ref w_SERIALIZABLE), .unset, .unset, .unset] [])
          refine step (fun t k => XS.iconst X1.here hx rfl (hb hby at_18) k) ?_
          show G T1 (mkF m 19 #[.val (.int p0), .val (.int (p0 &&& (3 : Int32))), .val (.ref w_SERIALIZABLE), .unset, .unset, .unset] [(.int 0)])
          refine step (fun t k => XS.istoreN X1.here hx rfl (hb hby at_19) rfl (l' := #[.val (.int p0), .val (.int (p0 &&& (3 : Int32))), .val (.ref w_SERIALIZABLE), .val (.int 0), .unset, .unset]) rfl k) ?_
          show G T1 (mkF m 20 #[.val (.int p0), .val (.int (p0 &&& (3 : Int32))), .val (.ref w_SERIALIZABLE), .val (.int 0), .unset, .unset] [])
          refine step (fun t k => XS.aloadN X1.here hx rfl (hb hby at_20) rfl rfl k) ?_
          show G T1 (mkF m 21 #[.val (.int p0), .val (.int (p0 &&& (3 : Int32))), .val (.ref w_SERIALIZABLE), .val (.int 0), .unset, .unset] [(.ref w_SERIALIZABLE)])
          obtain ⟨cq45, kq45, q45a, q45b, q45c⟩ := isOf hZ e1 (Exa.ext O0.2 ST.k5)
          obtain ⟨_, _, ⟨T45, L45, k45, n45⟩, -, X45, ⟨Lc45, hQ45, l45, y45, z45⟩, st45⟩ := X1.virtualBack hx (y := y_1) (z := y_1) hown (mvT hZ (ww7 hw)) (mvT hZ (ww8 hw)) (notFace_of_selects (args := #[]) (mvT hZ (ww10 hw))) (mvT hZ (ww10 hw)) (mvT hZ (ww9 hw)) (by decide) (backOf (W := 0) (rm_locks l Z a0 hw [] w_READ_UNCOMMITTED w_REPEATABLE_READ w_SERIALIZABLE w_READ_COMMITTED w_SERIALIZABLE h0 n0 (own_old_le O0) ST O0) hZ (ww11 hw) (ww5 hw) (by decide) (by decide)) q45a q45c (g := (mkF m 21 #[.val (.int p0), .val (.int (p0 &&& (3 : Int32))), .val (.ref w_SERIALIZABLE), .val (.int 0), .unset, .unset] [(.ref w_SERIALIZABLE)])) rfl (by rw [hml]; rfl) (Steps.refl _) (argsL := []) (rest := []) (lenOf pd_1 rfl) rfl (by show 2 * 0 + _ ≤ _; exact Nat.le_of_eq rfl) (hb hby at_21) (fun _ _ => ⟨rfl, e1, (by decide : 0 + 0 ≤ _), (by decide : 0 + 0 ≤ _)⟩)
          dsimp only [Pt.U, Pt.locs, Pt.cells, Pt.slots] at X45 l45 y45 z45 st45 hQ45
          subst l45 y45 z45
          obtain ⟨rfl, N45q, e45⟩ := hQ45
          have N45 := Fr.app N1 N45q
          refine step (fun t k => st45.trans k) ?_
          show G T45 (mkF m 24 #[.val (.int p0), .val (.int (p0 &&& (3 : Int32))), .val (.ref w_SERIALIZABLE), .val (.int 0), .unset, .unset] [(.int (f_locks w_READ_UNCOMMITTED w_REPEATABLE_READ w_SERIALIZABLE w_READ_COMMITTED w_SERIALIZABLE))])
          have r46 : (f_locks w_READ_UNCOMMITTED w_REPEATABLE_READ w_SERIALIZABLE w_READ_COMMITTED w_SERIALIZABLE) = (1 : Int32) := by
            unfold f_locks
            rw [if_neg ((Fld.ne ST.k10 ST.k9 (fun q => absurd (Value.int.inj q) (by decide))) : ¬ (w_SERIALIZABLE = w_REPEATABLE_READ)), if_pos (rfl : w_SERIALIZABLE = w_SERIALIZABLE)]
          rw [r46]
          show G T45 (mkF m 24 #[.val (.int p0), .val (.int (p0 &&& (3 : Int32))), .val (.ref w_SERIALIZABLE), .val (.int 0), .unset, .unset] [(.int 1)])
          refine step (fun t k => XS.istore X45.here hx rfl (hb hby at_24) rfl (l' := #[.val (.int p0), .val (.int (p0 &&& (3 : Int32))), .val (.ref w_SERIALIZABLE), .val (.int 0), .val (.int 1), .unset]) rfl k) ?_
          show G T45 (mkF m 26 #[.val (.int p0), .val (.int (p0 &&& (3 : Int32))), .val (.ref w_SERIALIZABLE), .val (.int 0), .val (.int 1), .unset] [])
          refine step (fun t k => XS.aloadN X45.here hx rfl (hb hby at_26) rfl rfl k) ?_
          show G T45 (mkF m 27 #[.val (.int p0), .val (.int (p0 &&& (3 : Int32))), .val (.ref w_SERIALIZABLE), .val (.int 0), .val (.int 1), .unset] [(.ref w_SERIALIZABLE)])
          obtain ⟨cq47, kq47, q47a, q47b, q47c⟩ := isOf hZ e45 (Exa.ext O0.2 ST.k5)
          obtain ⟨_, _, ⟨T47, L47, k47, n47⟩, -, X47, ⟨Lc47, hQ47, l47, y47, z47⟩, st47⟩ := X45.virtualBack hx (y := y_2) (z := y_2) hown (mvT hZ (ww16 hw)) (mvT hZ (ww17 hw)) (notFace_of_selects (args := #[]) (mvT hZ (ww19 hw))) (mvT hZ (ww19 hw)) (mvT hZ (ww18 hw)) (by decide) (backOf (W := 0) (rm_keeps l Z a0 hw [] w_READ_UNCOMMITTED w_REPEATABLE_READ w_SERIALIZABLE w_READ_COMMITTED w_SERIALIZABLE h0 n0 (own_old_le O0) ST O0) hZ (ww20 hw) (ww5 hw) (by decide) (by decide)) q47a q47c (g := (mkF m 27 #[.val (.int p0), .val (.int (p0 &&& (3 : Int32))), .val (.ref w_SERIALIZABLE), .val (.int 0), .val (.int 1), .unset] [(.ref w_SERIALIZABLE)])) rfl (by rw [hml]; rfl) (Steps.refl _) (argsL := []) (rest := []) (lenOf pd_1 rfl) rfl (by show 2 * 0 + _ ≤ _; exact Nat.le_of_eq rfl) (hb hby at_27) (fun _ _ => ⟨rfl, e45, (by decide : 0 + 0 ≤ _), (by decide : 0 + 0 ≤ _)⟩)
          dsimp only [Pt.U, Pt.locs, Pt.cells, Pt.slots] at X47 l47 y47 z47 st47 hQ47
          subst l47 y47 z47
          obtain ⟨rfl, N47q, e47⟩ := hQ47
          have N47 := Fr.app N45 N47q
          refine step (fun t k => st47.trans k) ?_
          show G T47 (mkF m 30 #[.val (.int p0), .val (.int (p0 &&& (3 : Int32))), .val (.ref w_SERIALIZABLE), .val (.int 0), .val (.int 1), .unset] [(.int (f_keeps w_READ_UNCOMMITTED w_REPEATABLE_READ w_SERIALIZABLE w_READ_COMMITTED w_SERIALIZABLE))])
          have r48 : (f_keeps w_READ_UNCOMMITTED w_REPEATABLE_READ w_SERIALIZABLE w_READ_COMMITTED w_SERIALIZABLE) = (0 : Int32) := by
            unfold f_keeps
            rw [if_neg ((Fld.ne ST.k10 ST.k9 (fun q => absurd (Value.int.inj q) (by decide))) : ¬ (w_SERIALIZABLE = w_REPEATABLE_READ))]
          rw [r48]
          show G T47 (mkF m 30 #[.val (.int p0), .val (.int (p0 &&& (3 : Int32))), .val (.ref w_SERIALIZABLE), .val (.int 0), .val (.int 1), .unset] [(.int 0)])
          refine step (fun t k => XS.ifNo X47.here hx rfl (hb hby at_30) rfl ((if0 _ _).trans (teq (by decide : (0 : Int32) = (0 : Int32))).2) k) ?_
          show G T47 (mkF m 33 #[.val (.int p0), .val (.int (p0 &&& (3 : Int32))), .val (.ref w_SERIALIZABLE), .val (.int 0), .val (.int 1), .unset] [])
          refine step (fun t k => XS.aloadN X47.here hx rfl (hb hby at_33) rfl rfl k) ?_
          show G T47 (mkF m 34 #[.val (.int p0), .val (.int (p0 &&& (3 : Int32))), .val (.ref w_SERIALIZABLE), .val (.int 0), .val (.int 1), .unset] [(.ref w_SERIALIZABLE)])
          obtain ⟨cq49, kq49, q49a, q49b, q49c⟩ := isOf hZ e47 (Exa.ext O0.2 ST.k5)
          obtain ⟨_, _, ⟨T49, L49, k49, n49⟩, -, X49, ⟨Lc49, hQ49, l49, y49, z49⟩, st49⟩ := X47.virtualBack hx (y := y_3) (z := y_3) hown (mvT hZ (ww21 hw)) (mvT hZ (ww22 hw)) (notFace_of_selects (args := #[]) (mvT hZ (ww24 hw))) (mvT hZ (ww24 hw)) (mvT hZ (ww23 hw)) (by decide) (backOf (W := 0) (rm_shares l Z a0 hw [] w_READ_UNCOMMITTED w_REPEATABLE_READ w_SERIALIZABLE w_READ_COMMITTED w_SERIALIZABLE h0 n0 (own_old_le O0) ST O0) hZ (ww25 hw) (ww5 hw) (by decide) (by decide)) q49a q49c (g := (mkF m 34 #[.val (.int p0), .val (.int (p0 &&& (3 : Int32))), .val (.ref w_SERIALIZABLE), .val (.int 0), .val (.int 1), .unset] [(.ref w_SERIALIZABLE)])) rfl (by rw [hml]; rfl) (Steps.refl _) (argsL := []) (rest := []) (lenOf pd_1 rfl) rfl (by show 2 * 0 + _ ≤ _; exact Nat.le_of_eq rfl) (hb hby at_34) (fun _ _ => ⟨rfl, e47, (by decide : 0 + 0 ≤ _), (by decide : 0 + 0 ≤ _)⟩)
          dsimp only [Pt.U, Pt.locs, Pt.cells, Pt.slots] at X49 l49 y49 z49 st49 hQ49
          subst l49 y49 z49
          obtain ⟨rfl, N49q, e49⟩ := hQ49
          have N49 := Fr.app N47 N49q
          refine step (fun t k => st49.trans k) ?_
          show G T49 (mkF m 37 #[.val (.int p0), .val (.int (p0 &&& (3 : Int32))), .val (.ref w_SERIALIZABLE), .val (.int 0), .val (.int 1), .unset] [(.int (f_shares w_READ_UNCOMMITTED w_REPEATABLE_READ w_SERIALIZABLE w_READ_COMMITTED w_SERIALIZABLE))])
          have r50 : (f_shares w_READ_UNCOMMITTED w_REPEATABLE_READ w_SERIALIZABLE w_READ_COMMITTED w_SERIALIZABLE) = (1 : Int32) := by
            unfold f_shares
            rw [if_pos (rfl : w_SERIALIZABLE = w_SERIALIZABLE)]
          rw [r50]
          show G T49 (mkF m 37 #[.val (.int p0), .val (.int (p0 &&& (3 : Int32))), .val (.ref w_SERIALIZABLE), .val (.int 0), .val (.int 1), .unset] [(.int 1)])
          refine step (fun t k => XS.ifNo X49.here hx rfl (hb hby at_37) rfl ((if0 _ _).trans (feq (by decide : ¬ ((1 : Int32) = (0 : Int32)))).1) k) ?_
          show G T49 (mkF m 40 #[.val (.int p0), .val (.int (p0 &&& (3 : Int32))), .val (.ref w_SERIALIZABLE), .val (.int 0), .val (.int 1), .unset] [])
          refine step (fun t k => XS.iconst X49.here hx rfl (hb hby at_40) k) ?_
          show G T49 (mkF m 41 #[.val (.int p0), .val (.int (p0 &&& (3 : Int32))), .val (.ref w_SERIALIZABLE), .val (.int 0), .val (.int 1), .unset] [(.int 1)])
          refine step (fun t k => XS.goto X49.here hx rfl (pc0 := 41) (pc' := 45) rfl (hb hby at_41) (by decide) (by decide) k) ?_
          show G T49 (mkF m 45 #[.val (.int p0), .val (.int (p0 &&& (3 : Int32))), .val (.ref w_SERIALIZABLE), .val (.int 0), .val (.int 1), .unset] [(.int 1)])
          refine step (fun t k => XS.istore X49.here hx rfl (hb hby at_45) rfl (l' := #[.val (.int p0), .val (.int (p0 &&& (3 : Int32))), .val (.ref w_SERIALIZABLE), .val (.int 0), .val (.int 1), .val (.int 1)]) rfl k) ?_
          show G T49 (mkF m 47 #[.val (.int p0), .val (.int (p0 &&& (3 : Int32))), .val (.ref w_SERIALIZABLE), .val (.int 0), .val (.int 1), .val (.int 1)] [])
          refine step (fun t k => XS.iload X49.here hx rfl (hb hby at_47) rfl k) ?_
          show G T49 (mkF m 49 #[.val (.int p0), .val (.int (p0 &&& (3 : Int32))), .val (.ref w_SERIALIZABLE), .val (.int 0), .val (.int 1), .val (.int 1)] [(.int 1)])
          refine step (fun t k => XS.iloadN X49.here hx rfl (hb hby at_49) rfl k) ?_
          show G T49 (mkF m 50 #[.val (.int p0), .val (.int (p0 &&& (3 : Int32))), .val (.ref w_SERIALIZABLE), .val (.int 0), .val (.int 1), .val (.int 1)] [(.int 0), (.int 1)])
          refine step (fun t k => XS.icmpYes X49.here hx rfl (pc0 := 50) (pc' := 64) rfl (hb hby at_50) rfl (feq (by decide : ¬ ((1 : Int32) = (0 : Int32)))).2 (by decide) (by decide) k) ?_
          show G T49 (mkF m 64 #[.val (.int p0), .val (.int (p0 &&& (3 : Int32))), .val (.ref w_SERIALIZABLE), .val (.int 0), .val (.int 1), .val (.int 1)] [])
          refine step (fun t k => XS.iconst X49.here hx rfl (hb hby at_64) k) ?_
          show G T49 (mkF m 65 #[.val (.int p0), .val (.int (p0 &&& (3 : Int32))), .val (.ref w_SERIALIZABLE), .val (.int 0), .val (.int 1), .val (.int 1)] [(.int 0)])
          exfalso
          have q0_32 : (0 : Int32).toInt = 0 := by decide
          have q1_32 : (1 : Int32).toInt = 1 := by decide
          have q2_32 : (2 : Int32).toInt = 2 := by decide
          have q3_32 : (3 : Int32).toInt = 3 := by decide
          have qm := c_mask p0 (3 : Int32) 2 (by decide) (by decide)
          rw [own_xeq] at hc2
          rw [own_xeq] at hc17
          rw [own_xeq] at hc32
          rw [own_xlt] at hc44
          omega
        · skip
          refine step (fun t k => XS.icmpNo X1.here hx rfl (hb hby at_11) rfl (flt hc44).1 k) ?_
          show G T1 (mkF m 14 #[.val (.int p0), .val (.int (p0 &&& (3 : Int32))), .val (.ref w_SERIALIZABLE), .unset, .unset, .unset] [])
          refine step (fun t k => XS.iconst X1.here hx rfl (hb hby at_14) k) ?_
          show G T1 (mkF m 15 #[.val (.int p0), .val (.int (p0 &&& (3 : Int32))), .val (.ref w_SERIALIZABLE), .unset, .unset, .unset] [(.int 1)])
          refine step (fun t k => XS.goto X1.here hx rfl (pc0 := 15) (pc' := 19) rfl (hb hby at_15) (by decide) (by decide) k) ?_
          show G T1 (mkF m 19 #[.val (.int p0), .val (.int (p0 &&& (3 : Int32))), .val (.ref w_SERIALIZABLE), .unset, .unset, .unset] [(.int 1)])
          refine step (fun t k => XS.istoreN X1.here hx rfl (hb hby at_19) rfl (l' := #[.val (.int p0), .val (.int (p0 &&& (3 : Int32))), .val (.ref w_SERIALIZABLE), .val (.int 1), .unset, .unset]) rfl k) ?_
          show G T1 (mkF m 20 #[.val (.int p0), .val (.int (p0 &&& (3 : Int32))), .val (.ref w_SERIALIZABLE), .val (.int 1), .unset, .unset] [])
          refine step (fun t k => XS.aloadN X1.here hx rfl (hb hby at_20) rfl rfl k) ?_
          show G T1 (mkF m 21 #[.val (.int p0), .val (.int (p0 &&& (3 : Int32))), .val (.ref w_SERIALIZABLE), .val (.int 1), .unset, .unset] [(.ref w_SERIALIZABLE)])
          obtain ⟨cq51, kq51, q51a, q51b, q51c⟩ := isOf hZ e1 (Exa.ext O0.2 ST.k5)
          obtain ⟨_, _, ⟨T51, L51, k51, n51⟩, -, X51, ⟨Lc51, hQ51, l51, y51, z51⟩, st51⟩ := X1.virtualBack hx (y := y_1) (z := y_1) hown (mvT hZ (ww7 hw)) (mvT hZ (ww8 hw)) (notFace_of_selects (args := #[]) (mvT hZ (ww10 hw))) (mvT hZ (ww10 hw)) (mvT hZ (ww9 hw)) (by decide) (backOf (W := 0) (rm_locks l Z a0 hw [] w_READ_UNCOMMITTED w_REPEATABLE_READ w_SERIALIZABLE w_READ_COMMITTED w_SERIALIZABLE h0 n0 (own_old_le O0) ST O0) hZ (ww11 hw) (ww5 hw) (by decide) (by decide)) q51a q51c (g := (mkF m 21 #[.val (.int p0), .val (.int (p0 &&& (3 : Int32))), .val (.ref w_SERIALIZABLE), .val (.int 1), .unset, .unset] [(.ref w_SERIALIZABLE)])) rfl (by rw [hml]; rfl) (Steps.refl _) (argsL := []) (rest := []) (lenOf pd_1 rfl) rfl (by show 2 * 0 + _ ≤ _; exact Nat.le_of_eq rfl) (hb hby at_21) (fun _ _ => ⟨rfl, e1, (by decide : 0 + 0 ≤ _), (by decide : 0 + 0 ≤ _)⟩)
          dsimp only [Pt.U, Pt.locs, Pt.cells, Pt.slots] at X51 l51 y51 z51 st51 hQ51
          subst l51 y51 z51
          obtain ⟨rfl, N51q, e51⟩ := hQ51
          have N51 := Fr.app N1 N51q
          refine step (fun t k => st51.trans k) ?_
          show G T51 (mkF m 24 #[.val (.int p0), .val (.int (p0 &&& (3 : Int32))), .val (.ref w_SERIALIZABLE), .val (.int 1), .unset, .unset] [(.int (f_locks w_READ_UNCOMMITTED w_REPEATABLE_READ w_SERIALIZABLE w_READ_COMMITTED w_SERIALIZABLE))])
          have r52 : (f_locks w_READ_UNCOMMITTED w_REPEATABLE_READ w_SERIALIZABLE w_READ_COMMITTED w_SERIALIZABLE) = (1 : Int32) := by
            unfold f_locks
            rw [if_neg ((Fld.ne ST.k10 ST.k9 (fun q => absurd (Value.int.inj q) (by decide))) : ¬ (w_SERIALIZABLE = w_REPEATABLE_READ)), if_pos (rfl : w_SERIALIZABLE = w_SERIALIZABLE)]
          rw [r52]
          show G T51 (mkF m 24 #[.val (.int p0), .val (.int (p0 &&& (3 : Int32))), .val (.ref w_SERIALIZABLE), .val (.int 1), .unset, .unset] [(.int 1)])
          refine step (fun t k => XS.istore X51.here hx rfl (hb hby at_24) rfl (l' := #[.val (.int p0), .val (.int (p0 &&& (3 : Int32))), .val (.ref w_SERIALIZABLE), .val (.int 1), .val (.int 1), .unset]) rfl k) ?_
          show G T51 (mkF m 26 #[.val (.int p0), .val (.int (p0 &&& (3 : Int32))), .val (.ref w_SERIALIZABLE), .val (.int 1), .val (.int 1), .unset] [])
          refine step (fun t k => XS.aloadN X51.here hx rfl (hb hby at_26) rfl rfl k) ?_
          show G T51 (mkF m 27 #[.val (.int p0), .val (.int (p0 &&& (3 : Int32))), .val (.ref w_SERIALIZABLE), .val (.int 1), .val (.int 1), .unset] [(.ref w_SERIALIZABLE)])
          obtain ⟨cq53, kq53, q53a, q53b, q53c⟩ := isOf hZ e51 (Exa.ext O0.2 ST.k5)
          obtain ⟨_, _, ⟨T53, L53, k53, n53⟩, -, X53, ⟨Lc53, hQ53, l53, y53, z53⟩, st53⟩ := X51.virtualBack hx (y := y_2) (z := y_2) hown (mvT hZ (ww16 hw)) (mvT hZ (ww17 hw)) (notFace_of_selects (args := #[]) (mvT hZ (ww19 hw))) (mvT hZ (ww19 hw)) (mvT hZ (ww18 hw)) (by decide) (backOf (W := 0) (rm_keeps l Z a0 hw [] w_READ_UNCOMMITTED w_REPEATABLE_READ w_SERIALIZABLE w_READ_COMMITTED w_SERIALIZABLE h0 n0 (own_old_le O0) ST O0) hZ (ww20 hw) (ww5 hw) (by decide) (by decide)) q53a q53c (g := (mkF m 27 #[.val (.int p0), .val (.int (p0 &&& (3 : Int32))), .val (.ref w_SERIALIZABLE), .val (.int 1), .val (.int 1), .unset] [(.ref w_SERIALIZABLE)])) rfl (by rw [hml]; rfl) (Steps.refl _) (argsL := []) (rest := []) (lenOf pd_1 rfl) rfl (by show 2 * 0 + _ ≤ _; exact Nat.le_of_eq rfl) (hb hby at_27) (fun _ _ => ⟨rfl, e51, (by decide : 0 + 0 ≤ _), (by decide : 0 + 0 ≤ _)⟩)
          dsimp only [Pt.U, Pt.locs, Pt.cells, Pt.slots] at X53 l53 y53 z53 st53 hQ53
          subst l53 y53 z53
          obtain ⟨rfl, N53q, e53⟩ := hQ53
          have N53 := Fr.app N51 N53q
          refine step (fun t k => st53.trans k) ?_
          show G T53 (mkF m 30 #[.val (.int p0), .val (.int (p0 &&& (3 : Int32))), .val (.ref w_SERIALIZABLE), .val (.int 1), .val (.int 1), .unset] [(.int (f_keeps w_READ_UNCOMMITTED w_REPEATABLE_READ w_SERIALIZABLE w_READ_COMMITTED w_SERIALIZABLE))])
          have r54 : (f_keeps w_READ_UNCOMMITTED w_REPEATABLE_READ w_SERIALIZABLE w_READ_COMMITTED w_SERIALIZABLE) = (0 : Int32) := by
            unfold f_keeps
            rw [if_neg ((Fld.ne ST.k10 ST.k9 (fun q => absurd (Value.int.inj q) (by decide))) : ¬ (w_SERIALIZABLE = w_REPEATABLE_READ))]
          rw [r54]
          show G T53 (mkF m 30 #[.val (.int p0), .val (.int (p0 &&& (3 : Int32))), .val (.ref w_SERIALIZABLE), .val (.int 1), .val (.int 1), .unset] [(.int 0)])
          refine step (fun t k => XS.ifNo X53.here hx rfl (hb hby at_30) rfl ((if0 _ _).trans (teq (by decide : (0 : Int32) = (0 : Int32))).2) k) ?_
          show G T53 (mkF m 33 #[.val (.int p0), .val (.int (p0 &&& (3 : Int32))), .val (.ref w_SERIALIZABLE), .val (.int 1), .val (.int 1), .unset] [])
          refine step (fun t k => XS.aloadN X53.here hx rfl (hb hby at_33) rfl rfl k) ?_
          show G T53 (mkF m 34 #[.val (.int p0), .val (.int (p0 &&& (3 : Int32))), .val (.ref w_SERIALIZABLE), .val (.int 1), .val (.int 1), .unset] [(.ref w_SERIALIZABLE)])
          obtain ⟨cq55, kq55, q55a, q55b, q55c⟩ := isOf hZ e53 (Exa.ext O0.2 ST.k5)
          obtain ⟨_, _, ⟨T55, L55, k55, n55⟩, -, X55, ⟨Lc55, hQ55, l55, y55, z55⟩, st55⟩ := X53.virtualBack hx (y := y_3) (z := y_3) hown (mvT hZ (ww21 hw)) (mvT hZ (ww22 hw)) (notFace_of_selects (args := #[]) (mvT hZ (ww24 hw))) (mvT hZ (ww24 hw)) (mvT hZ (ww23 hw)) (by decide) (backOf (W := 0) (rm_shares l Z a0 hw [] w_READ_UNCOMMITTED w_REPEATABLE_READ w_SERIALIZABLE w_READ_COMMITTED w_SERIALIZABLE h0 n0 (own_old_le O0) ST O0) hZ (ww25 hw) (ww5 hw) (by decide) (by decide)) q55a q55c (g := (mkF m 34 #[.val (.int p0), .val (.int (p0 &&& (3 : Int32))), .val (.ref w_SERIALIZABLE), .val (.int 1), .val (.int 1), .unset] [(.ref w_SERIALIZABLE)])) rfl (by rw [hml]; rfl) (Steps.refl _) (argsL := []) (rest := []) (lenOf pd_1 rfl) rfl (by show 2 * 0 + _ ≤ _; exact Nat.le_of_eq rfl) (hb hby at_34) (fun _ _ => ⟨rfl, e53, (by decide : 0 + 0 ≤ _), (by decide : 0 + 0 ≤ _)⟩)
          dsimp only [Pt.U, Pt.locs, Pt.cells, Pt.slots] at X55 l55 y55 z55 st55 hQ55
          subst l55 y55 z55
          obtain ⟨rfl, N55q, e55⟩ := hQ55
          have N55 := Fr.app N53 N55q
          refine step (fun t k => st55.trans k) ?_
          show G T55 (mkF m 37 #[.val (.int p0), .val (.int (p0 &&& (3 : Int32))), .val (.ref w_SERIALIZABLE), .val (.int 1), .val (.int 1), .unset] [(.int (f_shares w_READ_UNCOMMITTED w_REPEATABLE_READ w_SERIALIZABLE w_READ_COMMITTED w_SERIALIZABLE))])
          have r56 : (f_shares w_READ_UNCOMMITTED w_REPEATABLE_READ w_SERIALIZABLE w_READ_COMMITTED w_SERIALIZABLE) = (1 : Int32) := by
            unfold f_shares
            rw [if_pos (rfl : w_SERIALIZABLE = w_SERIALIZABLE)]
          rw [r56]
          show G T55 (mkF m 37 #[.val (.int p0), .val (.int (p0 &&& (3 : Int32))), .val (.ref w_SERIALIZABLE), .val (.int 1), .val (.int 1), .unset] [(.int 1)])
          refine step (fun t k => XS.ifNo X55.here hx rfl (hb hby at_37) rfl ((if0 _ _).trans (feq (by decide : ¬ ((1 : Int32) = (0 : Int32)))).1) k) ?_
          show G T55 (mkF m 40 #[.val (.int p0), .val (.int (p0 &&& (3 : Int32))), .val (.ref w_SERIALIZABLE), .val (.int 1), .val (.int 1), .unset] [])
          refine step (fun t k => XS.iconst X55.here hx rfl (hb hby at_40) k) ?_
          show G T55 (mkF m 41 #[.val (.int p0), .val (.int (p0 &&& (3 : Int32))), .val (.ref w_SERIALIZABLE), .val (.int 1), .val (.int 1), .unset] [(.int 1)])
          refine step (fun t k => XS.goto X55.here hx rfl (pc0 := 41) (pc' := 45) rfl (hb hby at_41) (by decide) (by decide) k) ?_
          show G T55 (mkF m 45 #[.val (.int p0), .val (.int (p0 &&& (3 : Int32))), .val (.ref w_SERIALIZABLE), .val (.int 1), .val (.int 1), .unset] [(.int 1)])
          refine step (fun t k => XS.istore X55.here hx rfl (hb hby at_45) rfl (l' := #[.val (.int p0), .val (.int (p0 &&& (3 : Int32))), .val (.ref w_SERIALIZABLE), .val (.int 1), .val (.int 1), .val (.int 1)]) rfl k) ?_
          show G T55 (mkF m 47 #[.val (.int p0), .val (.int (p0 &&& (3 : Int32))), .val (.ref w_SERIALIZABLE), .val (.int 1), .val (.int 1), .val (.int 1)] [])
          refine step (fun t k => XS.iload X55.here hx rfl (hb hby at_47) rfl k) ?_
          show G T55 (mkF m 49 #[.val (.int p0), .val (.int (p0 &&& (3 : Int32))), .val (.ref w_SERIALIZABLE), .val (.int 1), .val (.int 1), .val (.int 1)] [(.int 1)])
          refine step (fun t k => XS.iloadN X55.here hx rfl (hb hby at_49) rfl k) ?_
          show G T55 (mkF m 50 #[.val (.int p0), .val (.int (p0 &&& (3 : Int32))), .val (.ref w_SERIALIZABLE), .val (.int 1), .val (.int 1), .val (.int 1)] [(.int 1), (.int 1)])
          refine step (fun t k => XS.icmpNo X55.here hx rfl (hb hby at_50) rfl (teq (by decide : (1 : Int32) = (1 : Int32))).2 k) ?_
          show G T55 (mkF m 53 #[.val (.int p0), .val (.int (p0 &&& (3 : Int32))), .val (.ref w_SERIALIZABLE), .val (.int 1), .val (.int 1), .val (.int 1)] [])
          refine step (fun t k => XS.iload X55.here hx rfl (hb hby at_53) rfl k) ?_
          show G T55 (mkF m 55 #[.val (.int p0), .val (.int (p0 &&& (3 : Int32))), .val (.ref w_SERIALIZABLE), .val (.int 1), .val (.int 1), .val (.int 1)] [(.int 1)])
          refine step (fun t k => XS.iload X55.here hx rfl (hb hby at_55) rfl k) ?_
          show G T55 (mkF m 57 #[.val (.int p0), .val (.int (p0 &&& (3 : Int32))), .val (.ref w_SERIALIZABLE), .val (.int 1), .val (.int 1), .val (.int 1)] [(.int 1), (.int 1)])
          refine step (fun t k => XS.icmpNo X55.here hx rfl (hb hby at_57) rfl (teq (by decide : (1 : Int32) = (1 : Int32))).2 k) ?_
          show G T55 (mkF m 60 #[.val (.int p0), .val (.int (p0 &&& (3 : Int32))), .val (.ref w_SERIALIZABLE), .val (.int 1), .val (.int 1), .val (.int 1)] [])
          refine step (fun t k => XS.iconst X55.here hx rfl (hb hby at_60) k) ?_
          show G T55 (mkF m 61 #[.val (.int p0), .val (.int (p0 &&& (3 : Int32))), .val (.ref w_SERIALIZABLE), .val (.int 1), .val (.int 1), .val (.int 1)] [(.int 1)])
          refine step (fun t k => XS.goto X55.here hx rfl (pc0 := 61) (pc' := 65) rfl (hb hby at_61) (by decide) (by decide) k) ?_
          show G T55 (mkF m 65 #[.val (.int p0), .val (.int (p0 &&& (3 : Int32))), .val (.ref w_SERIALIZABLE), .val (.int 1), .val (.int 1), .val (.int 1)] [(.int 1)])
          exact ret (v := some (.int 1)) X55 (fun h => by rw [Bd.returns] at h; cases h) (fun fs hr => retN X55 hx (t := .boolean) Bd.returns (by simp) (hb hby at_65) hr) e55 ⟨rfl, N55⟩ (by decide) (by decide)
set_option maxRecDepth 65536 in
set_option maxHeartbeats 40000000 in
theorem comes_1 {Post : Tables → Env → Array Value → State → Outcome → State → Prop} (hpost : ∀ tb e args s v u, (limb_1_1.after args s (.returned v) u = true ∧ limb_1_2.after args s (.returned v) u = true ∧ True) → FrameEnd s (.returned v) u (Jvm.fieldLocs frame_1_writes args s ++ Jvm.arrayLocs frame_1_arrays args s ++ Jvm.staticLocs frame_1_statics s) 0 0 → Post tb e args s (.returned v) u) :
    ArmFor flags0 classFile x code maxLocals ret World_1 tables_1 room_1 Calls_1 rest_1 Pre_1 Post := by
  intro l hfl _ _ p e ha hc hk s m args below hf hA hF happ hP
  obtain ⟨hcalls, hrest, hpre⟩ := hP
  obtain ⟨-, -, -, hnamed, -, -, -, hat⟩ := (Spec.applies_iff hf).mp happ
  obtain ⟨hg, hn⟩ := and_e (Cond.before_iff.mp (show (Jvm.Cond.and given_1 narrow_1).before args s = true from hpre))
  obtain ⟨g1a, g1b⟩ := and_e hg
  obtain ⟨w0, rfl⟩ : ∃ w0 : Value, args = #[w0] := by
    have hs : args.size = 1 := by simpa [Cond.value, given_1] using g1a
    obtain ⟨L⟩ := args
    match L, hs with
    | [w0], _ => exact ⟨w0, rfl⟩
  have hw := fun d (hd : d ∈ tables_1) => atoms_spec (ws := Jvm.Cond.code x code maxLocals ret :: tables_1) hat d (List.mem_cons_of_mem _ hd)
  have hfit : Fit s := fun {y c} hc i hi => by
    obtain ⟨ha, rfl⟩ := Array.getElem?_eq_some_iff.mp hc
    have q := List.all_eq_true.mp ((Array.all_eq_true_iff_forall_mem.mp hF) _ (Array.getElem_mem ha)) i (List.mem_range.mpr hi)
    simpa [Array.getElem?_eq_getElem hi] using q
  obtain ⟨i0, ei0⟩ := is_v g1b
  obtain rfl : w0 = (.int i0) := Option.some.inj ei0
  obtain ⟨k1a, k1b⟩ := and_e hn
  obtain ⟨k2a, k2b⟩ := and_e k1b
  obtain ⟨k3a, k3b⟩ := and_e k2b
  obtain ⟨k4a, k4b⟩ := and_e k3b
  obtain ⟨k5a, k5b⟩ := and_e k4b
  obtain ⟨k6a, k6b⟩ := and_e k5b
  obtain ⟨k7a, k7b⟩ := and_e k6b
  obtain ⟨w_READ_UNCOMMITTED, ev_READ_UNCOMMITTED⟩ := exa_v k1a
  obtain ⟨w_REPEATABLE_READ, ev_REPEATABLE_READ⟩ := exa_v k2a
  obtain ⟨w_SERIALIZABLE, ev_SERIALIZABLE⟩ := exa_v k5a
  obtain ⟨w_READ_COMMITTED, ev_READ_COMMITTED⟩ := exa_v k7a
  obtain ⟨n, o, h1, h2, h3, _, L, rfl, ⟨rfl, N⟩, hq⟩ := rm_law l s _ hw tables_1 w_READ_UNCOMMITTED w_REPEATABLE_READ w_SERIALIZABLE w_READ_COMMITTED i0 s.heap s.heap.size (Nat.le_refl _) ⟨Sta.start ev_READ_UNCOMMITTED (Or.inr ⟨(ww5 hw), (ww6 hw)⟩), Exa.start ev_READ_UNCOMMITTED k1a, Sta.start ev_REPEATABLE_READ (Or.inr ⟨(ww5 hw), (ww13 hw)⟩), Exa.start ev_REPEATABLE_READ k2a, Sta.start ev_SERIALIZABLE (Or.inr ⟨(ww5 hw), (ww15 hw)⟩), Exa.start ev_SERIALIZABLE k5a, Sta.start ev_READ_COMMITTED (Or.inr ⟨(ww5 hw), (ww29 hw)⟩), Exa.start ev_READ_COMMITTED k7a, own_fldI ev_READ_UNCOMMITTED k3a, own_fldI ev_REPEATABLE_READ k4a, own_fldI ev_SERIALIZABLE k6a, own_fldI ev_READ_COMMITTED k7b⟩ (Old.start s)  p e ha hc hk s m _ below hf ((Spec.applies_iff_loose hf).mp happ).1 ⟨rfl, State.Warmed39.refl s, rfl⟩ trivial
  refine ⟨n, _, h1, h2, h3, hpost _ _ _ _ _ _ ⟨Cond.after_iff.mpr rfl, Cond.after_iff.mpr (eq_i res_at (Term.int_eval (1)) rfl), trivial⟩ ⟨hq.1, hq.2.1, (hq.2.2.sift fun y hy => Or.inr (N y hy)).mono (by decide) (by decide)⟩⟩
theorem main_1_1 : Claimed_1_1 := comes_1 fun _ _ _ _ _ _ h hF => ⟨h.1, hF⟩
theorem main_1_2 : Claimed_1_2 := comes_1 fun _ _ _ _ _ _ h hF => ⟨h.2.1, hF⟩
end Jvm.Pilot.@@N@@
namespace Jvm.Pilot.@@N@@
open Jvm Jvm.ClassFile Sem Op Lib Jvm.Free Jvm.Stand Jvm.Pilot.@@N@@.Jvm.D
/-! MADE BY PROGRAM (witnessworld.py) out of the Statement's table words and the real class files: 12 classes; the members and pool entries that the words name. The judged class is class 1, her method 2. -/
namespace start1
open Jvm.ClassFile
def u (s : String) : CpInfo := .utf8 (stringToUtf16 s)
/-- a pool by its gaps: so many unusable entries, then the entry; so many at the end -/
def gap : Nat → List CpInfo → List CpInfo
  | 0, r => r
  | n + 1, r => .unusable :: gap n r
def poolList (es : List (Nat × CpInfo)) (last : Nat) : List CpInfo := es.foldr (fun e r => gap e.1 (e.2 :: r)) (gap last [])
def pool (es : List (Nat × CpInfo)) (last : Nat) : Array CpInfo := ⟨poolList es last⟩
def fileOf (pool : Array CpInfo) (this : Nat) (attrs : Array Attribute := #[]) (ms : Array MethodInfo := #[]) (fl : Nat := 33) (sup : Nat := 0) (ifs : Array Nat := #[]) (fds : Array FieldInfo := #[]) : ClassFile where
  minorVersion := 0
  majorVersion := 65
  constantPool := pool
  accessFlags := fl
  thisClass := this
  superClass := sup
  interfaces := ifs
  fields := fds
  methods := ms
  attributes := attrs
def plain (name : String) (sup : Option ClassId) : Class where
  name := name
  kind := .ordinary
  loader := none
  accessFlags := 33
  super := sup
  interfaces := #[]
  cf := none
  fields := #[]
  methods := #[]
  instanceTypes := #[]
  staticTypes := #[]
  resolved := #[]
  callSites := []
  init := .initialized
  statics := none
  mirror := none

def pool0 : Array CpInfo := pool [(5, u "<init>"), (0, u "()V"), (1, .class_ 10), (1, u "java/lang/Object")] 113

def k0m0 : Method := { name := "<init>", desc := "()V", sig := { parameters := [], returnType := none }, accessFlags := 1, code := none }
/-- java/lang/Object -/
def k0 : Class := { plain "java/lang/Object" none with
  accessFlags := 33
  interfaces := #[]
  cf := some (fileOf pool0 8 #[] #[{ accessFlags := 1, nameIndex := 5, descriptorIndex := 6, attributes := #[] }] 33 0 #[] #[])
  fields := #[]
  methods := #[k0m0]
  instanceTypes := #[]
  staticTypes := #[]
  resolved := Array.replicate 124 none
  statics := none }

def pool1 : Array CpInfo := pool [(2, .class_ 4), (1, u "java/lang/Object"), (0, u "<init>"), (0, u "()V"), (0, .fieldref 8 9), (0, .class_ 10), (0, .nameAndType 11 12), (0, u "com/example/gapstone/gapstone/IsolationLevel"), (0, u "READ_UNCOMMITTED"), (0, u "Lcom/example/gapstone/gapstone/IsolationLevel;"), (0, .fieldref 8 14), (0, .nameAndType 15 12), (0, u "READ_COMMITTED"), (0, .fieldref 8 17), (0, .nameAndType 18 12), (0, u "REPEATABLE_READ"), (0, .fieldref 8 20), (0, .nameAndType 21 12), (0, u "SERIALIZABLE"), (0, .methodref 23 24), (0, .class_ 25), (0, .nameAndType 26 27), (0, u "com/example/gapstone/gapstone/IsolationLevelLocksGapsPinLaw"), (0, u "pick"), (0, u "(I)Lcom/example/gapstone/gapstone/IsolationLevel;"), (0, .methodref 8 29), (0, .nameAndType 30 31), (0, u "locksGaps"), (0, u "()Z"), (0, .methodref 8 33), (0, .nameAndType 34 31), (0, u "keepsView"), (0, .methodref 8 36), (0, .nameAndType 37 31), (0, u "sharesPlainReads"), (3, u "law"), (0, u "(I)Z")] 2

def k1m0 : Method := { name := "<init>", desc := "()V", sig := { parameters := [], returnType := none }, accessFlags := 2, code := none }
def k1c1 : Code := { maxStack := 2, maxLocals := 1, code := method_2_code, exceptionTable := #[], attributes := #[] }
def k1m1 : Method := { name := "pick", desc := "(I)Lcom/example/gapstone/gapstone/IsolationLevel;", sig := { parameters := [.int], returnType := some (.object "com/example/gapstone/gapstone/IsolationLevel") }, accessFlags := 10, code := some k1c1 }
def k1c2 : Code := { maxStack := 2, maxLocals := 6, code := code, exceptionTable := #[], attributes := #[] }
def k1m2 : Method := { name := "law", desc := "(I)Z", sig := { parameters := [.int], returnType := some .boolean }, accessFlags := 9, code := some k1c2 }
/-- com/example/gapstone/gapstone/IsolationLevelLocksGapsPinLaw -/
def k1 : Class := { plain "com/example/gapstone/gapstone/IsolationLevelLocksGapsPinLaw" (some 0) with
  accessFlags := 49
  interfaces := #[]
  cf := some (fileOf pool1 23 #[] #[{ accessFlags := 2, nameIndex := 5, descriptorIndex := 6, attributes := #[] }, { accessFlags := 10, nameIndex := 26, descriptorIndex := 27, attributes := #[] }, { accessFlags := 9, nameIndex := 41, descriptorIndex := 42, attributes := #[] }] 49 2 #[] #[])
  fields := #[]
  methods := #[k1m0, k1m1, k1m2]
  instanceTypes := #[]
  staticTypes := #[]
  resolved := Array.replicate 45 none
  statics := none }

def pool2 : Array CpInfo := pool [(1, .class_ 2), (0, u "java/lang/constant/Constable"), (0, .class_ 4), (0, u "java/lang/Object")] 6

/-- java/lang/constant/Constable -/
def k2 : Class := { plain "java/lang/constant/Constable" (some 0) with
  accessFlags := 1537
  interfaces := #[]
  cf := some (fileOf pool2 1 #[] #[] 1537 3 #[] #[])
  fields := #[]
  methods := #[]
  instanceTypes := #[]
  staticTypes := #[]
  resolved := Array.replicate 11 none
  statics := none }

def pool3 : Array CpInfo := pool [(1, .class_ 2), (0, u "java/lang/Comparable"), (0, .class_ 4), (0, u "java/lang/Object")] 7

/-- java/lang/Comparable -/
def k3 : Class := { plain "java/lang/Comparable" (some 0) with
  accessFlags := 1537
  interfaces := #[]
  cf := some (fileOf pool3 1 #[] #[] 1537 3 #[] #[])
  fields := #[]
  methods := #[]
  instanceTypes := #[]
  staticTypes := #[]
  resolved := Array.replicate 12 none
  statics := none }

def pool4 : Array CpInfo := pool [(1, .class_ 2), (0, u "java/io/Serializable"), (0, .class_ 4), (0, u "java/lang/Object")] 2

/-- java/io/Serializable -/
def k4 : Class := { plain "java/io/Serializable" (some 0) with
  accessFlags := 1537
  interfaces := #[]
  cf := some (fileOf pool4 1 #[] #[] 1537 3 #[] #[])
  fields := #[]
  methods := #[]
  instanceTypes := #[]
  staticTypes := #[]
  resolved := Array.replicate 7 none
  statics := none }

def pool5 : Array CpInfo := pool [(2, .class_ 4), (1, u "java/lang/Enum"), (0, u "name"), (0, u "Ljava/lang/String;"), (2, u "ordinal"), (0, u "I"), (1, .class_ 14), (1, u "java/lang/Object"), (4, u "hash"), (86, .class_ 108), (1, u "java/lang/Enum$EnumDesc"), (2, .class_ 112), (0, u "java/lang/constant/Constable"), (0, .class_ 114), (0, u "java/lang/Comparable"), (0, .class_ 116), (0, u "java/io/Serializable")] 87

/-- java/lang/Enum -/
def k5 : Class := { plain "java/lang/Enum" (some 0) with
  accessFlags := 1057
  interfaces := #[2, 3, 4]
  cf := some (fileOf pool5 2 #[.nestMembers #[106]] #[] 1057 12 #[111, 113, 115] #[{ accessFlags := 18, nameIndex := 5, descriptorIndex := 6, attributes := #[] }, { accessFlags := 18, nameIndex := 9, descriptorIndex := 10, attributes := #[] }, { accessFlags := 2, nameIndex := 19, descriptorIndex := 10, attributes := #[] }])
  fields := #[{ name := "name", type := (.object "java/lang/String"), accessFlags := 18, slot := 0, constantValue := 0 }, { name := "ordinal", type := .int, accessFlags := 18, slot := 1, constantValue := 0 }, { name := "hash", type := .int, accessFlags := 2, slot := 2, constantValue := 0 }]
  methods := #[]
  instanceTypes := #[(.object "java/lang/String"), .int, .int]
  staticTypes := #[]
  resolved := Array.replicate 204 none
  statics := none }

def pool6 : Array CpInfo := pool [(1, .class_ 2), (0, u "com/example/gapstone/gapstone/IsolationLevel"), (2, u "READ_UNCOMMITTED"), (0, u "Lcom/example/gapstone/gapstone/IsolationLevel;"), (2, u "READ_COMMITTED"), (0, .fieldref 1 11), (0, .nameAndType 12 6), (0, u "REPEATABLE_READ"), (0, .fieldref 1 14), (0, .nameAndType 15 6), (0, u "SERIALIZABLE"), (2, u "$VALUES"), (0, u "[Lcom/example/gapstone/gapstone/IsolationLevel;"), (6, .class_ 28), (1, u "java/lang/Enum"), (22, u "keepsView"), (0, u "()Z"), (1, u "sharesPlainReads"), (0, u "locksGaps")] 4

def k6c0 : Code := { maxStack := 2, maxLocals := 1, code := prog_19_method_4_code, exceptionTable := #[], attributes := #[] }
def k6m0 : Method := { name := "keepsView", desc := "()Z", sig := { parameters := [], returnType := some .boolean }, accessFlags := 0, code := some k6c0 }
def k6c1 : Code := { maxStack := 2, maxLocals := 1, code := prog_19_method_5_code, exceptionTable := #[], attributes := #[] }
def k6m1 : Method := { name := "sharesPlainReads", desc := "()Z", sig := { parameters := [], returnType := some .boolean }, accessFlags := 0, code := some k6c1 }
def k6c2 : Code := { maxStack := 2, maxLocals := 1, code := prog_19_method_6_code, exceptionTable := #[], attributes := #[] }
def k6m2 : Method := { name := "locksGaps", desc := "()Z", sig := { parameters := [], returnType := some .boolean }, accessFlags := 0, code := some k6c2 }
/-- com/example/gapstone/gapstone/IsolationLevel -/
def k6 : Class := { plain "com/example/gapstone/gapstone/IsolationLevel" (some 5) with
  accessFlags := 16432
  interfaces := #[]
  cf := some (fileOf pool6 1 #[] #[{ accessFlags := 0, nameIndex := 51, descriptorIndex := 52, attributes := #[] }, { accessFlags := 0, nameIndex := 54, descriptorIndex := 52, attributes := #[] }, { accessFlags := 0, nameIndex := 55, descriptorIndex := 52, attributes := #[] }] 16432 26 #[] #[{ accessFlags := 16409, nameIndex := 5, descriptorIndex := 6, attributes := #[] }, { accessFlags := 16409, nameIndex := 9, descriptorIndex := 6, attributes := #[] }, { accessFlags := 16409, nameIndex := 12, descriptorIndex := 6, attributes := #[] }, { accessFlags := 16409, nameIndex := 15, descriptorIndex := 6, attributes := #[] }, { accessFlags := 4122, nameIndex := 18, descriptorIndex := 19, attributes := #[] }])
  fields := #[{ name := "READ_UNCOMMITTED", type := (.object "com/example/gapstone/gapstone/IsolationLevel"), accessFlags := 16409, slot := 0, constantValue := 0 }, { name := "READ_COMMITTED", type := (.object "com/example/gapstone/gapstone/IsolationLevel"), accessFlags := 16409, slot := 1, constantValue := 0 }, { name := "REPEATABLE_READ", type := (.object "com/example/gapstone/gapstone/IsolationLevel"), accessFlags := 16409, slot := 2, constantValue := 0 }, { name := "SERIALIZABLE", type := (.object "com/example/gapstone/gapstone/IsolationLevel"), accessFlags := 16409, slot := 3, constantValue := 0 }, { name := "$VALUES", type := (.array (.object "com/example/gapstone/gapstone/IsolationLevel")), accessFlags := 4122, slot := 4, constantValue := 0 }]
  methods := #[k6m0, k6m1, k6m2]
  instanceTypes := #[(.object "java/lang/String"), .int, .int]
  staticTypes := #[(.object "com/example/gapstone/gapstone/IsolationLevel"), (.object "com/example/gapstone/gapstone/IsolationLevel"), (.object "com/example/gapstone/gapstone/IsolationLevel"), (.object "com/example/gapstone/gapstone/IsolationLevel"), (.array (.object "com/example/gapstone/gapstone/IsolationLevel"))]
  resolved := Array.replicate 60 none
  statics := some 0 }

def pool7 : Array CpInfo := pool [(1, u "java/lang/Cloneable"), (0, .class_ 1), (0, u "java/lang/Object"), (0, .class_ 3)] 3

/-- java/lang/Cloneable -/
def k7 : Class := { plain "java/lang/Cloneable" (some 0) with
  accessFlags := 1537
  interfaces := #[]
  cf := some (fileOf pool7 2 #[] #[] 1537 4 #[] #[])
  fields := #[]
  methods := #[]
  instanceTypes := #[]
  staticTypes := #[]
  resolved := Array.replicate 8 none
  statics := none }

/-- the primitive byte -/
def k8 : Class := { plain "byte" none with kind := .primitive 'B', accessFlags := 0x411 }
/-- [B -/
def k9 : Class := { plain "[B" (some 0) with kind := .array 8 .byte, interfaces := #[7, 4], accessFlags := 1041 }

/-- the primitive int -/
def k10 : Class := { plain "int" none with kind := .primitive 'I', accessFlags := 0x411 }
/-- [I -/
def k11 : Class := { plain "[I" (some 0) with kind := .array 10 .int, interfaces := #[7, 4], accessFlags := 1041 }

def heap : Heap := #[{ cls := 6, slots := #[.ref 1, .ref 4, .ref 2, .ref 3, .null], vm := .statics 6 },
  { cls := 6, slots := #[.null, .int 0, .int 0], vm := .none },
  { cls := 6, slots := #[.null, .int 2, .int 0], vm := .none },
  { cls := 6, slots := #[.null, .int 3, .int 0], vm := .none },
  { cls := 6, slots := #[.null, .int 1, .int 0], vm := .none }]
def classes : Array Class := #[k0, k1, k2, k3, k4, k5, k6, k7, k8, k9, k10, k11]
def interned : List (Array UInt16 × Addr) := []
def slotsUsed : Nat := 17
def theMethod : MethodId := ⟨1, 2⟩
def args0 : Array Value := #[.int 4]
def aboutOver (below : List Frame) : State where
  vm := { classes := classes, interned := interned.toArray }
  heap := heap
  slotsUsed := slotsUsed
  threads := #[{ frames := .invoking theMethod args0 :: below }]
def below0 : List Frame := [.native { method := ⟨0, 0⟩, args := #[] }]
def about1 : State := aboutOver below0
def p0 : Program := .bare "" "" ""
def e0 : Env := launch0.env 0 0 0
theorem w_frames : about1.frames = Frame.invoking theMethod args0 :: below0 := rfl
set_option maxRecDepth 65536 in
theorem w_args : argsFit about1.vm theMethod args0 = true := by decide +kernel
set_option maxRecDepth 65536 in
theorem w_heap : heapFits about1 = true := by decide +kernel
set_option maxRecDepth 65536 in
theorem w_runnable : about1.curStatus? = some .runnable := by decide +kernel
set_option maxRecDepth 65536 in
theorem w_alone : about1.alone = true := by decide +kernel
set_option maxRecDepth 65536 in
theorem w_named : about1.methodNamed? x = some theMethod := by decide +kernel
set_option maxRecDepth 65536 in
theorem w_hears : about1.hears theMethod below0 = true := by decide +kernel
set_option maxRecDepth 65536 in
theorem w_ripe : about1.ripe theMethod args0 below0 = true := by decide +kernel
theorem w_running : about1.status = .running := rfl
set_option maxRecDepth 65536 in
theorem w_room : about1.hasRoom e0.platform room_1 = true :=
  launch0.hasRoom_least _ room_1 (by decide +kernel) (by decide +kernel) (by decide +kernel) (by decide +kernel) (by decide +kernel) (by decide +kernel)
theorem allAtoms_all (ts : List Jvm.Cond) (a : Array Jvm.Value) (st : Jvm.State) : (allAtoms ts).before a st = ts.all (fun c => c.before a st) := by
  induction ts with
  | nil => rfl
  | cons c t ih =>
    show (Jvm.Cond.and c (allAtoms t)).before a st = _
    rw [Jvm.Cond.before_and, ih, List.all_cons]
def words1 : List Jvm.Cond := Jvm.Cond.code x code maxLocals ret :: tables_1
/-- a 'code' word, met by the world's own term for the bytes: nothing is compared byte by byte -/
theorem code_word {y : MethodName} {bytes : ByteArray} {mx : Nat} {rt : Option FieldType} {a : Array Value} {s : State} {m : MethodId} {meth : Method} {c : Code} (h1 : s.methodNamed? y = some m) (h2 : s.vm.method? m = some meth) (h3 : meth.code = some c) (h4 : c.code = bytes)
    (h5 : (c.maxLocals == mx && c.exceptionTable.isEmpty && decide (c.maxStack ≤ mostOperands) && decide (meth.sig.returnType = rt) && !meth.locks && decide (parseMethodDescriptor y.desc = some meth.sig)) = true) : (Jvm.Cond.code y bytes mx rt).before a s = true := by
  simp only [Bool.and_eq_true, beq_iff_eq, Bool.not_eq_true', decide_eq_true_eq] at h5
  obtain ⟨⟨⟨⟨⟨g1, g2⟩, g3⟩, g4⟩, g5⟩, g6⟩ := h5
  simp [Cond.before, Cond.holds, Cond.value, h1, h2, h3, h4, g1, g2, g3, g4, g5, g6]
def isCode : Jvm.Cond → Bool
  | .code _ _ _ _ => true
  | _ => false
theorem all_split {L : List Jvm.Cond} {P : Jvm.Cond → Bool} (h1 : L.all (fun c => isCode c || P c) = true) (h2 : ∀ c ∈ L.filter isCode, P c = true) : L.all P = true := by
  refine List.all_eq_true.mpr fun c hc => ?_
  have h := List.all_eq_true.mp h1 c hc
  rcases Bool.eq_false_or_eq_true (isCode c) with hi | hi
  · exact h2 c (List.mem_filter.mpr ⟨hc, hi⟩)
  · simpa [hi] using h
set_option maxRecDepth 65536 in
theorem w_c0 : (Jvm.Cond.code x code maxLocals ret).before args0 about1 = true := code_word (m := ⟨1, 2⟩) (meth := k1m2) (c := k1c2) (by decide +kernel) rfl rfl rfl (by decide +kernel)
set_option maxRecDepth 65536 in
theorem w_c1 : (Jvm.Cond.code ({ cls := "com/example/gapstone/gapstone/IsolationLevelLocksGapsPinLaw", name := "pick", desc := "(I)Lcom/example/gapstone/gapstone/IsolationLevel;" } : Jvm.MethodName) method_2_code (1 : Nat) (Option.some (Jvm.ClassFile.FieldType.object "com/example/gapstone/gapstone/IsolationLevel"))).before args0 about1 = true := code_word (m := ⟨1, 1⟩) (meth := k1m1) (c := k1c1) (by decide +kernel) rfl rfl rfl (by decide +kernel)
set_option maxRecDepth 65536 in
theorem w_c2 : (Jvm.Cond.code ({ cls := "com/example/gapstone/gapstone/IsolationLevel", name := "locksGaps", desc := "()Z" } : Jvm.MethodName) prog_19_method_6_code (1 : Nat) (Option.some Jvm.ClassFile.FieldType.boolean)).before args0 about1 = true := code_word (m := ⟨6, 2⟩) (meth := k6m2) (c := k6c2) (by decide +kernel) rfl rfl rfl (by decide +kernel)
set_option maxRecDepth 65536 in
theorem w_c3 : (Jvm.Cond.code ({ cls := "com/example/gapstone/gapstone/IsolationLevel", name := "keepsView", desc := "()Z" } : Jvm.MethodName) prog_19_method_4_code (1 : Nat) (Option.some Jvm.ClassFile.FieldType.boolean)).before args0 about1 = true := code_word (m := ⟨6, 0⟩) (meth := k6m0) (c := k6c0) (by decide +kernel) rfl rfl rfl (by decide +kernel)
set_option maxRecDepth 65536 in
theorem w_c4 : (Jvm.Cond.code ({ cls := "com/example/gapstone/gapstone/IsolationLevel", name := "sharesPlainReads", desc := "()Z" } : Jvm.MethodName) prog_19_method_5_code (1 : Nat) (Option.some Jvm.ClassFile.FieldType.boolean)).before args0 about1 = true := code_word (m := ⟨6, 1⟩) (meth := k6m1) (c := k6c1) (by decide +kernel) rfl rfl rfl (by decide +kernel)
def codes1 : List Jvm.Cond := [Jvm.Cond.code x code maxLocals ret, Jvm.Cond.code ({ cls := "com/example/gapstone/gapstone/IsolationLevelLocksGapsPinLaw", name := "pick", desc := "(I)Lcom/example/gapstone/gapstone/IsolationLevel;" } : Jvm.MethodName) method_2_code (1 : Nat) (Option.some (Jvm.ClassFile.FieldType.object "com/example/gapstone/gapstone/IsolationLevel")), Jvm.Cond.code ({ cls := "com/example/gapstone/gapstone/IsolationLevel", name := "locksGaps", desc := "()Z" } : Jvm.MethodName) prog_19_method_6_code (1 : Nat) (Option.some Jvm.ClassFile.FieldType.boolean), Jvm.Cond.code ({ cls := "com/example/gapstone/gapstone/IsolationLevel", name := "keepsView", desc := "()Z" } : Jvm.MethodName) prog_19_method_4_code (1 : Nat) (Option.some Jvm.ClassFile.FieldType.boolean), Jvm.Cond.code ({ cls := "com/example/gapstone/gapstone/IsolationLevel", name := "sharesPlainReads", desc := "()Z" } : Jvm.MethodName) prog_19_method_5_code (1 : Nat) (Option.some Jvm.ClassFile.FieldType.boolean)]
set_option maxRecDepth 65536 in
theorem codes_eq : words1.filter isCode = codes1 := rfl
theorem w_codes : ∀ c ∈ words1.filter isCode, c.before args0 about1 = true := by
  rw [codes_eq]
  intro c hc
  simp only [codes1, List.mem_cons, List.not_mem_nil, or_false] at hc
  rcases hc with rfl | rfl | rfl | rfl | rfl
  · exact w_c0
  · exact w_c1
  · exact w_c2
  · exact w_c3
  · exact w_c4
set_option maxRecDepth 65536 in
theorem w_t1 : (words1.take 24).all (fun c => isCode c || c.before args0 about1) = true := by decide +kernel
set_option maxRecDepth 65536 in
theorem w_t2 : (words1.drop 24).all (fun c => isCode c || c.before args0 about1) = true := by decide +kernel
theorem w_tables : (allAtoms (Jvm.Cond.code x code maxLocals ret :: tables_1)).before args0 about1 = true := by
  rw [allAtoms_all]
  show words1.all (fun c => c.before args0 about1) = true
  refine all_split ?_ w_codes
  rw [← List.take_append_drop 24 words1, List.all_append, w_t1, w_t2]
  rfl
set_option maxRecDepth 65536 in
theorem w_case : (Jvm.Cond.and given_1 narrow_1).before args0 about1 = true := by decide +kernel
theorem w_applies : (headSpec (Jvm.Cond.code x code maxLocals ret :: tables_1) room_1).applies x e0.platform about1 = true :=
  (Spec.applies_iff w_frames).mpr ⟨w_running, w_runnable, w_alone, w_named, w_hears, w_ripe, w_room, w_tables⟩
theorem atStart : AtStart classFile x code maxLocals ret World_1 tables_1 room_1 Calls_1 rest_1 Pre_1 launch0 p0 e0 about1 theMethod args0 below0 :=
  ⟨lists_1, trivial, launch0.admits_env _ _ _, launch0.least_env, fairChoices_fair.cas, fairChoices_fair.clock, w_frames, w_args, w_heap, w_applies, trivial, trivial, w_case⟩
end start1
theorem witness_1 : WitnessClaimed_1 := ⟨start1.p0, start1.e0, start1.about1, start1.theMethod, start1.args0, start1.below0, start1.atStart⟩
end Jvm.Pilot.@@N@@
