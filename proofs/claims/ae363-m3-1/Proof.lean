import JvmDerived
import JvmDerived.Pilot.@@N@@Statement
import JvmDerived.Pilot.@@N@@Code
set_option linter.unusedVariables false
set_option linter.unusedSimpArgs false
namespace Jvm.RoadKit
open Sem ClassFile Op Lib Jvm.Stand Jvm.Free Jvm.LawKit
section New
variable {p : Program} {l : Launch} {e : Env} {R : Room} {s : State} {m : MethodId} {args : Array Value} {below : List Frame} {meth : Method} {c : Code} {T : State} {locs : List Loc} {cells slots : Nat}
theorem retI (X : Stand p l e R s m args below meth c T locs cells slots) (hx : p.tables.exec = Jvm.exec) {pc : Nat} {Ls : Array Slot} {z : Int32} {rest : List Value} (hret : meth.sig.returnType = some .int) (hd : decode c.code pc = .ok (.ireturn, 1)) {fs : List Frame}
    (hl : ∀ (f : JFrame) (acts : List Action), f.method = m → f.locked = none → f.entered = [] → (doReturn e (T.setTop f) acts (some (.int z))).1 = T.setFrames fs) : Steps p.tables e below (T.setTop (mkF m pc Ls (.int z :: rest))) (T.setFrames fs) :=
  retOut X hx hret rfl (Or.inl ⟨rfl, Or.inl rfl, z, rfl⟩) hd hl
theorem retL (X : Stand p l e R s m args below meth c T locs cells slots) (hx : p.tables.exec = Jvm.exec) {pc : Nat} {Ls : Array Slot} {z : Int64} {rest : List Value} (hret : meth.sig.returnType = some .long) (hd : decode c.code pc = .ok (.lreturn, 1)) {fs : List Frame}
    (hl : ∀ (f : JFrame) (acts : List Action), f.method = m → f.locked = none → f.entered = [] → (doReturn e (T.setTop f) acts (some (.long z))).1 = T.setFrames fs) : Steps p.tables e below (T.setTop (mkF m pc Ls (.long z :: rest))) (T.setFrames fs) :=
  retOut X hx hret rfl (Or.inr (Or.inl ⟨rfl, rfl, z, rfl⟩)) hd hl
theorem own_retD (X : Stand p l e R s m args below meth c T locs cells slots) (hx : p.tables.exec = Jvm.exec) {pc : Nat} {Ls : Array Slot} {z : UInt64} {rest : List Value} (hret : meth.sig.returnType = some .double) (hd : decode c.code pc = .ok (.dreturn, 1)) {fs : List Frame}
    (hl : ∀ (f : JFrame) (acts : List Action), f.method = m → f.locked = none → f.entered = [] → (doReturn e (T.setTop f) acts (some (.double z))).1 = T.setFrames fs) : Steps p.tables e below (T.setTop (mkF m pc Ls (.double z :: rest))) (T.setFrames fs) :=
  retOut X hx hret rfl (Or.inr (Or.inr (Or.inl ⟨rfl, rfl, z, rfl⟩))) hd hl
theorem own_nar {t : FieldType} {w : Value} (ht : t.isReference = true) (hw : w.isRef = true) : narrow t w = w := by
  cases t <;> first | (cases ht; done) | (cases w <;> first | rfl | (cases hw; done))
theorem retA (X : Stand p l e R s m args below meth c T locs cells slots) (hx : p.tables.exec = Jvm.exec) {pc : Nat} {Ls : Array Slot} {w : Value} {t : FieldType} {rest : List Value} (hret : meth.sig.returnType = some t) (ht : t.isReference = true) (hw : w.isRef = true) (hd : decode c.code pc = .ok (.areturn, 1)) {fs : List Frame}
    (hl : ∀ (f : JFrame) (acts : List Action), f.method = m → f.locked = none → f.entered = [] → (doReturn e (T.setTop f) acts (some w)).1 = T.setFrames fs) : Steps p.tables e below (T.setTop (mkF m pc Ls (w :: rest))) (T.setFrames fs) :=
  retOut X hx hret (own_nar ht hw) (Or.inr (Or.inr (Or.inr (Or.inr ⟨rfl, ht, hw⟩)))) hd hl
/-- the rest of a walk, as a predicate on where it stands -/
theorem own_open (K N : Nat) (Q : Option Value → Heap → List Loc → Prop) (hlocks : meth.locks = false) :
    ∃ G : State → JFrame → Prop,
      (∀ {T T' : State} {g g' : JFrame}, (∀ t, Steps p.tables e below (T'.setTop g') t → Steps p.tables e below (T.setTop g) t) → G T' g' → G T g) ∧
      (∀ {T : State} {g : JFrame} {locs : List Loc} {cells slots : Nat} {v : Option Value} {h : Heap}, Stand p l e R s m args below meth c T locs cells slots → (meth.sig.returnType = none → v = none) →
        (∀ fs, (∀ (f : JFrame) (acts : List Action), f.method = m → f.locked = none → f.entered = [] → (doReturn e (T.setTop f) acts v).1 = T.setFrames fs) → Steps p.tables e below (T.setTop g) (T.setFrames fs)) → T.heap = h → Q v h locs → cells ≤ K → slots ≤ N → G T g) ∧
      (∀ {T : State} {g : JFrame}, G T g → ∃ t o, Steps p.tables e below (T.setTop g) t ∧ t.status = .running ∧ Ended t below o ∧ ∃ v L, o = .returned v ∧ Q v t.heap L ∧ FrameEnd s o t L K N) := by
  refine ⟨fun T g => ∃ t o, Steps p.tables e below (T.setTop g) t ∧ t.status = .running ∧ Ended t below o ∧ ∃ v L, o = .returned v ∧ Q v t.heap L ∧ FrameEnd s o t L K N, ?_, ?_, fun h => h⟩
  · intro T T' g g' hs hG
    obtain ⟨t, o, h1, h2⟩ := hG
    exact ⟨t, o, hs t h1, h2⟩
  · intro T g locs cells slots v h X hv hst hT hQ hk hn
    obtain ⟨fs, hr, hrun, hended, hW, hsame⟩ := X.leave hv hlocks
    exact ⟨_, _, hst fs hr, hrun, hended, v, locs, rfl, by show Q v T.heap locs; rw [hT]; exact hQ, ⟨_, rfl⟩, hW, hsame.mono hk hn⟩
theorem own_openW (K N : Nat) (Q : Option Value → Heap → List Loc → Prop) (hlocks : meth.locks = false) :
    ∃ G : State → JFrame → Prop,
      (∀ {T T' : State} {g g' : JFrame}, (∀ t, Steps p.tables e below (T'.setTop g') t → Steps p.tables e below (T.setTop g) t) → G T' g' → G T g) ∧
      (∀ {T : State} {g : JFrame} {locs : List Loc} {cells slots : Nat} {v : Option Value} {h : Heap} {vm0 : Vm} {k0 : Nat}, Stand p l e R (s.setVm vm0) m args below meth c T locs cells slots → s.Since vm0 k0 → k0 ≤ h.size → (meth.sig.returnType = none → v = none) →
        (∀ fs, (∀ (f : JFrame) (acts : List Action), f.method = m → f.locked = none → f.entered = [] → (doReturn e (T.setTop f) acts v).1 = T.setFrames fs) → Steps p.tables e below (T.setTop g) (T.setFrames fs)) → T.heap = h → Q v h locs → cells ≤ K → slots ≤ N → G T g) ∧
      (∀ {T : State} {g : JFrame}, G T g → ∃ t o, Steps p.tables e below (T.setTop g) t ∧ t.status = .running ∧ Ended t below o ∧ ∃ v L, o = .returned v ∧ Q v t.heap L ∧ ReturnedEndW s o t L K N) := by
  refine ⟨fun T g => ∃ t o, Steps p.tables e below (T.setTop g) t ∧ t.status = .running ∧ Ended t below o ∧ ∃ v L, o = .returned v ∧ Q v t.heap L ∧ ReturnedEndW s o t L K N, ?_, ?_, fun h => h⟩
  · intro T T' g g' hs hG
    obtain ⟨t, o, h1, h2⟩ := hG
    exact ⟨t, o, hs t h1, h2⟩
  · intro T g locs cells slots v h vm0 k0 X hS hk0 hv hst hT hQ hk hn
    obtain ⟨fs, hr, hrun, hended, hW⟩ := X.leaveW hS (by rw [hT]; exact hk0) hv hlocks
    exact ⟨_, _, hst fs hr, hrun, hended, v, locs, rfl, by show Q v T.heap locs; rw [hT]; exact hQ, hW.1, hW.2.1, hW.2.2.1, hW.2.2.2.mono hk hn⟩
theorem own_sl (a : Array Slot) : ∃ z, z = a := ⟨_, rfl⟩
theorem own_xlt {x y : Int32} : x < y ↔ x.toInt < y.toInt := Int32.lt_iff_toInt_lt
theorem own_xeq {x y : Int32} : x = y ↔ x.toInt = y.toInt := Int32.toInt_inj.symm
theorem own_xltL {x y : Int64} : x < y ↔ x.toInt < y.toInt := Int64.lt_iff_toInt_lt
theorem own_xeqL {x y : Int64} : x = y ↔ x.toInt = y.toInt := Int64.toInt_inj.symm
theorem own_old_le {Z : State} {n0 : Nat} {h : Heap} (O : Old Z n0 h) : n0 ≤ h.size := O.1 ▸ O.2.1
theorem own_oldne {Z : State} {n0 : Nat} {h : Heap} {a b : Addr} (O : Old Z n0 h) (q : a < Z.heap.size) (r : n0 ≤ b) : a ≠ b := O.ne q r
theorem own_fldI {Z : State} {args : Array Value} {t : Term} {C f d : String} {a : Addr} {k : Int32} (ht : t.eval args Z none [] Z = some (.ref a)) (h : (Cond.eq (.field t C f d) (.int k)).value args Z none Z [] = some true) : Fld Z Z.heap a C f d (.int k) := by
  refine Fld.start ?_
  rw [← fld_at (C := C) (n := f) (dd := d) ht]
  obtain ⟨x, y, h1, h2, h3, h4⟩ := cmp_v (Or.inl h)
  have h5 : y = .int k := Option.some.inj (h2.symm.trans (Term.int_eval k))
  subst h5
  obtain ⟨z, rfl⟩ := h4
  have := gotT (P := z = k) (by simp [Cond.value, h1, h2]) h
  rw [h1, this]
theorem own_fldD {Z : State} {args : Array Value} {t : Term} {C f d : String} {a : Addr} {k : Int64} {b : UInt64} (hb : k.toUInt64 = b) (ht : t.eval args Z none [] Z = some (.ref a)) (h : (Cond.eq (.field t C f d) (.op1 .bitsD (.long k))).value args Z none Z [] = some true) : Fld Z Z.heap a C f d (.double b) := by
  refine Fld.start ?_
  rw [← fld_at (C := C) (n := f) (dd := d) ht]
  obtain ⟨x, y, h1, h2, h3, h4⟩ := cmp_v (Or.inl h)
  have h5 : y = .double k.toUInt64 := Option.some.inj (h2.symm.trans rfl)
  subst h5
  obtain ⟨z, rfl⟩ := h4
  have := gotT (P := z = k.toUInt64) (by simp [Cond.value, h1, h2]) h
  rw [h1, this, hb]
theorem own_dnn {a b : UInt64} (ha : Jvm.Free.Fl.NoNaN64 a) (hb : FP.Core.DFin b) (hz : ¬ FP.Core.DZero b) : Jvm.Free.Fl.NoNaN64 (FP.ddiv a b) := by
  refine Jvm.Free.Fl.val64_no.mpr fun q => ?_
  have q2 := (FP.Core.quotient_nan FP.Core.b64 _ _).mp ((FP.Core.val64_ddiv a b).symm.trans q)
  rcases q2 with h | h | ⟨s, t, h1, h2⟩ | ⟨s, t, q, r, h1, h2⟩
  · exact Jvm.Free.Fl.val64_no.mp ha h
  · exact hb.ne_nan h
  · exact hb.ne_inf t h2
  · exact hz ⟨t, r, h2⟩
theorem own_i2dn (x : Int32) : Jvm.Free.Fl.NoNaN64 (FP.i2d x) := Jvm.Free.Fl.noNaN64_no.mpr (FP.Core.i2d_fin x).notNaN
theorem own_i2dz {x : Int32} (h : x ≠ 0) : ¬ FP.Core.DZero (FP.i2d x) := fun q => FP.Core.i2d_ne_zero h ((FP.Core.zero_bits2 _).mp q)
theorem own_and255 (x : Int32) : ¬ (x &&& (255 : Int32)) < 0 ∧ ¬ (255 : Int32) < (x &&& (255 : Int32)) := by
  have c1 := c_mask x (255 : Int32) 8 (by decide) (by decide)
  have q0 : (0 : Int32).toInt = 0 := by decide
  have q1 : (255 : Int32).toInt = 255 := by decide
  rw [own_xlt, own_xlt]
  omega
theorem own_l255 (x : Int64) : ¬ (x &&& (255 : Int64)).toInt32 < 0 ∧ ¬ (255 : Int32) < (x &&& (255 : Int64)).toInt32 := by
  have c1 := c_maskL x (255 : Int64) 8 (by decide) (by decide)
  have c2 := c_l2i (x &&& (255 : Int64))
  have r := rng32 (x &&& (255 : Int64)).toInt32
  have q0 : (0 : Int32).toInt = 0 := by decide
  have q1 : (255 : Int32).toInt = 255 := by decide
  rw [own_xlt, own_xlt]
  omega
theorem own_i2c {x : Int32} (h : ¬ x < 0 ∧ ¬ (255 : Int32) < x) : x.toUInt32.toUInt16.toUInt32.toInt32 = x := by
  have c1 := c_i2c x
  have q0 : (0 : Int32).toInt = 0 := by decide
  have q1 : (255 : Int32).toInt = 255 := by decide
  rw [own_xlt, own_xlt] at h
  rw [own_xeq]
  omega
theorem own_narc {x : Int32} (h : ¬ x < 0 ∧ ¬ (255 : Int32) < x) : nar .char x = x := own_i2c h
theorem own_nz {Z : State} {args : Array Value} {t : Term} {z : Int32} (ht : t.eval args Z none [] Z = some (.int z)) (h : (Cond.not (Cond.eq t (.int 0))).value args Z none Z [] = some true) : ¬ z = (0 : Int32) :=
  gotF (P := z = (0 : Int32)) (by simp [Cond.value, ht, Term.int_eval]) (not_v h)
theorem own_evI {Z : State} {args : Array Value} {u : Term} {k : Int32} (h : (Cond.eq u (.int k)).value args Z none Z [] = some true) : u.eval args Z none [] Z = some (.int k) := by
  obtain ⟨x, y, h1, h2, h3, h4⟩ := cmp_v (Or.inl h)
  have h5 : y = .int k := Option.some.inj (h2.symm.trans (Term.int_eval k))
  subst h5
  obtain ⟨z, rfl⟩ := h4
  have := gotT (P := z = k) (by simp [Cond.value, h1, h2]) h
  rw [h1, this]
theorem own_slotI {Z : State} {args : Array Value} {t : Term} {a : Addr} {i k : Int32} {cl : Cell} (ht : t.eval args Z none [] Z = some (.ref a)) (hc : Z.heap[a]? = some cl) (h : (Cond.eq (.elem t (.int i)) (.int k)).value args Z none Z [] = some true) : cl.slots[i.toNatClampNeg]? = some (.int k) :=
  (elem_in (own_evI h) ht (Term.int_eval i) hc).2
theorem own_lenI {Z : State} {args : Array Value} {t : Term} {a : Addr} {n : Int32} {cl : Cell} {ty : FieldType} (ht : t.eval args Z none [] Z = some (.ref a)) (A : Arr Z Z.heap a cl ty) (h : (Cond.eq (.length t) (.int n)).value args Z none Z [] = some true) : cl.slots.size < 2 ^ 31 ∧ cl.slots.size.toInt32 = n := by
  have hh := A.fin (Vm.Alike.refl _)
  have q := own_evI h
  simp only [Term.eval, ht, hh, Option.bind_eq_bind, Option.bind_some] at q
  split at q
  · rename_i hlt
    exact ⟨hlt, Value.int.inj (Option.some.inj q)⟩
  · cases q
theorem own_fldN {Z : State} {args : Array Value} {t : Term} {C f d : String} {a : Addr} (ht : t.eval args Z none [] Z = some (.ref a)) (h : (Cond.eq (.field t C f d) .null).value args Z none Z [] = some true) : Fld Z Z.heap a C f d .null := by
  refine Fld.start ?_
  rw [← fld_at (C := C) (n := f) (dd := d) ht]
  exact null_v h
theorem own_selpriv {Z s : State} {a0 args : Array Value} {y : MethodName} {n : Nat} (hZ : Z.Warmed39 s.vm) (wp : (Cond.privateMethod y).before a0 Z = true) (wi : (Cond.instanceMethod y).before a0 Z = true) (wk : (Cond.instantiable y.cls n).before a0 Z = true) (hy : y.cls ≠ "java/lang/invoke/MethodHandle" ∧ y.cls ≠ "java/lang/invoke/VarHandle") : (Cond.selects y.cls y y).before args s = true := by
  obtain ⟨c, k, h1, h2, -, h3, -⟩ := Cond.instantiable_spec (mv (s := s) (args := args) hZ wk)
  exact selects_self_of_private h1 h2 (Bool.or_eq_false_iff.mp h3).1 (Cond.privateMethod_at (mvP hZ wp (args := args))) (mv hZ wi) hy
theorem own_ne_arv {Z : State} {h : Heap} {a b : Addr} {C : String} {a0 : Array Value} {i : Nat} {k : ClassId} {ty : FieldType} {n : Int32} {vs : List Value} {dv : Value} (F : Exa Z h a C) (wi : (Cond.instantiable C i).before a0 Z = true) (V : Arv Z h b k ty n vs dv) : a ≠ b := by
  obtain ⟨cl, A, -⟩ := V
  exact ne_arr F wi A
theorem own_arr_keep {Z : State} {h h' : Heap} {a : Addr} {cl : Cell} {ty : FieldType} {ws : List Addr} (F : Arr Z h a cl ty) (K : Keep h h' ws) (q : a ∉ ws) : Arr Z h' a cl ty := ⟨K.2.1 a cl F.1 q, F.2⟩
section Arrays
variable {Z : State} {h : Heap} {a : Addr} {k : ClassId} {n : Int32} {vs : List Value} {dv : Value} {g : JFrame} {rest : List Value} {j : Int32} {v : Value}
theorem own_len {ty : FieldType} (X : Stand p l e R s m args below meth c T locs cells slots) (hx : p.tables.exec = Jvm.exec) (hZ : Z.Warmed39 s.vm) (eT : T.heap = h) (V : Arv Z h a k ty n vs dv) (hg : g.method = m) (hs : g.stack = .ref a :: rest) (hd : decode c.code g.pc = .ok (.arraylength, 1)) (target : State)
    (hr : Steps p.tables e below (T.setTop { g with pc := g.pc + 1, stack := .int n :: rest }) target) : Steps p.tables e below (T.setTop g) target := by
  obtain ⟨cl, A, -, S, N, -, -⟩ := V
  refine X.arraylength hx (by rw [eT]; exact A.1) (State.isArrayOf_alike hZ.alike A.2.1) hg hs hd target ?_
  rw [len_of S N]; exact hr
theorem own_ldI (X : Stand p l e R s m args below meth c T locs cells slots) (hx : p.tables.exec = Jvm.exec) (hZ : Z.Warmed39 s.vm) (eT : T.heap = h) (V : Arv Z h a k .int n vs dv) (hj : ¬ j < 0 ∧ j < n) (hv : vs.getD j.toNatClampNeg dv = v) (hg : g.method = m) (hs : g.stack = .int j :: .ref a :: rest) (hd : decode c.code g.pc = .ok (.iaload, 1)) (target : State)
    (hr : Steps p.tables e below (T.setTop { g with pc := g.pc + 1, stack := v :: rest }) target) : Steps p.tables e below (T.setTop g) target := by
  obtain ⟨cl, A, -, S, N, H, -⟩ := V
  have hin := inb_of S hj
  exact X.iaload hx (by rw [eT]; exact A.1) (State.isArrayOf_alike hZ.alike A.2.1) A.2.2 hin (H.at hin hv) hg hs hd target hr
theorem own_ldJ (X : Stand p l e R s m args below meth c T locs cells slots) (hx : p.tables.exec = Jvm.exec) (hZ : Z.Warmed39 s.vm) (eT : T.heap = h) (V : Arv Z h a k .long n vs dv) (hj : ¬ j < 0 ∧ j < n) (hv : vs.getD j.toNatClampNeg dv = v) (hg : g.method = m) (hs : g.stack = .int j :: .ref a :: rest) (hd : decode c.code g.pc = .ok (.laload, 1)) (target : State)
    (hr : Steps p.tables e below (T.setTop { g with pc := g.pc + 1, stack := v :: rest }) target) : Steps p.tables e below (T.setTop g) target := by
  obtain ⟨cl, A, -, S, N, H, -⟩ := V
  have hin := inb_of S hj
  exact X.laload hx (by rw [eT]; exact A.1) (State.isArrayOf_alike hZ.alike A.2.1) A.2.2 hin (H.at hin hv) hg hs hd target hr
theorem own_ldC (X : Stand p l e R s m args below meth c T locs cells slots) (hx : p.tables.exec = Jvm.exec) (hZ : Z.Warmed39 s.vm) (eT : T.heap = h) (V : Arv Z h a k .char n vs dv) (hj : ¬ j < 0 ∧ j < n) (hv : vs.getD j.toNatClampNeg dv = v) (hg : g.method = m) (hs : g.stack = .int j :: .ref a :: rest) (hd : decode c.code g.pc = .ok (.caload, 1)) (target : State)
    (hr : Steps p.tables e below (T.setTop { g with pc := g.pc + 1, stack := v :: rest }) target) : Steps p.tables e below (T.setTop g) target := by
  obtain ⟨cl, A, -, S, N, H, -⟩ := V
  have hin := inb_of S hj
  exact X.caload hx (by rw [eT]; exact A.1) (State.isArrayOf_alike hZ.alike A.2.1) A.2.2 hin (H.at hin hv) hg hs hd target hr
theorem own_ldB (X : Stand p l e R s m args below meth c T locs cells slots) (hx : p.tables.exec = Jvm.exec) (hZ : Z.Warmed39 s.vm) (eT : T.heap = h) (V : Arv Z h a k .byte n vs dv) (hj : ¬ j < 0 ∧ j < n) (hv : vs.getD j.toNatClampNeg dv = v) (hg : g.method = m) (hs : g.stack = .int j :: .ref a :: rest) (hd : decode c.code g.pc = .ok (.baload, 1)) (target : State)
    (hr : Steps p.tables e below (T.setTop { g with pc := g.pc + 1, stack := v :: rest }) target) : Steps p.tables e below (T.setTop g) target := by
  obtain ⟨cl, A, -, S, N, H, -⟩ := V
  have hin := inb_of S hj
  exact X.baloadBytes hx (by rw [eT]; exact A.1) (State.isArrayOf_alike hZ.alike A.2.1) A.2.2 hin (H.at hin hv) hg hs hd target hr
theorem own_ldR {ty : FieldType} (X : Stand p l e R s m args below meth c T locs cells slots) (hx : p.tables.exec = Jvm.exec) (hZ : Z.Warmed39 s.vm) (eT : T.heap = h) (V : Arv Z h a k ty n vs dv) (hj : ¬ j < 0 ∧ j < n) (hv : vs.getD j.toNatClampNeg dv = v) (hty : ty.isReference = true) (hg : g.method = m) (hs : g.stack = .int j :: .ref a :: rest) (hd : decode c.code g.pc = .ok (.aaload, 1)) (target : State)
    (hr : Steps p.tables e below (T.setTop { g with pc := g.pc + 1, stack := v :: rest }) target) : Steps p.tables e below (T.setTop g) target := by
  obtain ⟨cl, A, -, S, N, H, -⟩ := V
  have hin := inb_of S hj
  exact X.aaload hx (by rw [eT]; exact A.1) (State.isArrayOf_alike hZ.alike A.2.1) hty A.2.2 hin (H.at hin hv) hg hs hd target hr
theorem own_stI {x : Int32} (X : Stand p l e R s m args below meth c T locs cells slots) (hx : p.tables.exec = Jvm.exec) (hZ : Z.Warmed39 s.vm) (eT : T.heap = h) (V : Arv Z h a k .int n vs dv) (hj : ¬ j < 0 ∧ j < n) {i : Nat} (hji : j.toNatClampNeg = i) (hi : i < vs.length) (hg : g.method = m) (hs : g.stack = .int x :: .int j :: .ref a :: rest) (hd : decode c.code g.pc = .ok (.iastore, 1)) :
    ∃ T' h', Stand p l e R s m args below meth c T' (locs ++ [⟨a, j.toNatClampNeg⟩]) cells slots ∧ T'.heap = h' ∧ Wr h h' a j.toNatClampNeg (.int x) ∧ Arv Z h' a k .int n (vs.set i (.int x)) dv ∧ ∀ target, Steps p.tables e below (T'.setTop { g with pc := g.pc + 1, stack := rest }) target → Steps p.tables e below (T.setTop g) target := by
  obtain ⟨cl, A, q, S, N, H, Gf⟩ := V
  obtain ⟨T', h', X', e', W', st⟩ := stI X hx hZ eT A (inb_of S hj) hg hs hd
  exact ⟨T', h', X', e', W', Arv.set A q S N H Gf rfl W' i hji hi, st⟩
theorem own_stJ {x : Int64} (X : Stand p l e R s m args below meth c T locs cells slots) (hx : p.tables.exec = Jvm.exec) (hZ : Z.Warmed39 s.vm) (eT : T.heap = h) (V : Arv Z h a k .long n vs dv) (hj : ¬ j < 0 ∧ j < n) {i : Nat} (hji : j.toNatClampNeg = i) (hi : i < vs.length) (hg : g.method = m) (hs : g.stack = .long x :: .int j :: .ref a :: rest) (hd : decode c.code g.pc = .ok (.lastore, 1)) :
    ∃ T' h', Stand p l e R s m args below meth c T' (locs ++ [⟨a, j.toNatClampNeg⟩]) cells slots ∧ T'.heap = h' ∧ Wr h h' a j.toNatClampNeg (.long x) ∧ Arv Z h' a k .long n (vs.set i (.long x)) dv ∧ ∀ target, Steps p.tables e below (T'.setTop { g with pc := g.pc + 1, stack := rest }) target → Steps p.tables e below (T.setTop g) target := by
  obtain ⟨cl, A, q, S, N, H, Gf⟩ := V
  obtain ⟨T', h', X', e', W', st⟩ := stJ X hx hZ eT A (inb_of S hj) hg hs hd
  exact ⟨T', h', X', e', W', Arv.set A q S N H Gf rfl W' i hji hi, st⟩
theorem own_stC {x : Int32} (X : Stand p l e R s m args below meth c T locs cells slots) (hx : p.tables.exec = Jvm.exec) (hZ : Z.Warmed39 s.vm) (eT : T.heap = h) (V : Arv Z h a k .char n vs dv) (hj : ¬ j < 0 ∧ j < n) {i : Nat} (hji : j.toNatClampNeg = i) (hi : i < vs.length) (hg : g.method = m) (hs : g.stack = .int x :: .int j :: .ref a :: rest) (hd : decode c.code g.pc = .ok (.castore, 1)) :
    ∃ T' h', Stand p l e R s m args below meth c T' (locs ++ [⟨a, j.toNatClampNeg⟩]) cells slots ∧ T'.heap = h' ∧ Wr h h' a j.toNatClampNeg (.int (nar .char x)) ∧ Arv Z h' a k .char n (vs.set i (.int (nar .char x))) dv ∧ ∀ target, Steps p.tables e below (T'.setTop { g with pc := g.pc + 1, stack := rest }) target → Steps p.tables e below (T.setTop g) target := by
  obtain ⟨cl, A, q, S, N, H, Gf⟩ := V
  obtain ⟨T', h', X', e', W', st⟩ := stC X hx hZ eT A (inb_of S hj) hg hs hd
  exact ⟨T', h', X', e', W', Arv.set A q S N H Gf (fits_nar_char _) W' i hji hi, st⟩
theorem own_stB {x : Int32} (X : Stand p l e R s m args below meth c T locs cells slots) (hx : p.tables.exec = Jvm.exec) (hZ : Z.Warmed39 s.vm) (eT : T.heap = h) (V : Arv Z h a k .byte n vs dv) (hj : ¬ j < 0 ∧ j < n) {i : Nat} (hji : j.toNatClampNeg = i) (hi : i < vs.length) (hg : g.method = m) (hs : g.stack = .int x :: .int j :: .ref a :: rest) (hd : decode c.code g.pc = .ok (.bastore, 1)) :
    ∃ T' h', Stand p l e R s m args below meth c T' (locs ++ [⟨a, j.toNatClampNeg⟩]) cells slots ∧ T'.heap = h' ∧ Wr h h' a j.toNatClampNeg (.int (nar .byte x)) ∧ Arv Z h' a k .byte n (vs.set i (.int (nar .byte x))) dv ∧ ∀ target, Steps p.tables e below (T'.setTop { g with pc := g.pc + 1, stack := rest }) target → Steps p.tables e below (T.setTop g) target := by
  obtain ⟨cl, A, q, S, N, H, Gf⟩ := V
  obtain ⟨T', h', X', e', W', st⟩ := stB X hx hZ eT A (inb_of S hj) hg hs hd
  exact ⟨T', h', X', e', W', Arv.set A q S N H Gf (fits_nar_byte _) W' i hji hi, st⟩
theorem own_stR {K : String} (X : Stand p l e R s m args below meth c T locs cells slots) (hx : p.tables.exec = Jvm.exec) (hZ : Z.Warmed39 s.vm) (eT : T.heap = h) (V : Arv Z h a k (.object K) n vs dv) (hj : ¬ j < 0 ∧ j < n) {i : Nat} (hji : j.toNatClampNeg = i) (hi : i < vs.length) (hS : ∀ {cl : Cell}, Arr Z h a cl (.object K) → cl.cls = k → Sto Z h a v) (hg : g.method = m) (hs : g.stack = v :: .int j :: .ref a :: rest) (hd : decode c.code g.pc = .ok (.aastore, 1)) (hf : fits (.object K) v = true := by rfl) :
    ∃ T' h', Stand p l e R s m args below meth c T' (locs ++ [⟨a, j.toNatClampNeg⟩]) cells slots ∧ T'.heap = h' ∧ Wr h h' a j.toNatClampNeg v ∧ Arv Z h' a k (.object K) n (vs.set i v) dv ∧ ∀ target, Steps p.tables e below (T'.setTop { g with pc := g.pc + 1, stack := rest }) target → Steps p.tables e below (T.setTop g) target := by
  obtain ⟨cl, A, q, S, N, H, Gf⟩ := V
  obtain ⟨T', h', X', e', W', st⟩ := stR X hx hZ eT A (inb_of S hj) rfl (hS A q) hg hs hd
  exact ⟨T', h', X', e', W', Arv.set A q S N H Gf hf W' i hji hi, st⟩
end Arrays
end New
end Jvm.RoadKit
namespace Jvm.Pilot.@@N@@
open Jvm Jvm.ClassFile Sem Op Lib Jvm.Free Jvm.Stand Jvm.LawKit Jvm.RoadKit Bundle Jvm.Pilot.@@N@@.Jvm.D
abbrev cn_0 : String := "com/example/gapstone/gapstone/LockMode"
abbrev cn_1 : String := "Lcom/example/gapstone/gapstone/LockMode;"
abbrev cn_2 : String := "com/example/gapstone/gapstone/LockModeCompatibleWithPinLaw"
abbrev cn_3 : String := "(Lcom/example/gapstone/gapstone/LockMode;)Z"
def own_St (Z : State) (w_SHARED : Addr) (w_EXCLUSIVE : Addr) : Prop := (Sta Z Z.heap cn_0 "SHARED" cn_1 (.ref w_SHARED)) ∧ (Exa Z Z.heap w_SHARED cn_0) ∧ (Sta Z Z.heap cn_0 "EXCLUSIVE" cn_1 (.ref w_EXCLUSIVE)) ∧ (Exa Z Z.heap w_EXCLUSIVE cn_0) ∧ (Fld Z Z.heap w_EXCLUSIVE "java/lang/Enum" "ordinal" "I" (.int 1)) ∧ (Fld Z Z.heap w_SHARED "java/lang/Enum" "ordinal" "I" (.int 0))
theorem own_St.k0 {Z : State} {w_SHARED : Addr} {w_EXCLUSIVE : Addr} (ST : own_St Z w_SHARED w_EXCLUSIVE) : Sta Z Z.heap cn_0 "SHARED" cn_1 (.ref w_SHARED) := ST.1
theorem own_St.k1 {Z : State} {w_SHARED : Addr} {w_EXCLUSIVE : Addr} (ST : own_St Z w_SHARED w_EXCLUSIVE) : Exa Z Z.heap w_SHARED cn_0 := ST.2.1
theorem own_St.k2 {Z : State} {w_SHARED : Addr} {w_EXCLUSIVE : Addr} (ST : own_St Z w_SHARED w_EXCLUSIVE) : Sta Z Z.heap cn_0 "EXCLUSIVE" cn_1 (.ref w_EXCLUSIVE) := ST.2.2.1
theorem own_St.k3 {Z : State} {w_SHARED : Addr} {w_EXCLUSIVE : Addr} (ST : own_St Z w_SHARED w_EXCLUSIVE) : Exa Z Z.heap w_EXCLUSIVE cn_0 := ST.2.2.2.1
theorem own_St.k4 {Z : State} {w_SHARED : Addr} {w_EXCLUSIVE : Addr} (ST : own_St Z w_SHARED w_EXCLUSIVE) : Fld Z Z.heap w_EXCLUSIVE "java/lang/Enum" "ordinal" "I" (.int 1) := ST.2.2.2.2.1
theorem own_St.k5 {Z : State} {w_SHARED : Addr} {w_EXCLUSIVE : Addr} (ST : own_St Z w_SHARED w_EXCLUSIVE) : Fld Z Z.heap w_SHARED "java/lang/Enum" "ordinal" "I" (.int 0) := ST.2.2.2.2.2
theorem ww2 {Z : State} {a0 : Array Value} (hw : ∀ d ∈ tables_1, d.before a0 Z = true) : Jvm.Cond.before (Jvm.Cond.laysStatic cn_0 "SHARED" cn_1) a0 Z = true := hw _ (List.mem_of_getElem? (i := 2) rfl)
theorem ww1 {Z : State} {a0 : Array Value} (hw : ∀ d ∈ tables_1, d.before a0 Z = true) : Jvm.Cond.before (Jvm.Cond.initialized cn_0) a0 Z = true := hw _ (List.mem_of_getElem? (i := 1) rfl)
theorem ww4 {Z : State} {a0 : Array Value} (hw : ∀ d ∈ tables_1, d.before a0 Z = true) : Jvm.Cond.before (Jvm.Cond.laysStatic cn_0 "EXCLUSIVE" cn_1) a0 Z = true := hw _ (List.mem_of_getElem? (i := 4) rfl)
theorem d0_0 : decode prog_40_method_4_code 0 = .ok (.aload_n 0, 1) := by decide +kernel
theorem d0_1 : decode prog_40_method_4_code 1 = .ok (.getstatic 3, 3) := by decide +kernel
theorem ww10 {Z : State} {a0 : Array Value} (hw : ∀ d ∈ tables_1, d.before a0 Z = true) : Jvm.Cond.before (Jvm.Cond.fieldLink cn_0 (3 : Nat) cn_0 "SHARED" cn_1) a0 Z = true := hw _ (List.mem_of_getElem? (i := 10) rfl)
theorem d0_4 : decode prog_40_method_4_code 4 = .ok (.if_acmp .ne 14, 3) := by decide +kernel
theorem d0_7 : decode prog_40_method_4_code 7 = .ok (.aload_n 1, 1) := by decide +kernel
theorem d0_8 : decode prog_40_method_4_code 8 = .ok (.getstatic 3, 3) := by decide +kernel
theorem d0_11 : decode prog_40_method_4_code 11 = .ok (.if_acmp .ne 7, 3) := by decide +kernel
theorem d0_14 : decode prog_40_method_4_code 14 = .ok (.iconst 1, 1) := by decide +kernel
theorem d0_15 : decode prog_40_method_4_code 15 = .ok (.goto 4, 3) := by decide +kernel
theorem d0_19 : decode prog_40_method_4_code 19 = .ok (.ireturn, 1) := by decide +kernel
theorem d0_18 : decode prog_40_method_4_code 18 = .ok (.iconst 0, 1) := by decide +kernel
abbrev rr_com : Room := { frames := 0, cells := 0, slots := 0, locals := 0 }
abbrev y_0 : MethodName := ⟨cn_0, "compatibleWith", cn_3⟩
theorem pn_0 : plainName cn_0 = true := by first | (simp [plainName, overriddenIn]; done) | decide +kernel
theorem ef_com (m : MethodId) (o0 : Addr) (o1 : Addr) : entryFrame m #[(.ref o0), (.ref o1)] 2 = mkF m 0 #[.val (.ref o0), .val (.ref o1)] [] := by first | (simp [entryFrame, mkF, argsToLocals, Value.category]; done) | rfl
def f_com (w_SHARED : Addr) (w_EXCLUSIVE : Addr) (o0 : Addr) (o1 : Addr) : Int32 := (if o0 = w_SHARED then (if o1 = w_SHARED then (1 : Int32) else (0 : Int32)) else (0 : Int32))
def Q_com (Z : State) (w_SHARED : Addr) (w_EXCLUSIVE : Addr) (o0 : Addr) (o1 : Addr) (h0 : Heap) (n0 : Nat) (v : Option Value) (h : Heap) (L : List Loc) : Prop := v = some (.int (f_com w_SHARED w_EXCLUSIVE o0 o1)) ∧ Fr n0 L ∧ h = h0
set_option maxRecDepth 65536 in
set_option maxHeartbeats 40000000 in
theorem rm_com (l : Launch) (Z : State) (a0 : Array Value) (hw : ∀ d ∈ tables_1, d.before a0 Z = true) (ws : List Jvm.Cond) (w_SHARED : Addr) (w_EXCLUSIVE : Addr) (o0 : Addr) (o1 : Addr) (h0 : Heap) (n0 : Nat) (Z0 : n0 ≤ h0.size) (ST : own_St Z w_SHARED w_EXCLUSIVE) (O0 : Old Z n0 h0) :
    MetFree l y_0 (head1 (Jvm.Cond.code y_0 prog_40_method_4_code 2 (some .boolean) :: ws) rr_com) (fun a U => a = #[(.ref o0), (.ref o1)] ∧ Z.Warmed39 U.vm ∧ U.heap = h0) (fun _ _ _ _ _ => True) (fun _ U o U' => ∃ v L, o = .returned v ∧ Q_com Z w_SHARED w_EXCLUSIVE o0 o1 h0 n0 v U'.heap L ∧ FrameEnd U o U' L rr_com.cells rr_com.slots) := by
  refine MetFree.of_bodySF (plainFor_of_name pn_0) hisR ?_
  intro p e s m args below meth c s₁ Bd hml0 hP hK
  obtain ⟨rfl, hZ, hh⟩ := hP
  have hx := Bd.exec
  have hby := Bd.bytes
  have hml : c.maxLocals = 2 := hml0
  have hown : s.vm.findClass cn_0 = some m.cls := findClass_of_methodNamed Bd.named
  have hnm := (name_of_methodNamed Bd.named Bd.method).1
  have X0 : Stand p l e rr_com s m #[(.ref o0), (.ref o1)] below meth c s₁ [] 0 0 := Stand.of_body Bd
  have e0 : s₁.heap = h0 := by rw [← hh, Bd.state]; rfl
  have N0 := Fr.nil n0
  obtain ⟨G, step, ret, fin⟩ := own_open (p := p) (l := l) (e := e) (R := rr_com) (s := s) (m := m) (args := #[(.ref o0), (.ref o1)]) (below := below) (meth := meth) (c := c) (rr_com.cells) (rr_com.slots) (Q_com Z w_SHARED w_EXCLUSIVE o0 o1 h0 n0) Bd.notSynchronized
  refine fin (g := entryFrame m #[(.ref o0), (.ref o1)] 2) ?_
  rw [ef_com m o0 o1]
  show G s₁ (mkF m 0 #[.val (.ref o0), .val (.ref o1)] [])
  refine step (fun t k => XS.aloadN X0.here hx rfl (hb hby d0_0) rfl rfl k) ?_
  show G s₁ (mkF m 1 #[.val (.ref o0), .val (.ref o1)] [(.ref o0)])
  obtain ⟨T1, X1, e1, st1⟩ := getS2 X0 hx hZ hown (host := "") (Or.inl (ww10 hw)) Via.refl e0 (Sta.ext O0.2 ST.k0) (g := (mkF m 1 #[.val (.ref o0), .val (.ref o1)] [(.ref o0)])) rfl (hb hby d0_1)
  refine step st1 ?_
  show G T1 (mkF m 4 #[.val (.ref o0), .val (.ref o1)] [(.ref w_SHARED), (.ref o0)])
  by_cases hc2 : o0 = w_SHARED
  · skip
    refine step (fun t k => Jvm.RoadKit.acmp X1 hx rfl rfl rfl (pc0 := 4) (pc' := 7) (same := true) rfl (hb hby d0_4) rfl (decide_eq_true (congrArg Value.ref hc2)) (by decide) (by decide) k) ?_
    show G T1 (mkF m 7 #[.val (.ref o0), .val (.ref o1)] [])
    refine step (fun t k => XS.aloadN X1.here hx rfl (hb hby d0_7) rfl rfl k) ?_
    show G T1 (mkF m 8 #[.val (.ref o0), .val (.ref o1)] [(.ref o1)])
    obtain ⟨T3, X3, e3, st3⟩ := getS2 X1 hx hZ hown (host := "") (Or.inl (ww10 hw)) Via.refl e1 (Sta.ext O0.2 ST.k0) (g := (mkF m 8 #[.val (.ref o0), .val (.ref o1)] [(.ref o1)])) rfl (hb hby d0_8)
    refine step st3 ?_
    show G T3 (mkF m 11 #[.val (.ref o0), .val (.ref o1)] [(.ref w_SHARED), (.ref o1)])
    by_cases hc4 : o1 = w_SHARED
    · skip
      refine step (fun t k => Jvm.RoadKit.acmp X3 hx rfl rfl rfl (pc0 := 11) (pc' := 14) (same := true) rfl (hb hby d0_11) rfl (decide_eq_true (congrArg Value.ref hc4)) (by decide) (by decide) k) ?_
      show G T3 (mkF m 14 #[.val (.ref o0), .val (.ref o1)] [])
      refine step (fun t k => XS.iconst X3.here hx rfl (hb hby d0_14) k) ?_
      show G T3 (mkF m 15 #[.val (.ref o0), .val (.ref o1)] [(.int 1)])
      refine step (fun t k => XS.goto X3.here hx rfl (pc0 := 15) (pc' := 19) rfl (hb hby d0_15) (by decide) (by decide) k) ?_
      show G T3 (mkF m 19 #[.val (.ref o0), .val (.ref o1)] [(.int 1)])
      exact ret (v := some (.int 1)) X3 (fun h => by rw [Bd.returns] at h; cases h) (fun fs hr => retN X3 hx (t := .boolean) Bd.returns (by simp) (hb hby d0_19) hr) e3 ⟨by unfold f_com; rw [if_pos hc2, if_pos hc4], N0, rfl⟩ (by decide) (by decide)
    · skip
      refine step (fun t k => Jvm.RoadKit.acmp X3 hx rfl rfl rfl (pc0 := 11) (pc' := 18) (same := false) rfl (hb hby d0_11) rfl (decide_eq_false fun q => hc4 (Value.ref.inj q)) (by decide) (by decide) k) ?_
      show G T3 (mkF m 18 #[.val (.ref o0), .val (.ref o1)] [])
      refine step (fun t k => XS.iconst X3.here hx rfl (hb hby d0_18) k) ?_
      show G T3 (mkF m 19 #[.val (.ref o0), .val (.ref o1)] [(.int 0)])
      exact ret (v := some (.int 0)) X3 (fun h => by rw [Bd.returns] at h; cases h) (fun fs hr => retN X3 hx (t := .boolean) Bd.returns (by simp) (hb hby d0_19) hr) e3 ⟨by unfold f_com; rw [if_pos hc2, if_neg hc4], N0, rfl⟩ (by decide) (by decide)
  · skip
    refine step (fun t k => Jvm.RoadKit.acmp X1 hx rfl rfl rfl (pc0 := 4) (pc' := 18) (same := false) rfl (hb hby d0_4) rfl (decide_eq_false fun q => hc2 (Value.ref.inj q)) (by decide) (by decide) k) ?_
    show G T1 (mkF m 18 #[.val (.ref o0), .val (.ref o1)] [])
    refine step (fun t k => XS.iconst X1.here hx rfl (hb hby d0_18) k) ?_
    show G T1 (mkF m 19 #[.val (.ref o0), .val (.ref o1)] [(.int 0)])
    exact ret (v := some (.int 0)) X1 (fun h => by rw [Bd.returns] at h; cases h) (fun fs hr => retN X1 hx (t := .boolean) Bd.returns (by simp) (hb hby d0_19) hr) e1 ⟨by unfold f_com; rw [if_neg hc2], N0, rfl⟩ (by decide) (by decide)
theorem ww0 {Z : State} {a0 : Array Value} (hw : ∀ d ∈ tables_1, d.before a0 Z = true) : Jvm.Cond.before (Jvm.Cond.fieldLink cn_2 (7 : Nat) cn_0 "SHARED" cn_1) a0 Z = true := hw _ (List.mem_of_getElem? (i := 0) rfl)
theorem ww5 {Z : State} {a0 : Array Value} (hw : ∀ d ∈ tables_1, d.before a0 Z = true) : Jvm.Cond.before (Jvm.Cond.methodLink cn_2 (16 : Nat) ({ cls := cn_0, name := "compatibleWith", desc := cn_3 } : Jvm.MethodName)) a0 Z = true := hw _ (List.mem_of_getElem? (i := 5) rfl)
theorem ww8 {Z : State} {a0 : Array Value} (hw : ∀ d ∈ tables_1, d.before a0 Z = true) : Jvm.Cond.before (Jvm.Cond.selects cn_0 ({ cls := cn_0, name := "compatibleWith", desc := cn_3 } : Jvm.MethodName) ({ cls := cn_0, name := "compatibleWith", desc := cn_3 } : Jvm.MethodName)) a0 Z = true := hw _ (List.mem_of_getElem? (i := 8) rfl)
theorem ww9 {Z : State} {a0 : Array Value} (hw : ∀ d ∈ tables_1, d.before a0 Z = true) : Jvm.Cond.before (Jvm.Cond.code ({ cls := cn_0, name := "compatibleWith", desc := cn_3 } : Jvm.MethodName) prog_40_method_4_code (2 : Nat) (Option.some Jvm.ClassFile.FieldType.boolean)) a0 Z = true := hw _ (List.mem_of_getElem? (i := 9) rfl)
theorem pd_0 : parseMethodDescriptor cn_3 = some ⟨[(.object cn_0)], some .boolean⟩ := by decide +kernel
theorem ww6 {Z : State} {a0 : Array Value} (hw : ∀ d ∈ tables_1, d.before a0 Z = true) : Jvm.Cond.before (Jvm.Cond.declares ({ cls := cn_0, name := "compatibleWith", desc := cn_3 } : Jvm.MethodName)) a0 Z = true := hw _ (List.mem_of_getElem? (i := 6) rfl)
theorem ww7 {Z : State} {a0 : Array Value} (hw : ∀ d ∈ tables_1, d.before a0 Z = true) : Jvm.Cond.before (Jvm.Cond.instanceMethod ({ cls := cn_0, name := "compatibleWith", desc := cn_3 } : Jvm.MethodName)) a0 Z = true := hw _ (List.mem_of_getElem? (i := 7) rfl)
theorem ww3 {Z : State} {a0 : Array Value} (hw : ∀ d ∈ tables_1, d.before a0 Z = true) : Jvm.Cond.before (Jvm.Cond.fieldLink cn_2 (13 : Nat) cn_0 "EXCLUSIVE" cn_1) a0 Z = true := hw _ (List.mem_of_getElem? (i := 3) rfl)
abbrev y_1 : MethodName := ⟨cn_2, "law", "(II)Z"⟩
theorem pn_1 : plainName cn_2 = true := by first | (simp [plainName, overriddenIn]; done) | decide +kernel
theorem ef_law (m : MethodId) (p0 : Int32) (p1 : Int32) : entryFrame m #[(.int p0), (.int p1)] maxLocals = mkF m 0 #[.val (.int p0), .val (.int p1), .unset, .unset, .unset, .unset, .unset, .unset, .unset] [] := by first | (simp [entryFrame, mkF, argsToLocals, Value.category, maxLocals]; done) | rfl
def Q_law (Z : State) (w_SHARED : Addr) (w_EXCLUSIVE : Addr) (p0 : Int32) (p1 : Int32) (h0 : Heap) (n0 : Nat) (v : Option Value) (h : Heap) (L : List Loc) : Prop := v = some (.int 1) ∧ Fr n0 L
set_option maxRecDepth 65536 in
set_option maxHeartbeats 40000000 in
theorem rm_law (l : Launch) (Z : State) (a0 : Array Value) (hw : ∀ d ∈ tables_1, d.before a0 Z = true) (ws : List Jvm.Cond) (w_SHARED : Addr) (w_EXCLUSIVE : Addr) (p0 : Int32) (p1 : Int32) (h0 : Heap) (n0 : Nat) (Z0 : n0 ≤ h0.size) (ST : own_St Z w_SHARED w_EXCLUSIVE) (O0 : Old Z n0 h0) :
    MetFree l x (head1 (Jvm.Cond.code x code maxLocals ret :: ws) room_1) (fun a U => a = #[(.int p0), (.int p1)] ∧ Z.Warmed39 U.vm ∧ U.heap = h0) (fun _ _ _ _ _ => True) (fun _ U o U' => ∃ v L, o = .returned v ∧ Q_law Z w_SHARED w_EXCLUSIVE p0 p1 h0 n0 v U'.heap L ∧ FrameEnd U o U' L 0 0) := by
  refine MetFree.of_bodySF (plainFor_of_name pn_1) hisR ?_
  intro p e s m args below meth c s₁ Bd hml0 hP hK
  obtain ⟨rfl, hZ, hh⟩ := hP
  have hx := Bd.exec
  have hby := Bd.bytes
  have hml : c.maxLocals = 9 := hml0
  have hown : s.vm.findClass cn_2 = some m.cls := findClass_of_methodNamed Bd.named
  have hnm := (name_of_methodNamed Bd.named Bd.method).1
  have X0 : Stand p l e room_1 s m #[(.int p0), (.int p1)] below meth c s₁ [] 0 0 := Stand.of_body Bd
  have e0 : s₁.heap = h0 := by rw [← hh, Bd.state]; rfl
  have N0 := Fr.nil n0
  obtain ⟨G, step, ret, fin⟩ := own_open (p := p) (l := l) (e := e) (R := room_1) (s := s) (m := m) (args := #[(.int p0), (.int p1)]) (below := below) (meth := meth) (c := c) (0) (0) (Q_law Z w_SHARED w_EXCLUSIVE p0 p1 h0 n0) Bd.notSynchronized
  refine fin (g := entryFrame m #[(.int p0), (.int p1)] maxLocals) ?_
  rw [ef_law m p0 p1]
  obtain ⟨ls0, hls0⟩  := own_sl #[.val (.int p0), .val (.int p1), .unset, .unset, .unset, .unset, .unset, .unset, .unset]
  suffices hG0 : G s₁ (mkF m 0 ls0 []) by rw [hls0] at hG0; exact hG0
  show G s₁ (mkF m 0 ls0 [])
  refine step (fun t k => XS.iloadN X0.here hx rfl (hb hby at_0) (by rw [hls0]; rfl) k) ?_
  show G s₁ (mkF m 1 ls0 [(.int p0)])
  refine step (fun t k => XS.iconst X0.here hx rfl (hb hby at_1) k) ?_
  show G s₁ (mkF m 2 ls0 [(.int 1), (.int p0)])
  refine step (fun t k => XS.iand X0.here hx rfl (hb hby at_2) rfl k) ?_
  show G s₁ (mkF m 3 ls0 [(.int (p0 &&& (1 : Int32)))])
  by_cases hc1 : (p0 &&& (1 : Int32)) = (0 : Int32)
  · skip
    refine step (fun t k => XS.ifNo X0.here hx rfl (hb hby at_3) rfl ((if0 _ _).trans (teq hc1).2) k) ?_
    show G s₁ (mkF m 6 ls0 [])
    refine step (fun t k => XS.iconst X0.here hx rfl (hb hby at_6) k) ?_
    show G s₁ (mkF m 7 ls0 [(.int 1)])
    refine step (fun t k => XS.goto X0.here hx rfl (pc0 := 7) (pc' := 11) rfl (hb hby at_7) (by decide) (by decide) k) ?_
    show G s₁ (mkF m 11 ls0 [(.int 1)])
    obtain ⟨ls2, hls2⟩  := own_sl #[.val (.int p0), .val (.int p1), .val (.int 1), .unset, .unset, .unset, .unset, .unset, .unset]
    refine step (fun t k => XS.istoreN X0.here hx rfl (hb hby at_11) rfl (l' := ls2) (by rw [hls0, hls2]; rfl) k) ?_
    show G s₁ (mkF m 12 ls2 [])
    refine step (fun t k => XS.iloadN X0.here hx rfl (hb hby at_12) (by rw [hls2]; rfl) k) ?_
    show G s₁ (mkF m 13 ls2 [(.int p1)])
    refine step (fun t k => XS.iconst X0.here hx rfl (hb hby at_13) k) ?_
    show G s₁ (mkF m 14 ls2 [(.int 1), (.int p1)])
    refine step (fun t k => XS.iand X0.here hx rfl (hb hby at_14) rfl k) ?_
    show G s₁ (mkF m 15 ls2 [(.int (p1 &&& (1 : Int32)))])
    by_cases hc3 : (p1 &&& (1 : Int32)) = (0 : Int32)
    · skip
      refine step (fun t k => XS.ifNo X0.here hx rfl (hb hby at_15) rfl ((if0 _ _).trans (teq hc3).2) k) ?_
      show G s₁ (mkF m 18 ls2 [])
      refine step (fun t k => XS.iconst X0.here hx rfl (hb hby at_18) k) ?_
      show G s₁ (mkF m 19 ls2 [(.int 1)])
      refine step (fun t k => XS.goto X0.here hx rfl (pc0 := 19) (pc' := 23) rfl (hb hby at_19) (by decide) (by decide) k) ?_
      show G s₁ (mkF m 23 ls2 [(.int 1)])
      obtain ⟨ls4, hls4⟩  := own_sl #[.val (.int p0), .val (.int p1), .val (.int 1), .val (.int 1), .unset, .unset, .unset, .unset, .unset]
      refine step (fun t k => XS.istoreN X0.here hx rfl (hb hby at_23) rfl (l' := ls4) (by rw [hls2, hls4]; rfl) k) ?_
      show G s₁ (mkF m 24 ls4 [])
      refine step (fun t k => XS.iloadN X0.here hx rfl (hb hby at_24) (by rw [hls4]; rfl) k) ?_
      show G s₁ (mkF m 25 ls4 [(.int 1)])
      refine step (fun t k => XS.ifNo X0.here hx rfl (hb hby at_25) rfl ((if0 _ _).trans (feq (by decide : ¬ ((1 : Int32) = (0 : Int32)))).1) k) ?_
      show G s₁ (mkF m 28 ls4 [])
      obtain ⟨T5, X5, e5, st5⟩ := getS2 X0 hx hZ hown (host := "") (Or.inl (ww0 hw)) Via.refl e0 (Sta.ext O0.2 ST.k0) (g := (mkF m 28 ls4 [])) rfl (hb hby at_28)
      refine step st5 ?_
      show G T5 (mkF m 31 ls4 [(.ref w_SHARED)])
      refine step (fun t k => XS.goto X5.here hx rfl (pc0 := 31) (pc' := 37) rfl (hb hby at_31) (by decide) (by decide) k) ?_
      show G T5 (mkF m 37 ls4 [(.ref w_SHARED)])
      obtain ⟨ls6, hls6⟩  := own_sl #[.val (.int p0), .val (.int p1), .val (.int 1), .val (.int 1), .val (.ref w_SHARED), .unset, .unset, .unset, .unset]
      refine step (fun t k => XS.astore X5.here hx rfl (hb hby at_37) rfl rfl (l' := ls6) (by rw [hls4, hls6]; rfl) k) ?_
      show G T5 (mkF m 39 ls6 [])
      refine step (fun t k => XS.iloadN X5.here hx rfl (hb hby at_39) (by rw [hls6]; rfl) k) ?_
      show G T5 (mkF m 40 ls6 [(.int 1)])
      refine step (fun t k => XS.ifNo X5.here hx rfl (hb hby at_40) rfl ((if0 _ _).trans (feq (by decide : ¬ ((1 : Int32) = (0 : Int32)))).1) k) ?_
      show G T5 (mkF m 43 ls6 [])
      obtain ⟨T7, X7, e7, st7⟩ := getS2 X5 hx hZ hown (host := "") (Or.inl (ww0 hw)) Via.refl e5 (Sta.ext O0.2 ST.k0) (g := (mkF m 43 ls6 [])) rfl (hb hby at_43)
      refine step st7 ?_
      show G T7 (mkF m 46 ls6 [(.ref w_SHARED)])
      refine step (fun t k => XS.goto X7.here hx rfl (pc0 := 46) (pc' := 52) rfl (hb hby at_46) (by decide) (by decide) k) ?_
      show G T7 (mkF m 52 ls6 [(.ref w_SHARED)])
      obtain ⟨ls8, hls8⟩  := own_sl #[.val (.int p0), .val (.int p1), .val (.int 1), .val (.int 1), .val (.ref w_SHARED), .val (.ref w_SHARED), .unset, .unset, .unset]
      refine step (fun t k => XS.astore X7.here hx rfl (hb hby at_52) rfl rfl (l' := ls8) (by rw [hls6, hls8]; rfl) k) ?_
      show G T7 (mkF m 54 ls8 [])
      refine step (fun t k => XS.iloadN X7.here hx rfl (hb hby at_54) (by rw [hls8]; rfl) k) ?_
      show G T7 (mkF m 55 ls8 [(.int 1)])
      refine step (fun t k => XS.ifNo X7.here hx rfl (hb hby at_55) rfl ((if0 _ _).trans (feq (by decide : ¬ ((1 : Int32) = (0 : Int32)))).1) k) ?_
      show G T7 (mkF m 58 ls8 [])
      refine step (fun t k => XS.iloadN X7.here hx rfl (hb hby at_58) (by rw [hls8]; rfl) k) ?_
      show G T7 (mkF m 59 ls8 [(.int 1)])
      refine step (fun t k => XS.ifNo X7.here hx rfl (hb hby at_59) rfl ((if0 _ _).trans (feq (by decide : ¬ ((1 : Int32) = (0 : Int32)))).1) k) ?_
      show G T7 (mkF m 62 ls8 [])
      refine step (fun t k => XS.iconst X7.here hx rfl (hb hby at_62) k) ?_
      show G T7 (mkF m 63 ls8 [(.int 1)])
      obtain ⟨ls9, hls9⟩  := own_sl #[.val (.int p0), .val (.int p1), .val (.int 1), .val (.int 1), .val (.ref w_SHARED), .val (.ref w_SHARED), .val (.int 1), .unset, .unset]
      refine step (fun t k => XS.istore X7.here hx rfl (hb hby at_63) rfl (l' := ls9) (by rw [hls8, hls9]; rfl) k) ?_
      show G T7 (mkF m 65 ls9 [])
      refine step (fun t k => XS.goto X7.here hx rfl (pc0 := 65) (pc' := 77) rfl (hb hby at_65) (by decide) (by decide) k) ?_
      show G T7 (mkF m 77 ls9 [])
      refine step (fun t k => XS.aload X7.here hx rfl (hb hby at_77) (by rw [hls9]; rfl) rfl k) ?_
      show G T7 (mkF m 79 ls9 [(.ref w_SHARED)])
      refine step (fun t k => XS.aload X7.here hx rfl (hb hby at_79) (by rw [hls9]; rfl) rfl k) ?_
      show G T7 (mkF m 81 ls9 [(.ref w_SHARED), (.ref w_SHARED)])
      obtain ⟨cq10, kq10, q10a, q10b, q10c⟩ := isOf hZ e7 (Exa.ext O0.2 ST.k1)
      obtain ⟨_, _, ⟨T10, L10, k10, n10⟩, -, X10, ⟨Lc10, hQ10, l10, y10, z10⟩, st10⟩ := X7.virtualBack hx (y := y_0) (z := y_0) hown (mvT hZ (ww5 hw)) (mvT hZ (ww6 hw)) (notFace_of_selects (args := #[]) (mvT hZ (ww8 hw))) (mvT hZ (ww8 hw)) (mvT hZ (ww7 hw)) (by decide) (backOf (W := 0) (rm_com l Z a0 hw [] w_SHARED w_EXCLUSIVE w_SHARED w_SHARED h0 n0 (own_old_le O0) ST O0) hZ (ww9 hw) (ww1 hw) (by decide) (by decide)) q10a q10c (g := (mkF m 81 ls9 [(.ref w_SHARED), (.ref w_SHARED)])) rfl (by rw [hml, hls9]; rfl) (Steps.refl _) (argsL := [(.ref w_SHARED)]) (rest := []) (lenOf pd_0 rfl) rfl (by show 2 * 0 + _ ≤ _; exact Nat.le_of_eq rfl) (hb hby at_81) (fun _ _ => ⟨rfl, e7, (by decide : 0 + 0 ≤ _), (by decide : 0 + 0 ≤ _)⟩)
      dsimp only [Pt.U, Pt.locs, Pt.cells, Pt.slots] at X10 l10 y10 z10 st10 hQ10
      subst l10 y10 z10
      obtain ⟨rfl, N10q, e10⟩ := hQ10
      have N10 := Fr.app N0 N10q
      refine step (fun t k => st10.trans k) ?_
      show G T10 (mkF m 84 ls9 [(.int (f_com w_SHARED w_EXCLUSIVE w_SHARED w_SHARED))])
      have r11 : (f_com w_SHARED w_EXCLUSIVE w_SHARED w_SHARED) = (1 : Int32) := by
        unfold f_com
        rw [if_pos (rfl : w_SHARED = w_SHARED), if_pos (rfl : w_SHARED = w_SHARED)]
      rw [r11]
      show G T10 (mkF m 84 ls9 [(.int 1)])
      obtain ⟨ls12, hls12⟩  := own_sl #[.val (.int p0), .val (.int p1), .val (.int 1), .val (.int 1), .val (.ref w_SHARED), .val (.ref w_SHARED), .val (.int 1), .val (.int 1), .unset]
      refine step (fun t k => XS.istore X10.here hx rfl (hb hby at_84) rfl (l' := ls12) (by rw [hls9, hls12]; rfl) k) ?_
      show G T10 (mkF m 86 ls12 [])
      refine step (fun t k => XS.aload X10.here hx rfl (hb hby at_86) (by rw [hls12]; rfl) rfl k) ?_
      show G T10 (mkF m 88 ls12 [(.ref w_SHARED)])
      refine step (fun t k => XS.aload X10.here hx rfl (hb hby at_88) (by rw [hls12]; rfl) rfl k) ?_
      show G T10 (mkF m 90 ls12 [(.ref w_SHARED), (.ref w_SHARED)])
      obtain ⟨cq13, kq13, q13a, q13b, q13c⟩ := isOf hZ e10 (Exa.ext O0.2 ST.k1)
      obtain ⟨_, _, ⟨T13, L13, k13, n13⟩, -, X13, ⟨Lc13, hQ13, l13, y13, z13⟩, st13⟩ := X10.virtualBack hx (y := y_0) (z := y_0) hown (mvT hZ (ww5 hw)) (mvT hZ (ww6 hw)) (notFace_of_selects (args := #[]) (mvT hZ (ww8 hw))) (mvT hZ (ww8 hw)) (mvT hZ (ww7 hw)) (by decide) (backOf (W := 0) (rm_com l Z a0 hw [] w_SHARED w_EXCLUSIVE w_SHARED w_SHARED h0 n0 (own_old_le O0) ST O0) hZ (ww9 hw) (ww1 hw) (by decide) (by decide)) q13a q13c (g := (mkF m 90 ls12 [(.ref w_SHARED), (.ref w_SHARED)])) rfl (by rw [hml, hls12]; rfl) (Steps.refl _) (argsL := [(.ref w_SHARED)]) (rest := []) (lenOf pd_0 rfl) rfl (by show 2 * 0 + _ ≤ _; exact Nat.le_of_eq rfl) (hb hby at_90) (fun _ _ => ⟨rfl, e10, (by decide : 0 + 0 ≤ _), (by decide : 0 + 0 ≤ _)⟩)
      dsimp only [Pt.U, Pt.locs, Pt.cells, Pt.slots] at X13 l13 y13 z13 st13 hQ13
      subst l13 y13 z13
      obtain ⟨rfl, N13q, e13⟩ := hQ13
      have N13 := Fr.app N10 N13q
      refine step (fun t k => st13.trans k) ?_
      show G T13 (mkF m 93 ls12 [(.int (f_com w_SHARED w_EXCLUSIVE w_SHARED w_SHARED))])
      have r14 : (f_com w_SHARED w_EXCLUSIVE w_SHARED w_SHARED) = (1 : Int32) := by
        unfold f_com
        rw [if_pos (rfl : w_SHARED = w_SHARED), if_pos (rfl : w_SHARED = w_SHARED)]
      rw [r14]
      show G T13 (mkF m 93 ls12 [(.int 1)])
      obtain ⟨ls15, hls15⟩  := own_sl #[.val (.int p0), .val (.int p1), .val (.int 1), .val (.int 1), .val (.ref w_SHARED), .val (.ref w_SHARED), .val (.int 1), .val (.int 1), .val (.int 1)]
      refine step (fun t k => XS.istore X13.here hx rfl (hb hby at_93) rfl (l' := ls15) (by rw [hls12, hls15]; rfl) k) ?_
      show G T13 (mkF m 95 ls15 [])
      refine step (fun t k => XS.iload X13.here hx rfl (hb hby at_95) (by rw [hls15]; rfl) k) ?_
      show G T13 (mkF m 97 ls15 [(.int 1)])
      refine step (fun t k => XS.iload X13.here hx rfl (hb hby at_97) (by rw [hls15]; rfl) k) ?_
      show G T13 (mkF m 99 ls15 [(.int 1), (.int 1)])
      refine step (fun t k => XS.icmpNo X13.here hx rfl (hb hby at_99) rfl (teq (by decide : (1 : Int32) = (1 : Int32))).2 k) ?_
      show G T13 (mkF m 102 ls15 [])
      refine step (fun t k => XS.iload X13.here hx rfl (hb hby at_102) (by rw [hls15]; rfl) k) ?_
      show G T13 (mkF m 104 ls15 [(.int 1)])
      refine step (fun t k => XS.iload X13.here hx rfl (hb hby at_104) (by rw [hls15]; rfl) k) ?_
      show G T13 (mkF m 106 ls15 [(.int 1), (.int 1)])
      refine step (fun t k => XS.icmpNo X13.here hx rfl (hb hby at_106) rfl (teq (by decide : (1 : Int32) = (1 : Int32))).2 k) ?_
      show G T13 (mkF m 109 ls15 [])
      refine step (fun t k => XS.iconst X13.here hx rfl (hb hby at_109) k) ?_
      show G T13 (mkF m 110 ls15 [(.int 1)])
      refine step (fun t k => XS.goto X13.here hx rfl (pc0 := 110) (pc' := 114) rfl (hb hby at_110) (by decide) (by decide) k) ?_
      show G T13 (mkF m 114 ls15 [(.int 1)])
      exact ret (v := some (.int 1)) X13 (fun h => by rw [Bd.returns] at h; cases h) (fun fs hr => retN X13 hx (t := .boolean) Bd.returns (by simp) (hb hby at_114) hr) e13 ⟨rfl, N13⟩ (by decide) (by decide)
    · skip
      refine step (fun t k => XS.ifYes X0.here hx rfl (pc0 := 15) (pc' := 22) rfl (hb hby at_15) rfl ((if0 _ _).trans (feq hc3).2) (by decide) (by decide) k) ?_
      show G s₁ (mkF m 22 ls2 [])
      refine step (fun t k => XS.iconst X0.here hx rfl (hb hby at_22) k) ?_
      show G s₁ (mkF m 23 ls2 [(.int 0)])
      obtain ⟨ls16, hls16⟩  := own_sl #[.val (.int p0), .val (.int p1), .val (.int 1), .val (.int 0), .unset, .unset, .unset, .unset, .unset]
      refine step (fun t k => XS.istoreN X0.here hx rfl (hb hby at_23) rfl (l' := ls16) (by rw [hls2, hls16]; rfl) k) ?_
      show G s₁ (mkF m 24 ls16 [])
      refine step (fun t k => XS.iloadN X0.here hx rfl (hb hby at_24) (by rw [hls16]; rfl) k) ?_
      show G s₁ (mkF m 25 ls16 [(.int 1)])
      refine step (fun t k => XS.ifNo X0.here hx rfl (hb hby at_25) rfl ((if0 _ _).trans (feq (by decide : ¬ ((1 : Int32) = (0 : Int32)))).1) k) ?_
      show G s₁ (mkF m 28 ls16 [])
      obtain ⟨T17, X17, e17, st17⟩ := getS2 X0 hx hZ hown (host := "") (Or.inl (ww0 hw)) Via.refl e0 (Sta.ext O0.2 ST.k0) (g := (mkF m 28 ls16 [])) rfl (hb hby at_28)
      refine step st17 ?_
      show G T17 (mkF m 31 ls16 [(.ref w_SHARED)])
      refine step (fun t k => XS.goto X17.here hx rfl (pc0 := 31) (pc' := 37) rfl (hb hby at_31) (by decide) (by decide) k) ?_
      show G T17 (mkF m 37 ls16 [(.ref w_SHARED)])
      obtain ⟨ls18, hls18⟩  := own_sl #[.val (.int p0), .val (.int p1), .val (.int 1), .val (.int 0), .val (.ref w_SHARED), .unset, .unset, .unset, .unset]
      refine step (fun t k => XS.astore X17.here hx rfl (hb hby at_37) rfl rfl (l' := ls18) (by rw [hls16, hls18]; rfl) k) ?_
      show G T17 (mkF m 39 ls18 [])
      refine step (fun t k => XS.iloadN X17.here hx rfl (hb hby at_39) (by rw [hls18]; rfl) k) ?_
      show G T17 (mkF m 40 ls18 [(.int 0)])
      refine step (fun t k => XS.ifYes X17.here hx rfl (pc0 := 40) (pc' := 49) rfl (hb hby at_40) rfl ((if0 _ _).trans (teq (by decide : (0 : Int32) = (0 : Int32))).1) (by decide) (by decide) k) ?_
      show G T17 (mkF m 49 ls18 [])
      obtain ⟨T19, X19, e19, st19⟩ := getS2 X17 hx hZ hown (host := "") (Or.inl (ww3 hw)) Via.refl e17 (Sta.ext O0.2 ST.k2) (g := (mkF m 49 ls18 [])) rfl (hb hby at_49)
      refine step st19 ?_
      show G T19 (mkF m 52 ls18 [(.ref w_EXCLUSIVE)])
      obtain ⟨ls20, hls20⟩  := own_sl #[.val (.int p0), .val (.int p1), .val (.int 1), .val (.int 0), .val (.ref w_SHARED), .val (.ref w_EXCLUSIVE), .unset, .unset, .unset]
      refine step (fun t k => XS.astore X19.here hx rfl (hb hby at_52) rfl rfl (l' := ls20) (by rw [hls18, hls20]; rfl) k) ?_
      show G T19 (mkF m 54 ls20 [])
      refine step (fun t k => XS.iloadN X19.here hx rfl (hb hby at_54) (by rw [hls20]; rfl) k) ?_
      show G T19 (mkF m 55 ls20 [(.int 1)])
      refine step (fun t k => XS.ifNo X19.here hx rfl (hb hby at_55) rfl ((if0 _ _).trans (feq (by decide : ¬ ((1 : Int32) = (0 : Int32)))).1) k) ?_
      show G T19 (mkF m 58 ls20 [])
      refine step (fun t k => XS.iloadN X19.here hx rfl (hb hby at_58) (by rw [hls20]; rfl) k) ?_
      show G T19 (mkF m 59 ls20 [(.int 0)])
      refine step (fun t k => XS.ifYes X19.here hx rfl (pc0 := 59) (pc' := 68) rfl (hb hby at_59) rfl ((if0 _ _).trans (teq (by decide : (0 : Int32) = (0 : Int32))).1) (by decide) (by decide) k) ?_
      show G T19 (mkF m 68 ls20 [])
      refine step (fun t k => XS.iconst X19.here hx rfl (hb hby at_68) k) ?_
      show G T19 (mkF m 69 ls20 [(.int 0)])
      obtain ⟨ls21, hls21⟩  := own_sl #[.val (.int p0), .val (.int p1), .val (.int 1), .val (.int 0), .val (.ref w_SHARED), .val (.ref w_EXCLUSIVE), .val (.int 0), .unset, .unset]
      refine step (fun t k => XS.istore X19.here hx rfl (hb hby at_69) rfl (l' := ls21) (by rw [hls20, hls21]; rfl) k) ?_
      show G T19 (mkF m 71 ls21 [])
      refine step (fun t k => XS.goto X19.here hx rfl (pc0 := 71) (pc' := 77) rfl (hb hby at_71) (by decide) (by decide) k) ?_
      show G T19 (mkF m 77 ls21 [])
      refine step (fun t k => XS.aload X19.here hx rfl (hb hby at_77) (by rw [hls21]; rfl) rfl k) ?_
      show G T19 (mkF m 79 ls21 [(.ref w_SHARED)])
      refine step (fun t k => XS.aload X19.here hx rfl (hb hby at_79) (by rw [hls21]; rfl) rfl k) ?_
      show G T19 (mkF m 81 ls21 [(.ref w_EXCLUSIVE), (.ref w_SHARED)])
      obtain ⟨cq22, kq22, q22a, q22b, q22c⟩ := isOf hZ e19 (Exa.ext O0.2 ST.k1)
      obtain ⟨_, _, ⟨T22, L22, k22, n22⟩, -, X22, ⟨Lc22, hQ22, l22, y22, z22⟩, st22⟩ := X19.virtualBack hx (y := y_0) (z := y_0) hown (mvT hZ (ww5 hw)) (mvT hZ (ww6 hw)) (notFace_of_selects (args := #[]) (mvT hZ (ww8 hw))) (mvT hZ (ww8 hw)) (mvT hZ (ww7 hw)) (by decide) (backOf (W := 0) (rm_com l Z a0 hw [] w_SHARED w_EXCLUSIVE w_SHARED w_EXCLUSIVE h0 n0 (own_old_le O0) ST O0) hZ (ww9 hw) (ww1 hw) (by decide) (by decide)) q22a q22c (g := (mkF m 81 ls21 [(.ref w_EXCLUSIVE), (.ref w_SHARED)])) rfl (by rw [hml, hls21]; rfl) (Steps.refl _) (argsL := [(.ref w_EXCLUSIVE)]) (rest := []) (lenOf pd_0 rfl) rfl (by show 2 * 0 + _ ≤ _; exact Nat.le_of_eq rfl) (hb hby at_81) (fun _ _ => ⟨rfl, e19, (by decide : 0 + 0 ≤ _), (by decide : 0 + 0 ≤ _)⟩)
      dsimp only [Pt.U, Pt.locs, Pt.cells, Pt.slots] at X22 l22 y22 z22 st22 hQ22
      subst l22 y22 z22
      obtain ⟨rfl, N22q, e22⟩ := hQ22
      have N22 := Fr.app N0 N22q
      refine step (fun t k => st22.trans k) ?_
      show G T22 (mkF m 84 ls21 [(.int (f_com w_SHARED w_EXCLUSIVE w_SHARED w_EXCLUSIVE))])
      have r23 : (f_com w_SHARED w_EXCLUSIVE w_SHARED w_EXCLUSIVE) = (0 : Int32) := by
        unfold f_com
        rw [if_pos (rfl : w_SHARED = w_SHARED), if_neg ((Fld.ne ST.k4 ST.k5 (fun q => absurd (Value.int.inj q) (by decide))) : ¬ (w_EXCLUSIVE = w_SHARED))]
      rw [r23]
      show G T22 (mkF m 84 ls21 [(.int 0)])
      obtain ⟨ls24, hls24⟩  := own_sl #[.val (.int p0), .val (.int p1), .val (.int 1), .val (.int 0), .val (.ref w_SHARED), .val (.ref w_EXCLUSIVE), .val (.int 0), .val (.int 0), .unset]
      refine step (fun t k => XS.istore X22.here hx rfl (hb hby at_84) rfl (l' := ls24) (by rw [hls21, hls24]; rfl) k) ?_
      show G T22 (mkF m 86 ls24 [])
      refine step (fun t k => XS.aload X22.here hx rfl (hb hby at_86) (by rw [hls24]; rfl) rfl k) ?_
      show G T22 (mkF m 88 ls24 [(.ref w_EXCLUSIVE)])
      refine step (fun t k => XS.aload X22.here hx rfl (hb hby at_88) (by rw [hls24]; rfl) rfl k) ?_
      show G T22 (mkF m 90 ls24 [(.ref w_SHARED), (.ref w_EXCLUSIVE)])
      obtain ⟨cq25, kq25, q25a, q25b, q25c⟩ := isOf hZ e22 (Exa.ext O0.2 ST.k3)
      obtain ⟨_, _, ⟨T25, L25, k25, n25⟩, -, X25, ⟨Lc25, hQ25, l25, y25, z25⟩, st25⟩ := X22.virtualBack hx (y := y_0) (z := y_0) hown (mvT hZ (ww5 hw)) (mvT hZ (ww6 hw)) (notFace_of_selects (args := #[]) (mvT hZ (ww8 hw))) (mvT hZ (ww8 hw)) (mvT hZ (ww7 hw)) (by decide) (backOf (W := 0) (rm_com l Z a0 hw [] w_SHARED w_EXCLUSIVE w_EXCLUSIVE w_SHARED h0 n0 (own_old_le O0) ST O0) hZ (ww9 hw) (ww1 hw) (by decide) (by decide)) q25a q25c (g := (mkF m 90 ls24 [(.ref w_SHARED), (.ref w_EXCLUSIVE)])) rfl (by rw [hml, hls24]; rfl) (Steps.refl _) (argsL := [(.ref w_SHARED)]) (rest := []) (lenOf pd_0 rfl) rfl (by show 2 * 0 + _ ≤ _; exact Nat.le_of_eq rfl) (hb hby at_90) (fun _ _ => ⟨rfl, e22, (by decide : 0 + 0 ≤ _), (by decide : 0 + 0 ≤ _)⟩)
      dsimp only [Pt.U, Pt.locs, Pt.cells, Pt.slots] at X25 l25 y25 z25 st25 hQ25
      subst l25 y25 z25
      obtain ⟨rfl, N25q, e25⟩ := hQ25
      have N25 := Fr.app N22 N25q
      refine step (fun t k => st25.trans k) ?_
      show G T25 (mkF m 93 ls24 [(.int (f_com w_SHARED w_EXCLUSIVE w_EXCLUSIVE w_SHARED))])
      have r26 : (f_com w_SHARED w_EXCLUSIVE w_EXCLUSIVE w_SHARED) = (0 : Int32) := by
        unfold f_com
        rw [if_neg ((Fld.ne ST.k4 ST.k5 (fun q => absurd (Value.int.inj q) (by decide))) : ¬ (w_EXCLUSIVE = w_SHARED))]
      rw [r26]
      show G T25 (mkF m 93 ls24 [(.int 0)])
      obtain ⟨ls27, hls27⟩  := own_sl #[.val (.int p0), .val (.int p1), .val (.int 1), .val (.int 0), .val (.ref w_SHARED), .val (.ref w_EXCLUSIVE), .val (.int 0), .val (.int 0), .val (.int 0)]
      refine step (fun t k => XS.istore X25.here hx rfl (hb hby at_93) rfl (l' := ls27) (by rw [hls24, hls27]; rfl) k) ?_
      show G T25 (mkF m 95 ls27 [])
      refine step (fun t k => XS.iload X25.here hx rfl (hb hby at_95) (by rw [hls27]; rfl) k) ?_
      show G T25 (mkF m 97 ls27 [(.int 0)])
      refine step (fun t k => XS.iload X25.here hx rfl (hb hby at_97) (by rw [hls27]; rfl) k) ?_
      show G T25 (mkF m 99 ls27 [(.int 0), (.int 0)])
      refine step (fun t k => XS.icmpNo X25.here hx rfl (hb hby at_99) rfl (teq (by decide : (0 : Int32) = (0 : Int32))).2 k) ?_
      show G T25 (mkF m 102 ls27 [])
      refine step (fun t k => XS.iload X25.here hx rfl (hb hby at_102) (by rw [hls27]; rfl) k) ?_
      show G T25 (mkF m 104 ls27 [(.int 0)])
      refine step (fun t k => XS.iload X25.here hx rfl (hb hby at_104) (by rw [hls27]; rfl) k) ?_
      show G T25 (mkF m 106 ls27 [(.int 0), (.int 0)])
      refine step (fun t k => XS.icmpNo X25.here hx rfl (hb hby at_106) rfl (teq (by decide : (0 : Int32) = (0 : Int32))).2 k) ?_
      show G T25 (mkF m 109 ls27 [])
      refine step (fun t k => XS.iconst X25.here hx rfl (hb hby at_109) k) ?_
      show G T25 (mkF m 110 ls27 [(.int 1)])
      refine step (fun t k => XS.goto X25.here hx rfl (pc0 := 110) (pc' := 114) rfl (hb hby at_110) (by decide) (by decide) k) ?_
      show G T25 (mkF m 114 ls27 [(.int 1)])
      exact ret (v := some (.int 1)) X25 (fun h => by rw [Bd.returns] at h; cases h) (fun fs hr => retN X25 hx (t := .boolean) Bd.returns (by simp) (hb hby at_114) hr) e25 ⟨rfl, N25⟩ (by decide) (by decide)
  · skip
    refine step (fun t k => XS.ifYes X0.here hx rfl (pc0 := 3) (pc' := 10) rfl (hb hby at_3) rfl ((if0 _ _).trans (feq hc1).2) (by decide) (by decide) k) ?_
    show G s₁ (mkF m 10 ls0 [])
    refine step (fun t k => XS.iconst X0.here hx rfl (hb hby at_10) k) ?_
    show G s₁ (mkF m 11 ls0 [(.int 0)])
    obtain ⟨ls28, hls28⟩  := own_sl #[.val (.int p0), .val (.int p1), .val (.int 0), .unset, .unset, .unset, .unset, .unset, .unset]
    refine step (fun t k => XS.istoreN X0.here hx rfl (hb hby at_11) rfl (l' := ls28) (by rw [hls0, hls28]; rfl) k) ?_
    show G s₁ (mkF m 12 ls28 [])
    refine step (fun t k => XS.iloadN X0.here hx rfl (hb hby at_12) (by rw [hls28]; rfl) k) ?_
    show G s₁ (mkF m 13 ls28 [(.int p1)])
    refine step (fun t k => XS.iconst X0.here hx rfl (hb hby at_13) k) ?_
    show G s₁ (mkF m 14 ls28 [(.int 1), (.int p1)])
    refine step (fun t k => XS.iand X0.here hx rfl (hb hby at_14) rfl k) ?_
    show G s₁ (mkF m 15 ls28 [(.int (p1 &&& (1 : Int32)))])
    by_cases hc29 : (p1 &&& (1 : Int32)) = (0 : Int32)
    · skip
      refine step (fun t k => XS.ifNo X0.here hx rfl (hb hby at_15) rfl ((if0 _ _).trans (teq hc29).2) k) ?_
      show G s₁ (mkF m 18 ls28 [])
      refine step (fun t k => XS.iconst X0.here hx rfl (hb hby at_18) k) ?_
      show G s₁ (mkF m 19 ls28 [(.int 1)])
      refine step (fun t k => XS.goto X0.here hx rfl (pc0 := 19) (pc' := 23) rfl (hb hby at_19) (by decide) (by decide) k) ?_
      show G s₁ (mkF m 23 ls28 [(.int 1)])
      obtain ⟨ls30, hls30⟩  := own_sl #[.val (.int p0), .val (.int p1), .val (.int 0), .val (.int 1), .unset, .unset, .unset, .unset, .unset]
      refine step (fun t k => XS.istoreN X0.here hx rfl (hb hby at_23) rfl (l' := ls30) (by rw [hls28, hls30]; rfl) k) ?_
      show G s₁ (mkF m 24 ls30 [])
      refine step (fun t k => XS.iloadN X0.here hx rfl (hb hby at_24) (by rw [hls30]; rfl) k) ?_
      show G s₁ (mkF m 25 ls30 [(.int 0)])
      refine step (fun t k => XS.ifYes X0.here hx rfl (pc0 := 25) (pc' := 34) rfl (hb hby at_25) rfl ((if0 _ _).trans (teq (by decide : (0 : Int32) = (0 : Int32))).1) (by decide) (by decide) k) ?_
      show G s₁ (mkF m 34 ls30 [])
      obtain ⟨T31, X31, e31, st31⟩ := getS2 X0 hx hZ hown (host := "") (Or.inl (ww3 hw)) Via.refl e0 (Sta.ext O0.2 ST.k2) (g := (mkF m 34 ls30 [])) rfl (hb hby at_34)
      refine step st31 ?_
      show G T31 (mkF m 37 ls30 [(.ref w_EXCLUSIVE)])
      obtain ⟨ls32, hls32⟩  := own_sl #[.val (.int p0), .val (.int p1), .val (.int 0), .val (.int 1), .val (.ref w_EXCLUSIVE), .unset, .unset, .unset, .unset]
      refine step (fun t k => XS.astore X31.here hx rfl (hb hby at_37) rfl rfl (l' := ls32) (by rw [hls30, hls32]; rfl) k) ?_
      show G T31 (mkF m 39 ls32 [])
      refine step (fun t k => XS.iloadN X31.here hx rfl (hb hby at_39) (by rw [hls32]; rfl) k) ?_
      show G T31 (mkF m 40 ls32 [(.int 1)])
      refine step (fun t k => XS.ifNo X31.here hx rfl (hb hby at_40) rfl ((if0 _ _).trans (feq (by decide : ¬ ((1 : Int32) = (0 : Int32)))).1) k) ?_
      show G T31 (mkF m 43 ls32 [])
      obtain ⟨T33, X33, e33, st33⟩ := getS2 X31 hx hZ hown (host := "") (Or.inl (ww0 hw)) Via.refl e31 (Sta.ext O0.2 ST.k0) (g := (mkF m 43 ls32 [])) rfl (hb hby at_43)
      refine step st33 ?_
      show G T33 (mkF m 46 ls32 [(.ref w_SHARED)])
      refine step (fun t k => XS.goto X33.here hx rfl (pc0 := 46) (pc' := 52) rfl (hb hby at_46) (by decide) (by decide) k) ?_
      show G T33 (mkF m 52 ls32 [(.ref w_SHARED)])
      obtain ⟨ls34, hls34⟩  := own_sl #[.val (.int p0), .val (.int p1), .val (.int 0), .val (.int 1), .val (.ref w_EXCLUSIVE), .val (.ref w_SHARED), .unset, .unset, .unset]
      refine step (fun t k => XS.astore X33.here hx rfl (hb hby at_52) rfl rfl (l' := ls34) (by rw [hls32, hls34]; rfl) k) ?_
      show G T33 (mkF m 54 ls34 [])
      refine step (fun t k => XS.iloadN X33.here hx rfl (hb hby at_54) (by rw [hls34]; rfl) k) ?_
      show G T33 (mkF m 55 ls34 [(.int 0)])
      refine step (fun t k => XS.ifYes X33.here hx rfl (pc0 := 55) (pc' := 74) rfl (hb hby at_55) rfl ((if0 _ _).trans (teq (by decide : (0 : Int32) = (0 : Int32))).1) (by decide) (by decide) k) ?_
      show G T33 (mkF m 74 ls34 [])
      refine step (fun t k => XS.iconst X33.here hx rfl (hb hby at_74) k) ?_
      show G T33 (mkF m 75 ls34 [(.int 0)])
      obtain ⟨ls35, hls35⟩  := own_sl #[.val (.int p0), .val (.int p1), .val (.int 0), .val (.int 1), .val (.ref w_EXCLUSIVE), .val (.ref w_SHARED), .val (.int 0), .unset, .unset]
      refine step (fun t k => XS.istore X33.here hx rfl (hb hby at_75) rfl (l' := ls35) (by rw [hls34, hls35]; rfl) k) ?_
      show G T33 (mkF m 77 ls35 [])
      refine step (fun t k => XS.aload X33.here hx rfl (hb hby at_77) (by rw [hls35]; rfl) rfl k) ?_
      show G T33 (mkF m 79 ls35 [(.ref w_EXCLUSIVE)])
      refine step (fun t k => XS.aload X33.here hx rfl (hb hby at_79) (by rw [hls35]; rfl) rfl k) ?_
      show G T33 (mkF m 81 ls35 [(.ref w_SHARED), (.ref w_EXCLUSIVE)])
      obtain ⟨cq36, kq36, q36a, q36b, q36c⟩ := isOf hZ e33 (Exa.ext O0.2 ST.k3)
      obtain ⟨_, _, ⟨T36, L36, k36, n36⟩, -, X36, ⟨Lc36, hQ36, l36, y36, z36⟩, st36⟩ := X33.virtualBack hx (y := y_0) (z := y_0) hown (mvT hZ (ww5 hw)) (mvT hZ (ww6 hw)) (notFace_of_selects (args := #[]) (mvT hZ (ww8 hw))) (mvT hZ (ww8 hw)) (mvT hZ (ww7 hw)) (by decide) (backOf (W := 0) (rm_com l Z a0 hw [] w_SHARED w_EXCLUSIVE w_EXCLUSIVE w_SHARED h0 n0 (own_old_le O0) ST O0) hZ (ww9 hw) (ww1 hw) (by decide) (by decide)) q36a q36c (g := (mkF m 81 ls35 [(.ref w_SHARED), (.ref w_EXCLUSIVE)])) rfl (by rw [hml, hls35]; rfl) (Steps.refl _) (argsL := [(.ref w_SHARED)]) (rest := []) (lenOf pd_0 rfl) rfl (by show 2 * 0 + _ ≤ _; exact Nat.le_of_eq rfl) (hb hby at_81) (fun _ _ => ⟨rfl, e33, (by decide : 0 + 0 ≤ _), (by decide : 0 + 0 ≤ _)⟩)
      dsimp only [Pt.U, Pt.locs, Pt.cells, Pt.slots] at X36 l36 y36 z36 st36 hQ36
      subst l36 y36 z36
      obtain ⟨rfl, N36q, e36⟩ := hQ36
      have N36 := Fr.app N0 N36q
      refine step (fun t k => st36.trans k) ?_
      show G T36 (mkF m 84 ls35 [(.int (f_com w_SHARED w_EXCLUSIVE w_EXCLUSIVE w_SHARED))])
      have r37 : (f_com w_SHARED w_EXCLUSIVE w_EXCLUSIVE w_SHARED) = (0 : Int32) := by
        unfold f_com
        rw [if_neg ((Fld.ne ST.k4 ST.k5 (fun q => absurd (Value.int.inj q) (by decide))) : ¬ (w_EXCLUSIVE = w_SHARED))]
      rw [r37]
      show G T36 (mkF m 84 ls35 [(.int 0)])
      obtain ⟨ls38, hls38⟩  := own_sl #[.val (.int p0), .val (.int p1), .val (.int 0), .val (.int 1), .val (.ref w_EXCLUSIVE), .val (.ref w_SHARED), .val (.int 0), .val (.int 0), .unset]
      refine step (fun t k => XS.istore X36.here hx rfl (hb hby at_84) rfl (l' := ls38) (by rw [hls35, hls38]; rfl) k) ?_
      show G T36 (mkF m 86 ls38 [])
      refine step (fun t k => XS.aload X36.here hx rfl (hb hby at_86) (by rw [hls38]; rfl) rfl k) ?_
      show G T36 (mkF m 88 ls38 [(.ref w_SHARED)])
      refine step (fun t k => XS.aload X36.here hx rfl (hb hby at_88) (by rw [hls38]; rfl) rfl k) ?_
      show G T36 (mkF m 90 ls38 [(.ref w_EXCLUSIVE), (.ref w_SHARED)])
      obtain ⟨cq39, kq39, q39a, q39b, q39c⟩ := isOf hZ e36 (Exa.ext O0.2 ST.k1)
      obtain ⟨_, _, ⟨T39, L39, k39, n39⟩, -, X39, ⟨Lc39, hQ39, l39, y39, z39⟩, st39⟩ := X36.virtualBack hx (y := y_0) (z := y_0) hown (mvT hZ (ww5 hw)) (mvT hZ (ww6 hw)) (notFace_of_selects (args := #[]) (mvT hZ (ww8 hw))) (mvT hZ (ww8 hw)) (mvT hZ (ww7 hw)) (by decide) (backOf (W := 0) (rm_com l Z a0 hw [] w_SHARED w_EXCLUSIVE w_SHARED w_EXCLUSIVE h0 n0 (own_old_le O0) ST O0) hZ (ww9 hw) (ww1 hw) (by decide) (by decide)) q39a q39c (g := (mkF m 90 ls38 [(.ref w_EXCLUSIVE), (.ref w_SHARED)])) rfl (by rw [hml, hls38]; rfl) (Steps.refl _) (argsL := [(.ref w_EXCLUSIVE)]) (rest := []) (lenOf pd_0 rfl) rfl (by show 2 * 0 + _ ≤ _; exact Nat.le_of_eq rfl) (hb hby at_90) (fun _ _ => ⟨rfl, e36, (by decide : 0 + 0 ≤ _), (by decide : 0 + 0 ≤ _)⟩)
      dsimp only [Pt.U, Pt.locs, Pt.cells, Pt.slots] at X39 l39 y39 z39 st39 hQ39
      subst l39 y39 z39
      obtain ⟨rfl, N39q, e39⟩ := hQ39
      have N39 := Fr.app N36 N39q
      refine step (fun t k => st39.trans k) ?_
      show G T39 (mkF m 93 ls38 [(.int (f_com w_SHARED w_EXCLUSIVE w_SHARED w_EXCLUSIVE))])
      have r40 : (f_com w_SHARED w_EXCLUSIVE w_SHARED w_EXCLUSIVE) = (0 : Int32) := by
        unfold f_com
        rw [if_pos (rfl : w_SHARED = w_SHARED), if_neg ((Fld.ne ST.k4 ST.k5 (fun q => absurd (Value.int.inj q) (by decide))) : ¬ (w_EXCLUSIVE = w_SHARED))]
      rw [r40]
      show G T39 (mkF m 93 ls38 [(.int 0)])
      obtain ⟨ls41, hls41⟩  := own_sl #[.val (.int p0), .val (.int p1), .val (.int 0), .val (.int 1), .val (.ref w_EXCLUSIVE), .val (.ref w_SHARED), .val (.int 0), .val (.int 0), .val (.int 0)]
      refine step (fun t k => XS.istore X39.here hx rfl (hb hby at_93) rfl (l' := ls41) (by rw [hls38, hls41]; rfl) k) ?_
      show G T39 (mkF m 95 ls41 [])
      refine step (fun t k => XS.iload X39.here hx rfl (hb hby at_95) (by rw [hls41]; rfl) k) ?_
      show G T39 (mkF m 97 ls41 [(.int 0)])
      refine step (fun t k => XS.iload X39.here hx rfl (hb hby at_97) (by rw [hls41]; rfl) k) ?_
      show G T39 (mkF m 99 ls41 [(.int 0), (.int 0)])
      refine step (fun t k => XS.icmpNo X39.here hx rfl (hb hby at_99) rfl (teq (by decide : (0 : Int32) = (0 : Int32))).2 k) ?_
      show G T39 (mkF m 102 ls41 [])
      refine step (fun t k => XS.iload X39.here hx rfl (hb hby at_102) (by rw [hls41]; rfl) k) ?_
      show G T39 (mkF m 104 ls41 [(.int 0)])
      refine step (fun t k => XS.iload X39.here hx rfl (hb hby at_104) (by rw [hls41]; rfl) k) ?_
      show G T39 (mkF m 106 ls41 [(.int 0), (.int 0)])
      refine step (fun t k => XS.icmpNo X39.here hx rfl (hb hby at_106) rfl (teq (by decide : (0 : Int32) = (0 : Int32))).2 k) ?_
      show G T39 (mkF m 109 ls41 [])
      refine step (fun t k => XS.iconst X39.here hx rfl (hb hby at_109) k) ?_
      show G T39 (mkF m 110 ls41 [(.int 1)])
      refine step (fun t k => XS.goto X39.here hx rfl (pc0 := 110) (pc' := 114) rfl (hb hby at_110) (by decide) (by decide) k) ?_
      show G T39 (mkF m 114 ls41 [(.int 1)])
      exact ret (v := some (.int 1)) X39 (fun h => by rw [Bd.returns] at h; cases h) (fun fs hr => retN X39 hx (t := .boolean) Bd.returns (by simp) (hb hby at_114) hr) e39 ⟨rfl, N39⟩ (by decide) (by decide)
    · skip
      refine step (fun t k => XS.ifYes X0.here hx rfl (pc0 := 15) (pc' := 22) rfl (hb hby at_15) rfl ((if0 _ _).trans (feq hc29).2) (by decide) (by decide) k) ?_
      show G s₁ (mkF m 22 ls28 [])
      refine step (fun t k => XS.iconst X0.here hx rfl (hb hby at_22) k) ?_
      show G s₁ (mkF m 23 ls28 [(.int 0)])
      obtain ⟨ls42, hls42⟩  := own_sl #[.val (.int p0), .val (.int p1), .val (.int 0), .val (.int 0), .unset, .unset, .unset, .unset, .unset]
      refine step (fun t k => XS.istoreN X0.here hx rfl (hb hby at_23) rfl (l' := ls42) (by rw [hls28, hls42]; rfl) k) ?_
      show G s₁ (mkF m 24 ls42 [])
      refine step (fun t k => XS.iloadN X0.here hx rfl (hb hby at_24) (by rw [hls42]; rfl) k) ?_
      show G s₁ (mkF m 25 ls42 [(.int 0)])
      refine step (fun t k => XS.ifYes X0.here hx rfl (pc0 := 25) (pc' := 34) rfl (hb hby at_25) rfl ((if0 _ _).trans (teq (by decide : (0 : Int32) = (0 : Int32))).1) (by decide) (by decide) k) ?_
      show G s₁ (mkF m 34 ls42 [])
      obtain ⟨T43, X43, e43, st43⟩ := getS2 X0 hx hZ hown (host := "") (Or.inl (ww3 hw)) Via.refl e0 (Sta.ext O0.2 ST.k2) (g := (mkF m 34 ls42 [])) rfl (hb hby at_34)
      refine step st43 ?_
      show G T43 (mkF m 37 ls42 [(.ref w_EXCLUSIVE)])
      obtain ⟨ls44, hls44⟩  := own_sl #[.val (.int p0), .val (.int p1), .val (.int 0), .val (.int 0), .val (.ref w_EXCLUSIVE), .unset, .unset, .unset, .unset]
      refine step (fun t k => XS.astore X43.here hx rfl (hb hby at_37) rfl rfl (l' := ls44) (by rw [hls42, hls44]; rfl) k) ?_
      show G T43 (mkF m 39 ls44 [])
      refine step (fun t k => XS.iloadN X43.here hx rfl (hb hby at_39) (by rw [hls44]; rfl) k) ?_
      show G T43 (mkF m 40 ls44 [(.int 0)])
      refine step (fun t k => XS.ifYes X43.here hx rfl (pc0 := 40) (pc' := 49) rfl (hb hby at_40) rfl ((if0 _ _).trans (teq (by decide : (0 : Int32) = (0 : Int32))).1) (by decide) (by decide) k) ?_
      show G T43 (mkF m 49 ls44 [])
      obtain ⟨T45, X45, e45, st45⟩ := getS2 X43 hx hZ hown (host := "") (Or.inl (ww3 hw)) Via.refl e43 (Sta.ext O0.2 ST.k2) (g := (mkF m 49 ls44 [])) rfl (hb hby at_49)
      refine step st45 ?_
      show G T45 (mkF m 52 ls44 [(.ref w_EXCLUSIVE)])
      obtain ⟨ls46, hls46⟩  := own_sl #[.val (.int p0), .val (.int p1), .val (.int 0), .val (.int 0), .val (.ref w_EXCLUSIVE), .val (.ref w_EXCLUSIVE), .unset, .unset, .unset]
      refine step (fun t k => XS.astore X45.here hx rfl (hb hby at_52) rfl rfl (l' := ls46) (by rw [hls44, hls46]; rfl) k) ?_
      show G T45 (mkF m 54 ls46 [])
      refine step (fun t k => XS.iloadN X45.here hx rfl (hb hby at_54) (by rw [hls46]; rfl) k) ?_
      show G T45 (mkF m 55 ls46 [(.int 0)])
      refine step (fun t k => XS.ifYes X45.here hx rfl (pc0 := 55) (pc' := 74) rfl (hb hby at_55) rfl ((if0 _ _).trans (teq (by decide : (0 : Int32) = (0 : Int32))).1) (by decide) (by decide) k) ?_
      show G T45 (mkF m 74 ls46 [])
      refine step (fun t k => XS.iconst X45.here hx rfl (hb hby at_74) k) ?_
      show G T45 (mkF m 75 ls46 [(.int 0)])
      obtain ⟨ls47, hls47⟩  := own_sl #[.val (.int p0), .val (.int p1), .val (.int 0), .val (.int 0), .val (.ref w_EXCLUSIVE), .val (.ref w_EXCLUSIVE), .val (.int 0), .unset, .unset]
      refine step (fun t k => XS.istore X45.here hx rfl (hb hby at_75) rfl (l' := ls47) (by rw [hls46, hls47]; rfl) k) ?_
      show G T45 (mkF m 77 ls47 [])
      refine step (fun t k => XS.aload X45.here hx rfl (hb hby at_77) (by rw [hls47]; rfl) rfl k) ?_
      show G T45 (mkF m 79 ls47 [(.ref w_EXCLUSIVE)])
      refine step (fun t k => XS.aload X45.here hx rfl (hb hby at_79) (by rw [hls47]; rfl) rfl k) ?_
      show G T45 (mkF m 81 ls47 [(.ref w_EXCLUSIVE), (.ref w_EXCLUSIVE)])
      obtain ⟨cq48, kq48, q48a, q48b, q48c⟩ := isOf hZ e45 (Exa.ext O0.2 ST.k3)
      obtain ⟨_, _, ⟨T48, L48, k48, n48⟩, -, X48, ⟨Lc48, hQ48, l48, y48, z48⟩, st48⟩ := X45.virtualBack hx (y := y_0) (z := y_0) hown (mvT hZ (ww5 hw)) (mvT hZ (ww6 hw)) (notFace_of_selects (args := #[]) (mvT hZ (ww8 hw))) (mvT hZ (ww8 hw)) (mvT hZ (ww7 hw)) (by decide) (backOf (W := 0) (rm_com l Z a0 hw [] w_SHARED w_EXCLUSIVE w_EXCLUSIVE w_EXCLUSIVE h0 n0 (own_old_le O0) ST O0) hZ (ww9 hw) (ww1 hw) (by decide) (by decide)) q48a q48c (g := (mkF m 81 ls47 [(.ref w_EXCLUSIVE), (.ref w_EXCLUSIVE)])) rfl (by rw [hml, hls47]; rfl) (Steps.refl _) (argsL := [(.ref w_EXCLUSIVE)]) (rest := []) (lenOf pd_0 rfl) rfl (by show 2 * 0 + _ ≤ _; exact Nat.le_of_eq rfl) (hb hby at_81) (fun _ _ => ⟨rfl, e45, (by decide : 0 + 0 ≤ _), (by decide : 0 + 0 ≤ _)⟩)
      dsimp only [Pt.U, Pt.locs, Pt.cells, Pt.slots] at X48 l48 y48 z48 st48 hQ48
      subst l48 y48 z48
      obtain ⟨rfl, N48q, e48⟩ := hQ48
      have N48 := Fr.app N0 N48q
      refine step (fun t k => st48.trans k) ?_
      show G T48 (mkF m 84 ls47 [(.int (f_com w_SHARED w_EXCLUSIVE w_EXCLUSIVE w_EXCLUSIVE))])
      have r49 : (f_com w_SHARED w_EXCLUSIVE w_EXCLUSIVE w_EXCLUSIVE) = (0 : Int32) := by
        unfold f_com
        rw [if_neg ((Fld.ne ST.k4 ST.k5 (fun q => absurd (Value.int.inj q) (by decide))) : ¬ (w_EXCLUSIVE = w_SHARED))]
      rw [r49]
      show G T48 (mkF m 84 ls47 [(.int 0)])
      obtain ⟨ls50, hls50⟩  := own_sl #[.val (.int p0), .val (.int p1), .val (.int 0), .val (.int 0), .val (.ref w_EXCLUSIVE), .val (.ref w_EXCLUSIVE), .val (.int 0), .val (.int 0), .unset]
      refine step (fun t k => XS.istore X48.here hx rfl (hb hby at_84) rfl (l' := ls50) (by rw [hls47, hls50]; rfl) k) ?_
      show G T48 (mkF m 86 ls50 [])
      refine step (fun t k => XS.aload X48.here hx rfl (hb hby at_86) (by rw [hls50]; rfl) rfl k) ?_
      show G T48 (mkF m 88 ls50 [(.ref w_EXCLUSIVE)])
      refine step (fun t k => XS.aload X48.here hx rfl (hb hby at_88) (by rw [hls50]; rfl) rfl k) ?_
      show G T48 (mkF m 90 ls50 [(.ref w_EXCLUSIVE), (.ref w_EXCLUSIVE)])
      obtain ⟨cq51, kq51, q51a, q51b, q51c⟩ := isOf hZ e48 (Exa.ext O0.2 ST.k3)
      obtain ⟨_, _, ⟨T51, L51, k51, n51⟩, -, X51, ⟨Lc51, hQ51, l51, y51, z51⟩, st51⟩ := X48.virtualBack hx (y := y_0) (z := y_0) hown (mvT hZ (ww5 hw)) (mvT hZ (ww6 hw)) (notFace_of_selects (args := #[]) (mvT hZ (ww8 hw))) (mvT hZ (ww8 hw)) (mvT hZ (ww7 hw)) (by decide) (backOf (W := 0) (rm_com l Z a0 hw [] w_SHARED w_EXCLUSIVE w_EXCLUSIVE w_EXCLUSIVE h0 n0 (own_old_le O0) ST O0) hZ (ww9 hw) (ww1 hw) (by decide) (by decide)) q51a q51c (g := (mkF m 90 ls50 [(.ref w_EXCLUSIVE), (.ref w_EXCLUSIVE)])) rfl (by rw [hml, hls50]; rfl) (Steps.refl _) (argsL := [(.ref w_EXCLUSIVE)]) (rest := []) (lenOf pd_0 rfl) rfl (by show 2 * 0 + _ ≤ _; exact Nat.le_of_eq rfl) (hb hby at_90) (fun _ _ => ⟨rfl, e48, (by decide : 0 + 0 ≤ _), (by decide : 0 + 0 ≤ _)⟩)
      dsimp only [Pt.U, Pt.locs, Pt.cells, Pt.slots] at X51 l51 y51 z51 st51 hQ51
      subst l51 y51 z51
      obtain ⟨rfl, N51q, e51⟩ := hQ51
      have N51 := Fr.app N48 N51q
      refine step (fun t k => st51.trans k) ?_
      show G T51 (mkF m 93 ls50 [(.int (f_com w_SHARED w_EXCLUSIVE w_EXCLUSIVE w_EXCLUSIVE))])
      have r52 : (f_com w_SHARED w_EXCLUSIVE w_EXCLUSIVE w_EXCLUSIVE) = (0 : Int32) := by
        unfold f_com
        rw [if_neg ((Fld.ne ST.k4 ST.k5 (fun q => absurd (Value.int.inj q) (by decide))) : ¬ (w_EXCLUSIVE = w_SHARED))]
      rw [r52]
      show G T51 (mkF m 93 ls50 [(.int 0)])
      obtain ⟨ls53, hls53⟩  := own_sl #[.val (.int p0), .val (.int p1), .val (.int 0), .val (.int 0), .val (.ref w_EXCLUSIVE), .val (.ref w_EXCLUSIVE), .val (.int 0), .val (.int 0), .val (.int 0)]
      refine step (fun t k => XS.istore X51.here hx rfl (hb hby at_93) rfl (l' := ls53) (by rw [hls50, hls53]; rfl) k) ?_
      show G T51 (mkF m 95 ls53 [])
      refine step (fun t k => XS.iload X51.here hx rfl (hb hby at_95) (by rw [hls53]; rfl) k) ?_
      show G T51 (mkF m 97 ls53 [(.int 0)])
      refine step (fun t k => XS.iload X51.here hx rfl (hb hby at_97) (by rw [hls53]; rfl) k) ?_
      show G T51 (mkF m 99 ls53 [(.int 0), (.int 0)])
      refine step (fun t k => XS.icmpNo X51.here hx rfl (hb hby at_99) rfl (teq (by decide : (0 : Int32) = (0 : Int32))).2 k) ?_
      show G T51 (mkF m 102 ls53 [])
      refine step (fun t k => XS.iload X51.here hx rfl (hb hby at_102) (by rw [hls53]; rfl) k) ?_
      show G T51 (mkF m 104 ls53 [(.int 0)])
      refine step (fun t k => XS.iload X51.here hx rfl (hb hby at_104) (by rw [hls53]; rfl) k) ?_
      show G T51 (mkF m 106 ls53 [(.int 0), (.int 0)])
      refine step (fun t k => XS.icmpNo X51.here hx rfl (hb hby at_106) rfl (teq (by decide : (0 : Int32) = (0 : Int32))).2 k) ?_
      show G T51 (mkF m 109 ls53 [])
      refine step (fun t k => XS.iconst X51.here hx rfl (hb hby at_109) k) ?_
      show G T51 (mkF m 110 ls53 [(.int 1)])
      refine step (fun t k => XS.goto X51.here hx rfl (pc0 := 110) (pc' := 114) rfl (hb hby at_110) (by decide) (by decide) k) ?_
      show G T51 (mkF m 114 ls53 [(.int 1)])
      exact ret (v := some (.int 1)) X51 (fun h => by rw [Bd.returns] at h; cases h) (fun fs hr => retN X51 hx (t := .boolean) Bd.returns (by simp) (hb hby at_114) hr) e51 ⟨rfl, N51⟩ (by decide) (by decide)
set_option maxRecDepth 65536 in
set_option maxHeartbeats 40000000 in
theorem comes_1 {Post : Tables → Env → Array Value → State → Outcome → State → Prop} (hpost : ∀ tb e args s v u, (limb_1_1.after args s (.returned v) u = true ∧ limb_1_2.after args s (.returned v) u = true ∧ True) → FrameEnd s (.returned v) u (Jvm.fieldLocs frame_1_writes args s ++ Jvm.arrayLocs frame_1_arrays args s ++ Jvm.staticLocs frame_1_statics s) 0 0 → Post tb e args s (.returned v) u) :
    ArmFor flags0 classFile x code maxLocals ret World_1 tables_1 room_1 Calls_1 rest_1 Pre_1 Post := by
  intro l hfl _ _ p e ha hc hk s m args below hf hA hF happ hP
  obtain ⟨hcalls, hrest, hpre⟩ := hP
  obtain ⟨-, -, -, hnamed, -, -, -, hat⟩ := (Spec.applies_iff hf).mp happ
  obtain ⟨hg, hn⟩ := and_e (Cond.before_iff.mp (show (Jvm.Cond.and given_1 narrow_1).before args s = true from hpre))
  obtain ⟨g1a, g1b⟩ := and_e hg
  obtain ⟨g2a, g2b⟩ := and_e g1b
  obtain ⟨w0, w1, rfl⟩ : ∃ w0 w1 : Value, args = #[w0, w1] := by
    have hs : args.size = 2 := by simpa [Cond.value, given_1] using g1a
    obtain ⟨L⟩ := args
    match L, hs with
    | [w0, w1], _ => exact ⟨w0, w1, rfl⟩
  have hw := fun d (hd : d ∈ tables_1) => atoms_spec (ws := Jvm.Cond.code x code maxLocals ret :: tables_1) hat d (List.mem_cons_of_mem _ hd)
  have hfit : Fit s := fun {y c} hc i hi => by
    obtain ⟨ha, rfl⟩ := Array.getElem?_eq_some_iff.mp hc
    have q := List.all_eq_true.mp ((Array.all_eq_true_iff_forall_mem.mp hF) _ (Array.getElem_mem ha)) i (List.mem_range.mpr hi)
    simpa [Array.getElem?_eq_getElem hi] using q
  obtain ⟨i0, ei0⟩ := is_v g2a
  obtain rfl : w0 = (.int i0) := Option.some.inj ei0
  obtain ⟨i1, ei1⟩ := is_v g2b
  obtain rfl : w1 = (.int i1) := Option.some.inj ei1
  obtain ⟨k1a, k1b⟩ := and_e hn
  obtain ⟨k2a, k2b⟩ := and_e k1b
  obtain ⟨k3a, k3b⟩ := and_e k2b
  obtain ⟨w_SHARED, ev_SHARED⟩ := exa_v k1a
  obtain ⟨w_EXCLUSIVE, ev_EXCLUSIVE⟩ := exa_v k2a
  obtain ⟨n, o, h1, h2, h3, _, L, rfl, ⟨rfl, N⟩, hq⟩ := rm_law l s _ hw tables_1 w_SHARED w_EXCLUSIVE i0 i1 s.heap s.heap.size (Nat.le_refl _) ⟨Sta.start ev_SHARED (Or.inr ⟨(ww1 hw), (ww2 hw)⟩), Exa.start ev_SHARED k1a, Sta.start ev_EXCLUSIVE (Or.inr ⟨(ww1 hw), (ww4 hw)⟩), Exa.start ev_EXCLUSIVE k2a, own_fldI ev_EXCLUSIVE k3a, own_fldI ev_SHARED k3b⟩ (Old.start s)  p e ha hc hk s m _ below hf ((Spec.applies_iff_loose hf).mp happ).1 ⟨rfl, State.Warmed39.refl s, rfl⟩ trivial
  refine ⟨n, _, h1, h2, h3, hpost _ _ _ _ _ _ ⟨Cond.after_iff.mpr rfl, Cond.after_iff.mpr (eq_i res_at (Term.int_eval (1)) rfl), trivial⟩ ⟨hq.1, hq.2.1, (hq.2.2.sift fun y hy => Or.inr (N y hy)).mono (by decide) (by decide)⟩⟩
theorem main_1_1 : Claimed_1_1 := comes_1 fun _ _ _ _ _ _ h hF => ⟨h.1, hF⟩
theorem main_1_2 : Claimed_1_2 := comes_1 fun _ _ _ _ _ _ h hF => ⟨h.2.1, hF⟩
end Jvm.Pilot.@@N@@
namespace Jvm.Pilot.@@N@@
open Jvm Jvm.ClassFile Sem Op Lib Jvm.Free Jvm.Stand Jvm.Pilot.@@N@@.Jvm.D
/-! MADE BY PROGRAM (witnessworld.py) out of the Statement's table words and the real class files: 12 classes; the members and pool entries that the words name. The judged class is class 1, her method 1. -/
namespace start1
open Jvm.ClassFile
def u (s : String) : CpInfo := .utf8 (stringToUtf16 s)
/-- a pool by its gaps: so many unusable entries, then the entry; so many at the end -/
def gap : Nat → List CpInfo → List CpInfo
  | 0, r => r
  | n + 1, r => .unusable :: gap n r
def poolList (es : List (Nat × CpInfo)) (last : Nat) : List CpInfo := es.foldr (fun e r => gap e.1 (e.2 :: r)) (gap last [])
def pool (es : List (Nat × CpInfo)) (last : Nat) : Array CpInfo := ⟨poolList es last⟩
def fileOf (pool : Array CpInfo) (this : Nat) (attrs : Array Attribute := #[]) (ms : Array MethodInfo := #[]) (fl : Nat := 33) (sup : Nat := 0) (ifs : Array Nat := #[]) (fds : Array FieldInfo := #[]) : ClassFile where
  minorVersion := 0
  majorVersion := 65
  constantPool := pool
  accessFlags := fl
  thisClass := this
  superClass := sup
  interfaces := ifs
  fields := fds
  methods := ms
  attributes := attrs
def plain (name : String) (sup : Option ClassId) : Class where
  name := name
  kind := .ordinary
  loader := none
  accessFlags := 33
  super := sup
  interfaces := #[]
  cf := none
  fields := #[]
  methods := #[]
  instanceTypes := #[]
  staticTypes := #[]
  resolved := #[]
  callSites := []
  init := .initialized
  statics := none
  mirror := none

def pool0 : Array CpInfo := pool [(5, u "<init>"), (0, u "()V"), (1, .class_ 10), (1, u "java/lang/Object")] 113

def k0m0 : Method := { name := "<init>", desc := "()V", sig := { parameters := [], returnType := none }, accessFlags := 1, code := none }
/-- java/lang/Object -/
def k0 : Class := { plain "java/lang/Object" none with
  accessFlags := 33
  interfaces := #[]
  cf := some (fileOf pool0 8 #[] #[{ accessFlags := 1, nameIndex := 5, descriptorIndex := 6, attributes := #[] }] 33 0 #[] #[])
  fields := #[]
  methods := #[k0m0]
  instanceTypes := #[]
  staticTypes := #[]
  resolved := Array.replicate 124 none
  statics := none }

def pool1 : Array CpInfo := pool [(2, .class_ 4), (1, u "java/lang/Object"), (0, u "<init>"), (0, u "()V"), (0, .fieldref 8 9), (0, .class_ 10), (0, .nameAndType 11 12), (0, u "com/example/gapstone/gapstone/LockMode"), (0, u "SHARED"), (0, u "Lcom/example/gapstone/gapstone/LockMode;"), (0, .fieldref 8 14), (0, .nameAndType 15 12), (0, u "EXCLUSIVE"), (0, .methodref 8 17), (0, .nameAndType 18 19), (0, u "compatibleWith"), (0, u "(Lcom/example/gapstone/gapstone/LockMode;)Z"), (0, .class_ 21), (0, u "com/example/gapstone/gapstone/LockModeCompatibleWithPinLaw"), (2, u "law"), (0, u "(II)Z")] 3

def k1m0 : Method := { name := "<init>", desc := "()V", sig := { parameters := [], returnType := none }, accessFlags := 1, code := none }
def k1c1 : Code := { maxStack := 2, maxLocals := 9, code := code, exceptionTable := #[], attributes := #[] }
def k1m1 : Method := { name := "law", desc := "(II)Z", sig := { parameters := [.int, .int], returnType := some .boolean }, accessFlags := 9, code := some k1c1 }
/-- com/example/gapstone/gapstone/LockModeCompatibleWithPinLaw -/
def k1 : Class := { plain "com/example/gapstone/gapstone/LockModeCompatibleWithPinLaw" (some 0) with
  accessFlags := 49
  interfaces := #[]
  cf := some (fileOf pool1 20 #[] #[{ accessFlags := 1, nameIndex := 5, descriptorIndex := 6, attributes := #[] }, { accessFlags := 9, nameIndex := 24, descriptorIndex := 25, attributes := #[] }] 49 2 #[] #[])
  fields := #[]
  methods := #[k1m0, k1m1]
  instanceTypes := #[]
  staticTypes := #[]
  resolved := Array.replicate 29 none
  statics := none }

def pool2 : Array CpInfo := pool [(1, .class_ 2), (0, u "java/lang/constant/Constable"), (0, .class_ 4), (0, u "java/lang/Object")] 6

/-- java/lang/constant/Constable -/
def k2 : Class := { plain "java/lang/constant/Constable" (some 0) with
  accessFlags := 1537
  interfaces := #[]
  cf := some (fileOf pool2 1 #[] #[] 1537 3 #[] #[])
  fields := #[]
  methods := #[]
  instanceTypes := #[]
  staticTypes := #[]
  resolved := Array.replicate 11 none
  statics := none }

def pool3 : Array CpInfo := pool [(1, .class_ 2), (0, u "java/lang/Comparable"), (0, .class_ 4), (0, u "java/lang/Object")] 7

/-- java/lang/Comparable -/
def k3 : Class := { plain "java/lang/Comparable" (some 0) with
  accessFlags := 1537
  interfaces := #[]
  cf := some (fileOf pool3 1 #[] #[] 1537 3 #[] #[])
  fields := #[]
  methods := #[]
  instanceTypes := #[]
  staticTypes := #[]
  resolved := Array.replicate 12 none
  statics := none }

def pool4 : Array CpInfo := pool [(1, .class_ 2), (0, u "java/io/Serializable"), (0, .class_ 4), (0, u "java/lang/Object")] 2

/-- java/io/Serializable -/
def k4 : Class := { plain "java/io/Serializable" (some 0) with
  accessFlags := 1537
  interfaces := #[]
  cf := some (fileOf pool4 1 #[] #[] 1537 3 #[] #[])
  fields := #[]
  methods := #[]
  instanceTypes := #[]
  staticTypes := #[]
  resolved := Array.replicate 7 none
  statics := none }

def pool5 : Array CpInfo := pool [(2, .class_ 4), (1, u "java/lang/Enum"), (0, u "name"), (0, u "Ljava/lang/String;"), (2, u "ordinal"), (0, u "I"), (1, .class_ 14), (1, u "java/lang/Object"), (4, u "hash"), (86, .class_ 108), (1, u "java/lang/Enum$EnumDesc"), (2, .class_ 112), (0, u "java/lang/constant/Constable"), (0, .class_ 114), (0, u "java/lang/Comparable"), (0, .class_ 116), (0, u "java/io/Serializable")] 87

/-- java/lang/Enum -/
def k5 : Class := { plain "java/lang/Enum" (some 0) with
  accessFlags := 1057
  interfaces := #[2, 3, 4]
  cf := some (fileOf pool5 2 #[.nestMembers #[106]] #[] 1057 12 #[111, 113, 115] #[{ accessFlags := 18, nameIndex := 5, descriptorIndex := 6, attributes := #[] }, { accessFlags := 18, nameIndex := 9, descriptorIndex := 10, attributes := #[] }, { accessFlags := 2, nameIndex := 19, descriptorIndex := 10, attributes := #[] }])
  fields := #[{ name := "name", type := (.object "java/lang/String"), accessFlags := 18, slot := 0, constantValue := 0 }, { name := "ordinal", type := .int, accessFlags := 18, slot := 1, constantValue := 0 }, { name := "hash", type := .int, accessFlags := 2, slot := 2, constantValue := 0 }]
  methods := #[]
  instanceTypes := #[(.object "java/lang/String"), .int, .int]
  staticTypes := #[]
  resolved := Array.replicate 204 none
  statics := none }

def pool6 : Array CpInfo := pool [(1, .class_ 2), (0, u "com/example/gapstone/gapstone/LockMode"), (0, .fieldref 1 4), (0, .nameAndType 5 6), (0, u "SHARED"), (0, u "Lcom/example/gapstone/gapstone/LockMode;"), (2, u "EXCLUSIVE"), (2, u "$VALUES"), (0, u "[Lcom/example/gapstone/gapstone/LockMode;"), (6, .class_ 22), (1, u "java/lang/Enum"), (20, u "compatibleWith"), (0, u "(Lcom/example/gapstone/gapstone/LockMode;)Z")] 6

def k6c0 : Code := { maxStack := 2, maxLocals := 2, code := prog_40_method_4_code, exceptionTable := #[], attributes := #[] }
def k6m0 : Method := { name := "compatibleWith", desc := "(Lcom/example/gapstone/gapstone/LockMode;)Z", sig := { parameters := [(.object "com/example/gapstone/gapstone/LockMode")], returnType := some .boolean }, accessFlags := 0, code := some k6c0 }
/-- com/example/gapstone/gapstone/LockMode -/
def k6 : Class := { plain "com/example/gapstone/gapstone/LockMode" (some 5) with
  accessFlags := 16432
  interfaces := #[]
  cf := some (fileOf pool6 1 #[] #[{ accessFlags := 0, nameIndex := 43, descriptorIndex := 44, attributes := #[] }] 16432 20 #[] #[{ accessFlags := 16409, nameIndex := 5, descriptorIndex := 6, attributes := #[] }, { accessFlags := 16409, nameIndex := 9, descriptorIndex := 6, attributes := #[] }, { accessFlags := 4122, nameIndex := 12, descriptorIndex := 13, attributes := #[] }])
  fields := #[{ name := "SHARED", type := (.object "com/example/gapstone/gapstone/LockMode"), accessFlags := 16409, slot := 0, constantValue := 0 }, { name := "EXCLUSIVE", type := (.object "com/example/gapstone/gapstone/LockMode"), accessFlags := 16409, slot := 1, constantValue := 0 }, { name := "$VALUES", type := (.array (.object "com/example/gapstone/gapstone/LockMode")), accessFlags := 4122, slot := 2, constantValue := 0 }]
  methods := #[k6m0]
  instanceTypes := #[(.object "java/lang/String"), .int, .int]
  staticTypes := #[(.object "com/example/gapstone/gapstone/LockMode"), (.object "com/example/gapstone/gapstone/LockMode"), (.array (.object "com/example/gapstone/gapstone/LockMode"))]
  resolved := Array.replicate 51 none
  statics := some 0 }

def pool7 : Array CpInfo := pool [(1, u "java/lang/Cloneable"), (0, .class_ 1), (0, u "java/lang/Object"), (0, .class_ 3)] 3

/-- java/lang/Cloneable -/
def k7 : Class := { plain "java/lang/Cloneable" (some 0) with
  accessFlags := 1537
  interfaces := #[]
  cf := some (fileOf pool7 2 #[] #[] 1537 4 #[] #[])
  fields := #[]
  methods := #[]
  instanceTypes := #[]
  staticTypes := #[]
  resolved := Array.replicate 8 none
  statics := none }

/-- the primitive byte -/
def k8 : Class := { plain "byte" none with kind := .primitive 'B', accessFlags := 0x411 }
/-- [B -/
def k9 : Class := { plain "[B" (some 0) with kind := .array 8 .byte, interfaces := #[7, 4], accessFlags := 1041 }

/-- the primitive int -/
def k10 : Class := { plain "int" none with kind := .primitive 'I', accessFlags := 0x411 }
/-- [I -/
def k11 : Class := { plain "[I" (some 0) with kind := .array 10 .int, interfaces := #[7, 4], accessFlags := 1041 }

def heap : Heap := #[{ cls := 6, slots := #[.ref 1, .ref 2, .null], vm := .statics 6 },
  { cls := 6, slots := #[.null, .int 0, .int 0], vm := .none },
  { cls := 6, slots := #[.null, .int 1, .int 0], vm := .none }]
def classes : Array Class := #[k0, k1, k2, k3, k4, k5, k6, k7, k8, k9, k10, k11]
def interned : List (Array UInt16 × Addr) := []
def slotsUsed : Nat := 9
def theMethod : MethodId := ⟨1, 1⟩
def args0 : Array Value := #[.int 4, .int 1]
def aboutOver (below : List Frame) : State where
  vm := { classes := classes, interned := interned.toArray }
  heap := heap
  slotsUsed := slotsUsed
  threads := #[{ frames := .invoking theMethod args0 :: below }]
def below0 : List Frame := [.native { method := ⟨0, 0⟩, args := #[] }]
def about1 : State := aboutOver below0
def p0 : Program := .bare "" "" ""
def e0 : Env := launch0.env 0 0 0
theorem w_frames : about1.frames = Frame.invoking theMethod args0 :: below0 := rfl
set_option maxRecDepth 65536 in
theorem w_args : argsFit about1.vm theMethod args0 = true := by decide +kernel
set_option maxRecDepth 65536 in
theorem w_heap : heapFits about1 = true := by decide +kernel
set_option maxRecDepth 65536 in
theorem w_runnable : about1.curStatus? = some .runnable := by decide +kernel
set_option maxRecDepth 65536 in
theorem w_alone : about1.alone = true := by decide +kernel
set_option maxRecDepth 65536 in
theorem w_named : about1.methodNamed? x = some theMethod := by decide +kernel
set_option maxRecDepth 65536 in
theorem w_hears : about1.hears theMethod below0 = true := by decide +kernel
set_option maxRecDepth 65536 in
theorem w_ripe : about1.ripe theMethod args0 below0 = true := by decide +kernel
theorem w_running : about1.status = .running := rfl
set_option maxRecDepth 65536 in
theorem w_room : about1.hasRoom e0.platform room_1 = true :=
  launch0.hasRoom_least _ room_1 (by decide +kernel) (by decide +kernel) (by decide +kernel) (by decide +kernel) (by decide +kernel) (by decide +kernel)
theorem allAtoms_all (ts : List Jvm.Cond) (a : Array Jvm.Value) (st : Jvm.State) : (allAtoms ts).before a st = ts.all (fun c => c.before a st) := by
  induction ts with
  | nil => rfl
  | cons c t ih =>
    show (Jvm.Cond.and c (allAtoms t)).before a st = _
    rw [Jvm.Cond.before_and, ih, List.all_cons]
def words1 : List Jvm.Cond := Jvm.Cond.code x code maxLocals ret :: tables_1
/-- a 'code' word, met by the world's own term for the bytes: nothing is compared byte by byte -/
theorem code_word {y : MethodName} {bytes : ByteArray} {mx : Nat} {rt : Option FieldType} {a : Array Value} {s : State} {m : MethodId} {meth : Method} {c : Code} (h1 : s.methodNamed? y = some m) (h2 : s.vm.method? m = some meth) (h3 : meth.code = some c) (h4 : c.code = bytes)
    (h5 : (c.maxLocals == mx && c.exceptionTable.isEmpty && decide (c.maxStack ≤ mostOperands) && decide (meth.sig.returnType = rt) && !meth.locks && decide (parseMethodDescriptor y.desc = some meth.sig)) = true) : (Jvm.Cond.code y bytes mx rt).before a s = true := by
  simp only [Bool.and_eq_true, beq_iff_eq, Bool.not_eq_true', decide_eq_true_eq] at h5
  obtain ⟨⟨⟨⟨⟨g1, g2⟩, g3⟩, g4⟩, g5⟩, g6⟩ := h5
  simp [Cond.before, Cond.holds, Cond.value, h1, h2, h3, h4, g1, g2, g3, g4, g5, g6]
def isCode : Jvm.Cond → Bool
  | .code _ _ _ _ => true
  | _ => false
theorem all_split {L : List Jvm.Cond} {P : Jvm.Cond → Bool} (h1 : L.all (fun c => isCode c || P c) = true) (h2 : ∀ c ∈ L.filter isCode, P c = true) : L.all P = true := by
  refine List.all_eq_true.mpr fun c hc => ?_
  have h := List.all_eq_true.mp h1 c hc
  rcases Bool.eq_false_or_eq_true (isCode c) with hi | hi
  · exact h2 c (List.mem_filter.mpr ⟨hc, hi⟩)
  · simpa [hi] using h
set_option maxRecDepth 65536 in
theorem w_c0 : (Jvm.Cond.code x code maxLocals ret).before args0 about1 = true := code_word (m := ⟨1, 1⟩) (meth := k1m1) (c := k1c1) (by decide +kernel) rfl rfl rfl (by decide +kernel)
set_option maxRecDepth 65536 in
theorem w_c1 : (Jvm.Cond.code ({ cls := "com/example/gapstone/gapstone/LockMode", name := "compatibleWith", desc := "(Lcom/example/gapstone/gapstone/LockMode;)Z" } : Jvm.MethodName) prog_40_method_4_code (2 : Nat) (Option.some Jvm.ClassFile.FieldType.boolean)).before args0 about1 = true := code_word (m := ⟨6, 0⟩) (meth := k6m0) (c := k6c0) (by decide +kernel) rfl rfl rfl (by decide +kernel)
def codes1 : List Jvm.Cond := [Jvm.Cond.code x code maxLocals ret, Jvm.Cond.code ({ cls := "com/example/gapstone/gapstone/LockMode", name := "compatibleWith", desc := "(Lcom/example/gapstone/gapstone/LockMode;)Z" } : Jvm.MethodName) prog_40_method_4_code (2 : Nat) (Option.some Jvm.ClassFile.FieldType.boolean)]
set_option maxRecDepth 65536 in
theorem codes_eq : words1.filter isCode = codes1 := rfl
theorem w_codes : ∀ c ∈ words1.filter isCode, c.before args0 about1 = true := by
  rw [codes_eq]
  intro c hc
  simp only [codes1, List.mem_cons, List.not_mem_nil, or_false] at hc
  rcases hc with rfl | rfl
  · exact w_c0
  · exact w_c1
set_option maxRecDepth 65536 in
theorem w_t1 : words1.all (fun c => isCode c || c.before args0 about1) = true := by decide +kernel
theorem w_tables : (allAtoms (Jvm.Cond.code x code maxLocals ret :: tables_1)).before args0 about1 = true := by
  rw [allAtoms_all]
  show words1.all (fun c => c.before args0 about1) = true
  refine all_split ?_ w_codes
  rw [w_t1]
set_option maxRecDepth 65536 in
theorem w_case : (Jvm.Cond.and given_1 narrow_1).before args0 about1 = true := by decide +kernel
theorem w_applies : (headSpec (Jvm.Cond.code x code maxLocals ret :: tables_1) room_1).applies x e0.platform about1 = true :=
  (Spec.applies_iff w_frames).mpr ⟨w_running, w_runnable, w_alone, w_named, w_hears, w_ripe, w_room, w_tables⟩
theorem atStart : AtStart classFile x code maxLocals ret World_1 tables_1 room_1 Calls_1 rest_1 Pre_1 launch0 p0 e0 about1 theMethod args0 below0 :=
  ⟨lists_1, trivial, launch0.admits_env _ _ _, launch0.least_env, fairChoices_fair.cas, fairChoices_fair.clock, w_frames, w_args, w_heap, w_applies, trivial, trivial, w_case⟩
end start1
theorem witness_1 : WitnessClaimed_1 := ⟨start1.p0, start1.e0, start1.about1, start1.theMethod, start1.args0, start1.below0, start1.atStart⟩
end Jvm.Pilot.@@N@@
